import JvmDerived
import JvmDerived.Pilot.@@N@@Statement
import JvmDerived.Pilot.@@N@@Code
set_option linter.unusedVariables false
set_option linter.unusedSimpArgs false
set_option maxRecDepth 65536
set_option maxHeartbeats 40000000
namespace Jvm.RoadKit
open Sem ClassFile Op Lib Jvm.Stand Jvm.Free Jvm.LawKit
section New
variable {p : Program} {l : Launch} {e : Env} {R : Room} {s : State} {m : MethodId} {args : Array Value} {below : List Frame} {meth : Method} {c : Code} {T : State} {locs : List Loc} {cells slots : Nat}
theorem retI (X : Stand p l e R s m args below meth c T locs cells slots) (hx : p.tables.exec = Jvm.exec) {pc : Nat} {Ls : Array Slot} {z : Int32} {rest : List Value} (hret : meth.sig.returnType = some .int) (hd : decode c.code pc = .ok (.ireturn, 1)) {fs : List Frame}
    (hl : ∀ (f : JFrame) (acts : List Action), f.method = m → f.locked = none → f.entered = [] → (doReturn e (T.setTop f) acts (some (.int z))).1 = T.setFrames fs) : Steps p.tables e below (T.setTop (mkF m pc Ls (.int z :: rest))) (T.setFrames fs) := by
  have hm' : T.vm.method? m = some meth := X.method'
  have hn : narrow .int (.int z) = .int z := rfl
  show Steps p.tables e below (T.setTop { method := m, pc := pc, locals := Ls, stack := _ :: rest, locked := none }) _
  jvm_step X.here [X.here.top, hx, hd, hm', hret, hn]
  first | (intro acts; rw [hl _ acts rfl rfl rfl]) | rw [hl _ _ rfl rfl rfl]
  exact Steps.refl _
end New
end Jvm.RoadKit
namespace Jvm.Pilot.@@N@@
open Jvm Jvm.ClassFile Sem Op Lib Jvm.Free Jvm.Stand Jvm.LawKit Jvm.RoadKit Bundle Jvm.Pilot.@@N@@.Jvm.D
theorem own_w {Z : State} {a0 : Array Value} (hw : ∀ d ∈ tables_1, d.before a0 Z = true) (k : Nat) {d : Jvm.Cond} (h : tables_1[k]? = some d) : d.before a0 Z = true := hw _ (List.mem_of_getElem? h)
abbrev own_R (f c s l : Nat) : Room := { frames := f, cells := c, slots := s, locals := l }
abbrev vU : Slot := .unset
abbrev vS : Slot := .second
abbrev vN : Slot := .val .null
abbrev vI (x : Int32) : Slot := .val (.int x)
abbrev vJ (x : Int64) : Slot := .val (.long x)
abbrev vR (x : Addr) : Slot := .val (.ref x)
abbrev vV (x : Value) : Slot := .val x
abbrev Go (p : Program) (e : Env) (below : List Frame) (T : State) (f : JFrame) (t : State) : Prop := Steps p.tables e below (T.setTop f) t
theorem own_and255L (x : Int32) : ¬ (x &&& (255 : Int32)) < 0 ∧ ¬ (255 : Int32) < (x &&& (255 : Int32)) := by
  have h1 := c_mask x 255 8 (by decide) (by decide)
  have e1 : (255 : Int32).toInt = 255 := rfl
  rw [Int32.lt_iff_toInt_lt, Int32.lt_iff_toInt_lt, Int32.toInt_zero]
  constructor <;> omega
theorem own_narR {v : Value} (t : FieldType) (ht : t.isReference = true) (hv : v.isRef = true) : narrow t v = v := by cases t <;> cases v <;> simp_all [narrow, FieldType.isReference, Value.isRef]
abbrev OwnMet (l : Launch) (y : MethodName) (ws : List Jvm.Cond) (rm : Room) (A : Array Value) (Z : State) (h0 : Heap) (Q : Option Value → Heap → List Loc → Prop) : Prop :=
  MetFree l y (head1 ws rm) (fun a U => a = A ∧ Z.Warmed39 U.vm ∧ U.heap = h0) (fun _ _ _ _ _ => True) (fun _ U o U' => ∃ v L, o = .returned v ∧ Q v U'.heap L ∧ FrameEnd U o U' L rm.cells rm.slots)
theorem own_body {l : Launch} {y : MethodName} {ws : List Jvm.Cond} {rm : Room} {bytes : ByteArray} {maxL : Nat} {ret : Option FieldType} {A : Array Value} {Z : State} {h0 : Heap} {Q : Option Value → Heap → List Loc → Prop} (hp : plainFor y = true)
    (his : ∀ args (s : State) m, (head1 ws rm).pre.before args s = true → s.methodNamed? y = some m → ∃ meth c, s.vm.method? m = some meth ∧ meth.code = some c ∧ c.code = bytes ∧ c.maxLocals = maxL ∧ meth.sig.returnType = ret ∧ meth.locks = false)
    (body : ∀ (p : Program) (e : Env) (s : State) (m : MethodId) (below : List Frame) (meth : Method) (c : Code) (s₁ : State), p.tables.exec = Jvm.exec → c.code = bytes → c.maxLocals = maxL → s.vm.findClass y.cls = some m.cls → meth.name = y.name → meth.sig.returnType = ret → Z.Warmed39 s.vm → Stand p l e rm s m A below meth c s₁ [] 0 0 → s₁.heap = h0 →
      ∃ (v : Option Value) (T : State) (locs : List Loc) (cells slots : Nat) (f : JFrame), Stand p l e rm s m A below meth c T locs cells slots ∧ cells ≤ rm.cells ∧ slots ≤ rm.slots ∧ (ret = none → v = none) ∧ (∀ t, Go p e below T f t → Go p e below s₁ (entryFrame m A maxL) t) ∧
        (∀ fs, (∀ (f : JFrame) (acts : List Action), f.method = m → f.locked = none → f.entered = [] → (doReturn e (T.setTop f) acts v).1 = T.setFrames fs) → Go p e below T f (T.setFrames fs)) ∧ Q v T.heap locs) :
    MetFree l y (head1 ws rm) (fun a U => a = A ∧ Z.Warmed39 U.vm ∧ U.heap = h0) (fun _ _ _ _ _ => True) (fun _ U o U' => ∃ v L, o = .returned v ∧ Q v U'.heap L ∧ FrameEnd U o U' L rm.cells rm.slots) := by
  refine MetFree.of_bodySF hp his ?_
  intro p e s m args below meth c s₁ Bd hml0 hP hK
  obtain ⟨rfl, hZ, hh⟩ := hP
  obtain ⟨v, T, locs, cells, slots, f, X, hc, hs, hv, q, hf, hQ⟩ := body p e s m below meth c s₁ Bd.exec Bd.bytes hml0 (findClass_of_methodNamed Bd.named) (name_of_methodNamed Bd.named Bd.method).1 Bd.returns hZ (Stand.of_body Bd) (by rw [← hh, Bd.state]; rfl)
  obtain ⟨fs, hr, hrun, hended, hW, hsame⟩ := X.leave (v := v) (fun h => hv (Bd.returns ▸ h))
  exact ⟨_, _, q _ (hf fs hr), hrun, hended, v, locs, rfl, hQ, ⟨_, rfl⟩, hW, hsame.mono hc hs⟩
theorem own_eqI {args : Array Value} {Z : State} {t : Term} {k : Int32} (h : (Jvm.Cond.eq t (Term.int k)).value args Z none Z [] = some true) : t.eval args Z none [] Z = some (.int k) := by
  obtain ⟨x, y, e1, e2, k1, k2⟩ := cmp_v (Or.inl h)
  rw [Term.int_eval] at e2; cases Option.some.inj e2
  cases x <;> first | (obtain ⟨z, hz⟩ := k2; cases hz; simp [Cond.value, e1, Term.int_eval] at h; rw [e1, h]) | (obtain ⟨z, hz⟩ := k2; cases hz)
theorem own_fldI {args : Array Value} {Z : State} {t : Term} {k : Int32} {C n d : String} {w : Addr} (ht : t.eval args Z none [] Z = some (.ref w)) (h : (Jvm.Cond.eq (Term.field t C n d) (Term.int k)).value args Z none Z [] = some true) : Fld Z Z.heap w C n d (.int k) :=
  Fld.start ((fld_at ht).symm.trans (own_eqI h))
abbrev sk0 : String := "com/example/pointward/pointward/pointsto/SiteSet"
theorem o4 {a b c d e : Prop} (h : e) : a ∨ b ∨ c ∨ d ∨ e := Or.inr (Or.inr (Or.inr (Or.inr h)))
theorem ox {Z : State} {a0 : Array Value} (hw : ∀ d ∈ tables_1, d.before a0 Z = true) (k : Nat) {d : Jvm.Cond} (h : tables_1[k]? = some d) : d.before a0 Z = true := hw _ (List.mem_of_getElem? h)
theorem ow {Z s : State} {a0 args : Array Value} (hZ : Z.Warmed39 s.vm) (hw : ∀ d ∈ tables_1, d.before a0 Z = true) (k : Nat) {d : Jvm.Cond} (h : tables_1[k]? = some d) (hd : (d.onTables && d.keepsFace) = true := by first | rfl | simp [Cond.onTables, Cond.keepsFace, Cond.keeps, Cond.steady]) : d.before args s = true := mvT hZ (own_w hw k h) hd
theorem own_le0 {n : Nat} : 2 * 0 + n ≤ n := Nat.le_of_eq (Nat.zero_add n)
abbrev ym0 : MethodName := ⟨"com/example/pointward/pointward/pointsto/SiteSet", "<init>", "()V"⟩
abbrev ym1 : MethodName := ⟨"com/example/pointward/pointward/pointsto/SiteSet", "isEmpty", "()Z"⟩
abbrev ym2 : MethodName := ⟨"java/util/Arrays", "rangeCheck", "(III)V"⟩
abbrev ym3 : MethodName := ⟨"java/util/Arrays", "binarySearch0", "([IIII)I"⟩
abbrev ym4 : MethodName := ⟨"java/util/Arrays", "binarySearch", "([IIII)I"⟩
abbrev ym5 : MethodName := ⟨"com/example/pointward/pointward/pointsto/SiteSet", "bit", "(I)J"⟩
abbrev ym6 : MethodName := ⟨"java/lang/Math", "max", "(II)I"⟩
abbrev ym7 : MethodName := ⟨"java/lang/Math", "min", "(II)I"⟩
abbrev ym8 : MethodName := ⟨"java/util/Arrays", "copyOf", "([II)[I"⟩
abbrev ym9 : MethodName := ⟨"java/util/Arrays", "copyOf", "([JI)[J"⟩
abbrev ym10 : MethodName := ⟨"com/example/pointward/pointward/pointsto/SiteSet", "insertBlock", "(IIJ)V"⟩
abbrev ym11 : MethodName := ⟨"com/example/pointward/pointward/pointsto/SiteSet", "add", "(I)Z"⟩
abbrev ym12 : MethodName := ⟨"java/lang/Long", "bitCount", "(J)I"⟩
abbrev ym13 : MethodName := ⟨"java/lang/Integer", "numberOfTrailingZeros", "(I)I"⟩
abbrev ym14 : MethodName := ⟨"java/lang/Long", "numberOfTrailingZeros", "(J)I"⟩
abbrev ym15 : MethodName := ⟨"com/example/pointward/pointward/pointsto/SiteSet", "toArray", "()[I"⟩
theorem own_lenI {args : Array Value} {Z : State} {t : Term} {k : Int32} {x : Addr} {cl : Cell} {ty : FieldType} (ht : t.eval args Z none [] Z = some (.ref x)) (A : Arr Z Z.heap x cl ty) (h : (Jvm.Cond.eq (Term.length t) (Term.int k)).value args Z none Z [] = some true) : cl.slots.size < 2 ^ 31 ∧ cl.slots.size.toInt32 = k := by
  obtain ⟨b, cell, e1, e2, e3, e4⟩ := Jvm.Lib.length_spec (own_eqI h)
  have eb : b = x := Value.ref.inj (Option.some.inj (e1.symm.trans ht))
  rw [eb] at e2
  have ec : cell = cl := Option.some.inj (e2.symm.trans (Arr.fin (Vm.Alike.refl _) A))
  rw [ec] at e3 e4
  exact ⟨e3, (Value.int.inj e4).symm⟩
theorem own_elI {args : Array Value} {Z : State} {t u : Term} {j : Int32} {x : Addr} {cl : Cell} {ty : FieldType} {v : Value} (ht : t.eval args Z none [] Z = some (.ref x)) (A : Arr Z Z.heap x cl ty) (hu : u.eval args Z none [] Z = some v) (hv : v.isRef = true ∨ ∃ z, v = .int z) (h : (Jvm.Cond.eq (Term.elem t (Term.int j)) u).value args Z none Z [] = some true) : cl.slots[j.toNatClampNeg]? = some v := by
  obtain ⟨a, b, e1, e2, k1, k2⟩ := cmp_v (Or.inl h)
  cases Option.some.inj (e2.symm.trans hu)
  have q := (elem_in e1 ht (Term.int_eval j) A.1).2
  have e : a = v := by
    rcases hv with hv | ⟨z, rfl⟩
    · have ha : a.isRef = true := by cases v <;> simp [Kin, Value.isRef] at k2 hv ⊢ <;> exact k2
      exact gotT (eq_R e1 e2 ha hv) h
    · obtain ⟨z', rfl⟩ := k2
      have := gotT (Cond.eq_ints e1 e2) h
      rw [this]
  rw [← e]; exact q
def Cx (Z : State) (cw : Nat → Nat) : Prop := Sta Z Z.heap sk0 "NO_BLOCKS" "[I" (.ref (cw 0)) ∧ Exa Z Z.heap (cw 0) "[I" ∧ Sta Z Z.heap sk0 "NO_WORDS" "[J" (.ref (cw 1)) ∧ Exa Z Z.heap (cw 1) "[J" ∧ Arv Z Z.heap (cw 0) (cw 2) .int (0 : Int32) [] (.int 0) ∧ Arv Z Z.heap (cw 1) (cw 3) .long (0 : Int32) [] (.long (0 : Int64))
def own_b (x : Int32) : Int64 := ((1 : Int64) <<< ((x &&& (63 : Int32)) &&& 0x3f).toInt64)
def own_c1 (x : Int64) : Int64 := (x - (((x.toUInt64 >>> ((1 : Int32) &&& 0x3f).toInt64.toUInt64).toInt64) &&& (6148914691236517205 : Int64)))
def own_c2 (x : Int64) : Int64 := ((x &&& (3689348814741910323 : Int64)) + (((x.toUInt64 >>> ((2 : Int32) &&& 0x3f).toInt64.toUInt64).toInt64) &&& (3689348814741910323 : Int64)))
def own_c3 (x : Int64) : Int64 := ((x + ((x.toUInt64 >>> ((4 : Int32) &&& 0x3f).toInt64.toUInt64).toInt64)) &&& (1085102592571150095 : Int64))
def own_c4 (x : Int64) : Int64 := (x + ((x.toUInt64 >>> ((8 : Int32) &&& 0x3f).toInt64.toUInt64).toInt64))
def own_c5 (x : Int64) : Int64 := (x + ((x.toUInt64 >>> ((16 : Int32) &&& 0x3f).toInt64.toUInt64).toInt64))
def own_c6 (x : Int64) : Int64 := (x + ((x.toUInt64 >>> ((32 : Int32) &&& 0x3f).toInt64.toUInt64).toInt64))
def own_bc (x : Int64) : Int32 := ((own_c6 (own_c5 (own_c4 (own_c3 (own_c2 (own_c1 x)))))).toInt32 &&& (127 : Int32))
def own_dr (x : Int64) : Int64 := (x &&& (x - (1 : Int64)))
def own_W : Nat → Int64 → Prop
  | 0, _ => False
  | n + 1, w => (∃ a, w = own_b a) ∨ ∃ v a, own_W n v ∧ w = v ||| own_b a
theorem own_W_1 (a : Int32) : own_W 1 (own_b a) := Or.inl ⟨a, rfl⟩
theorem own_W_b {n : Nat} {w : Int64} (h : own_W n w) (a : Int32) : own_W n (own_b a) := by
  cases n with
  | zero => exact (show False from h).elim
  | succ n => exact Or.inl ⟨a, rfl⟩
theorem own_W_or {n : Nat} {w : Int64} (h : own_W n w) (a : Int32) : own_W (n + 1) (w ||| own_b a) := Or.inr ⟨w, a, h, rfl⟩
theorem own_W_mono {n : Nat} : ∀ {w : Int64}, own_W n w → own_W (n + 1) w := by
  induction n with
  | zero => intro w h; exact (show False from h).elim
  | succ n ih =>
    intro w h
    rcases (show (∃ a, w = own_b a) ∨ ∃ v a, own_W n v ∧ w = v ||| own_b a from h) with ⟨a, rfl⟩ | ⟨v, a, hv, rfl⟩
    · exact Or.inl ⟨a, rfl⟩
    · exact Or.inr ⟨v, a, ih hv, rfl⟩
def own_t1 (w : Int64) : Prop := ¬ w = 0 ∧ own_dr w = 0 ∧ own_bc w = 1
def own_t2 (w : Int64) : Prop := ¬ w = 0 ∧ ¬ own_dr w = 0 ∧ own_dr (own_dr w) = 0 ∧ own_bc w = 2
def own_t3 (w : Int64) : Prop := ¬ w = 0 ∧ ¬ own_dr w = 0 ∧ ¬ own_dr (own_dr w) = 0 ∧ own_dr (own_dr (own_dr w)) = 0 ∧ own_bc w = 3
abbrev own_MD : Nat := 18446744073709551616
def own_n1 (x : Nat) : Nat := Nat.mod (Nat.add (Nat.sub own_MD (Nat.land (Nat.shiftRight x 1) 6148914691236517205)) x) own_MD
def own_n2 (x : Nat) : Nat := Nat.mod (Nat.add (Nat.land x 3689348814741910323) (Nat.land (Nat.shiftRight x 2) 3689348814741910323)) own_MD
def own_n3 (x : Nat) : Nat := Nat.land (Nat.mod (Nat.add x (Nat.shiftRight x 4)) own_MD) 1085102592571150095
def own_n4 (x : Nat) : Nat := Nat.mod (Nat.add x (Nat.shiftRight x 8)) own_MD
def own_n5 (x : Nat) : Nat := Nat.mod (Nat.add x (Nat.shiftRight x 16)) own_MD
def own_n6 (x : Nat) : Nat := Nat.mod (Nat.add x (Nat.shiftRight x 32)) own_MD
def own_nd (x : Nat) : Nat := Nat.land x (Nat.mod (Nat.add (Nat.sub own_MD 1) x) own_MD)
def own_nb (x : Nat) : Nat := Nat.land (own_n6 (own_n5 (own_n4 (own_n3 (own_n2 (own_n1 x)))))) 127
def own_N (w : Int64) : Nat := w.toBitVec.toNat
theorem own_N_inj {v w : Int64} (h : own_N v = own_N w) : v = w := Int64.toBitVec_inj.mp (BitVec.eq_of_toNat_eq h)
theorem own_N0 {w : Int64} : w = 0 ↔ own_N w = 0 := ⟨fun h => by rw [h]; rfl, fun h => own_N_inj h⟩
theorem own_N1 (w : Int64) : own_N (own_c1 w) = own_n1 (own_N w) := by
  show (w.toBitVec - ((w.toBitVec >>> 1) &&& 6148914691236517205#64)).toNat = _
  rw [BitVec.toNat_sub, BitVec.toNat_and, BitVec.toNat_ushiftRight]; rfl
theorem own_N2 (w : Int64) : own_N (own_c2 w) = own_n2 (own_N w) := by
  show ((w.toBitVec &&& 3689348814741910323#64) + ((w.toBitVec >>> 2) &&& 3689348814741910323#64)).toNat = _
  rw [BitVec.toNat_add, BitVec.toNat_and, BitVec.toNat_and, BitVec.toNat_ushiftRight]; rfl
theorem own_N3 (w : Int64) : own_N (own_c3 w) = own_n3 (own_N w) := by
  show ((w.toBitVec + (w.toBitVec >>> 4)) &&& 1085102592571150095#64).toNat = _
  rw [BitVec.toNat_and, BitVec.toNat_add, BitVec.toNat_ushiftRight]; rfl
theorem own_N4 (w : Int64) : own_N (own_c4 w) = own_n4 (own_N w) := by
  show (w.toBitVec + (w.toBitVec >>> 8)).toNat = _
  rw [BitVec.toNat_add, BitVec.toNat_ushiftRight]; rfl
theorem own_N5 (w : Int64) : own_N (own_c5 w) = own_n5 (own_N w) := by
  show (w.toBitVec + (w.toBitVec >>> 16)).toNat = _
  rw [BitVec.toNat_add, BitVec.toNat_ushiftRight]; rfl
theorem own_N6 (w : Int64) : own_N (own_c6 w) = own_n6 (own_N w) := by
  show (w.toBitVec + (w.toBitVec >>> 32)).toNat = _
  rw [BitVec.toNat_add, BitVec.toNat_ushiftRight]; rfl
theorem own_Nd (w : Int64) : own_N (own_dr w) = own_nd (own_N w) := by
  show (w.toBitVec &&& (w.toBitVec - 1#64)).toNat = _
  rw [BitVec.toNat_and, BitVec.toNat_sub]; rfl
theorem own_Nb (w : Int64) : (own_bc w).toBitVec.toNat = own_nb (own_N w) := by
  show (((own_c6 (own_c5 (own_c4 (own_c3 (own_c2 (own_c1 w)))))).toInt32).toBitVec &&& 127#32).toNat = _
  rw [BitVec.toNat_and]
  unfold own_nb
  rw [← own_N1, ← own_N2, ← own_N3, ← own_N4, ← own_N5, ← own_N6]
  generalize own_c6 (own_c5 (own_c4 (own_c3 (own_c2 (own_c1 w))))) = y
  have e : y.toInt32.toBitVec.toNat = own_N y % 2 ^ 32 := by
    show (y.toBitVec.signExtend 32).toNat = _
    rw [BitVec.signExtend_eq_setWidth_of_le _ (by decide), BitVec.toNat_setWidth]; rfl
  rw [e]
  show (own_N y % 2 ^ 32) &&& (127#32).toNat = own_N y &&& 127
  have e2 : (127#32).toNat = 2 ^ 7 - 1 := rfl
  rw [e2, show (127 : Nat) = 2 ^ 7 - 1 from rfl, Nat.and_two_pow_sub_one_eq_mod, Nat.and_two_pow_sub_one_eq_mod]
  omega
def own_st (n : Nat) (f : Nat → Bool) : Bool := Nat.casesOn n (f 0) (fun k => f (Nat.succ k))
theorem own_st_eq (n : Nat) (f : Nat → Bool) : own_st n f = f n := by cases n <;> rfl
def own_ok (m x : Nat) : Bool := own_st (own_nb x) fun b => Nat.ble b m && own_st (own_nd x) fun d =>
  match d with
  | 0 => Nat.beq b 1
  | d + 1 => own_st (own_nd (d + 1)) fun f =>
    match f with
    | 0 => Nat.beq b 2
    | f + 1 => Nat.beq (own_nd (f + 1)) 0 && Nat.beq b 3
def own_all : Nat → (Nat → Bool) → Bool
  | 0, _ => true
  | n + 1, f => f n && own_all n f
theorem own_all_at {f : Nat → Bool} : ∀ {n : Nat}, own_all n f = true → ∀ {i : Nat}, i < n → f i = true := by
  intro n
  induction n with
  | zero => intro _ i hi; omega
  | succ n ih =>
    intro h i hi
    have h' : (f n && own_all n f) = true := h
    rw [Bool.and_eq_true] at h'
    by_cases e : i = n
    · rw [e]; exact h'.1
    · exact ih h'.2 (by omega)
def own_k1 : Bool := own_all 64 fun i => own_st (Nat.pow 2 i) (own_ok 1)
def own_k2 : Bool := own_all 64 fun i => own_all (i + 1) fun j => own_st (Nat.lor (Nat.pow 2 i) (Nat.pow 2 j)) (own_ok 2)
def own_k3 : Bool := own_all 64 fun i => own_all (i + 1) fun j => own_st (Nat.lor (Nat.pow 2 i) (Nat.pow 2 j)) fun w => own_all (j + 1) fun k => own_st (Nat.lor w (Nat.pow 2 k)) (own_ok 3)
theorem own_k1_t : own_k1 = true := by decide +kernel
theorem own_k2_t : own_k2 = true := by decide +kernel
theorem own_k3_t : own_k3 = true := by decide +kernel
theorem own_ok_spec {m : Nat} {w : Int64} (h : own_ok m (own_N w) = true) : (own_nb (own_N w) ≤ m) ∧ (own_t1 w ∨ own_t2 w ∨ own_t3 w) := by
  unfold own_ok at h
  rw [own_st_eq, own_st_eq, Bool.and_eq_true] at h
  obtain ⟨h1, h2⟩ := h
  refine ⟨Nat.le_of_ble_eq_true h1, ?_⟩
  have hz : ¬ w = 0 := by
    intro e
    rw [own_N0.mp e] at h2
    exact absurd h2 (by decide)
  have hb : ∀ k : Nat, k < 4 → own_nb (own_N w) = k → own_bc w = Int32.ofNat k := by
    intro k hk e
    have e1 := own_Nb w
    rw [e] at e1
    apply Int32.toBitVec_inj.mp
    apply BitVec.eq_of_toNat_eq
    rw [e1]
    exact (by decide : ∀ k : Fin 4, k.val = (Int32.ofNat k.val).toBitVec.toNat) ⟨k, hk⟩
  have e1 := own_Nd w
  generalize own_nd (own_N w) = d at h2 e1
  cases d with
  | zero => exact Or.inl ⟨hz, own_N0.mpr e1, hb 1 (by decide) (Nat.eq_of_beq_eq_true h2)⟩
  | succ d =>
    have h3 : own_st (own_nd (d + 1)) (fun f => match f with
      | 0 => Nat.beq (own_nb (own_N w)) 2
      | f + 1 => Nat.beq (own_nd (f + 1)) 0 && Nat.beq (own_nb (own_N w)) 3) = true := h2
    rw [own_st_eq] at h3
    have z1 : ¬ own_dr w = 0 := fun e => by rw [own_N0.mp e] at e1; omega
    have e2 := own_Nd (own_dr w)
    rw [e1] at e2
    generalize own_nd (d + 1) = f at h3 e2
    cases f with
    | zero => exact Or.inr (Or.inl ⟨hz, z1, own_N0.mpr e2, hb 2 (by decide) (Nat.eq_of_beq_eq_true h3)⟩)
    | succ f =>
      have h4 : (Nat.beq (own_nd (f + 1)) 0 && Nat.beq (own_nb (own_N w)) 3) = true := h3
      rw [Bool.and_eq_true] at h4
      have z2 : ¬ own_dr (own_dr w) = 0 := fun e => by rw [own_N0.mp e] at e2; omega
      have e3 := own_Nd (own_dr (own_dr w))
      rw [e2] at e3
      exact Or.inr (Or.inr ⟨hz, z1, z2, own_N0.mpr (e3.trans (Nat.eq_of_beq_eq_true h4.1)), hb 3 (by decide) (Nat.eq_of_beq_eq_true h4.2)⟩)
theorem own_nb1 {w : Int64} {k : Nat} (hk : k < 4) (h : own_bc w = Int32.ofNat k) : own_nb (own_N w) = k := by
  rw [← own_Nb, h]
  exact ((by decide : ∀ k : Fin 4, k.val = (Int32.ofNat k.val).toBitVec.toNat) ⟨k, hk⟩).symm
theorem own_or (v w : Int64) : own_N (v ||| w) = own_N v ||| own_N w := by
  show (v.toBitVec ||| w.toBitVec).toNat = _
  rw [BitVec.toNat_or]; rfl
theorem own_bit (a : Int32) : ∃ i, i < 64 ∧ own_N (own_b a) = 2 ^ i := by
  have h := c_mask a 63 6 (by decide) (by decide)
  have h6 : ((2 ^ 6 : Nat) : Int) = 64 := by decide
  rw [h6] at h
  have h1 : 0 ≤ a.toInt % 64 := Int.emod_nonneg _ (by decide)
  have h2 : a.toInt % 64 < 64 := Int.emod_lt_of_pos _ (by decide)
  refine ⟨(a.toInt % 64).toNat, by omega, ?_⟩
  have hn : (a.toInt % 64).toNat < 64 := by omega
  have e : a &&& 63 = Int32.ofNat (a.toInt % 64).toNat := by
    apply Int32.toInt_inj.mp
    rw [h, (by decide : ∀ n : Fin 64, (Int32.ofNat n.val).toInt = (n.val : Int)) ⟨_, hn⟩]
    show _ = (((a.toInt % 64).toNat : Nat) : Int)
    omega
  unfold own_b
  rw [e]
  exact (by decide +kernel : ∀ n : Fin 64, own_N ((1 : Int64) <<< ((Int32.ofNat n.val) &&& 0x3f).toInt64) = 2 ^ n.val) ⟨_, hn⟩
theorem own_r1 {w : Int64} (h : own_W 1 w) : ∃ i, i < 64 ∧ own_N w = 2 ^ i := by
  rcases (show (∃ a, w = own_b a) ∨ ∃ v a, own_W 0 v ∧ w = v ||| own_b a from h) with ⟨a, rfl⟩ | ⟨v, a, hv, -⟩
  · exact own_bit a
  · exact (show False from hv).elim
theorem own_r2 {w : Int64} (h : own_W 2 w) : ∃ i j, i < 64 ∧ j < 64 ∧ own_N w = 2 ^ i ||| 2 ^ j := by
  rcases (show (∃ a, w = own_b a) ∨ ∃ v a, own_W 1 v ∧ w = v ||| own_b a from h) with ⟨a, rfl⟩ | ⟨v, a, hv, rfl⟩
  · obtain ⟨i, hi, e⟩ := own_bit a
    exact ⟨i, i, hi, hi, by rw [e, Nat.or_self]⟩
  · obtain ⟨i, hi, e⟩ := own_r1 hv
    obtain ⟨j, hj, e2⟩ := own_bit a
    exact ⟨i, j, hi, hj, by rw [own_or, e, e2]⟩
theorem own_r3 {w : Int64} (h : own_W 3 w) : ∃ i j k, i < 64 ∧ j < 64 ∧ k < 64 ∧ own_N w = (2 ^ i ||| 2 ^ j) ||| 2 ^ k := by
  rcases (show (∃ a, w = own_b a) ∨ ∃ v a, own_W 2 v ∧ w = v ||| own_b a from h) with ⟨a, rfl⟩ | ⟨v, a, hv, rfl⟩
  · obtain ⟨i, hi, e⟩ := own_bit a
    exact ⟨i, i, i, hi, hi, hi, by rw [e, Nat.or_self, Nat.or_self]⟩
  · obtain ⟨i, j, hi, hj, e⟩ := own_r2 hv
    obtain ⟨k, hk, e2⟩ := own_bit a
    exact ⟨i, j, k, hi, hj, hk, by rw [own_or, e, e2]⟩
theorem own_s2 {i j : Nat} (hi : i < 64) (h : j ≤ i) : own_ok 2 (2 ^ i ||| 2 ^ j) = true := by
  have q := own_all_at (own_all_at own_k2_t hi) (show j < i + 1 by omega)
  rw [own_st_eq] at q; exact q
theorem own_s3 {i j k : Nat} (hi : i < 64) (h : j ≤ i) (h2 : k ≤ j) : own_ok 3 ((2 ^ i ||| 2 ^ j) ||| 2 ^ k) = true := by
  have q := own_all_at (own_all_at own_k3_t hi) (show j < i + 1 by omega)
  rw [own_st_eq] at q
  have q2 := own_all_at q (show k < j + 1 by omega)
  rw [own_st_eq] at q2; exact q2
theorem own_T1 {w : Int64} (h : own_W 1 w) : own_t1 w := by
  obtain ⟨i, hi, e⟩ := own_r1 h
  have q := own_all_at own_k1_t hi
  rw [own_st_eq, show Nat.pow 2 i = 2 ^ i from rfl, ← e] at q
  obtain ⟨q1, q2⟩ := own_ok_spec q
  rcases q2 with q2 | q2 | q2
  · exact q2
  · have := own_nb1 (k := 2) (by decide) q2.2.2.2; omega
  · have := own_nb1 (k := 3) (by decide) q2.2.2.2.2; omega
theorem own_T2 {w : Int64} (h : own_W 2 w) : own_t1 w ∨ own_t2 w := by
  obtain ⟨i, j, hi, hj, e⟩ := own_r2 h
  have q : own_ok 2 (own_N w) = true := by
    rw [e]
    rcases Nat.le_total j i with c1 | c1
    · exact own_s2 hi c1
    · rw [Nat.or_comm]; exact own_s2 hj c1
  obtain ⟨q1, q2⟩ := own_ok_spec q
  rcases q2 with q2 | q2 | q2
  · exact Or.inl q2
  · exact Or.inr q2
  · have := own_nb1 (k := 3) (by decide) q2.2.2.2.2; omega
theorem own_T3 {w : Int64} (h : own_W 3 w) : own_t1 w ∨ own_t2 w ∨ own_t3 w := by
  obtain ⟨i, j, k, hi, hj, hk, e⟩ := own_r3 h
  have q : own_ok 3 (own_N w) = true := by
    rw [e]
    generalize ei : (2 : Nat) ^ i = x
    generalize ej : (2 : Nat) ^ j = y
    generalize ek : (2 : Nat) ^ k = z
    rcases Nat.le_total j i with c1 | c1 <;> rcases Nat.le_total k j with c2 | c2 <;> rcases Nat.le_total k i with c3 | c3
    · have := own_s3 hi c1 c2; rw [ei, ej, ek] at this; exact this
    · have := own_s3 hi c1 c2; rw [ei, ej, ek] at this; exact this
    · have := own_s3 hi c3 c2; rw [ei, ej, ek] at this; rw [Nat.or_assoc, Nat.or_comm y z, ← Nat.or_assoc]; exact this
    · have := own_s3 hk c3 c1; rw [ei, ej, ek] at this; rw [Nat.or_comm, ← Nat.or_assoc]; exact this
    · have := own_s3 hj c1 c3; rw [ei, ej, ek] at this; rw [Nat.or_comm x y]; exact this
    · have := own_s3 hj c2 c3; rw [ei, ej, ek] at this; rw [Nat.or_comm x y, Nat.or_assoc, Nat.or_comm x z, ← Nat.or_assoc]; exact this
    · have := own_s3 hk c2 c1; rw [ei, ej, ek] at this; rw [Nat.or_comm, Nat.or_comm x y, ← Nat.or_assoc]; exact this
    · have := own_s3 hk c2 c1; rw [ei, ej, ek] at this; rw [Nat.or_comm, Nat.or_comm x y, ← Nat.or_assoc]; exact this
  exact (own_ok_spec q).2
theorem own_and3 (a : Int32) : (a &&& (3 : Int32)) = (0 : Int32) ∨ (a &&& (3 : Int32)) = (1 : Int32) ∨ (a &&& (3 : Int32)) = (2 : Int32) ∨ (a &&& (3 : Int32)) = (3 : Int32) := by
  have h1 := c_mask a 3 2 (by decide) (by decide)
  have h6 : ((2 ^ 2 : Nat) : Int) = 4 := by decide
  rw [h6] at h1
  have h3 : (a &&& 3).toInt = 0 ∨ (a &&& 3).toInt = 1 ∨ (a &&& 3).toInt = 2 ∨ (a &&& 3).toInt = 3 := by omega
  rcases h3 with h | h | h | h
  · exact Or.inl (Int32.toInt_inj.mp (by rw [h]; decide))
  · exact Or.inr (Or.inl (Int32.toInt_inj.mp (by rw [h]; decide)))
  · exact Or.inr (Or.inr (Or.inl (Int32.toInt_inj.mp (by rw [h]; decide))))
  · exact Or.inr (Or.inr (Or.inr (Int32.toInt_inj.mp (by rw [h]; decide))))
def own_P2 (uu zz : Int32) (vb vt : List Value) : Prop := (uu = (2 : Int32) ∧ zz = (2 : Int32) ∧ (∃ y0 y1 : Int32, vb = [.int y0, .int y1]) ∧ ∃ v0 v1 : Int64, vt = [.long v0, .long v1] ∧ own_W 2 v0 ∧ own_W 2 v1) ∨ (uu = (3 : Int32) ∧ zz = (4 : Int32) ∧ (∃ y0 y1 y2 : Int32, vb = [.int y0, .int y1, .int y2, .int (0 : Int32)]) ∧ ∃ v0 v1 v2 : Int64, vt = [.long v0, .long v1, .long v2, .long (0 : Int64)] ∧ own_W 1 v0 ∧ own_W 1 v1 ∧ own_W 1 v2)
theorem own_rec {Z : State} {a0 : Array Value} {C : String} {y : MethodName} (w : (Cond.selects C y y).before a0 Z = true) : ∃ c k, Z.vm.findClass y.cls = some c ∧ Z.vm.classes[c]? = some k ∧ k.isInterface = false := by
  obtain ⟨c2, r2, m2, q1, q2, q3, q4, kP, hkP, hkPi⟩ := Cond.selects_spec w
  exact ⟨m2.cls, kP, findClass_of_methodNamed q3, hkP, hkPi⟩
theorem own_selP {Z : State} {a0 : Array Value} {C : String} {y : MethodName} (w : (Cond.selects C y y).before a0 Z = true) (wi : (Cond.instanceMethod y).before a0 Z = true) (wp : (Cond.privateMethod y).before a0 Z = true) (hy : y.cls ≠ "java/lang/invoke/MethodHandle" ∧ y.cls ≠ "java/lang/invoke/VarHandle") : (Cond.selects y.cls y y).before a0 Z = true := by
  obtain ⟨c, k, h1, h2, h3⟩ := own_rec w
  exact selects_self_of_private h1 h2 h3 (Cond.privateMethod_at wp) wi hy
theorem own_selP2 {Z : State} {a0 : Array Value} {C : String} {x y : MethodName} (w : (Cond.selects C x x).before a0 Z = true) (e : x.cls = y.cls) (wi : (Cond.instanceMethod y).before a0 Z = true) (wp : (Cond.privateMethod y).before a0 Z = true) (hy : y.cls ≠ "java/lang/invoke/MethodHandle" ∧ y.cls ≠ "java/lang/invoke/VarHandle") : (Cond.selects y.cls y y).before a0 Z = true := by
  obtain ⟨c, k, h1, h2, h3⟩ := own_rec w
  rw [e] at h1
  exact selects_self_of_private h1 h2 h3 (Cond.privateMethod_at wp) wi hy
theorem ef_1_R (m : MethodId) (x0 : Addr) : entryFrame m #[(.ref x0)] 1 = mkF m 0 #[.val (.ref x0)] [] := by first | (simp [entryFrame, mkF, argsToLocals, Value.category]; done) | rfl
theorem pn_1 : plainName "com/example/pointward/pointward/pointsto/SiteSet" = true := by first | (simp [plainName, overriddenIn]; done) | decide +kernel
theorem d1_0 : decode prog_17_method_1_code 0 = .ok (.aload_n 0, 1) := by decide +kernel
theorem d1_1 : decode prog_17_method_1_code 1 = .ok (.invokespecial 1, 3) := by decide +kernel
theorem d1_4 : decode prog_17_method_1_code 4 = .ok (.aload_n 0, 1) := by decide +kernel
theorem d1_5 : decode prog_17_method_1_code 5 = .ok (.getstatic 7, 3) := by decide +kernel
theorem d1_8 : decode prog_17_method_1_code 8 = .ok (.putfield 13, 3) := by decide +kernel
theorem d1_11 : decode prog_17_method_1_code 11 = .ok (.aload_n 0, 1) := by decide +kernel
theorem d1_12 : decode prog_17_method_1_code 12 = .ok (.getstatic 16, 3) := by decide +kernel
theorem d1_15 : decode prog_17_method_1_code 15 = .ok (.putfield 20, 3) := by decide +kernel
theorem d1_18 : decode prog_17_method_1_code 18 = .ok (.return_, 1) := by decide +kernel
def Q_rm1 (Z : State) (a1 : Addr) (cw : Nat → Nat) (h0 : Heap) (n0 : Nat) (v : Option Value) (h : Heap) (L : List Loc) : Prop := v = none ∧ Fr n0 L ∧ Keep h0 h [a1] ∧ Fld Z h a1 sk0 "blocks" "[I" (.ref (cw 0)) ∧ Fld Z h a1 sk0 "words" "[J" (.ref (cw 1)) ∧ Fld Z h a1 sk0 "used" "I" (.int 0)
theorem rm1 (l : Launch) (Z : State) (a0 : Array Value) (hw : ∀ d ∈ tables_1, d.before a0 Z = true) (ws : List Jvm.Cond) {cw : Nat → Nat} (cx : Cx Z cw) (a1 : Addr) (h0 : Heap) (n0 : Nat) (O0 : Old Z n0 h0) (G0 : Exa Z h0 a1 sk0) (G1 : Fld Z h0 a1 sk0 "blocks" "[I" .null) (G2 : Fld Z h0 a1 sk0 "words" "[J" .null) (G3 : Fld Z h0 a1 sk0 "used" "I" (.int 0)) (g_a1 : n0 ≤ a1) :
    OwnMet l ym0 (Jvm.Cond.code ym0 prog_17_method_1_code 1 none :: ws) (own_R 1 0 0 12) #[(.ref a1)] Z h0 (Q_rm1 Z a1 cw h0 n0) := by
  refine own_body (plainFor_of_name pn_1) hisR fun p e s m below meth c s₁ hx hby hml hown hnm hret hZ X0 e0 => ?_
  have N0 := Fr.nil n0
  have K0 : Keep h0 h0 [a1] := Keep.refl _ _
  have pre0 : ∀ t, Go p e below s₁ (mkF m 0 #[vR a1] []) t → Go p e below s₁ (entryFrame m #[(.ref a1)] 1) t := fun t k => castTop (ef_1_R m a1) k
  have q21 := fun t (kt : Go p e below s₁ (mkF m 1 #[vR a1] [(.ref a1)]) t) => pre0 t (by
    show Go _ _ _ _ (mkF m 0 #[vR a1] []) _
    refine XS.aloadN X0.here hx rfl (hb hby d1_0) rfl rfl ?_
    exact kt)
  obtain ⟨T22, X22, e22, st22⟩ := initO X0 hx hZ hown (ox hw 6 rfl) (ox hw 7 rfl) (ox hw 8 rfl) e0 (g := (mkF m 1 #[vR a1] [(.ref a1)])) rfl (by rw [hml]; rfl) rfl (hb hby d1_1) (by decide) (W := 0) own_le0 (by decide)
  have q23 := fun t (kt : Go p e below T22 (mkF m 5 #[vR a1] [(.ref a1)]) t) => q21 t (st22 t (by
    show Go _ _ _ _ (mkF m 4 #[vR a1] []) _
    refine XS.aloadN X22.here hx rfl (hb hby d1_4) rfl rfl ?_
    exact kt))
  obtain ⟨T24, X24, e24, st24⟩ := getS2 X22 hx hZ hown (host := "") (Or.inl (ox hw 9 rfl)) Via.refl e22 (cx.1.ext O0.2) (g := (mkF m 5 #[vR a1] [(.ref a1)])) rfl (hb hby d1_5)
  obtain ⟨T25, h25, X25, e25, W25, st25⟩ := putF X24 hx hZ hown (host := "") (Or.inl (ox hw 11 rfl)) Via.refl e24 G1 G0 (Or.inl (ox hw 12 rfl)) (ox hw 1 rfl) (ty := (.array .int)) (by decide) rfl rfl (g := (mkF m 8 #[vR a1] [(.ref (cw 0)), (.ref a1)])) rfl rfl (hb hby d1_8)
  have f26 : Fld Z h25 a1 sk0 "blocks" "[I" (.ref (cw 0)) := G1.same W25
  have N27 := Fr.snoc X25 N0 g_a1
  have O28 := O0.wr W25 g_a1
  have K29 := K0.wr W25 (Or.inl (List.mem_of_getElem? (i := 0) rfl))
  have q30 := fun t (kt : Go p e below T25 (mkF m 12 #[vR a1] [(.ref a1)]) t) => q23 t (st24 t (st25 t (by
    show Go _ _ _ _ (mkF m 11 #[vR a1] []) _
    refine XS.aloadN X25.here hx rfl (hb hby d1_11) rfl rfl ?_
    exact kt)))
  obtain ⟨T31, X31, e31, st31⟩ := getS2 X25 hx hZ hown (host := "") (Or.inl (ox hw 13 rfl)) Via.refl e25 (cx.2.2.1.ext O28.2) (g := (mkF m 12 #[vR a1] [(.ref a1)])) rfl (hb hby d1_12)
  have f32 := (G0.wr W25)
  have f33 := (G2.other W25 (Or.inr (slot_ne (Or.inl (ox hw 16 rfl)) (Or.inl (ox hw 12 rfl)) (by decide) (t := (.array .long)) (t' := (.array .int)) (by decide) (by decide))))
  obtain ⟨T34, h34, X34, e34, W34, st34⟩ := putF X31 hx hZ hown (host := "") (Or.inl (ox hw 15 rfl)) Via.refl e31 f33 f32 (Or.inl (ox hw 16 rfl)) (ox hw 1 rfl) (ty := (.array .long)) (by decide) rfl rfl (g := (mkF m 15 #[vR a1] [(.ref (cw 1)), (.ref a1)])) rfl rfl (hb hby d1_15)
  have f35 : Fld Z h34 a1 sk0 "words" "[J" (.ref (cw 1)) := f33.same W34
  have N36 := Fr.snoc X34 N27 g_a1
  have O37 := O28.wr W34 g_a1
  have K38 := K29.wr W34 (Or.inl (List.mem_of_getElem? (i := 0) rfl))
  have q39 := fun t (kt : Go p e below T34 (mkF m 18 #[vR a1] []) t) => q30 t (st31 t (st34 t kt))
  have f40 := (f26.other W34 (Or.inr (slot_ne (Or.inl (ox hw 12 rfl)) (Or.inl (ox hw 16 rfl)) (by decide) (t := (.array .int)) (t' := (.array .long)) (by decide) (by decide))))
  have f41 := ((G3.other W25 (Or.inr (slot_ne (Or.inl (ox hw 23 rfl)) (Or.inl (ox hw 12 rfl)) (by decide) (t := .int) (t' := (.array .int)) (by decide) (by decide)))).other W34 (Or.inr (slot_ne (Or.inl (ox hw 23 rfl)) (Or.inl (ox hw 16 rfl)) (by decide) (t := .int) (t' := (.array .long)) (by decide) (by decide))))
  exact ⟨none, T34, _, _, _, _, X34, by decide, by decide, fun _ => rfl, q39, fun fs hr => X34.returnOut hx hret (hb hby d1_18) hr, by rw [e34]; exact ⟨rfl, N36, K38, f40, f35, f41⟩⟩
theorem ef_3_R (m : MethodId) (x0 : Addr) : entryFrame m #[(.ref x0)] 1 = mkF m 0 #[.val (.ref x0)] [] := by first | (simp [entryFrame, mkF, argsToLocals, Value.category]; done) | rfl
theorem pn_3 : plainName "com/example/pointward/pointward/pointsto/SiteSet" = true := by first | (simp [plainName, overriddenIn]; done) | decide +kernel
theorem d3_0 : decode prog_17_method_2_code 0 = .ok (.aload_n 0, 1) := by decide +kernel
theorem d3_1 : decode prog_17_method_2_code 1 = .ok (.getfield 23, 3) := by decide +kernel
theorem d3_4 : decode prog_17_method_2_code 4 = .ok (.ifCond .ne 7, 3) := by decide +kernel
theorem d3_7 : decode prog_17_method_2_code 7 = .ok (.iconst 1, 1) := by decide +kernel
theorem d3_8 : decode prog_17_method_2_code 8 = .ok (.goto 4, 3) := by decide +kernel
theorem d3_12 : decode prog_17_method_2_code 12 = .ok (.ireturn, 1) := by decide +kernel
def Q_rm3z (Z : State) (a1 : Addr) (cw : Nat → Nat) (h0 : Heap) (n0 : Nat) (v : Option Value) (h : Heap) (L : List Loc) : Prop := v = some (.int 1) ∧ Fr n0 L ∧ h = h0
theorem rm3z (l : Launch) (Z : State) (a0 : Array Value) (hw : ∀ d ∈ tables_1, d.before a0 Z = true) (ws : List Jvm.Cond) {cw : Nat → Nat} (cx : Cx Z cw) (a1 : Addr) (h0 : Heap) (n0 : Nat) (O0 : Old Z n0 h0) (G0 : Fld Z h0 a1 sk0 "used" "I" (.int 0)) :
    OwnMet l ym1 (Jvm.Cond.code ym1 prog_17_method_2_code 1 (some .boolean) :: ws) (own_R 0 0 0 0) #[(.ref a1)] Z h0 (Q_rm3z Z a1 cw h0 n0) := by
  refine own_body (plainFor_of_name pn_3) hisR fun p e s m below meth c s₁ hx hby hml hown hnm hret hZ X0 e0 => ?_
  have N0 := Fr.nil n0
  have pre0 : ∀ t, Go p e below s₁ (mkF m 0 #[vR a1] []) t → Go p e below s₁ (entryFrame m #[(.ref a1)] 1) t := fun t k => castTop (ef_3_R m a1) k
  have q21 := fun t (kt : Go p e below s₁ (mkF m 1 #[vR a1] [(.ref a1)]) t) => pre0 t (by
    show Go _ _ _ _ (mkF m 0 #[vR a1] []) _
    refine XS.aloadN X0.here hx rfl (hb hby d3_0) rfl rfl ?_
    exact kt)
  obtain ⟨T22, X22, e22, st22⟩ := getF X0 hx hZ hown (host := "") (Or.inl (ox hw 22 rfl)) Via.refl e0 G0 (g := (mkF m 1 #[vR a1] [(.ref a1)])) rfl rfl (hb hby d3_1)
  have q23 := fun t (kt : Go p e below T22 (mkF m 12 #[vR a1] [(.int 1)]) t) => q21 t (st22 t (by
    show Go _ _ _ _ (mkF m 4 #[vR a1] [(.int 0)]) _
    refine XS.ifNo X22.here hx rfl (hb hby d3_4) rfl ((if0 _ _).trans (teq (rfl : (0 : Int32) = (0 : Int32))).2) ?_
    show Go _ _ _ _ (mkF m 7 _ []) _
    refine XS.iconst X22.here hx rfl (hb hby d3_7) ?_
    show Go _ _ _ _ (mkF m 8 _ [(.int 1)]) _
    refine XS.goto X22.here hx rfl (pc0 := 8) (pc' := 12) rfl (hb hby d3_8) (by decide) (by decide) ?_
    exact kt))
  exact ⟨some (.int 1), T22, _, _, _, _, X22, by decide, by decide, nofun, q23, fun fs hr => retN X22 hx (t := .boolean) hret (by simp) (hb hby d3_12) hr, by rw [e22]; exact ⟨rfl, N0, rfl⟩⟩
theorem d3_11 : decode prog_17_method_2_code 11 = .ok (.iconst 0, 1) := by decide +kernel
def Q_rm3n (Z : State) (a1 : Addr) (pn : Int32) (cw : Nat → Nat) (h0 : Heap) (n0 : Nat) (v : Option Value) (h : Heap) (L : List Loc) : Prop := v = some (.int 0) ∧ Fr n0 L ∧ h = h0
theorem rm3n (l : Launch) (Z : State) (a0 : Array Value) (hw : ∀ d ∈ tables_1, d.before a0 Z = true) (ws : List Jvm.Cond) {cw : Nat → Nat} (cx : Cx Z cw) (a1 : Addr) (pn : Int32) (h0 : Heap) (n0 : Nat) (O0 : Old Z n0 h0) (G0 : Fld Z h0 a1 sk0 "used" "I" (.int pn)) (h1 : ¬ (pn = (0 : Int32))) :
    OwnMet l ym1 (Jvm.Cond.code ym1 prog_17_method_2_code 1 (some .boolean) :: ws) (own_R 0 0 0 0) #[(.ref a1)] Z h0 (Q_rm3n Z a1 pn cw h0 n0) := by
  refine own_body (plainFor_of_name pn_3) hisR fun p e s m below meth c s₁ hx hby hml hown hnm hret hZ X0 e0 => ?_
  have N0 := Fr.nil n0
  have pre0 : ∀ t, Go p e below s₁ (mkF m 0 #[vR a1] []) t → Go p e below s₁ (entryFrame m #[(.ref a1)] 1) t := fun t k => castTop (ef_3_R m a1) k
  have q21 := fun t (kt : Go p e below s₁ (mkF m 1 #[vR a1] [(.ref a1)]) t) => pre0 t (by
    show Go _ _ _ _ (mkF m 0 #[vR a1] []) _
    refine XS.aloadN X0.here hx rfl (hb hby d3_0) rfl rfl ?_
    exact kt)
  obtain ⟨T22, X22, e22, st22⟩ := getF X0 hx hZ hown (host := "") (Or.inl (ox hw 22 rfl)) Via.refl e0 G0 (g := (mkF m 1 #[vR a1] [(.ref a1)])) rfl rfl (hb hby d3_1)
  have q23 := fun t (kt : Go p e below T22 (mkF m 12 #[vR a1] [(.int 0)]) t) => q21 t (st22 t (by
    show Go _ _ _ _ (mkF m 4 #[vR a1] [(.int pn)]) _
    refine XS.ifYes X22.here hx rfl (pc0 := 4) (pc' := 11) rfl (hb hby d3_4) rfl ((if0 _ _).trans (feq h1).2) (by decide) (by decide) ?_
    show Go _ _ _ _ (mkF m 11 _ []) _
    refine XS.iconst X22.here hx rfl (hb hby d3_11) ?_
    exact kt))
  exact ⟨some (.int 0), T22, _, _, _, _, X22, by decide, by decide, nofun, q23, fun fs hr => retN X22 hx (t := .boolean) hret (by simp) (hb hby d3_12) hr, by rw [e22]; exact ⟨rfl, N0, rfl⟩⟩
theorem ef_7_III (m : MethodId) (x0 : Int32) (x1 : Int32) (x2 : Int32) : entryFrame m #[(.int x0), (.int x1), (.int x2)] 3 = mkF m 0 #[.val (.int x0), .val (.int x1), .val (.int x2)] [] := by first | (simp [entryFrame, mkF, argsToLocals, Value.category]; done) | rfl
theorem pn_7 : plainName "java/util/Arrays" = true := by first | (simp [plainName, overriddenIn]; done) | decide +kernel
theorem d7_0 : decode jdk_65_method_30_code 0 = .ok (.iload_n 1, 1) := by decide +kernel
theorem d7_1 : decode jdk_65_method_30_code 1 = .ok (.iload_n 2, 1) := by decide +kernel
theorem d7_2 : decode jdk_65_method_30_code 2 = .ok (.if_icmp .le 44, 3) := by decide +kernel
theorem d7_46 : decode jdk_65_method_30_code 46 = .ok (.iload_n 1, 1) := by decide +kernel
theorem d7_47 : decode jdk_65_method_30_code 47 = .ok (.ifCond .ge 12, 3) := by decide +kernel
theorem d7_59 : decode jdk_65_method_30_code 59 = .ok (.iload_n 2, 1) := by decide +kernel
theorem d7_60 : decode jdk_65_method_30_code 60 = .ok (.iload_n 0, 1) := by decide +kernel
theorem d7_61 : decode jdk_65_method_30_code 61 = .ok (.if_icmp .le 12, 3) := by decide +kernel
theorem d7_73 : decode jdk_65_method_30_code 73 = .ok (.return_, 1) := by decide +kernel
def Q_rm7 (Z : State) (pl : Int32) (pn : Int32) (cw : Nat → Nat) (h0 : Heap) (n0 : Nat) (v : Option Value) (h : Heap) (L : List Loc) : Prop := v = none ∧ Fr n0 L ∧ h = h0
theorem rm7 (l : Launch) (Z : State) (a0 : Array Value) (hw : ∀ d ∈ tables_1, d.before a0 Z = true) (ws : List Jvm.Cond) {cw : Nat → Nat} (cx : Cx Z cw) (pl : Int32) (pn : Int32) (h0 : Heap) (n0 : Nat) (O0 : Old Z n0 h0) (h1 : ¬ (pn < (0 : Int32))) (h2 : ¬ (pl < pn)) :
    OwnMet l ym2 (Jvm.Cond.code ym2 jdk_65_method_30_code 3 none :: ws) (own_R 0 0 0 0) #[(.int pl), (.int 0), (.int pn)] Z h0 (Q_rm7 Z pl pn cw h0 n0) := by
  refine own_body (plainFor_of_name pn_7) hisR fun p e s m below meth c s₁ hx hby hml hown hnm hret hZ X0 e0 => ?_
  have N0 := Fr.nil n0
  have pre0 : ∀ t, Go p e below s₁ (mkF m 0 #[vI pl, vI 0, vI pn] []) t → Go p e below s₁ (entryFrame m #[(.int pl), (.int 0), (.int pn)] 3) t := fun t k => castTop (ef_7_III m pl (0 : Int32) pn) k
  have q21 := fun t (kt : Go p e below s₁ (mkF m 73 #[vI pl, vI 0, vI pn] []) t) => pre0 t (by
    show Go _ _ _ _ (mkF m 0 #[vI pl, vI 0, vI pn] []) _
    refine XS.iloadN X0.here hx rfl (hb hby d7_0) rfl ?_
    show Go _ _ _ _ (mkF m 1 _ [(.int 0)]) _
    refine XS.iloadN X0.here hx rfl (hb hby d7_1) rfl ?_
    show Go _ _ _ _ (mkF m 2 _ [(.int pn), (.int 0)]) _
    refine XS.icmpYes X0.here hx rfl (pc0 := 2) (pc' := 46) rfl (hb hby d7_2) rfl (flt h1).2.2.2 (by decide) (by decide) ?_
    show Go _ _ _ _ (mkF m 46 _ []) _
    refine XS.iloadN X0.here hx rfl (hb hby d7_46) rfl ?_
    show Go _ _ _ _ (mkF m 47 _ [(.int 0)]) _
    refine XS.ifYes X0.here hx rfl (pc0 := 47) (pc' := 59) rfl (hb hby d7_47) rfl ((if0 _ _).trans (flt (by decide : ¬ ((0 : Int32) < (0 : Int32)))).2.1) (by decide) (by decide) ?_
    show Go _ _ _ _ (mkF m 59 _ []) _
    refine XS.iloadN X0.here hx rfl (hb hby d7_59) rfl ?_
    show Go _ _ _ _ (mkF m 60 _ [(.int pn)]) _
    refine XS.iloadN X0.here hx rfl (hb hby d7_60) rfl ?_
    show Go _ _ _ _ (mkF m 61 _ [(.int pl), (.int pn)]) _
    refine XS.icmpYes X0.here hx rfl (pc0 := 61) (pc' := 73) rfl (hb hby d7_61) rfl (flt h2).2.2.2 (by decide) (by decide) ?_
    exact kt)
  exact ⟨none, s₁, _, _, _, _, X0, by decide, by decide, fun _ => rfl, q21, fun fs hr => X0.returnOut hx hret (hb hby d7_73) hr, by rw [e0]; exact ⟨rfl, N0, rfl⟩⟩
theorem ef_8_RIII (m : MethodId) (x0 : Addr) (x1 : Int32) (x2 : Int32) (x3 : Int32) : entryFrame m #[(.ref x0), (.int x1), (.int x2), (.int x3)] 8 = mkF m 0 #[.val (.ref x0), .val (.int x1), .val (.int x2), .val (.int x3), .unset, .unset, .unset, .unset] [] := by first | (simp [entryFrame, mkF, argsToLocals, Value.category]; done) | rfl
theorem pn_8 : plainName "java/util/Arrays" = true := by first | (simp [plainName, overriddenIn]; done) | decide +kernel
theorem d8_0 : decode jdk_65_method_59_code 0 = .ok (.iload_n 1, 1) := by decide +kernel
theorem d8_1 : decode jdk_65_method_59_code 1 = .ok (.istore 4, 2) := by decide +kernel
theorem d8_3 : decode jdk_65_method_59_code 3 = .ok (.iload_n 2, 1) := by decide +kernel
theorem d8_4 : decode jdk_65_method_59_code 4 = .ok (.iconst 1, 1) := by decide +kernel
theorem d8_5 : decode jdk_65_method_59_code 5 = .ok (.isub, 1) := by decide +kernel
theorem d8_6 : decode jdk_65_method_59_code 6 = .ok (.istore 5, 2) := by decide +kernel
theorem d8_8 : decode jdk_65_method_59_code 8 = .ok (.iload 4, 2) := by decide +kernel
theorem d8_10 : decode jdk_65_method_59_code 10 = .ok (.iload 5, 2) := by decide +kernel
theorem d8_12 : decode jdk_65_method_59_code 12 = .ok (.if_icmp .gt 54, 3) := by decide +kernel
theorem d8_66 : decode jdk_65_method_59_code 66 = .ok (.iload 4, 2) := by decide +kernel
theorem d8_68 : decode jdk_65_method_59_code 68 = .ok (.iconst 1, 1) := by decide +kernel
theorem d8_69 : decode jdk_65_method_59_code 69 = .ok (.iadd, 1) := by decide +kernel
theorem d8_70 : decode jdk_65_method_59_code 70 = .ok (.ineg, 1) := by decide +kernel
theorem d8_71 : decode jdk_65_method_59_code 71 = .ok (.ireturn, 1) := by decide +kernel
def Q_rm8_0 (Z : State) (a1 : Addr) (p4 : Int32) (cw : Nat → Nat) (h0 : Heap) (n0 : Nat) (v : Option Value) (h : Heap) (L : List Loc) : Prop := v = some (.int (-1 : Int32)) ∧ Fr n0 L ∧ h = h0
theorem rm8_0 (l : Launch) (Z : State) (a0 : Array Value) (hw : ∀ d ∈ tables_1, d.before a0 Z = true) (ws : List Jvm.Cond) {cw : Nat → Nat} (cx : Cx Z cw) (a1 : Addr) (p4 : Int32) (h0 : Heap) (n0 : Nat) (O0 : Old Z n0 h0) :
    OwnMet l ym3 (Jvm.Cond.code ym3 jdk_65_method_59_code 8 (some .int) :: ws) (own_R 0 0 0 0) #[(.ref a1), (.int 0), (.int 0), (.int p4)] Z h0 (Q_rm8_0 Z a1 p4 cw h0 n0) := by
  refine own_body (plainFor_of_name pn_8) hisR fun p e s m below meth c s₁ hx hby hml hown hnm hret hZ X0 e0 => ?_
  have N0 := Fr.nil n0
  have pre0 : ∀ t, Go p e below s₁ (mkF m 0 #[vR a1, vI 0, vI 0, vI p4, vU, vU, vU, vU] []) t → Go p e below s₁ (entryFrame m #[(.ref a1), (.int 0), (.int 0), (.int p4)] 8) t := fun t k => castTop (ef_8_RIII m a1 (0 : Int32) (0 : Int32) p4) k
  have q21 := fun t (kt : Go p e below s₁ (mkF m 71 #[vR a1, vI 0, vI 0, vI p4, vI 0, vI (-1 : Int32), vU, vU] [(.int (-1 : Int32))]) t) => pre0 t (by
    show Go _ _ _ _ (mkF m 0 #[vR a1, vI 0, vI 0, vI p4, vU, vU, vU, vU] []) _
    refine XS.iloadN X0.here hx rfl (hb hby d8_0) rfl ?_
    show Go _ _ _ _ (mkF m 1 _ [(.int 0)]) _
    refine XS.istore X0.here hx rfl (hb hby d8_1) rfl (l' := #[vR a1, vI 0, vI 0, vI p4, vI 0, vU, vU, vU]) rfl ?_
    show Go _ _ _ _ (mkF m 3 #[vR a1, vI 0, vI 0, vI p4, vI 0, vU, vU, vU] []) _
    refine XS.iloadN X0.here hx rfl (hb hby d8_3) rfl ?_
    show Go _ _ _ _ (mkF m 4 _ [(.int 0)]) _
    refine XS.iconst X0.here hx rfl (hb hby d8_4) ?_
    show Go _ _ _ _ (mkF m 5 _ [(.int 1), (.int 0)]) _
    refine XS.isub X0.here hx rfl (hb hby d8_5) rfl ?_
    show Go _ _ _ _ (mkF m 6 _ [(.int (-1 : Int32))]) _
    refine XS.istore X0.here hx rfl (hb hby d8_6) rfl (l' := #[vR a1, vI 0, vI 0, vI p4, vI 0, vI (-1 : Int32), vU, vU]) rfl ?_
    show Go _ _ _ _ (mkF m 8 #[vR a1, vI 0, vI 0, vI p4, vI 0, vI (-1 : Int32), vU, vU] []) _
    refine XS.iload X0.here hx rfl (hb hby d8_8) rfl ?_
    show Go _ _ _ _ (mkF m 10 _ [(.int 0)]) _
    refine XS.iload X0.here hx rfl (hb hby d8_10) rfl ?_
    show Go _ _ _ _ (mkF m 12 _ [(.int (-1 : Int32)), (.int 0)]) _
    refine XS.icmpYes X0.here hx rfl (pc0 := 12) (pc' := 66) rfl (hb hby d8_12) rfl (tlt (by decide : (-1 : Int32) < (0 : Int32))).2.2.1 (by decide) (by decide) ?_
    show Go _ _ _ _ (mkF m 66 _ []) _
    refine XS.iload X0.here hx rfl (hb hby d8_66) rfl ?_
    show Go _ _ _ _ (mkF m 68 _ [(.int 0)]) _
    refine XS.iconst X0.here hx rfl (hb hby d8_68) ?_
    show Go _ _ _ _ (mkF m 69 _ [(.int 1), (.int 0)]) _
    refine XS.iadd X0.here hx rfl (hb hby d8_69) rfl ?_
    show Go _ _ _ _ (mkF m 70 _ [(.int 1)]) _
    refine XS.ineg X0.here hx rfl (hb hby d8_70) rfl ?_
    exact kt)
  exact ⟨some (.int (-1 : Int32)), s₁, _, _, _, _, X0, by decide, by decide, nofun, q21, fun fs hr => retI X0 hx hret (hb hby d8_71) hr, by rw [e0]; exact ⟨rfl, N0, rfl⟩⟩
theorem d8_15 : decode jdk_65_method_59_code 15 = .ok (.iload 4, 2) := by decide +kernel
theorem d8_17 : decode jdk_65_method_59_code 17 = .ok (.iload 5, 2) := by decide +kernel
theorem d8_19 : decode jdk_65_method_59_code 19 = .ok (.iadd, 1) := by decide +kernel
theorem d8_20 : decode jdk_65_method_59_code 20 = .ok (.iconst 1, 1) := by decide +kernel
theorem d8_21 : decode jdk_65_method_59_code 21 = .ok (.iushr, 1) := by decide +kernel
theorem d8_22 : decode jdk_65_method_59_code 22 = .ok (.istore 6, 2) := by decide +kernel
theorem d8_24 : decode jdk_65_method_59_code 24 = .ok (.aload_n 0, 1) := by decide +kernel
theorem d8_25 : decode jdk_65_method_59_code 25 = .ok (.iload 6, 2) := by decide +kernel
theorem d8_27 : decode jdk_65_method_59_code 27 = .ok (.iaload, 1) := by decide +kernel
theorem d8_28 : decode jdk_65_method_59_code 28 = .ok (.istore 7, 2) := by decide +kernel
theorem d8_30 : decode jdk_65_method_59_code 30 = .ok (.iload 7, 2) := by decide +kernel
theorem d8_32 : decode jdk_65_method_59_code 32 = .ok (.iload_n 3, 1) := by decide +kernel
theorem d8_33 : decode jdk_65_method_59_code 33 = .ok (.if_icmp .ge 12, 3) := by decide +kernel
theorem d8_36 : decode jdk_65_method_59_code 36 = .ok (.iload 6, 2) := by decide +kernel
theorem d8_38 : decode jdk_65_method_59_code 38 = .ok (.iconst 1, 1) := by decide +kernel
theorem d8_39 : decode jdk_65_method_59_code 39 = .ok (.iadd, 1) := by decide +kernel
theorem d8_40 : decode jdk_65_method_59_code 40 = .ok (.istore 4, 2) := by decide +kernel
theorem d8_42 : decode jdk_65_method_59_code 42 = .ok (.goto 21, 3) := by decide +kernel
theorem d8_63 : decode jdk_65_method_59_code 63 = .ok (.goto (-55), 3) := by decide +kernel
theorem d8_45 : decode jdk_65_method_59_code 45 = .ok (.iload 7, 2) := by decide +kernel
theorem d8_47 : decode jdk_65_method_59_code 47 = .ok (.iload_n 3, 1) := by decide +kernel
theorem d8_48 : decode jdk_65_method_59_code 48 = .ok (.if_icmp .le 12, 3) := by decide +kernel
theorem d8_51 : decode jdk_65_method_59_code 51 = .ok (.iload 6, 2) := by decide +kernel
theorem d8_53 : decode jdk_65_method_59_code 53 = .ok (.iconst 1, 1) := by decide +kernel
theorem d8_54 : decode jdk_65_method_59_code 54 = .ok (.isub, 1) := by decide +kernel
theorem d8_55 : decode jdk_65_method_59_code 55 = .ok (.istore 5, 2) := by decide +kernel
theorem d8_57 : decode jdk_65_method_59_code 57 = .ok (.goto 6, 3) := by decide +kernel
theorem d8_60 : decode jdk_65_method_59_code 60 = .ok (.iload 6, 2) := by decide +kernel
theorem d8_62 : decode jdk_65_method_59_code 62 = .ok (.ireturn, 1) := by decide +kernel
def Q_rm8_1 (Z : State) (a1 : Addr) (ka : ClassId) (x0 : Int32) (x1 : Int32) (p4 : Int32) (cw : Nat → Nat) (h0 : Heap) (n0 : Nat) (v : Option Value) (h : Heap) (L : List Loc) : Prop := ∃ (r : Int32), v = some (.int r) ∧ Fr n0 L ∧ h = h0 ∧ (r = (0 : Int32) ∨ r = (-1 : Int32) ∨ r = (-2 : Int32))
theorem rm8_1 (l : Launch) (Z : State) (a0 : Array Value) (hw : ∀ d ∈ tables_1, d.before a0 Z = true) (ws : List Jvm.Cond) {cw : Nat → Nat} (cx : Cx Z cw) (a1 : Addr) (ka : ClassId) (x0 : Int32) (x1 : Int32) (p4 : Int32) (h0 : Heap) (n0 : Nat) (O0 : Old Z n0 h0) (G0 : Arv Z h0 a1 ka .int (2 : Int32) [(.int x0), (.int x1)] (.int 0)) :
    OwnMet l ym3 (Jvm.Cond.code ym3 jdk_65_method_59_code 8 (some .int) :: ws) (own_R 0 0 0 0) #[(.ref a1), (.int 0), (.int 1), (.int p4)] Z h0 (Q_rm8_1 Z a1 ka x0 x1 p4 cw h0 n0) := by
  refine own_body (plainFor_of_name pn_8) hisR fun p e s m below meth c s₁ hx hby hml hown hnm hret hZ X0 e0 => ?_
  have N0 := Fr.nil n0
  have pre0 : ∀ t, Go p e below s₁ (mkF m 0 #[vR a1, vI 0, vI 1, vI p4, vU, vU, vU, vU] []) t → Go p e below s₁ (entryFrame m #[(.ref a1), (.int 0), (.int 1), (.int p4)] 8) t := fun t k => castTop (ef_8_RIII m a1 (0 : Int32) (1 : Int32) p4) k
  have q22 := fun t (kt : Go p e below s₁ (mkF m 27 #[vR a1, vI 0, vI 1, vI p4, vI 0, vI 0, vI 0, vU] [(.int 0), (.ref a1)]) t) => pre0 t (by
    show Go _ _ _ _ (mkF m 0 #[vR a1, vI 0, vI 1, vI p4, vU, vU, vU, vU] []) _
    refine XS.iloadN X0.here hx rfl (hb hby d8_0) rfl ?_
    show Go _ _ _ _ (mkF m 1 _ [(.int 0)]) _
    refine XS.istore X0.here hx rfl (hb hby d8_1) rfl (l' := #[vR a1, vI 0, vI 1, vI p4, vI 0, vU, vU, vU]) rfl ?_
    show Go _ _ _ _ (mkF m 3 #[vR a1, vI 0, vI 1, vI p4, vI 0, vU, vU, vU] []) _
    refine XS.iloadN X0.here hx rfl (hb hby d8_3) rfl ?_
    show Go _ _ _ _ (mkF m 4 _ [(.int 1)]) _
    refine XS.iconst X0.here hx rfl (hb hby d8_4) ?_
    show Go _ _ _ _ (mkF m 5 _ [(.int 1), (.int 1)]) _
    refine XS.isub X0.here hx rfl (hb hby d8_5) rfl ?_
    show Go _ _ _ _ (mkF m 6 _ [(.int 0)]) _
    refine XS.istore X0.here hx rfl (hb hby d8_6) rfl (l' := #[vR a1, vI 0, vI 1, vI p4, vI 0, vI 0, vU, vU]) rfl ?_
    show Go _ _ _ _ (mkF m 8 #[vR a1, vI 0, vI 1, vI p4, vI 0, vI 0, vU, vU] []) _
    refine XS.iload X0.here hx rfl (hb hby d8_8) rfl ?_
    show Go _ _ _ _ (mkF m 10 _ [(.int 0)]) _
    refine XS.iload X0.here hx rfl (hb hby d8_10) rfl ?_
    show Go _ _ _ _ (mkF m 12 _ [(.int 0), (.int 0)]) _
    refine XS.icmpNo X0.here hx rfl (hb hby d8_12) rfl (flt (by decide : ¬ ((0 : Int32) < (0 : Int32)))).2.2.1 ?_
    show Go _ _ _ _ (mkF m 15 _ []) _
    refine XS.iload X0.here hx rfl (hb hby d8_15) rfl ?_
    show Go _ _ _ _ (mkF m 17 _ [(.int 0)]) _
    refine XS.iload X0.here hx rfl (hb hby d8_17) rfl ?_
    show Go _ _ _ _ (mkF m 19 _ [(.int 0), (.int 0)]) _
    refine XS.iadd X0.here hx rfl (hb hby d8_19) rfl ?_
    show Go _ _ _ _ (mkF m 20 _ [(.int 0)]) _
    refine XS.iconst X0.here hx rfl (hb hby d8_20) ?_
    show Go _ _ _ _ (mkF m 21 _ [(.int 1), (.int 0)]) _
    refine XS.iushr X0.here hx rfl (hb hby d8_21) rfl ?_
    show Go _ _ _ _ (mkF m 22 _ [(.int 0)]) _
    refine XS.istore X0.here hx rfl (hb hby d8_22) rfl (l' := #[vR a1, vI 0, vI 1, vI p4, vI 0, vI 0, vI 0, vU]) rfl ?_
    show Go _ _ _ _ (mkF m 24 #[vR a1, vI 0, vI 1, vI p4, vI 0, vI 0, vI 0, vU] []) _
    refine XS.aloadN X0.here hx rfl (hb hby d8_24) rfl rfl ?_
    show Go _ _ _ _ (mkF m 25 _ [(.ref a1)]) _
    refine XS.iload X0.here hx rfl (hb hby d8_25) rfl ?_
    exact kt)
  obtain ⟨c21, Ar21, -, S21, N21, H21, -⟩ := id G0
  have q23 := fun t (kt : Go p e below s₁ (mkF m 33 #[vR a1, vI 0, vI 1, vI p4, vI 0, vI 0, vI 0, vI x0] [(.int p4), (.int x0)]) t) => q22 t (by
    show Go _ _ _ _ (mkF m 27 #[vR a1, vI 0, vI 1, vI p4, vI 0, vI 0, vI 0, vU] [(.int 0), (.ref a1)]) _
    refine X0.iaload hx (j := (0 : Int32)) (v := (.int x0)) (by rw [e0]; exact Ar21.1) (State.isArrayOf_alike hZ.alike Ar21.2.1) Ar21.2.2 (inb_of S21 ⟨by decide, by decide⟩) (Has.at H21 (inb_of S21 ⟨by decide, by decide⟩) rfl) (g := (mkF m 27 #[vR a1, vI 0, vI 1, vI p4, vI 0, vI 0, vI 0, vU] [(.int 0), (.ref a1)])) rfl rfl (hb hby d8_27) _ ?_
    show Go _ _ _ _ (mkF m 28 _ [(.int x0)]) _
    refine XS.istore X0.here hx rfl (hb hby d8_28) rfl (l' := #[vR a1, vI 0, vI 1, vI p4, vI 0, vI 0, vI 0, vI x0]) rfl ?_
    show Go _ _ _ _ (mkF m 30 #[vR a1, vI 0, vI 1, vI p4, vI 0, vI 0, vI 0, vI x0] []) _
    refine XS.iload X0.here hx rfl (hb hby d8_30) rfl ?_
    show Go _ _ _ _ (mkF m 32 _ [(.int x0)]) _
    refine XS.iloadN X0.here hx rfl (hb hby d8_32) rfl ?_
    exact kt)
  by_cases hc24 : x0 < p4
  · have q25 := fun t (kt : Go p e below s₁ (mkF m 71 #[vR a1, vI 0, vI 1, vI p4, vI 1, vI 0, vI 0, vI x0] [(.int (-2 : Int32))]) t) => q23 t (by
      show Go _ _ _ _ (mkF m 33 #[vR a1, vI 0, vI 1, vI p4, vI 0, vI 0, vI 0, vI x0] [(.int p4), (.int x0)]) _
      refine XS.icmpNo X0.here hx rfl (hb hby d8_33) rfl (tlt hc24).2.1 ?_
      show Go _ _ _ _ (mkF m 36 _ []) _
      refine XS.iload X0.here hx rfl (hb hby d8_36) rfl ?_
      show Go _ _ _ _ (mkF m 38 _ [(.int 0)]) _
      refine XS.iconst X0.here hx rfl (hb hby d8_38) ?_
      show Go _ _ _ _ (mkF m 39 _ [(.int 1), (.int 0)]) _
      refine XS.iadd X0.here hx rfl (hb hby d8_39) rfl ?_
      show Go _ _ _ _ (mkF m 40 _ [(.int 1)]) _
      refine XS.istore X0.here hx rfl (hb hby d8_40) rfl (l' := #[vR a1, vI 0, vI 1, vI p4, vI 1, vI 0, vI 0, vI x0]) rfl ?_
      show Go _ _ _ _ (mkF m 42 #[vR a1, vI 0, vI 1, vI p4, vI 1, vI 0, vI 0, vI x0] []) _
      refine XS.goto X0.here hx rfl (pc0 := 42) (pc' := 63) rfl (hb hby d8_42) (by decide) (by decide) ?_
      show Go _ _ _ _ (mkF m 63 _ []) _
      refine XS.goto X0.here hx rfl (pc0 := 63) (pc' := 8) rfl (hb hby d8_63) (by decide) (by decide) ?_
      show Go _ _ _ _ (mkF m 8 _ []) _
      refine XS.iload X0.here hx rfl (hb hby d8_8) rfl ?_
      show Go _ _ _ _ (mkF m 10 _ [(.int 1)]) _
      refine XS.iload X0.here hx rfl (hb hby d8_10) rfl ?_
      show Go _ _ _ _ (mkF m 12 _ [(.int 0), (.int 1)]) _
      refine XS.icmpYes X0.here hx rfl (pc0 := 12) (pc' := 66) rfl (hb hby d8_12) rfl (tlt (by decide : (0 : Int32) < (1 : Int32))).2.2.1 (by decide) (by decide) ?_
      show Go _ _ _ _ (mkF m 66 _ []) _
      refine XS.iload X0.here hx rfl (hb hby d8_66) rfl ?_
      show Go _ _ _ _ (mkF m 68 _ [(.int 1)]) _
      refine XS.iconst X0.here hx rfl (hb hby d8_68) ?_
      show Go _ _ _ _ (mkF m 69 _ [(.int 1), (.int 1)]) _
      refine XS.iadd X0.here hx rfl (hb hby d8_69) rfl ?_
      show Go _ _ _ _ (mkF m 70 _ [(.int 2)]) _
      refine XS.ineg X0.here hx rfl (hb hby d8_70) rfl ?_
      exact kt)
    exact ⟨some (.int (-2 : Int32)), s₁, _, _, _, _, X0, by decide, by decide, nofun, q25, fun fs hr => retI X0 hx hret (hb hby d8_71) hr, by rw [e0]; exact ⟨(-2 : Int32), rfl, N0, rfl, (by first | assumption | decide | omega : (-2 : Int32) = (0 : Int32) ∨ (-2 : Int32) = (-1 : Int32) ∨ (-2 : Int32) = (-2 : Int32))⟩⟩
  · have q26 := fun t (kt : Go p e below s₁ (mkF m 48 #[vR a1, vI 0, vI 1, vI p4, vI 0, vI 0, vI 0, vI x0] [(.int p4), (.int x0)]) t) => q23 t (by
      show Go _ _ _ _ (mkF m 33 #[vR a1, vI 0, vI 1, vI p4, vI 0, vI 0, vI 0, vI x0] [(.int p4), (.int x0)]) _
      refine XS.icmpYes X0.here hx rfl (pc0 := 33) (pc' := 45) rfl (hb hby d8_33) rfl (flt hc24).2.1 (by decide) (by decide) ?_
      show Go _ _ _ _ (mkF m 45 _ []) _
      refine XS.iload X0.here hx rfl (hb hby d8_45) rfl ?_
      show Go _ _ _ _ (mkF m 47 _ [(.int x0)]) _
      refine XS.iloadN X0.here hx rfl (hb hby d8_47) rfl ?_
      exact kt)
    by_cases hc27 : p4 < x0
    · have q28 := fun t (kt : Go p e below s₁ (mkF m 71 #[vR a1, vI 0, vI 1, vI p4, vI 0, vI (-1 : Int32), vI 0, vI x0] [(.int (-1 : Int32))]) t) => q26 t (by
        show Go _ _ _ _ (mkF m 48 #[vR a1, vI 0, vI 1, vI p4, vI 0, vI 0, vI 0, vI x0] [(.int p4), (.int x0)]) _
        refine XS.icmpNo X0.here hx rfl (hb hby d8_48) rfl (tlt hc27).2.2.2 ?_
        show Go _ _ _ _ (mkF m 51 _ []) _
        refine XS.iload X0.here hx rfl (hb hby d8_51) rfl ?_
        show Go _ _ _ _ (mkF m 53 _ [(.int 0)]) _
        refine XS.iconst X0.here hx rfl (hb hby d8_53) ?_
        show Go _ _ _ _ (mkF m 54 _ [(.int 1), (.int 0)]) _
        refine XS.isub X0.here hx rfl (hb hby d8_54) rfl ?_
        show Go _ _ _ _ (mkF m 55 _ [(.int (-1 : Int32))]) _
        refine XS.istore X0.here hx rfl (hb hby d8_55) rfl (l' := #[vR a1, vI 0, vI 1, vI p4, vI 0, vI (-1 : Int32), vI 0, vI x0]) rfl ?_
        show Go _ _ _ _ (mkF m 57 #[vR a1, vI 0, vI 1, vI p4, vI 0, vI (-1 : Int32), vI 0, vI x0] []) _
        refine XS.goto X0.here hx rfl (pc0 := 57) (pc' := 63) rfl (hb hby d8_57) (by decide) (by decide) ?_
        show Go _ _ _ _ (mkF m 63 _ []) _
        refine XS.goto X0.here hx rfl (pc0 := 63) (pc' := 8) rfl (hb hby d8_63) (by decide) (by decide) ?_
        show Go _ _ _ _ (mkF m 8 _ []) _
        refine XS.iload X0.here hx rfl (hb hby d8_8) rfl ?_
        show Go _ _ _ _ (mkF m 10 _ [(.int 0)]) _
        refine XS.iload X0.here hx rfl (hb hby d8_10) rfl ?_
        show Go _ _ _ _ (mkF m 12 _ [(.int (-1 : Int32)), (.int 0)]) _
        refine XS.icmpYes X0.here hx rfl (pc0 := 12) (pc' := 66) rfl (hb hby d8_12) rfl (tlt (by decide : (-1 : Int32) < (0 : Int32))).2.2.1 (by decide) (by decide) ?_
        show Go _ _ _ _ (mkF m 66 _ []) _
        refine XS.iload X0.here hx rfl (hb hby d8_66) rfl ?_
        show Go _ _ _ _ (mkF m 68 _ [(.int 0)]) _
        refine XS.iconst X0.here hx rfl (hb hby d8_68) ?_
        show Go _ _ _ _ (mkF m 69 _ [(.int 1), (.int 0)]) _
        refine XS.iadd X0.here hx rfl (hb hby d8_69) rfl ?_
        show Go _ _ _ _ (mkF m 70 _ [(.int 1)]) _
        refine XS.ineg X0.here hx rfl (hb hby d8_70) rfl ?_
        exact kt)
      exact ⟨some (.int (-1 : Int32)), s₁, _, _, _, _, X0, by decide, by decide, nofun, q28, fun fs hr => retI X0 hx hret (hb hby d8_71) hr, by rw [e0]; exact ⟨(-1 : Int32), rfl, N0, rfl, (by first | assumption | decide | omega : (-1 : Int32) = (0 : Int32) ∨ (-1 : Int32) = (-1 : Int32) ∨ (-1 : Int32) = (-2 : Int32))⟩⟩
    · have q29 := fun t (kt : Go p e below s₁ (mkF m 62 #[vR a1, vI 0, vI 1, vI p4, vI 0, vI 0, vI 0, vI x0] [(.int 0)]) t) => q26 t (by
        show Go _ _ _ _ (mkF m 48 #[vR a1, vI 0, vI 1, vI p4, vI 0, vI 0, vI 0, vI x0] [(.int p4), (.int x0)]) _
        refine XS.icmpYes X0.here hx rfl (pc0 := 48) (pc' := 60) rfl (hb hby d8_48) rfl (flt hc27).2.2.2 (by decide) (by decide) ?_
        show Go _ _ _ _ (mkF m 60 _ []) _
        refine XS.iload X0.here hx rfl (hb hby d8_60) rfl ?_
        exact kt)
      exact ⟨some (.int 0), s₁, _, _, _, _, X0, by decide, by decide, nofun, q29, fun fs hr => retI X0 hx hret (hb hby d8_62) hr, by rw [e0]; exact ⟨(0 : Int32), rfl, N0, rfl, (by first | assumption | decide | omega : (0 : Int32) = (0 : Int32) ∨ (0 : Int32) = (-1 : Int32) ∨ (0 : Int32) = (-2 : Int32))⟩⟩
def Q_rm8_2 (Z : State) (a1 : Addr) (ka : ClassId) (x0 : Int32) (x1 : Int32) (p4 : Int32) (cw : Nat → Nat) (h0 : Heap) (n0 : Nat) (v : Option Value) (h : Heap) (L : List Loc) : Prop := ∃ (r : Int32), v = some (.int r) ∧ Fr n0 L ∧ h = h0 ∧ (r = (0 : Int32) ∨ r = (1 : Int32) ∨ r = (-1 : Int32) ∨ r = (-2 : Int32) ∨ r = (-3 : Int32))
theorem rm8_2 (l : Launch) (Z : State) (a0 : Array Value) (hw : ∀ d ∈ tables_1, d.before a0 Z = true) (ws : List Jvm.Cond) {cw : Nat → Nat} (cx : Cx Z cw) (a1 : Addr) (ka : ClassId) (x0 : Int32) (x1 : Int32) (p4 : Int32) (h0 : Heap) (n0 : Nat) (O0 : Old Z n0 h0) (G0 : Arv Z h0 a1 ka .int (2 : Int32) [(.int x0), (.int x1)] (.int 0)) :
    OwnMet l ym3 (Jvm.Cond.code ym3 jdk_65_method_59_code 8 (some .int) :: ws) (own_R 0 0 0 0) #[(.ref a1), (.int 0), (.int 2), (.int p4)] Z h0 (Q_rm8_2 Z a1 ka x0 x1 p4 cw h0 n0) := by
  refine own_body (plainFor_of_name pn_8) hisR fun p e s m below meth c s₁ hx hby hml hown hnm hret hZ X0 e0 => ?_
  have N0 := Fr.nil n0
  have pre0 : ∀ t, Go p e below s₁ (mkF m 0 #[vR a1, vI 0, vI 2, vI p4, vU, vU, vU, vU] []) t → Go p e below s₁ (entryFrame m #[(.ref a1), (.int 0), (.int 2), (.int p4)] 8) t := fun t k => castTop (ef_8_RIII m a1 (0 : Int32) (2 : Int32) p4) k
  have q22 := fun t (kt : Go p e below s₁ (mkF m 27 #[vR a1, vI 0, vI 2, vI p4, vI 0, vI 1, vI 0, vU] [(.int 0), (.ref a1)]) t) => pre0 t (by
    show Go _ _ _ _ (mkF m 0 #[vR a1, vI 0, vI 2, vI p4, vU, vU, vU, vU] []) _
    refine XS.iloadN X0.here hx rfl (hb hby d8_0) rfl ?_
    show Go _ _ _ _ (mkF m 1 _ [(.int 0)]) _
    refine XS.istore X0.here hx rfl (hb hby d8_1) rfl (l' := #[vR a1, vI 0, vI 2, vI p4, vI 0, vU, vU, vU]) rfl ?_
    show Go _ _ _ _ (mkF m 3 #[vR a1, vI 0, vI 2, vI p4, vI 0, vU, vU, vU] []) _
    refine XS.iloadN X0.here hx rfl (hb hby d8_3) rfl ?_
    show Go _ _ _ _ (mkF m 4 _ [(.int 2)]) _
    refine XS.iconst X0.here hx rfl (hb hby d8_4) ?_
    show Go _ _ _ _ (mkF m 5 _ [(.int 1), (.int 2)]) _
    refine XS.isub X0.here hx rfl (hb hby d8_5) rfl ?_
    show Go _ _ _ _ (mkF m 6 _ [(.int 1)]) _
    refine XS.istore X0.here hx rfl (hb hby d8_6) rfl (l' := #[vR a1, vI 0, vI 2, vI p4, vI 0, vI 1, vU, vU]) rfl ?_
    show Go _ _ _ _ (mkF m 8 #[vR a1, vI 0, vI 2, vI p4, vI 0, vI 1, vU, vU] []) _
    refine XS.iload X0.here hx rfl (hb hby d8_8) rfl ?_
    show Go _ _ _ _ (mkF m 10 _ [(.int 0)]) _
    refine XS.iload X0.here hx rfl (hb hby d8_10) rfl ?_
    show Go _ _ _ _ (mkF m 12 _ [(.int 1), (.int 0)]) _
    refine XS.icmpNo X0.here hx rfl (hb hby d8_12) rfl (flt (by decide : ¬ ((1 : Int32) < (0 : Int32)))).2.2.1 ?_
    show Go _ _ _ _ (mkF m 15 _ []) _
    refine XS.iload X0.here hx rfl (hb hby d8_15) rfl ?_
    show Go _ _ _ _ (mkF m 17 _ [(.int 0)]) _
    refine XS.iload X0.here hx rfl (hb hby d8_17) rfl ?_
    show Go _ _ _ _ (mkF m 19 _ [(.int 1), (.int 0)]) _
    refine XS.iadd X0.here hx rfl (hb hby d8_19) rfl ?_
    show Go _ _ _ _ (mkF m 20 _ [(.int 1)]) _
    refine XS.iconst X0.here hx rfl (hb hby d8_20) ?_
    show Go _ _ _ _ (mkF m 21 _ [(.int 1), (.int 1)]) _
    refine XS.iushr X0.here hx rfl (hb hby d8_21) rfl ?_
    show Go _ _ _ _ (mkF m 22 _ [(.int 0)]) _
    refine XS.istore X0.here hx rfl (hb hby d8_22) rfl (l' := #[vR a1, vI 0, vI 2, vI p4, vI 0, vI 1, vI 0, vU]) rfl ?_
    show Go _ _ _ _ (mkF m 24 #[vR a1, vI 0, vI 2, vI p4, vI 0, vI 1, vI 0, vU] []) _
    refine XS.aloadN X0.here hx rfl (hb hby d8_24) rfl rfl ?_
    show Go _ _ _ _ (mkF m 25 _ [(.ref a1)]) _
    refine XS.iload X0.here hx rfl (hb hby d8_25) rfl ?_
    exact kt)
  obtain ⟨c21, Ar21, -, S21, N21, H21, -⟩ := id G0
  have q23 := fun t (kt : Go p e below s₁ (mkF m 33 #[vR a1, vI 0, vI 2, vI p4, vI 0, vI 1, vI 0, vI x0] [(.int p4), (.int x0)]) t) => q22 t (by
    show Go _ _ _ _ (mkF m 27 #[vR a1, vI 0, vI 2, vI p4, vI 0, vI 1, vI 0, vU] [(.int 0), (.ref a1)]) _
    refine X0.iaload hx (j := (0 : Int32)) (v := (.int x0)) (by rw [e0]; exact Ar21.1) (State.isArrayOf_alike hZ.alike Ar21.2.1) Ar21.2.2 (inb_of S21 ⟨by decide, by decide⟩) (Has.at H21 (inb_of S21 ⟨by decide, by decide⟩) rfl) (g := (mkF m 27 #[vR a1, vI 0, vI 2, vI p4, vI 0, vI 1, vI 0, vU] [(.int 0), (.ref a1)])) rfl rfl (hb hby d8_27) _ ?_
    show Go _ _ _ _ (mkF m 28 _ [(.int x0)]) _
    refine XS.istore X0.here hx rfl (hb hby d8_28) rfl (l' := #[vR a1, vI 0, vI 2, vI p4, vI 0, vI 1, vI 0, vI x0]) rfl ?_
    show Go _ _ _ _ (mkF m 30 #[vR a1, vI 0, vI 2, vI p4, vI 0, vI 1, vI 0, vI x0] []) _
    refine XS.iload X0.here hx rfl (hb hby d8_30) rfl ?_
    show Go _ _ _ _ (mkF m 32 _ [(.int x0)]) _
    refine XS.iloadN X0.here hx rfl (hb hby d8_32) rfl ?_
    exact kt)
  by_cases hc24 : x0 < p4
  · have q26 := fun t (kt : Go p e below s₁ (mkF m 27 #[vR a1, vI 0, vI 2, vI p4, vI 1, vI 1, vI 1, vI x0] [(.int 1), (.ref a1)]) t) => q23 t (by
      show Go _ _ _ _ (mkF m 33 #[vR a1, vI 0, vI 2, vI p4, vI 0, vI 1, vI 0, vI x0] [(.int p4), (.int x0)]) _
      refine XS.icmpNo X0.here hx rfl (hb hby d8_33) rfl (tlt hc24).2.1 ?_
      show Go _ _ _ _ (mkF m 36 _ []) _
      refine XS.iload X0.here hx rfl (hb hby d8_36) rfl ?_
      show Go _ _ _ _ (mkF m 38 _ [(.int 0)]) _
      refine XS.iconst X0.here hx rfl (hb hby d8_38) ?_
      show Go _ _ _ _ (mkF m 39 _ [(.int 1), (.int 0)]) _
      refine XS.iadd X0.here hx rfl (hb hby d8_39) rfl ?_
      show Go _ _ _ _ (mkF m 40 _ [(.int 1)]) _
      refine XS.istore X0.here hx rfl (hb hby d8_40) rfl (l' := #[vR a1, vI 0, vI 2, vI p4, vI 1, vI 1, vI 0, vI x0]) rfl ?_
      show Go _ _ _ _ (mkF m 42 #[vR a1, vI 0, vI 2, vI p4, vI 1, vI 1, vI 0, vI x0] []) _
      refine XS.goto X0.here hx rfl (pc0 := 42) (pc' := 63) rfl (hb hby d8_42) (by decide) (by decide) ?_
      show Go _ _ _ _ (mkF m 63 _ []) _
      refine XS.goto X0.here hx rfl (pc0 := 63) (pc' := 8) rfl (hb hby d8_63) (by decide) (by decide) ?_
      show Go _ _ _ _ (mkF m 8 _ []) _
      refine XS.iload X0.here hx rfl (hb hby d8_8) rfl ?_
      show Go _ _ _ _ (mkF m 10 _ [(.int 1)]) _
      refine XS.iload X0.here hx rfl (hb hby d8_10) rfl ?_
      show Go _ _ _ _ (mkF m 12 _ [(.int 1), (.int 1)]) _
      refine XS.icmpNo X0.here hx rfl (hb hby d8_12) rfl (flt (by decide : ¬ ((1 : Int32) < (1 : Int32)))).2.2.1 ?_
      show Go _ _ _ _ (mkF m 15 _ []) _
      refine XS.iload X0.here hx rfl (hb hby d8_15) rfl ?_
      show Go _ _ _ _ (mkF m 17 _ [(.int 1)]) _
      refine XS.iload X0.here hx rfl (hb hby d8_17) rfl ?_
      show Go _ _ _ _ (mkF m 19 _ [(.int 1), (.int 1)]) _
      refine XS.iadd X0.here hx rfl (hb hby d8_19) rfl ?_
      show Go _ _ _ _ (mkF m 20 _ [(.int 2)]) _
      refine XS.iconst X0.here hx rfl (hb hby d8_20) ?_
      show Go _ _ _ _ (mkF m 21 _ [(.int 1), (.int 2)]) _
      refine XS.iushr X0.here hx rfl (hb hby d8_21) rfl ?_
      show Go _ _ _ _ (mkF m 22 _ [(.int 1)]) _
      refine XS.istore X0.here hx rfl (hb hby d8_22) rfl (l' := #[vR a1, vI 0, vI 2, vI p4, vI 1, vI 1, vI 1, vI x0]) rfl ?_
      show Go _ _ _ _ (mkF m 24 #[vR a1, vI 0, vI 2, vI p4, vI 1, vI 1, vI 1, vI x0] []) _
      refine XS.aloadN X0.here hx rfl (hb hby d8_24) rfl rfl ?_
      show Go _ _ _ _ (mkF m 25 _ [(.ref a1)]) _
      refine XS.iload X0.here hx rfl (hb hby d8_25) rfl ?_
      exact kt)
    obtain ⟨c25, Ar25, -, S25, N25, H25, -⟩ := id G0
    have q27 := fun t (kt : Go p e below s₁ (mkF m 33 #[vR a1, vI 0, vI 2, vI p4, vI 1, vI 1, vI 1, vI x1] [(.int p4), (.int x1)]) t) => q26 t (by
      show Go _ _ _ _ (mkF m 27 #[vR a1, vI 0, vI 2, vI p4, vI 1, vI 1, vI 1, vI x0] [(.int 1), (.ref a1)]) _
      refine X0.iaload hx (j := (1 : Int32)) (v := (.int x1)) (by rw [e0]; exact Ar25.1) (State.isArrayOf_alike hZ.alike Ar25.2.1) Ar25.2.2 (inb_of S25 ⟨by decide, by decide⟩) (Has.at H25 (inb_of S25 ⟨by decide, by decide⟩) rfl) (g := (mkF m 27 #[vR a1, vI 0, vI 2, vI p4, vI 1, vI 1, vI 1, vI x0] [(.int 1), (.ref a1)])) rfl rfl (hb hby d8_27) _ ?_
      show Go _ _ _ _ (mkF m 28 _ [(.int x1)]) _
      refine XS.istore X0.here hx rfl (hb hby d8_28) rfl (l' := #[vR a1, vI 0, vI 2, vI p4, vI 1, vI 1, vI 1, vI x1]) rfl ?_
      show Go _ _ _ _ (mkF m 30 #[vR a1, vI 0, vI 2, vI p4, vI 1, vI 1, vI 1, vI x1] []) _
      refine XS.iload X0.here hx rfl (hb hby d8_30) rfl ?_
      show Go _ _ _ _ (mkF m 32 _ [(.int x1)]) _
      refine XS.iloadN X0.here hx rfl (hb hby d8_32) rfl ?_
      exact kt)
    by_cases hc28 : x1 < p4
    · have q29 := fun t (kt : Go p e below s₁ (mkF m 71 #[vR a1, vI 0, vI 2, vI p4, vI 2, vI 1, vI 1, vI x1] [(.int (-3 : Int32))]) t) => q27 t (by
        show Go _ _ _ _ (mkF m 33 #[vR a1, vI 0, vI 2, vI p4, vI 1, vI 1, vI 1, vI x1] [(.int p4), (.int x1)]) _
        refine XS.icmpNo X0.here hx rfl (hb hby d8_33) rfl (tlt hc28).2.1 ?_
        show Go _ _ _ _ (mkF m 36 _ []) _
        refine XS.iload X0.here hx rfl (hb hby d8_36) rfl ?_
        show Go _ _ _ _ (mkF m 38 _ [(.int 1)]) _
        refine XS.iconst X0.here hx rfl (hb hby d8_38) ?_
        show Go _ _ _ _ (mkF m 39 _ [(.int 1), (.int 1)]) _
        refine XS.iadd X0.here hx rfl (hb hby d8_39) rfl ?_
        show Go _ _ _ _ (mkF m 40 _ [(.int 2)]) _
        refine XS.istore X0.here hx rfl (hb hby d8_40) rfl (l' := #[vR a1, vI 0, vI 2, vI p4, vI 2, vI 1, vI 1, vI x1]) rfl ?_
        show Go _ _ _ _ (mkF m 42 #[vR a1, vI 0, vI 2, vI p4, vI 2, vI 1, vI 1, vI x1] []) _
        refine XS.goto X0.here hx rfl (pc0 := 42) (pc' := 63) rfl (hb hby d8_42) (by decide) (by decide) ?_
        show Go _ _ _ _ (mkF m 63 _ []) _
        refine XS.goto X0.here hx rfl (pc0 := 63) (pc' := 8) rfl (hb hby d8_63) (by decide) (by decide) ?_
        show Go _ _ _ _ (mkF m 8 _ []) _
        refine XS.iload X0.here hx rfl (hb hby d8_8) rfl ?_
        show Go _ _ _ _ (mkF m 10 _ [(.int 2)]) _
        refine XS.iload X0.here hx rfl (hb hby d8_10) rfl ?_
        show Go _ _ _ _ (mkF m 12 _ [(.int 1), (.int 2)]) _
        refine XS.icmpYes X0.here hx rfl (pc0 := 12) (pc' := 66) rfl (hb hby d8_12) rfl (tlt (by decide : (1 : Int32) < (2 : Int32))).2.2.1 (by decide) (by decide) ?_
        show Go _ _ _ _ (mkF m 66 _ []) _
        refine XS.iload X0.here hx rfl (hb hby d8_66) rfl ?_
        show Go _ _ _ _ (mkF m 68 _ [(.int 2)]) _
        refine XS.iconst X0.here hx rfl (hb hby d8_68) ?_
        show Go _ _ _ _ (mkF m 69 _ [(.int 1), (.int 2)]) _
        refine XS.iadd X0.here hx rfl (hb hby d8_69) rfl ?_
        show Go _ _ _ _ (mkF m 70 _ [(.int 3)]) _
        refine XS.ineg X0.here hx rfl (hb hby d8_70) rfl ?_
        exact kt)
      exact ⟨some (.int (-3 : Int32)), s₁, _, _, _, _, X0, by decide, by decide, nofun, q29, fun fs hr => retI X0 hx hret (hb hby d8_71) hr, by rw [e0]; exact ⟨(-3 : Int32), rfl, N0, rfl, (by first | assumption | decide | omega : (-3 : Int32) = (0 : Int32) ∨ (-3 : Int32) = (1 : Int32) ∨ (-3 : Int32) = (-1 : Int32) ∨ (-3 : Int32) = (-2 : Int32) ∨ (-3 : Int32) = (-3 : Int32))⟩⟩
    · have q30 := fun t (kt : Go p e below s₁ (mkF m 48 #[vR a1, vI 0, vI 2, vI p4, vI 1, vI 1, vI 1, vI x1] [(.int p4), (.int x1)]) t) => q27 t (by
        show Go _ _ _ _ (mkF m 33 #[vR a1, vI 0, vI 2, vI p4, vI 1, vI 1, vI 1, vI x1] [(.int p4), (.int x1)]) _
        refine XS.icmpYes X0.here hx rfl (pc0 := 33) (pc' := 45) rfl (hb hby d8_33) rfl (flt hc28).2.1 (by decide) (by decide) ?_
        show Go _ _ _ _ (mkF m 45 _ []) _
        refine XS.iload X0.here hx rfl (hb hby d8_45) rfl ?_
        show Go _ _ _ _ (mkF m 47 _ [(.int x1)]) _
        refine XS.iloadN X0.here hx rfl (hb hby d8_47) rfl ?_
        exact kt)
      by_cases hc31 : p4 < x1
      · have q32 := fun t (kt : Go p e below s₁ (mkF m 71 #[vR a1, vI 0, vI 2, vI p4, vI 1, vI 0, vI 1, vI x1] [(.int (-2 : Int32))]) t) => q30 t (by
          show Go _ _ _ _ (mkF m 48 #[vR a1, vI 0, vI 2, vI p4, vI 1, vI 1, vI 1, vI x1] [(.int p4), (.int x1)]) _
          refine XS.icmpNo X0.here hx rfl (hb hby d8_48) rfl (tlt hc31).2.2.2 ?_
          show Go _ _ _ _ (mkF m 51 _ []) _
          refine XS.iload X0.here hx rfl (hb hby d8_51) rfl ?_
          show Go _ _ _ _ (mkF m 53 _ [(.int 1)]) _
          refine XS.iconst X0.here hx rfl (hb hby d8_53) ?_
          show Go _ _ _ _ (mkF m 54 _ [(.int 1), (.int 1)]) _
          refine XS.isub X0.here hx rfl (hb hby d8_54) rfl ?_
          show Go _ _ _ _ (mkF m 55 _ [(.int 0)]) _
          refine XS.istore X0.here hx rfl (hb hby d8_55) rfl (l' := #[vR a1, vI 0, vI 2, vI p4, vI 1, vI 0, vI 1, vI x1]) rfl ?_
          show Go _ _ _ _ (mkF m 57 #[vR a1, vI 0, vI 2, vI p4, vI 1, vI 0, vI 1, vI x1] []) _
          refine XS.goto X0.here hx rfl (pc0 := 57) (pc' := 63) rfl (hb hby d8_57) (by decide) (by decide) ?_
          show Go _ _ _ _ (mkF m 63 _ []) _
          refine XS.goto X0.here hx rfl (pc0 := 63) (pc' := 8) rfl (hb hby d8_63) (by decide) (by decide) ?_
          show Go _ _ _ _ (mkF m 8 _ []) _
          refine XS.iload X0.here hx rfl (hb hby d8_8) rfl ?_
          show Go _ _ _ _ (mkF m 10 _ [(.int 1)]) _
          refine XS.iload X0.here hx rfl (hb hby d8_10) rfl ?_
          show Go _ _ _ _ (mkF m 12 _ [(.int 0), (.int 1)]) _
          refine XS.icmpYes X0.here hx rfl (pc0 := 12) (pc' := 66) rfl (hb hby d8_12) rfl (tlt (by decide : (0 : Int32) < (1 : Int32))).2.2.1 (by decide) (by decide) ?_
          show Go _ _ _ _ (mkF m 66 _ []) _
          refine XS.iload X0.here hx rfl (hb hby d8_66) rfl ?_
          show Go _ _ _ _ (mkF m 68 _ [(.int 1)]) _
          refine XS.iconst X0.here hx rfl (hb hby d8_68) ?_
          show Go _ _ _ _ (mkF m 69 _ [(.int 1), (.int 1)]) _
          refine XS.iadd X0.here hx rfl (hb hby d8_69) rfl ?_
          show Go _ _ _ _ (mkF m 70 _ [(.int 2)]) _
          refine XS.ineg X0.here hx rfl (hb hby d8_70) rfl ?_
          exact kt)
        exact ⟨some (.int (-2 : Int32)), s₁, _, _, _, _, X0, by decide, by decide, nofun, q32, fun fs hr => retI X0 hx hret (hb hby d8_71) hr, by rw [e0]; exact ⟨(-2 : Int32), rfl, N0, rfl, (by first | assumption | decide | omega : (-2 : Int32) = (0 : Int32) ∨ (-2 : Int32) = (1 : Int32) ∨ (-2 : Int32) = (-1 : Int32) ∨ (-2 : Int32) = (-2 : Int32) ∨ (-2 : Int32) = (-3 : Int32))⟩⟩
      · have q33 := fun t (kt : Go p e below s₁ (mkF m 62 #[vR a1, vI 0, vI 2, vI p4, vI 1, vI 1, vI 1, vI x1] [(.int 1)]) t) => q30 t (by
          show Go _ _ _ _ (mkF m 48 #[vR a1, vI 0, vI 2, vI p4, vI 1, vI 1, vI 1, vI x1] [(.int p4), (.int x1)]) _
          refine XS.icmpYes X0.here hx rfl (pc0 := 48) (pc' := 60) rfl (hb hby d8_48) rfl (flt hc31).2.2.2 (by decide) (by decide) ?_
          show Go _ _ _ _ (mkF m 60 _ []) _
          refine XS.iload X0.here hx rfl (hb hby d8_60) rfl ?_
          exact kt)
        exact ⟨some (.int 1), s₁, _, _, _, _, X0, by decide, by decide, nofun, q33, fun fs hr => retI X0 hx hret (hb hby d8_62) hr, by rw [e0]; exact ⟨(1 : Int32), rfl, N0, rfl, (by first | assumption | decide | omega : (1 : Int32) = (0 : Int32) ∨ (1 : Int32) = (1 : Int32) ∨ (1 : Int32) = (-1 : Int32) ∨ (1 : Int32) = (-2 : Int32) ∨ (1 : Int32) = (-3 : Int32))⟩⟩
  · have q34 := fun t (kt : Go p e below s₁ (mkF m 48 #[vR a1, vI 0, vI 2, vI p4, vI 0, vI 1, vI 0, vI x0] [(.int p4), (.int x0)]) t) => q23 t (by
      show Go _ _ _ _ (mkF m 33 #[vR a1, vI 0, vI 2, vI p4, vI 0, vI 1, vI 0, vI x0] [(.int p4), (.int x0)]) _
      refine XS.icmpYes X0.here hx rfl (pc0 := 33) (pc' := 45) rfl (hb hby d8_33) rfl (flt hc24).2.1 (by decide) (by decide) ?_
      show Go _ _ _ _ (mkF m 45 _ []) _
      refine XS.iload X0.here hx rfl (hb hby d8_45) rfl ?_
      show Go _ _ _ _ (mkF m 47 _ [(.int x0)]) _
      refine XS.iloadN X0.here hx rfl (hb hby d8_47) rfl ?_
      exact kt)
    by_cases hc35 : p4 < x0
    · have q36 := fun t (kt : Go p e below s₁ (mkF m 71 #[vR a1, vI 0, vI 2, vI p4, vI 0, vI (-1 : Int32), vI 0, vI x0] [(.int (-1 : Int32))]) t) => q34 t (by
        show Go _ _ _ _ (mkF m 48 #[vR a1, vI 0, vI 2, vI p4, vI 0, vI 1, vI 0, vI x0] [(.int p4), (.int x0)]) _
        refine XS.icmpNo X0.here hx rfl (hb hby d8_48) rfl (tlt hc35).2.2.2 ?_
        show Go _ _ _ _ (mkF m 51 _ []) _
        refine XS.iload X0.here hx rfl (hb hby d8_51) rfl ?_
        show Go _ _ _ _ (mkF m 53 _ [(.int 0)]) _
        refine XS.iconst X0.here hx rfl (hb hby d8_53) ?_
        show Go _ _ _ _ (mkF m 54 _ [(.int 1), (.int 0)]) _
        refine XS.isub X0.here hx rfl (hb hby d8_54) rfl ?_
        show Go _ _ _ _ (mkF m 55 _ [(.int (-1 : Int32))]) _
        refine XS.istore X0.here hx rfl (hb hby d8_55) rfl (l' := #[vR a1, vI 0, vI 2, vI p4, vI 0, vI (-1 : Int32), vI 0, vI x0]) rfl ?_
        show Go _ _ _ _ (mkF m 57 #[vR a1, vI 0, vI 2, vI p4, vI 0, vI (-1 : Int32), vI 0, vI x0] []) _
        refine XS.goto X0.here hx rfl (pc0 := 57) (pc' := 63) rfl (hb hby d8_57) (by decide) (by decide) ?_
        show Go _ _ _ _ (mkF m 63 _ []) _
        refine XS.goto X0.here hx rfl (pc0 := 63) (pc' := 8) rfl (hb hby d8_63) (by decide) (by decide) ?_
        show Go _ _ _ _ (mkF m 8 _ []) _
        refine XS.iload X0.here hx rfl (hb hby d8_8) rfl ?_
        show Go _ _ _ _ (mkF m 10 _ [(.int 0)]) _
        refine XS.iload X0.here hx rfl (hb hby d8_10) rfl ?_
        show Go _ _ _ _ (mkF m 12 _ [(.int (-1 : Int32)), (.int 0)]) _
        refine XS.icmpYes X0.here hx rfl (pc0 := 12) (pc' := 66) rfl (hb hby d8_12) rfl (tlt (by decide : (-1 : Int32) < (0 : Int32))).2.2.1 (by decide) (by decide) ?_
        show Go _ _ _ _ (mkF m 66 _ []) _
        refine XS.iload X0.here hx rfl (hb hby d8_66) rfl ?_
        show Go _ _ _ _ (mkF m 68 _ [(.int 0)]) _
        refine XS.iconst X0.here hx rfl (hb hby d8_68) ?_
        show Go _ _ _ _ (mkF m 69 _ [(.int 1), (.int 0)]) _
        refine XS.iadd X0.here hx rfl (hb hby d8_69) rfl ?_
        show Go _ _ _ _ (mkF m 70 _ [(.int 1)]) _
        refine XS.ineg X0.here hx rfl (hb hby d8_70) rfl ?_
        exact kt)
      exact ⟨some (.int (-1 : Int32)), s₁, _, _, _, _, X0, by decide, by decide, nofun, q36, fun fs hr => retI X0 hx hret (hb hby d8_71) hr, by rw [e0]; exact ⟨(-1 : Int32), rfl, N0, rfl, (by first | assumption | decide | omega : (-1 : Int32) = (0 : Int32) ∨ (-1 : Int32) = (1 : Int32) ∨ (-1 : Int32) = (-1 : Int32) ∨ (-1 : Int32) = (-2 : Int32) ∨ (-1 : Int32) = (-3 : Int32))⟩⟩
    · have q37 := fun t (kt : Go p e below s₁ (mkF m 62 #[vR a1, vI 0, vI 2, vI p4, vI 0, vI 1, vI 0, vI x0] [(.int 0)]) t) => q34 t (by
        show Go _ _ _ _ (mkF m 48 #[vR a1, vI 0, vI 2, vI p4, vI 0, vI 1, vI 0, vI x0] [(.int p4), (.int x0)]) _
        refine XS.icmpYes X0.here hx rfl (pc0 := 48) (pc' := 60) rfl (hb hby d8_48) rfl (flt hc35).2.2.2 (by decide) (by decide) ?_
        show Go _ _ _ _ (mkF m 60 _ []) _
        refine XS.iload X0.here hx rfl (hb hby d8_60) rfl ?_
        exact kt)
      exact ⟨some (.int 0), s₁, _, _, _, _, X0, by decide, by decide, nofun, q37, fun fs hr => retI X0 hx hret (hb hby d8_62) hr, by rw [e0]; exact ⟨(0 : Int32), rfl, N0, rfl, (by first | assumption | decide | omega : (0 : Int32) = (0 : Int32) ∨ (0 : Int32) = (1 : Int32) ∨ (0 : Int32) = (-1 : Int32) ∨ (0 : Int32) = (-2 : Int32) ∨ (0 : Int32) = (-3 : Int32))⟩⟩
theorem ef_6_RIII (m : MethodId) (x0 : Addr) (x1 : Int32) (x2 : Int32) (x3 : Int32) : entryFrame m #[(.ref x0), (.int x1), (.int x2), (.int x3)] 4 = mkF m 0 #[.val (.ref x0), .val (.int x1), .val (.int x2), .val (.int x3)] [] := by first | (simp [entryFrame, mkF, argsToLocals, Value.category]; done) | rfl
theorem pn_6 : plainName "java/util/Arrays" = true := by first | (simp [plainName, overriddenIn]; done) | decide +kernel
theorem d6_0 : decode jdk_65_method_58_code 0 = .ok (.aload_n 0, 1) := by decide +kernel
theorem d6_1 : decode jdk_65_method_58_code 1 = .ok (.arraylength, 1) := by decide +kernel
theorem d6_2 : decode jdk_65_method_58_code 2 = .ok (.iload_n 1, 1) := by decide +kernel
theorem d6_3 : decode jdk_65_method_58_code 3 = .ok (.iload_n 2, 1) := by decide +kernel
theorem d6_4 : decode jdk_65_method_58_code 4 = .ok (.invokestatic 13, 3) := by decide +kernel
theorem pd_0 : parseMethodDescriptor "(III)V" = some ⟨[.int, .int, .int], none⟩ := by decide +kernel
theorem d6_7 : decode jdk_65_method_58_code 7 = .ok (.aload_n 0, 1) := by decide +kernel
theorem d6_8 : decode jdk_65_method_58_code 8 = .ok (.iload_n 1, 1) := by decide +kernel
theorem d6_9 : decode jdk_65_method_58_code 9 = .ok (.iload_n 2, 1) := by decide +kernel
theorem d6_10 : decode jdk_65_method_58_code 10 = .ok (.iload_n 3, 1) := by decide +kernel
theorem d6_11 : decode jdk_65_method_58_code 11 = .ok (.invokestatic 209, 3) := by decide +kernel
theorem pd_1 : parseMethodDescriptor "([IIII)I" = some ⟨[(.array .int), .int, .int, .int], some .int⟩ := by decide +kernel
theorem d6_14 : decode jdk_65_method_58_code 14 = .ok (.ireturn, 1) := by decide +kernel
def Q_rm6_0 (Z : State) (a1 : Addr) (ka : ClassId) (p4 : Int32) (cw : Nat → Nat) (h0 : Heap) (n0 : Nat) (v : Option Value) (h : Heap) (L : List Loc) : Prop := v = some (.int (-1 : Int32)) ∧ Fr n0 L ∧ h = h0
theorem rm6_0 (l : Launch) (Z : State) (a0 : Array Value) (hw : ∀ d ∈ tables_1, d.before a0 Z = true) (ws : List Jvm.Cond) {cw : Nat → Nat} (cx : Cx Z cw) (a1 : Addr) (ka : ClassId) (p4 : Int32) (h0 : Heap) (n0 : Nat) (O0 : Old Z n0 h0) (G0 : Arv Z h0 a1 ka .int (0 : Int32) [] (.int 0)) :
    OwnMet l ym4 (Jvm.Cond.code ym4 jdk_65_method_58_code 4 (some .int) :: ws) (own_R 1 0 0 19) #[(.ref a1), (.int 0), (.int 0), (.int p4)] Z h0 (Q_rm6_0 Z a1 ka p4 cw h0 n0) := by
  refine own_body (plainFor_of_name pn_6) hisR fun p e s m below meth c s₁ hx hby hml hown hnm hret hZ X0 e0 => ?_
  have N0 := Fr.nil n0
  have pre0 : ∀ t, Go p e below s₁ (mkF m 0 #[vR a1, vI 0, vI 0, vI p4] []) t → Go p e below s₁ (entryFrame m #[(.ref a1), (.int 0), (.int 0), (.int p4)] 4) t := fun t k => castTop (ef_6_RIII m a1 (0 : Int32) (0 : Int32) p4) k
  have q22 := fun t (kt : Go p e below s₁ (mkF m 1 #[vR a1, vI 0, vI 0, vI p4] [(.ref a1)]) t) => pre0 t (by
    show Go _ _ _ _ (mkF m 0 #[vR a1, vI 0, vI 0, vI p4] []) _
    refine XS.aloadN X0.here hx rfl (hb hby d6_0) rfl rfl ?_
    exact kt)
  obtain ⟨c21, Ar21, -, S21, N21, -, -⟩ := id G0
  have q23 := fun t (kt : Go p e below s₁ (mkF m 4 #[vR a1, vI 0, vI 0, vI p4] [(.int 0), (.int 0), (.int 0)]) t) => q22 t (by
    show Go _ _ _ _ (mkF m 1 #[vR a1, vI 0, vI 0, vI p4] [(.ref a1)]) _
    refine X0.arraylength hx (by rw [e0]; exact Ar21.1) (State.isArrayOf_alike hZ.alike Ar21.2.1) (g := (mkF m 1 #[vR a1, vI 0, vI 0, vI p4] [(.ref a1)])) rfl rfl (hb hby d6_1) _ ?_
    rw [len_of S21 N21]
    show Go _ _ _ _ (mkF m 2 _ [(.int 0)]) _
    refine XS.iloadN X0.here hx rfl (hb hby d6_2) rfl ?_
    show Go _ _ _ _ (mkF m 3 _ [(.int 0), (.int 0)]) _
    refine XS.iloadN X0.here hx rfl (hb hby d6_3) rfl ?_
    exact kt)
  obtain ⟨_, _, ⟨T24, L24, k24, n24⟩, -, X24, ⟨_, hQ24, l24, y24, z24⟩, st24⟩ := Jvm.LawKit.callS X0 hx (y := ym2) hown (ow hZ hw 39 rfl) (ow hZ hw 40 rfl) (ow hZ hw 37 rfl) (ow hZ hw 41 rfl) (by decide) (backOf (W := 0) (rm7 l Z a0 hw [] cx (0 : Int32) (0 : Int32) h0 n0 O0 (by decide : ¬ ((0 : Int32) < (0 : Int32))) (by decide : ¬ ((0 : Int32) < (0 : Int32)))) hZ (ox hw 41 rfl) (ox hw 37 rfl) (by decide) (by decide)) (g := (mkF m 4 #[vR a1, vI 0, vI 0, vI p4] [(.int 0), (.int 0), (.int 0)])) rfl (by rw [hml]; rfl) (argsL := [(.int 0), (.int 0), (.int 0)]) (rest := []) (lenOf pd_0 rfl) rfl own_le0 (hb hby d6_4) (fun _ _ => ⟨rfl, e0, (by decide : 0 + 0 ≤ _), (by decide : 0 + 0 ≤ _)⟩)
  dsimp only [Pt.U, Pt.locs, Pt.cells, Pt.slots] at X24 l24 y24 z24 st24 hQ24
  subst l24 y24 z24
  obtain ⟨rfl, Nq24, eq24⟩ := hQ24
  have N25 := Fr.app N0 Nq24
  have q26 := fun t (kt : Go p e below T24 (mkF m 11 #[vR a1, vI 0, vI 0, vI p4] [(.int p4), (.int 0), (.int 0), (.ref a1)]) t) => q23 t (st24 t (by
    show Go _ _ _ _ (mkF m 7 #[vR a1, vI 0, vI 0, vI p4] []) _
    refine XS.aloadN X24.here hx rfl (hb hby d6_7) rfl rfl ?_
    show Go _ _ _ _ (mkF m 8 _ [(.ref a1)]) _
    refine XS.iloadN X24.here hx rfl (hb hby d6_8) rfl ?_
    show Go _ _ _ _ (mkF m 9 _ [(.int 0), (.ref a1)]) _
    refine XS.iloadN X24.here hx rfl (hb hby d6_9) rfl ?_
    show Go _ _ _ _ (mkF m 10 _ [(.int 0), (.int 0), (.ref a1)]) _
    refine XS.iloadN X24.here hx rfl (hb hby d6_10) rfl ?_
    exact kt))
  obtain ⟨_, _, ⟨T27, L27, k27, n27⟩, -, X27, ⟨_, hQ27, l27, y27, z27⟩, st27⟩ := Jvm.LawKit.callS X24 hx (y := ym3) hown (ow hZ hw 42 rfl) (ow hZ hw 43 rfl) (ow hZ hw 37 rfl) (ow hZ hw 44 rfl) (by decide) (backOf (W := 0) (rm8_0 l Z a0 hw [] cx a1 p4 h0 n0 O0 ) hZ (ox hw 44 rfl) (ox hw 37 rfl) (by decide) (by decide)) (g := (mkF m 11 #[vR a1, vI 0, vI 0, vI p4] [(.int p4), (.int 0), (.int 0), (.ref a1)])) rfl (by rw [hml]; rfl) (argsL := [(.ref a1), (.int 0), (.int 0), (.int p4)]) (rest := []) (lenOf pd_1 rfl) rfl own_le0 (hb hby d6_11) (fun _ _ => ⟨rfl, eq24, (by decide : 0 + 0 ≤ _), (by decide : 0 + 0 ≤ _)⟩)
  dsimp only [Pt.U, Pt.locs, Pt.cells, Pt.slots] at X27 l27 y27 z27 st27 hQ27
  subst l27 y27 z27
  obtain ⟨rfl, Nq27, eq27⟩ := hQ27
  have N28 := Fr.app N25 Nq27
  have q29 := fun t (kt : Go p e below T27 (mkF m 14 #[vR a1, vI 0, vI 0, vI p4] [(.int (-1 : Int32))]) t) => q26 t (st27 t kt)
  exact ⟨some (.int (-1 : Int32)), T27, _, _, _, _, X27, by decide, by decide, nofun, q29, fun fs hr => retI X27 hx hret (hb hby d6_14) hr, by rw [eq27]; exact ⟨rfl, N28, rfl⟩⟩
def Q_rm6_1 (Z : State) (a1 : Addr) (ka : ClassId) (x0 : Int32) (x1 : Int32) (p4 : Int32) (cw : Nat → Nat) (h0 : Heap) (n0 : Nat) (v : Option Value) (h : Heap) (L : List Loc) : Prop := ∃ (r : Int32), v = some (.int r) ∧ Fr n0 L ∧ h = h0 ∧ (r = (0 : Int32) ∨ r = (-1 : Int32) ∨ r = (-2 : Int32))
theorem rm6_1 (l : Launch) (Z : State) (a0 : Array Value) (hw : ∀ d ∈ tables_1, d.before a0 Z = true) (ws : List Jvm.Cond) {cw : Nat → Nat} (cx : Cx Z cw) (a1 : Addr) (ka : ClassId) (x0 : Int32) (x1 : Int32) (p4 : Int32) (h0 : Heap) (n0 : Nat) (O0 : Old Z n0 h0) (G0 : Arv Z h0 a1 ka .int (2 : Int32) [(.int x0), (.int x1)] (.int 0)) :
    OwnMet l ym4 (Jvm.Cond.code ym4 jdk_65_method_58_code 4 (some .int) :: ws) (own_R 1 0 0 19) #[(.ref a1), (.int 0), (.int 1), (.int p4)] Z h0 (Q_rm6_1 Z a1 ka x0 x1 p4 cw h0 n0) := by
  refine own_body (plainFor_of_name pn_6) hisR fun p e s m below meth c s₁ hx hby hml hown hnm hret hZ X0 e0 => ?_
  have N0 := Fr.nil n0
  have pre0 : ∀ t, Go p e below s₁ (mkF m 0 #[vR a1, vI 0, vI 1, vI p4] []) t → Go p e below s₁ (entryFrame m #[(.ref a1), (.int 0), (.int 1), (.int p4)] 4) t := fun t k => castTop (ef_6_RIII m a1 (0 : Int32) (1 : Int32) p4) k
  have q22 := fun t (kt : Go p e below s₁ (mkF m 1 #[vR a1, vI 0, vI 1, vI p4] [(.ref a1)]) t) => pre0 t (by
    show Go _ _ _ _ (mkF m 0 #[vR a1, vI 0, vI 1, vI p4] []) _
    refine XS.aloadN X0.here hx rfl (hb hby d6_0) rfl rfl ?_
    exact kt)
  obtain ⟨c21, Ar21, -, S21, N21, -, -⟩ := id G0
  have q23 := fun t (kt : Go p e below s₁ (mkF m 4 #[vR a1, vI 0, vI 1, vI p4] [(.int 1), (.int 0), (.int 2)]) t) => q22 t (by
    show Go _ _ _ _ (mkF m 1 #[vR a1, vI 0, vI 1, vI p4] [(.ref a1)]) _
    refine X0.arraylength hx (by rw [e0]; exact Ar21.1) (State.isArrayOf_alike hZ.alike Ar21.2.1) (g := (mkF m 1 #[vR a1, vI 0, vI 1, vI p4] [(.ref a1)])) rfl rfl (hb hby d6_1) _ ?_
    rw [len_of S21 N21]
    show Go _ _ _ _ (mkF m 2 _ [(.int 2)]) _
    refine XS.iloadN X0.here hx rfl (hb hby d6_2) rfl ?_
    show Go _ _ _ _ (mkF m 3 _ [(.int 0), (.int 2)]) _
    refine XS.iloadN X0.here hx rfl (hb hby d6_3) rfl ?_
    exact kt)
  obtain ⟨_, _, ⟨T24, L24, k24, n24⟩, -, X24, ⟨_, hQ24, l24, y24, z24⟩, st24⟩ := Jvm.LawKit.callS X0 hx (y := ym2) hown (ow hZ hw 39 rfl) (ow hZ hw 40 rfl) (ow hZ hw 37 rfl) (ow hZ hw 41 rfl) (by decide) (backOf (W := 0) (rm7 l Z a0 hw [] cx (2 : Int32) (1 : Int32) h0 n0 O0 (by decide : ¬ ((1 : Int32) < (0 : Int32))) (by decide : ¬ ((2 : Int32) < (1 : Int32)))) hZ (ox hw 41 rfl) (ox hw 37 rfl) (by decide) (by decide)) (g := (mkF m 4 #[vR a1, vI 0, vI 1, vI p4] [(.int 1), (.int 0), (.int 2)])) rfl (by rw [hml]; rfl) (argsL := [(.int 2), (.int 0), (.int 1)]) (rest := []) (lenOf pd_0 rfl) rfl own_le0 (hb hby d6_4) (fun _ _ => ⟨rfl, e0, (by decide : 0 + 0 ≤ _), (by decide : 0 + 0 ≤ _)⟩)
  dsimp only [Pt.U, Pt.locs, Pt.cells, Pt.slots] at X24 l24 y24 z24 st24 hQ24
  subst l24 y24 z24
  obtain ⟨rfl, Nq24, eq24⟩ := hQ24
  have N25 := Fr.app N0 Nq24
  have q26 := fun t (kt : Go p e below T24 (mkF m 11 #[vR a1, vI 0, vI 1, vI p4] [(.int p4), (.int 1), (.int 0), (.ref a1)]) t) => q23 t (st24 t (by
    show Go _ _ _ _ (mkF m 7 #[vR a1, vI 0, vI 1, vI p4] []) _
    refine XS.aloadN X24.here hx rfl (hb hby d6_7) rfl rfl ?_
    show Go _ _ _ _ (mkF m 8 _ [(.ref a1)]) _
    refine XS.iloadN X24.here hx rfl (hb hby d6_8) rfl ?_
    show Go _ _ _ _ (mkF m 9 _ [(.int 0), (.ref a1)]) _
    refine XS.iloadN X24.here hx rfl (hb hby d6_9) rfl ?_
    show Go _ _ _ _ (mkF m 10 _ [(.int 1), (.int 0), (.ref a1)]) _
    refine XS.iloadN X24.here hx rfl (hb hby d6_10) rfl ?_
    exact kt))
  obtain ⟨_, _, ⟨T27, L27, k27, n27⟩, -, X27, ⟨_, hQ27, l27, y27, z27⟩, st27⟩ := Jvm.LawKit.callS X24 hx (y := ym3) hown (ow hZ hw 42 rfl) (ow hZ hw 43 rfl) (ow hZ hw 37 rfl) (ow hZ hw 44 rfl) (by decide) (backOf (W := 0) (rm8_1 l Z a0 hw [] cx a1 ka x0 x1 p4 h0 n0 O0 G0) hZ (ox hw 44 rfl) (ox hw 37 rfl) (by decide) (by decide)) (g := (mkF m 11 #[vR a1, vI 0, vI 1, vI p4] [(.int p4), (.int 1), (.int 0), (.ref a1)])) rfl (by rw [hml]; rfl) (argsL := [(.ref a1), (.int 0), (.int 1), (.int p4)]) (rest := []) (lenOf pd_1 rfl) rfl own_le0 (hb hby d6_11) (fun _ _ => ⟨rfl, eq24, (by decide : 0 + 0 ≤ _), (by decide : 0 + 0 ≤ _)⟩)
  dsimp only [Pt.U, Pt.locs, Pt.cells, Pt.slots] at X27 l27 y27 z27 st27 hQ27
  subst l27 y27 z27
  obtain ⟨r_27, rfl, Nq27, eq27, pq27_0⟩ := hQ27
  have N28 := Fr.app N25 Nq27
  have q29 := fun t (kt : Go p e below T27 (mkF m 14 #[vR a1, vI 0, vI 1, vI p4] [(.int r_27)]) t) => q26 t (st27 t kt)
  exact ⟨some (.int r_27), T27, _, _, _, _, X27, by decide, by decide, nofun, q29, fun fs hr => retI X27 hx hret (hb hby d6_14) hr, by rw [eq27]; exact ⟨r_27, rfl, N28, rfl, pq27_0⟩⟩
def Q_rm6_2 (Z : State) (a1 : Addr) (ka : ClassId) (x0 : Int32) (x1 : Int32) (p4 : Int32) (cw : Nat → Nat) (h0 : Heap) (n0 : Nat) (v : Option Value) (h : Heap) (L : List Loc) : Prop := ∃ (r : Int32), v = some (.int r) ∧ Fr n0 L ∧ h = h0 ∧ (r = (0 : Int32) ∨ r = (1 : Int32) ∨ r = (-1 : Int32) ∨ r = (-2 : Int32) ∨ r = (-3 : Int32))
theorem rm6_2 (l : Launch) (Z : State) (a0 : Array Value) (hw : ∀ d ∈ tables_1, d.before a0 Z = true) (ws : List Jvm.Cond) {cw : Nat → Nat} (cx : Cx Z cw) (a1 : Addr) (ka : ClassId) (x0 : Int32) (x1 : Int32) (p4 : Int32) (h0 : Heap) (n0 : Nat) (O0 : Old Z n0 h0) (G0 : Arv Z h0 a1 ka .int (2 : Int32) [(.int x0), (.int x1)] (.int 0)) :
    OwnMet l ym4 (Jvm.Cond.code ym4 jdk_65_method_58_code 4 (some .int) :: ws) (own_R 1 0 0 19) #[(.ref a1), (.int 0), (.int 2), (.int p4)] Z h0 (Q_rm6_2 Z a1 ka x0 x1 p4 cw h0 n0) := by
  refine own_body (plainFor_of_name pn_6) hisR fun p e s m below meth c s₁ hx hby hml hown hnm hret hZ X0 e0 => ?_
  have N0 := Fr.nil n0
  have pre0 : ∀ t, Go p e below s₁ (mkF m 0 #[vR a1, vI 0, vI 2, vI p4] []) t → Go p e below s₁ (entryFrame m #[(.ref a1), (.int 0), (.int 2), (.int p4)] 4) t := fun t k => castTop (ef_6_RIII m a1 (0 : Int32) (2 : Int32) p4) k
  have q22 := fun t (kt : Go p e below s₁ (mkF m 1 #[vR a1, vI 0, vI 2, vI p4] [(.ref a1)]) t) => pre0 t (by
    show Go _ _ _ _ (mkF m 0 #[vR a1, vI 0, vI 2, vI p4] []) _
    refine XS.aloadN X0.here hx rfl (hb hby d6_0) rfl rfl ?_
    exact kt)
  obtain ⟨c21, Ar21, -, S21, N21, -, -⟩ := id G0
  have q23 := fun t (kt : Go p e below s₁ (mkF m 4 #[vR a1, vI 0, vI 2, vI p4] [(.int 2), (.int 0), (.int 2)]) t) => q22 t (by
    show Go _ _ _ _ (mkF m 1 #[vR a1, vI 0, vI 2, vI p4] [(.ref a1)]) _
    refine X0.arraylength hx (by rw [e0]; exact Ar21.1) (State.isArrayOf_alike hZ.alike Ar21.2.1) (g := (mkF m 1 #[vR a1, vI 0, vI 2, vI p4] [(.ref a1)])) rfl rfl (hb hby d6_1) _ ?_
    rw [len_of S21 N21]
    show Go _ _ _ _ (mkF m 2 _ [(.int 2)]) _
    refine XS.iloadN X0.here hx rfl (hb hby d6_2) rfl ?_
    show Go _ _ _ _ (mkF m 3 _ [(.int 0), (.int 2)]) _
    refine XS.iloadN X0.here hx rfl (hb hby d6_3) rfl ?_
    exact kt)
  obtain ⟨_, _, ⟨T24, L24, k24, n24⟩, -, X24, ⟨_, hQ24, l24, y24, z24⟩, st24⟩ := Jvm.LawKit.callS X0 hx (y := ym2) hown (ow hZ hw 39 rfl) (ow hZ hw 40 rfl) (ow hZ hw 37 rfl) (ow hZ hw 41 rfl) (by decide) (backOf (W := 0) (rm7 l Z a0 hw [] cx (2 : Int32) (2 : Int32) h0 n0 O0 (by decide : ¬ ((2 : Int32) < (0 : Int32))) (by decide : ¬ ((2 : Int32) < (2 : Int32)))) hZ (ox hw 41 rfl) (ox hw 37 rfl) (by decide) (by decide)) (g := (mkF m 4 #[vR a1, vI 0, vI 2, vI p4] [(.int 2), (.int 0), (.int 2)])) rfl (by rw [hml]; rfl) (argsL := [(.int 2), (.int 0), (.int 2)]) (rest := []) (lenOf pd_0 rfl) rfl own_le0 (hb hby d6_4) (fun _ _ => ⟨rfl, e0, (by decide : 0 + 0 ≤ _), (by decide : 0 + 0 ≤ _)⟩)
  dsimp only [Pt.U, Pt.locs, Pt.cells, Pt.slots] at X24 l24 y24 z24 st24 hQ24
  subst l24 y24 z24
  obtain ⟨rfl, Nq24, eq24⟩ := hQ24
  have N25 := Fr.app N0 Nq24
  have q26 := fun t (kt : Go p e below T24 (mkF m 11 #[vR a1, vI 0, vI 2, vI p4] [(.int p4), (.int 2), (.int 0), (.ref a1)]) t) => q23 t (st24 t (by
    show Go _ _ _ _ (mkF m 7 #[vR a1, vI 0, vI 2, vI p4] []) _
    refine XS.aloadN X24.here hx rfl (hb hby d6_7) rfl rfl ?_
    show Go _ _ _ _ (mkF m 8 _ [(.ref a1)]) _
    refine XS.iloadN X24.here hx rfl (hb hby d6_8) rfl ?_
    show Go _ _ _ _ (mkF m 9 _ [(.int 0), (.ref a1)]) _
    refine XS.iloadN X24.here hx rfl (hb hby d6_9) rfl ?_
    show Go _ _ _ _ (mkF m 10 _ [(.int 2), (.int 0), (.ref a1)]) _
    refine XS.iloadN X24.here hx rfl (hb hby d6_10) rfl ?_
    exact kt))
  obtain ⟨_, _, ⟨T27, L27, k27, n27⟩, -, X27, ⟨_, hQ27, l27, y27, z27⟩, st27⟩ := Jvm.LawKit.callS X24 hx (y := ym3) hown (ow hZ hw 42 rfl) (ow hZ hw 43 rfl) (ow hZ hw 37 rfl) (ow hZ hw 44 rfl) (by decide) (backOf (W := 0) (rm8_2 l Z a0 hw [] cx a1 ka x0 x1 p4 h0 n0 O0 G0) hZ (ox hw 44 rfl) (ox hw 37 rfl) (by decide) (by decide)) (g := (mkF m 11 #[vR a1, vI 0, vI 2, vI p4] [(.int p4), (.int 2), (.int 0), (.ref a1)])) rfl (by rw [hml]; rfl) (argsL := [(.ref a1), (.int 0), (.int 2), (.int p4)]) (rest := []) (lenOf pd_1 rfl) rfl own_le0 (hb hby d6_11) (fun _ _ => ⟨rfl, eq24, (by decide : 0 + 0 ≤ _), (by decide : 0 + 0 ≤ _)⟩)
  dsimp only [Pt.U, Pt.locs, Pt.cells, Pt.slots] at X27 l27 y27 z27 st27 hQ27
  subst l27 y27 z27
  obtain ⟨r_27, rfl, Nq27, eq27, pq27_0⟩ := hQ27
  have N28 := Fr.app N25 Nq27
  have q29 := fun t (kt : Go p e below T27 (mkF m 14 #[vR a1, vI 0, vI 2, vI p4] [(.int r_27)]) t) => q26 t (st27 t kt)
  exact ⟨some (.int r_27), T27, _, _, _, _, X27, by decide, by decide, nofun, q29, fun fs hr => retI X27 hx hret (hb hby d6_14) hr, by rw [eq27]; exact ⟨r_27, rfl, N28, rfl, pq27_0⟩⟩
theorem ef_9_I (m : MethodId) (x0 : Int32) : entryFrame m #[(.int x0)] 1 = mkF m 0 #[.val (.int x0)] [] := by first | (simp [entryFrame, mkF, argsToLocals, Value.category]; done) | rfl
theorem pn_9 : plainName "com/example/pointward/pointward/pointsto/SiteSet" = true := by first | (simp [plainName, overriddenIn]; done) | decide +kernel
theorem d9_0 : decode prog_17_method_8_code 0 = .ok (.lconst 1, 1) := by decide +kernel
theorem d9_1 : decode prog_17_method_8_code 1 = .ok (.iload_n 0, 1) := by decide +kernel
theorem d9_2 : decode prog_17_method_8_code 2 = .ok (.bipush 63, 2) := by decide +kernel
theorem d9_4 : decode prog_17_method_8_code 4 = .ok (.iand, 1) := by decide +kernel
theorem d9_5 : decode prog_17_method_8_code 5 = .ok (.lshl, 1) := by decide +kernel
theorem d9_6 : decode prog_17_method_8_code 6 = .ok (.lreturn, 1) := by decide +kernel
def Q_rm9 (Z : State) (p1 : Int32) (cw : Nat → Nat) (h0 : Heap) (n0 : Nat) (v : Option Value) (h : Heap) (L : List Loc) : Prop := v = some (.long (own_b p1)) ∧ Fr n0 L ∧ h = h0
theorem rm9 (l : Launch) (Z : State) (a0 : Array Value) (hw : ∀ d ∈ tables_1, d.before a0 Z = true) (ws : List Jvm.Cond) {cw : Nat → Nat} (cx : Cx Z cw) (p1 : Int32) (h0 : Heap) (n0 : Nat) (O0 : Old Z n0 h0) :
    OwnMet l ym5 (Jvm.Cond.code ym5 prog_17_method_8_code 1 (some .long) :: ws) (own_R 0 0 0 0) #[(.int p1)] Z h0 (Q_rm9 Z p1 cw h0 n0) := by
  refine own_body (plainFor_of_name pn_9) hisR fun p e s m below meth c s₁ hx hby hml hown hnm hret hZ X0 e0 => ?_
  have N0 := Fr.nil n0
  have pre0 : ∀ t, Go p e below s₁ (mkF m 0 #[vI p1] []) t → Go p e below s₁ (entryFrame m #[(.int p1)] 1) t := fun t k => castTop (ef_9_I m p1) k
  have q21 := fun t (kt : Go p e below s₁ (mkF m 6 #[vI p1] [(.long ((1 : Int64) <<< ((p1 &&& (63 : Int32)) &&& 0x3f).toInt64))]) t) => pre0 t (by
    show Go _ _ _ _ (mkF m 0 #[vI p1] []) _
    refine XS.lconst X0.here hx rfl (hb hby d9_0) ?_
    show Go _ _ _ _ (mkF m 1 _ [(.long (1 : Int64))]) _
    refine XS.iloadN X0.here hx rfl (hb hby d9_1) rfl ?_
    show Go _ _ _ _ (mkF m 2 _ [(.int p1), (.long (1 : Int64))]) _
    refine XS.bipush X0.here hx rfl (hb hby d9_2) ?_
    show Go _ _ _ _ (mkF m 4 _ [(.int 63), (.int p1), (.long (1 : Int64))]) _
    refine XS.iand X0.here hx rfl (hb hby d9_4) rfl ?_
    show Go _ _ _ _ (mkF m 5 _ [(.int (p1 &&& (63 : Int32))), (.long (1 : Int64))]) _
    refine XS.lshl X0.here hx rfl (hb hby d9_5) rfl ?_
    exact kt)
  exact ⟨some (.long ((1 : Int64) <<< ((p1 &&& (63 : Int32)) &&& 0x3f).toInt64)), s₁, _, _, _, _, X0, by decide, by decide, nofun, q21, fun fs hr => retOut X0 hx hret rfl (Or.inr (Or.inl ⟨rfl, rfl, _, rfl⟩)) (hb hby d9_6) hr, by rw [e0]; exact ⟨rfl, N0, rfl⟩⟩
theorem ef_11_II (m : MethodId) (x0 : Int32) (x1 : Int32) : entryFrame m #[(.int x0), (.int x1)] 2 = mkF m 0 #[.val (.int x0), .val (.int x1)] [] := by first | (simp [entryFrame, mkF, argsToLocals, Value.category]; done) | rfl
theorem d11_0 : decode jdk_29_method_65_code 0 = .ok (.iload_n 0, 1) := by decide +kernel
theorem d11_1 : decode jdk_29_method_65_code 1 = .ok (.iload_n 1, 1) := by decide +kernel
theorem d11_2 : decode jdk_29_method_65_code 2 = .ok (.if_icmp .lt 7, 3) := by decide +kernel
theorem d11_5 : decode jdk_29_method_65_code 5 = .ok (.iload_n 0, 1) := by decide +kernel
theorem d11_6 : decode jdk_29_method_65_code 6 = .ok (.goto 4, 3) := by decide +kernel
theorem d11_10 : decode jdk_29_method_65_code 10 = .ok (.ireturn, 1) := by decide +kernel
def Q_rm11_0 (Z : State) (cw : Nat → Nat) (h0 : Heap) (n0 : Nat) (v : Option Value) (h : Heap) (L : List Loc) : Prop := v = some (.int 2) ∧ Fr n0 L ∧ h = h0
theorem rm11_0 (l : Launch) (Z : State) (a0 : Array Value) (hw : ∀ d ∈ tables_1, d.before a0 Z = true) (ws : List Jvm.Cond) {cw : Nat → Nat} (cx : Cx Z cw) (h0 : Heap) (n0 : Nat) (O0 : Old Z n0 h0) :
    OwnMet l ym6 (Jvm.Cond.code ym6 jdk_29_method_65_code 2 (some .int) :: ws) (own_R 0 0 0 0) #[(.int 2), (.int 0)] Z h0 (Q_rm11_0 Z  cw h0 n0) := by
  refine own_body (Jvm.Free.JP.mathPlain rfl (by decide +kernel)) hisR fun p e s m below meth c s₁ hx hby hml hown hnm hret hZ X0 e0 => ?_
  have N0 := Fr.nil n0
  have pre0 : ∀ t, Go p e below s₁ (mkF m 0 #[vI 2, vI 0] []) t → Go p e below s₁ (entryFrame m #[(.int 2), (.int 0)] 2) t := fun t k => castTop (ef_11_II m (2 : Int32) (0 : Int32)) k
  have q21 := fun t (kt : Go p e below s₁ (mkF m 10 #[vI 2, vI 0] [(.int 2)]) t) => pre0 t (by
    show Go _ _ _ _ (mkF m 0 #[vI 2, vI 0] []) _
    refine XS.iloadN X0.here hx rfl (hb hby d11_0) rfl ?_
    show Go _ _ _ _ (mkF m 1 _ [(.int 2)]) _
    refine XS.iloadN X0.here hx rfl (hb hby d11_1) rfl ?_
    show Go _ _ _ _ (mkF m 2 _ [(.int 0), (.int 2)]) _
    refine XS.icmpNo X0.here hx rfl (hb hby d11_2) rfl (flt (by decide : ¬ ((2 : Int32) < (0 : Int32)))).1 ?_
    show Go _ _ _ _ (mkF m 5 _ []) _
    refine XS.iloadN X0.here hx rfl (hb hby d11_5) rfl ?_
    show Go _ _ _ _ (mkF m 6 _ [(.int 2)]) _
    refine XS.goto X0.here hx rfl (pc0 := 6) (pc' := 10) rfl (hb hby d11_6) (by decide) (by decide) ?_
    exact kt)
  exact ⟨some (.int 2), s₁, _, _, _, _, X0, by decide, by decide, nofun, q21, fun fs hr => retI X0 hx hret (hb hby d11_10) hr, by rw [e0]; exact ⟨rfl, N0, rfl⟩⟩
theorem d11_9 : decode jdk_29_method_65_code 9 = .ok (.iload_n 1, 1) := by decide +kernel
def Q_rm11_4 (Z : State) (cw : Nat → Nat) (h0 : Heap) (n0 : Nat) (v : Option Value) (h : Heap) (L : List Loc) : Prop := v = some (.int 4) ∧ Fr n0 L ∧ h = h0
theorem rm11_4 (l : Launch) (Z : State) (a0 : Array Value) (hw : ∀ d ∈ tables_1, d.before a0 Z = true) (ws : List Jvm.Cond) {cw : Nat → Nat} (cx : Cx Z cw) (h0 : Heap) (n0 : Nat) (O0 : Old Z n0 h0) :
    OwnMet l ym6 (Jvm.Cond.code ym6 jdk_29_method_65_code 2 (some .int) :: ws) (own_R 0 0 0 0) #[(.int 2), (.int 4)] Z h0 (Q_rm11_4 Z  cw h0 n0) := by
  refine own_body (Jvm.Free.JP.mathPlain rfl (by decide +kernel)) hisR fun p e s m below meth c s₁ hx hby hml hown hnm hret hZ X0 e0 => ?_
  have N0 := Fr.nil n0
  have pre0 : ∀ t, Go p e below s₁ (mkF m 0 #[vI 2, vI 4] []) t → Go p e below s₁ (entryFrame m #[(.int 2), (.int 4)] 2) t := fun t k => castTop (ef_11_II m (2 : Int32) (4 : Int32)) k
  have q21 := fun t (kt : Go p e below s₁ (mkF m 10 #[vI 2, vI 4] [(.int 4)]) t) => pre0 t (by
    show Go _ _ _ _ (mkF m 0 #[vI 2, vI 4] []) _
    refine XS.iloadN X0.here hx rfl (hb hby d11_0) rfl ?_
    show Go _ _ _ _ (mkF m 1 _ [(.int 2)]) _
    refine XS.iloadN X0.here hx rfl (hb hby d11_1) rfl ?_
    show Go _ _ _ _ (mkF m 2 _ [(.int 4), (.int 2)]) _
    refine XS.icmpYes X0.here hx rfl (pc0 := 2) (pc' := 9) rfl (hb hby d11_2) rfl (tlt (by decide : (2 : Int32) < (4 : Int32))).1 (by decide) (by decide) ?_
    show Go _ _ _ _ (mkF m 9 _ []) _
    refine XS.iloadN X0.here hx rfl (hb hby d11_9) rfl ?_
    exact kt)
  exact ⟨some (.int 4), s₁, _, _, _, _, X0, by decide, by decide, nofun, q21, fun fs hr => retI X0 hx hret (hb hby d11_10) hr, by rw [e0]; exact ⟨rfl, N0, rfl⟩⟩
theorem ef_13_II (m : MethodId) (x0 : Int32) (x1 : Int32) : entryFrame m #[(.int x0), (.int x1)] 2 = mkF m 0 #[.val (.int x0), .val (.int x1)] [] := by first | (simp [entryFrame, mkF, argsToLocals, Value.category]; done) | rfl
theorem d13_0 : decode jdk_29_method_69_code 0 = .ok (.iload_n 0, 1) := by decide +kernel
theorem d13_1 : decode jdk_29_method_69_code 1 = .ok (.iload_n 1, 1) := by decide +kernel
theorem d13_2 : decode jdk_29_method_69_code 2 = .ok (.if_icmp .gt 7, 3) := by decide +kernel
theorem d13_5 : decode jdk_29_method_69_code 5 = .ok (.iload_n 0, 1) := by decide +kernel
theorem d13_6 : decode jdk_29_method_69_code 6 = .ok (.goto 4, 3) := by decide +kernel
theorem d13_10 : decode jdk_29_method_69_code 10 = .ok (.ireturn, 1) := by decide +kernel
def Q_rm13_0 (Z : State) (cw : Nat → Nat) (h0 : Heap) (n0 : Nat) (v : Option Value) (h : Heap) (L : List Loc) : Prop := v = some (.int 0) ∧ Fr n0 L ∧ h = h0
theorem rm13_0 (l : Launch) (Z : State) (a0 : Array Value) (hw : ∀ d ∈ tables_1, d.before a0 Z = true) (ws : List Jvm.Cond) {cw : Nat → Nat} (cx : Cx Z cw) (h0 : Heap) (n0 : Nat) (O0 : Old Z n0 h0) :
    OwnMet l ym7 (Jvm.Cond.code ym7 jdk_29_method_69_code 2 (some .int) :: ws) (own_R 0 0 0 0) #[(.int 0), (.int 2)] Z h0 (Q_rm13_0 Z  cw h0 n0) := by
  refine own_body (Jvm.Free.JP.mathPlain rfl (by decide +kernel)) hisR fun p e s m below meth c s₁ hx hby hml hown hnm hret hZ X0 e0 => ?_
  have N0 := Fr.nil n0
  have pre0 : ∀ t, Go p e below s₁ (mkF m 0 #[vI 0, vI 2] []) t → Go p e below s₁ (entryFrame m #[(.int 0), (.int 2)] 2) t := fun t k => castTop (ef_13_II m (0 : Int32) (2 : Int32)) k
  have q21 := fun t (kt : Go p e below s₁ (mkF m 10 #[vI 0, vI 2] [(.int 0)]) t) => pre0 t (by
    show Go _ _ _ _ (mkF m 0 #[vI 0, vI 2] []) _
    refine XS.iloadN X0.here hx rfl (hb hby d13_0) rfl ?_
    show Go _ _ _ _ (mkF m 1 _ [(.int 0)]) _
    refine XS.iloadN X0.here hx rfl (hb hby d13_1) rfl ?_
    show Go _ _ _ _ (mkF m 2 _ [(.int 2), (.int 0)]) _
    refine XS.icmpNo X0.here hx rfl (hb hby d13_2) rfl (flt (by decide : ¬ ((2 : Int32) < (0 : Int32)))).2.2.1 ?_
    show Go _ _ _ _ (mkF m 5 _ []) _
    refine XS.iloadN X0.here hx rfl (hb hby d13_5) rfl ?_
    show Go _ _ _ _ (mkF m 6 _ [(.int 0)]) _
    refine XS.goto X0.here hx rfl (pc0 := 6) (pc' := 10) rfl (hb hby d13_6) (by decide) (by decide) ?_
    exact kt)
  exact ⟨some (.int 0), s₁, _, _, _, _, X0, by decide, by decide, nofun, q21, fun fs hr => retI X0 hx hret (hb hby d13_10) hr, by rw [e0]; exact ⟨rfl, N0, rfl⟩⟩
def Q_rm13_2 (Z : State) (cw : Nat → Nat) (h0 : Heap) (n0 : Nat) (v : Option Value) (h : Heap) (L : List Loc) : Prop := v = some (.int 2) ∧ Fr n0 L ∧ h = h0
theorem rm13_2 (l : Launch) (Z : State) (a0 : Array Value) (hw : ∀ d ∈ tables_1, d.before a0 Z = true) (ws : List Jvm.Cond) {cw : Nat → Nat} (cx : Cx Z cw) (h0 : Heap) (n0 : Nat) (O0 : Old Z n0 h0) :
    OwnMet l ym7 (Jvm.Cond.code ym7 jdk_29_method_69_code 2 (some .int) :: ws) (own_R 0 0 0 0) #[(.int 2), (.int 4)] Z h0 (Q_rm13_2 Z  cw h0 n0) := by
  refine own_body (Jvm.Free.JP.mathPlain rfl (by decide +kernel)) hisR fun p e s m below meth c s₁ hx hby hml hown hnm hret hZ X0 e0 => ?_
  have N0 := Fr.nil n0
  have pre0 : ∀ t, Go p e below s₁ (mkF m 0 #[vI 2, vI 4] []) t → Go p e below s₁ (entryFrame m #[(.int 2), (.int 4)] 2) t := fun t k => castTop (ef_13_II m (2 : Int32) (4 : Int32)) k
  have q21 := fun t (kt : Go p e below s₁ (mkF m 10 #[vI 2, vI 4] [(.int 2)]) t) => pre0 t (by
    show Go _ _ _ _ (mkF m 0 #[vI 2, vI 4] []) _
    refine XS.iloadN X0.here hx rfl (hb hby d13_0) rfl ?_
    show Go _ _ _ _ (mkF m 1 _ [(.int 2)]) _
    refine XS.iloadN X0.here hx rfl (hb hby d13_1) rfl ?_
    show Go _ _ _ _ (mkF m 2 _ [(.int 4), (.int 2)]) _
    refine XS.icmpNo X0.here hx rfl (hb hby d13_2) rfl (flt (by decide : ¬ ((4 : Int32) < (2 : Int32)))).2.2.1 ?_
    show Go _ _ _ _ (mkF m 5 _ []) _
    refine XS.iloadN X0.here hx rfl (hb hby d13_5) rfl ?_
    show Go _ _ _ _ (mkF m 6 _ [(.int 2)]) _
    refine XS.goto X0.here hx rfl (pc0 := 6) (pc' := 10) rfl (hb hby d13_6) (by decide) (by decide) ?_
    exact kt)
  exact ⟨some (.int 2), s₁, _, _, _, _, X0, by decide, by decide, nofun, q21, fun fs hr => retI X0 hx hret (hb hby d13_10) hr, by rw [e0]; exact ⟨rfl, N0, rfl⟩⟩
theorem ef_12_RI (m : MethodId) (x0 : Addr) (x1 : Int32) : entryFrame m #[(.ref x0), (.int x1)] 3 = mkF m 0 #[.val (.ref x0), .val (.int x1), .unset] [] := by first | (simp [entryFrame, mkF, argsToLocals, Value.category]; done) | rfl
theorem pn_12 : plainName "java/util/Arrays" = true := by first | (simp [plainName, overriddenIn]; done) | decide +kernel
theorem d12_0 : decode jdk_65_method_123_code 0 = .ok (.iload_n 1, 1) := by decide +kernel
theorem d12_1 : decode jdk_65_method_123_code 1 = .ok (.aload_n 0, 1) := by decide +kernel
theorem d12_2 : decode jdk_65_method_123_code 2 = .ok (.arraylength, 1) := by decide +kernel
theorem d12_3 : decode jdk_65_method_123_code 3 = .ok (.if_icmp .ne 11, 3) := by decide +kernel
theorem d12_14 : decode jdk_65_method_123_code 14 = .ok (.iload_n 1, 1) := by decide +kernel
theorem d12_15 : decode jdk_65_method_123_code 15 = .ok (.newarray .int, 2) := by decide +kernel
theorem d12_17 : decode jdk_65_method_123_code 17 = .ok (.astore_n 2, 1) := by decide +kernel
theorem d12_18 : decode jdk_65_method_123_code 18 = .ok (.aload_n 0, 1) := by decide +kernel
theorem d12_19 : decode jdk_65_method_123_code 19 = .ok (.iconst 0, 1) := by decide +kernel
theorem d12_20 : decode jdk_65_method_123_code 20 = .ok (.aload_n 2, 1) := by decide +kernel
theorem d12_21 : decode jdk_65_method_123_code 21 = .ok (.iconst 0, 1) := by decide +kernel
theorem d12_22 : decode jdk_65_method_123_code 22 = .ok (.aload_n 0, 1) := by decide +kernel
theorem d12_23 : decode jdk_65_method_123_code 23 = .ok (.arraylength, 1) := by decide +kernel
theorem d12_24 : decode jdk_65_method_123_code 24 = .ok (.iload_n 1, 1) := by decide +kernel
theorem d12_25 : decode jdk_65_method_123_code 25 = .ok (.invokestatic 304, 3) := by decide +kernel
theorem pd_2 : parseMethodDescriptor "(II)I" = some ⟨[.int, .int], some .int⟩ := by decide +kernel
theorem d12_28 : decode jdk_65_method_123_code 28 = .ok (.invokestatic 150, 3) := by decide +kernel
theorem d12_31 : decode jdk_65_method_123_code 31 = .ok (.aload_n 2, 1) := by decide +kernel
theorem d12_32 : decode jdk_65_method_123_code 32 = .ok (.areturn, 1) := by decide +kernel
def Q_rm12_2 (Z : State) (a1 : Addr) (ka : ClassId) (cw : Nat → Nat) (h0 : Heap) (n0 : Nat) (v : Option Value) (h : Heap) (L : List Loc) : Prop := ∃ (r : Addr) (kr : ClassId), v = some (.ref r) ∧ Fr n0 L ∧ Keep h0 h [] ∧ h0.size ≤ r ∧ Arv Z h r kr .int (2 : Int32) [(.int 0), (.int 0)] (.int 0)
theorem rm12_2 (l : Launch) (Z : State) (a0 : Array Value) (hw : ∀ d ∈ tables_1, d.before a0 Z = true) (ws : List Jvm.Cond) {cw : Nat → Nat} (cx : Cx Z cw) (a1 : Addr) (ka : ClassId) (h0 : Heap) (n0 : Nat) (O0 : Old Z n0 h0) (G0 : Arv Z h0 a1 ka .int (0 : Int32) [] (.int 0)) :
    OwnMet l ym8 (Jvm.Cond.code ym8 jdk_65_method_123_code 3 (some (.array .int)) :: ws) (own_R 1 1 2 48) #[(.ref a1), (.int 2)] Z h0 (Q_rm12_2 Z a1 ka cw h0 n0) := by
  refine own_body (plainFor_of_name pn_12) hisR fun p e s m below meth c s₁ hx hby hml hown hnm hret hZ X0 e0 => ?_
  have N0 := Fr.nil n0
  have K0 : Keep h0 h0 [] := Keep.refl _ _
  have pre0 : ∀ t, Go p e below s₁ (mkF m 0 #[vR a1, vI 2, vU] []) t → Go p e below s₁ (entryFrame m #[(.ref a1), (.int 2)] 3) t := fun t k => castTop (ef_12_RI m a1 (2 : Int32)) k
  have q22 := fun t (kt : Go p e below s₁ (mkF m 2 #[vR a1, vI 2, vU] [(.ref a1), (.int 2)]) t) => pre0 t (by
    show Go _ _ _ _ (mkF m 0 #[vR a1, vI 2, vU] []) _
    refine XS.iloadN X0.here hx rfl (hb hby d12_0) rfl ?_
    show Go _ _ _ _ (mkF m 1 _ [(.int 2)]) _
    refine XS.aloadN X0.here hx rfl (hb hby d12_1) rfl rfl ?_
    exact kt)
  obtain ⟨c21, Ar21, -, S21, N21, -, -⟩ := id G0
  have q23 := fun t (kt : Go p e below s₁ (mkF m 15 #[vR a1, vI 2, vU] [(.int 2)]) t) => q22 t (by
    show Go _ _ _ _ (mkF m 2 #[vR a1, vI 2, vU] [(.ref a1), (.int 2)]) _
    refine X0.arraylength hx (by rw [e0]; exact Ar21.1) (State.isArrayOf_alike hZ.alike Ar21.2.1) (g := (mkF m 2 #[vR a1, vI 2, vU] [(.ref a1), (.int 2)])) rfl rfl (hb hby d12_2) _ ?_
    rw [len_of S21 N21]
    show Go _ _ _ _ (mkF m 3 _ [(.int 0), (.int 2)]) _
    refine XS.icmpYes X0.here hx rfl (pc0 := 3) (pc' := 14) rfl (hb hby d12_3) rfl (feq (by decide : ¬ ((2 : Int32) = (0 : Int32)))).2 (by decide) (by decide) ?_
    show Go _ _ _ _ (mkF m 14 _ []) _
    refine XS.iloadN X0.here hx rfl (hb hby d12_14) rfl ?_
    exact kt)
  obtain ⟨T24, h24, k24, X24, e24, E24, A24, st24⟩ := newP X0 hx hZ (ox hw 29 rfl) e0 (g := (mkF m 15 #[vR a1, vI 2, vU] [(.int 2)])) rfl (hb hby d12_15) rfl (by decide) (cap := 2) (by decide) (by decide) (by decide) (by decide)
  obtain ⟨b24, g24⟩ : ∃ z, z = h0.size := ⟨_, rfl⟩
  rw [← g24] at A24 st24
  have gg25 : n0 ≤ b24 := Nat.le_trans (O0.1 ▸ O0.2.1) (Nat.le_of_eq g24.symm)
  have sz26 : h0.size ≤ b24 := Nat.le_trans K0.1 (Nat.le_of_eq g24.symm)
  have O27 := O0.ext E24
  have K28 := K0.ext E24
  have V24 : Arv Z h24 b24 k24 .int (2 : Int32) [(.int 0), (.int 0)] (.int 0) := (Arv.new A24 (by decide)).pad (pad_rep [] (.int 0) 2)
  have f29 := (G0.ext E24)
  have q31 := fun t (kt : Go p e below T24 (mkF m 23 #[vR a1, vI 2, vR b24] [(.ref a1), (.int 0), (.ref b24), (.int 0), (.ref a1)]) t) => q23 t (st24 t (by
    show Go _ _ _ _ (mkF m 17 #[vR a1, vI 2, vU] [(.ref b24)]) _
    refine XS.astoreN X24.here hx rfl (hb hby d12_17) rfl rfl (l' := #[vR a1, vI 2, vR b24]) rfl ?_
    show Go _ _ _ _ (mkF m 18 #[vR a1, vI 2, vR b24] []) _
    refine XS.aloadN X24.here hx rfl (hb hby d12_18) rfl rfl ?_
    show Go _ _ _ _ (mkF m 19 _ [(.ref a1)]) _
    refine XS.iconst X24.here hx rfl (hb hby d12_19) ?_
    show Go _ _ _ _ (mkF m 20 _ [(.int 0), (.ref a1)]) _
    refine XS.aloadN X24.here hx rfl (hb hby d12_20) rfl rfl ?_
    show Go _ _ _ _ (mkF m 21 _ [(.ref b24), (.int 0), (.ref a1)]) _
    refine XS.iconst X24.here hx rfl (hb hby d12_21) ?_
    show Go _ _ _ _ (mkF m 22 _ [(.int 0), (.ref b24), (.int 0), (.ref a1)]) _
    refine XS.aloadN X24.here hx rfl (hb hby d12_22) rfl rfl ?_
    exact kt))
  obtain ⟨c30, Ar30, -, S30, N30, -, -⟩ := id f29
  have q32 := fun t (kt : Go p e below T24 (mkF m 25 #[vR a1, vI 2, vR b24] [(.int 2), (.int 0), (.int 0), (.ref b24), (.int 0), (.ref a1)]) t) => q31 t (by
    show Go _ _ _ _ (mkF m 23 #[vR a1, vI 2, vR b24] [(.ref a1), (.int 0), (.ref b24), (.int 0), (.ref a1)]) _
    refine X24.arraylength hx (by rw [e24]; exact Ar30.1) (State.isArrayOf_alike hZ.alike Ar30.2.1) (g := (mkF m 23 #[vR a1, vI 2, vR b24] [(.ref a1), (.int 0), (.ref b24), (.int 0), (.ref a1)])) rfl rfl (hb hby d12_23) _ ?_
    rw [len_of S30 N30]
    show Go _ _ _ _ (mkF m 24 _ [(.int 0), (.int 0), (.ref b24), (.int 0), (.ref a1)]) _
    refine XS.iloadN X24.here hx rfl (hb hby d12_24) rfl ?_
    exact kt)
  obtain ⟨_, _, ⟨T33, L33, k33, n33⟩, -, X33, ⟨_, hQ33, l33, y33, z33⟩, st33⟩ := Jvm.LawKit.callS X24 hx (y := ym7) hown (ow hZ hw 59 rfl) (ow hZ hw 60 rfl) (ow hZ hw 54 rfl) (ow hZ hw 61 rfl) (by decide) (backOf (W := 4) (rm13_0 l Z a0 hw [] cx  h24 n0 O27 ) hZ (ox hw 61 rfl) (ox hw 54 rfl) (by decide) (by decide)) (g := (mkF m 25 #[vR a1, vI 2, vR b24] [(.int 2), (.int 0), (.int 0), (.ref b24), (.int 0), (.ref a1)])) rfl (by rw [hml]; rfl) (argsL := [(.int 0), (.int 2)]) (rest := [(.int 0), (.ref b24), (.int 0), (.ref a1)]) (lenOf pd_2 rfl) rfl own_le0 (hb hby d12_25) (fun _ _ => ⟨rfl, e24, (by decide : 1 + 0 ≤ _), (by decide : 2 + 0 ≤ _)⟩)
  dsimp only [Pt.U, Pt.locs, Pt.cells, Pt.slots] at X33 l33 y33 z33 st33 hQ33
  subst l33 y33 z33
  obtain ⟨rfl, Nq33, eq33⟩ := hQ33
  have N34 := Fr.app N0 Nq33
  obtain ⟨T36, h36, L36, X36, e36, N36, K36, V36, st36⟩ := cpA X33 hx hZ hown (ox hw 62 rfl) (ox hw 65 rfl) (ox hw 63 rfl) (ox hw 64 rfl) eq33 f29 V24 (us := []) (Or.inl ⟨rfl, rfl⟩) (by decide) (by decide) (by decide) (by decide) (by decide) rfl (Nat.le_of_ble_eq_true rfl) N34 gg25 (g := (mkF m 28 #[vR a1, vI 2, vR b24] [(.int 0), (.int 0), (.ref b24), (.int 0), (.ref a1)])) rfl (by rw [hml]; rfl) rfl (hb hby d12_28) (by decide) (W := 0) own_le0 (by decide)
  have O37 := O27.keep K36 (allS gg25 all0)
  have K38 := K28.trans K36 (allS (Or.inr sz26) all0)
  have Vv36 : Arv Z h36 b24 k24 .int (2 : Int32) [(.int 0), (.int 0)] (.int 0) := V36
  have q39 := fun t (kt : Go p e below T36 (mkF m 32 #[vR a1, vI 2, vR b24] [(.ref b24)]) t) => q32 t (st33 t (st36 t (by
    show Go _ _ _ _ (mkF m 31 #[vR a1, vI 2, vR b24] []) _
    refine XS.aloadN X36.here hx rfl (hb hby d12_31) rfl rfl ?_
    exact kt)))
  exact ⟨some (.ref b24), T36, _, _, _, _, X36, by decide, by decide, nofun, q39, fun fs hr => retOut X36 hx hret rfl (o4 ⟨rfl, rfl, rfl⟩) (hb hby d12_32) hr, by rw [e36]; exact ⟨b24, k24, rfl, N36, K38, sz26, Vv36⟩⟩
def Q_rm12_4 (Z : State) (a1 : Addr) (ka : ClassId) (d0 : Int32) (d1 : Int32) (cw : Nat → Nat) (h0 : Heap) (n0 : Nat) (v : Option Value) (h : Heap) (L : List Loc) : Prop := ∃ (r : Addr) (kr : ClassId), v = some (.ref r) ∧ Fr n0 L ∧ Keep h0 h [] ∧ h0.size ≤ r ∧ Arv Z h r kr .int (4 : Int32) [(.int d0), (.int d1), (.int 0), (.int 0)] (.int 0)
theorem rm12_4 (l : Launch) (Z : State) (a0 : Array Value) (hw : ∀ d ∈ tables_1, d.before a0 Z = true) (ws : List Jvm.Cond) {cw : Nat → Nat} (cx : Cx Z cw) (a1 : Addr) (ka : ClassId) (d0 : Int32) (d1 : Int32) (h0 : Heap) (n0 : Nat) (O0 : Old Z n0 h0) (G0 : Arv Z h0 a1 ka .int (2 : Int32) [(.int d0), (.int d1)] (.int 0)) :
    OwnMet l ym8 (Jvm.Cond.code ym8 jdk_65_method_123_code 3 (some (.array .int)) :: ws) (own_R 1 1 4 48) #[(.ref a1), (.int 4)] Z h0 (Q_rm12_4 Z a1 ka d0 d1 cw h0 n0) := by
  refine own_body (plainFor_of_name pn_12) hisR fun p e s m below meth c s₁ hx hby hml hown hnm hret hZ X0 e0 => ?_
  have N0 := Fr.nil n0
  have K0 : Keep h0 h0 [] := Keep.refl _ _
  have pre0 : ∀ t, Go p e below s₁ (mkF m 0 #[vR a1, vI 4, vU] []) t → Go p e below s₁ (entryFrame m #[(.ref a1), (.int 4)] 3) t := fun t k => castTop (ef_12_RI m a1 (4 : Int32)) k
  have q22 := fun t (kt : Go p e below s₁ (mkF m 2 #[vR a1, vI 4, vU] [(.ref a1), (.int 4)]) t) => pre0 t (by
    show Go _ _ _ _ (mkF m 0 #[vR a1, vI 4, vU] []) _
    refine XS.iloadN X0.here hx rfl (hb hby d12_0) rfl ?_
    show Go _ _ _ _ (mkF m 1 _ [(.int 4)]) _
    refine XS.aloadN X0.here hx rfl (hb hby d12_1) rfl rfl ?_
    exact kt)
  obtain ⟨c21, Ar21, -, S21, N21, -, -⟩ := id G0
  have q23 := fun t (kt : Go p e below s₁ (mkF m 15 #[vR a1, vI 4, vU] [(.int 4)]) t) => q22 t (by
    show Go _ _ _ _ (mkF m 2 #[vR a1, vI 4, vU] [(.ref a1), (.int 4)]) _
    refine X0.arraylength hx (by rw [e0]; exact Ar21.1) (State.isArrayOf_alike hZ.alike Ar21.2.1) (g := (mkF m 2 #[vR a1, vI 4, vU] [(.ref a1), (.int 4)])) rfl rfl (hb hby d12_2) _ ?_
    rw [len_of S21 N21]
    show Go _ _ _ _ (mkF m 3 _ [(.int 2), (.int 4)]) _
    refine XS.icmpYes X0.here hx rfl (pc0 := 3) (pc' := 14) rfl (hb hby d12_3) rfl (feq (by decide : ¬ ((4 : Int32) = (2 : Int32)))).2 (by decide) (by decide) ?_
    show Go _ _ _ _ (mkF m 14 _ []) _
    refine XS.iloadN X0.here hx rfl (hb hby d12_14) rfl ?_
    exact kt)
  obtain ⟨T24, h24, k24, X24, e24, E24, A24, st24⟩ := newP X0 hx hZ (ox hw 29 rfl) e0 (g := (mkF m 15 #[vR a1, vI 4, vU] [(.int 4)])) rfl (hb hby d12_15) rfl (by decide) (cap := 4) (by decide) (by decide) (by decide) (by decide)
  obtain ⟨b24, g24⟩ : ∃ z, z = h0.size := ⟨_, rfl⟩
  rw [← g24] at A24 st24
  have gg25 : n0 ≤ b24 := Nat.le_trans (O0.1 ▸ O0.2.1) (Nat.le_of_eq g24.symm)
  have sz26 : h0.size ≤ b24 := Nat.le_trans K0.1 (Nat.le_of_eq g24.symm)
  have O27 := O0.ext E24
  have K28 := K0.ext E24
  have V24 : Arv Z h24 b24 k24 .int (4 : Int32) [(.int 0), (.int 0), (.int 0), (.int 0)] (.int 0) := (Arv.new A24 (by decide)).pad (pad_rep [] (.int 0) 4)
  have f29 := (G0.ext E24)
  have q31 := fun t (kt : Go p e below T24 (mkF m 23 #[vR a1, vI 4, vR b24] [(.ref a1), (.int 0), (.ref b24), (.int 0), (.ref a1)]) t) => q23 t (st24 t (by
    show Go _ _ _ _ (mkF m 17 #[vR a1, vI 4, vU] [(.ref b24)]) _
    refine XS.astoreN X24.here hx rfl (hb hby d12_17) rfl rfl (l' := #[vR a1, vI 4, vR b24]) rfl ?_
    show Go _ _ _ _ (mkF m 18 #[vR a1, vI 4, vR b24] []) _
    refine XS.aloadN X24.here hx rfl (hb hby d12_18) rfl rfl ?_
    show Go _ _ _ _ (mkF m 19 _ [(.ref a1)]) _
    refine XS.iconst X24.here hx rfl (hb hby d12_19) ?_
    show Go _ _ _ _ (mkF m 20 _ [(.int 0), (.ref a1)]) _
    refine XS.aloadN X24.here hx rfl (hb hby d12_20) rfl rfl ?_
    show Go _ _ _ _ (mkF m 21 _ [(.ref b24), (.int 0), (.ref a1)]) _
    refine XS.iconst X24.here hx rfl (hb hby d12_21) ?_
    show Go _ _ _ _ (mkF m 22 _ [(.int 0), (.ref b24), (.int 0), (.ref a1)]) _
    refine XS.aloadN X24.here hx rfl (hb hby d12_22) rfl rfl ?_
    exact kt))
  obtain ⟨c30, Ar30, -, S30, N30, -, -⟩ := id f29
  have q32 := fun t (kt : Go p e below T24 (mkF m 25 #[vR a1, vI 4, vR b24] [(.int 4), (.int 2), (.int 0), (.ref b24), (.int 0), (.ref a1)]) t) => q31 t (by
    show Go _ _ _ _ (mkF m 23 #[vR a1, vI 4, vR b24] [(.ref a1), (.int 0), (.ref b24), (.int 0), (.ref a1)]) _
    refine X24.arraylength hx (by rw [e24]; exact Ar30.1) (State.isArrayOf_alike hZ.alike Ar30.2.1) (g := (mkF m 23 #[vR a1, vI 4, vR b24] [(.ref a1), (.int 0), (.ref b24), (.int 0), (.ref a1)])) rfl rfl (hb hby d12_23) _ ?_
    rw [len_of S30 N30]
    show Go _ _ _ _ (mkF m 24 _ [(.int 2), (.int 0), (.ref b24), (.int 0), (.ref a1)]) _
    refine XS.iloadN X24.here hx rfl (hb hby d12_24) rfl ?_
    exact kt)
  obtain ⟨_, _, ⟨T33, L33, k33, n33⟩, -, X33, ⟨_, hQ33, l33, y33, z33⟩, st33⟩ := Jvm.LawKit.callS X24 hx (y := ym7) hown (ow hZ hw 59 rfl) (ow hZ hw 60 rfl) (ow hZ hw 54 rfl) (ow hZ hw 61 rfl) (by decide) (backOf (W := 4) (rm13_2 l Z a0 hw [] cx  h24 n0 O27 ) hZ (ox hw 61 rfl) (ox hw 54 rfl) (by decide) (by decide)) (g := (mkF m 25 #[vR a1, vI 4, vR b24] [(.int 4), (.int 2), (.int 0), (.ref b24), (.int 0), (.ref a1)])) rfl (by rw [hml]; rfl) (argsL := [(.int 2), (.int 4)]) (rest := [(.int 0), (.ref b24), (.int 0), (.ref a1)]) (lenOf pd_2 rfl) rfl own_le0 (hb hby d12_25) (fun _ _ => ⟨rfl, e24, (by decide : 1 + 0 ≤ _), (by decide : 4 + 0 ≤ _)⟩)
  dsimp only [Pt.U, Pt.locs, Pt.cells, Pt.slots] at X33 l33 y33 z33 st33 hQ33
  subst l33 y33 z33
  obtain ⟨rfl, Nq33, eq33⟩ := hQ33
  have N34 := Fr.app N0 Nq33
  obtain ⟨T36, h36, L36, X36, e36, N36, K36, V36, st36⟩ := cpA X33 hx hZ hown (ox hw 62 rfl) (ox hw 65 rfl) (ox hw 63 rfl) (ox hw 64 rfl) eq33 f29 V24 (us := [(.int d0), (.int d1)]) (Or.inl ⟨rfl, rfl⟩) (by decide) (by decide) (by decide) (by decide) (by decide) rfl (Nat.le_of_ble_eq_true rfl) N34 gg25 (g := (mkF m 28 #[vR a1, vI 4, vR b24] [(.int 2), (.int 0), (.ref b24), (.int 0), (.ref a1)])) rfl (by rw [hml]; rfl) rfl (hb hby d12_28) (by decide) (W := 0) own_le0 (by decide)
  have O37 := O27.keep K36 (allS gg25 all0)
  have K38 := K28.trans K36 (allS (Or.inr sz26) all0)
  have Vv36 : Arv Z h36 b24 k24 .int (4 : Int32) [(.int d0), (.int d1), (.int 0), (.int 0)] (.int 0) := V36
  have q39 := fun t (kt : Go p e below T36 (mkF m 32 #[vR a1, vI 4, vR b24] [(.ref b24)]) t) => q32 t (st33 t (st36 t (by
    show Go _ _ _ _ (mkF m 31 #[vR a1, vI 4, vR b24] []) _
    refine XS.aloadN X36.here hx rfl (hb hby d12_31) rfl rfl ?_
    exact kt)))
  exact ⟨some (.ref b24), T36, _, _, _, _, X36, by decide, by decide, nofun, q39, fun fs hr => retOut X36 hx hret rfl (o4 ⟨rfl, rfl, rfl⟩) (hb hby d12_32) hr, by rw [e36]; exact ⟨b24, k24, rfl, N36, K38, sz26, Vv36⟩⟩
theorem ef_14_RI (m : MethodId) (x0 : Addr) (x1 : Int32) : entryFrame m #[(.ref x0), (.int x1)] 3 = mkF m 0 #[.val (.ref x0), .val (.int x1), .unset] [] := by first | (simp [entryFrame, mkF, argsToLocals, Value.category]; done) | rfl
theorem pn_14 : plainName "java/util/Arrays" = true := by first | (simp [plainName, overriddenIn]; done) | decide +kernel
theorem d14_0 : decode jdk_65_method_124_code 0 = .ok (.iload_n 1, 1) := by decide +kernel
theorem d14_1 : decode jdk_65_method_124_code 1 = .ok (.aload_n 0, 1) := by decide +kernel
theorem d14_2 : decode jdk_65_method_124_code 2 = .ok (.arraylength, 1) := by decide +kernel
theorem d14_3 : decode jdk_65_method_124_code 3 = .ok (.if_icmp .ne 11, 3) := by decide +kernel
theorem d14_14 : decode jdk_65_method_124_code 14 = .ok (.iload_n 1, 1) := by decide +kernel
theorem d14_15 : decode jdk_65_method_124_code 15 = .ok (.newarray .long, 2) := by decide +kernel
theorem d14_17 : decode jdk_65_method_124_code 17 = .ok (.astore_n 2, 1) := by decide +kernel
theorem d14_18 : decode jdk_65_method_124_code 18 = .ok (.aload_n 0, 1) := by decide +kernel
theorem d14_19 : decode jdk_65_method_124_code 19 = .ok (.iconst 0, 1) := by decide +kernel
theorem d14_20 : decode jdk_65_method_124_code 20 = .ok (.aload_n 2, 1) := by decide +kernel
theorem d14_21 : decode jdk_65_method_124_code 21 = .ok (.iconst 0, 1) := by decide +kernel
theorem d14_22 : decode jdk_65_method_124_code 22 = .ok (.aload_n 0, 1) := by decide +kernel
theorem d14_23 : decode jdk_65_method_124_code 23 = .ok (.arraylength, 1) := by decide +kernel
theorem d14_24 : decode jdk_65_method_124_code 24 = .ok (.iload_n 1, 1) := by decide +kernel
theorem d14_25 : decode jdk_65_method_124_code 25 = .ok (.invokestatic 304, 3) := by decide +kernel
theorem d14_28 : decode jdk_65_method_124_code 28 = .ok (.invokestatic 150, 3) := by decide +kernel
theorem d14_31 : decode jdk_65_method_124_code 31 = .ok (.aload_n 2, 1) := by decide +kernel
theorem d14_32 : decode jdk_65_method_124_code 32 = .ok (.areturn, 1) := by decide +kernel
def Q_rm14_2 (Z : State) (a1 : Addr) (ka : ClassId) (cw : Nat → Nat) (h0 : Heap) (n0 : Nat) (v : Option Value) (h : Heap) (L : List Loc) : Prop := ∃ (r : Addr) (kr : ClassId), v = some (.ref r) ∧ Fr n0 L ∧ Keep h0 h [] ∧ h0.size ≤ r ∧ Arv Z h r kr .long (2 : Int32) [(.long (0 : Int64)), (.long (0 : Int64))] (.long (0 : Int64))
theorem rm14_2 (l : Launch) (Z : State) (a0 : Array Value) (hw : ∀ d ∈ tables_1, d.before a0 Z = true) (ws : List Jvm.Cond) {cw : Nat → Nat} (cx : Cx Z cw) (a1 : Addr) (ka : ClassId) (h0 : Heap) (n0 : Nat) (O0 : Old Z n0 h0) (G0 : Arv Z h0 a1 ka .long (0 : Int32) [] (.long (0 : Int64))) :
    OwnMet l ym9 (Jvm.Cond.code ym9 jdk_65_method_124_code 3 (some (.array .long)) :: ws) (own_R 1 1 2 48) #[(.ref a1), (.int 2)] Z h0 (Q_rm14_2 Z a1 ka cw h0 n0) := by
  refine own_body (plainFor_of_name pn_14) hisR fun p e s m below meth c s₁ hx hby hml hown hnm hret hZ X0 e0 => ?_
  have N0 := Fr.nil n0
  have K0 : Keep h0 h0 [] := Keep.refl _ _
  have pre0 : ∀ t, Go p e below s₁ (mkF m 0 #[vR a1, vI 2, vU] []) t → Go p e below s₁ (entryFrame m #[(.ref a1), (.int 2)] 3) t := fun t k => castTop (ef_14_RI m a1 (2 : Int32)) k
  have q22 := fun t (kt : Go p e below s₁ (mkF m 2 #[vR a1, vI 2, vU] [(.ref a1), (.int 2)]) t) => pre0 t (by
    show Go _ _ _ _ (mkF m 0 #[vR a1, vI 2, vU] []) _
    refine XS.iloadN X0.here hx rfl (hb hby d14_0) rfl ?_
    show Go _ _ _ _ (mkF m 1 _ [(.int 2)]) _
    refine XS.aloadN X0.here hx rfl (hb hby d14_1) rfl rfl ?_
    exact kt)
  obtain ⟨c21, Ar21, -, S21, N21, -, -⟩ := id G0
  have q23 := fun t (kt : Go p e below s₁ (mkF m 15 #[vR a1, vI 2, vU] [(.int 2)]) t) => q22 t (by
    show Go _ _ _ _ (mkF m 2 #[vR a1, vI 2, vU] [(.ref a1), (.int 2)]) _
    refine X0.arraylength hx (by rw [e0]; exact Ar21.1) (State.isArrayOf_alike hZ.alike Ar21.2.1) (g := (mkF m 2 #[vR a1, vI 2, vU] [(.ref a1), (.int 2)])) rfl rfl (hb hby d14_2) _ ?_
    rw [len_of S21 N21]
    show Go _ _ _ _ (mkF m 3 _ [(.int 0), (.int 2)]) _
    refine XS.icmpYes X0.here hx rfl (pc0 := 3) (pc' := 14) rfl (hb hby d14_3) rfl (feq (by decide : ¬ ((2 : Int32) = (0 : Int32)))).2 (by decide) (by decide) ?_
    show Go _ _ _ _ (mkF m 14 _ []) _
    refine XS.iloadN X0.here hx rfl (hb hby d14_14) rfl ?_
    exact kt)
  obtain ⟨T24, h24, k24, X24, e24, E24, A24, st24⟩ := newP X0 hx hZ (ox hw 69 rfl) e0 (g := (mkF m 15 #[vR a1, vI 2, vU] [(.int 2)])) rfl (hb hby d14_15) rfl (by decide) (cap := 2) (by decide) (by decide) (by decide) (by decide)
  obtain ⟨b24, g24⟩ : ∃ z, z = h0.size := ⟨_, rfl⟩
  rw [← g24] at A24 st24
  have gg25 : n0 ≤ b24 := Nat.le_trans (O0.1 ▸ O0.2.1) (Nat.le_of_eq g24.symm)
  have sz26 : h0.size ≤ b24 := Nat.le_trans K0.1 (Nat.le_of_eq g24.symm)
  have O27 := O0.ext E24
  have K28 := K0.ext E24
  have V24 : Arv Z h24 b24 k24 .long (2 : Int32) [(.long (0 : Int64)), (.long (0 : Int64))] (.long (0 : Int64)) := (Arv.new A24 (by decide)).pad (pad_rep [] (.long (0 : Int64)) 2)
  have f29 := (G0.ext E24)
  have q31 := fun t (kt : Go p e below T24 (mkF m 23 #[vR a1, vI 2, vR b24] [(.ref a1), (.int 0), (.ref b24), (.int 0), (.ref a1)]) t) => q23 t (st24 t (by
    show Go _ _ _ _ (mkF m 17 #[vR a1, vI 2, vU] [(.ref b24)]) _
    refine XS.astoreN X24.here hx rfl (hb hby d14_17) rfl rfl (l' := #[vR a1, vI 2, vR b24]) rfl ?_
    show Go _ _ _ _ (mkF m 18 #[vR a1, vI 2, vR b24] []) _
    refine XS.aloadN X24.here hx rfl (hb hby d14_18) rfl rfl ?_
    show Go _ _ _ _ (mkF m 19 _ [(.ref a1)]) _
    refine XS.iconst X24.here hx rfl (hb hby d14_19) ?_
    show Go _ _ _ _ (mkF m 20 _ [(.int 0), (.ref a1)]) _
    refine XS.aloadN X24.here hx rfl (hb hby d14_20) rfl rfl ?_
    show Go _ _ _ _ (mkF m 21 _ [(.ref b24), (.int 0), (.ref a1)]) _
    refine XS.iconst X24.here hx rfl (hb hby d14_21) ?_
    show Go _ _ _ _ (mkF m 22 _ [(.int 0), (.ref b24), (.int 0), (.ref a1)]) _
    refine XS.aloadN X24.here hx rfl (hb hby d14_22) rfl rfl ?_
    exact kt))
  obtain ⟨c30, Ar30, -, S30, N30, -, -⟩ := id f29
  have q32 := fun t (kt : Go p e below T24 (mkF m 25 #[vR a1, vI 2, vR b24] [(.int 2), (.int 0), (.int 0), (.ref b24), (.int 0), (.ref a1)]) t) => q31 t (by
    show Go _ _ _ _ (mkF m 23 #[vR a1, vI 2, vR b24] [(.ref a1), (.int 0), (.ref b24), (.int 0), (.ref a1)]) _
    refine X24.arraylength hx (by rw [e24]; exact Ar30.1) (State.isArrayOf_alike hZ.alike Ar30.2.1) (g := (mkF m 23 #[vR a1, vI 2, vR b24] [(.ref a1), (.int 0), (.ref b24), (.int 0), (.ref a1)])) rfl rfl (hb hby d14_23) _ ?_
    rw [len_of S30 N30]
    show Go _ _ _ _ (mkF m 24 _ [(.int 0), (.int 0), (.ref b24), (.int 0), (.ref a1)]) _
    refine XS.iloadN X24.here hx rfl (hb hby d14_24) rfl ?_
    exact kt)
  obtain ⟨_, _, ⟨T33, L33, k33, n33⟩, -, X33, ⟨_, hQ33, l33, y33, z33⟩, st33⟩ := Jvm.LawKit.callS X24 hx (y := ym7) hown (ow hZ hw 59 rfl) (ow hZ hw 60 rfl) (ow hZ hw 54 rfl) (ow hZ hw 61 rfl) (by decide) (backOf (W := 4) (rm13_0 l Z a0 hw [] cx  h24 n0 O27 ) hZ (ox hw 61 rfl) (ox hw 54 rfl) (by decide) (by decide)) (g := (mkF m 25 #[vR a1, vI 2, vR b24] [(.int 2), (.int 0), (.int 0), (.ref b24), (.int 0), (.ref a1)])) rfl (by rw [hml]; rfl) (argsL := [(.int 0), (.int 2)]) (rest := [(.int 0), (.ref b24), (.int 0), (.ref a1)]) (lenOf pd_2 rfl) rfl own_le0 (hb hby d14_25) (fun _ _ => ⟨rfl, e24, (by decide : 1 + 0 ≤ _), (by decide : 2 + 0 ≤ _)⟩)
  dsimp only [Pt.U, Pt.locs, Pt.cells, Pt.slots] at X33 l33 y33 z33 st33 hQ33
  subst l33 y33 z33
  obtain ⟨rfl, Nq33, eq33⟩ := hQ33
  have N34 := Fr.app N0 Nq33
  obtain ⟨T36, h36, L36, X36, e36, N36, K36, V36, st36⟩ := cpA X33 hx hZ hown (ox hw 62 rfl) (ox hw 65 rfl) (ox hw 63 rfl) (ox hw 64 rfl) eq33 f29 V24 (us := []) (Or.inl ⟨rfl, rfl⟩) (by decide) (by decide) (by decide) (by decide) (by decide) rfl (Nat.le_of_ble_eq_true rfl) N34 gg25 (g := (mkF m 28 #[vR a1, vI 2, vR b24] [(.int 0), (.int 0), (.ref b24), (.int 0), (.ref a1)])) rfl (by rw [hml]; rfl) rfl (hb hby d14_28) (by decide) (W := 0) own_le0 (by decide)
  have O37 := O27.keep K36 (allS gg25 all0)
  have K38 := K28.trans K36 (allS (Or.inr sz26) all0)
  have Vv36 : Arv Z h36 b24 k24 .long (2 : Int32) [(.long (0 : Int64)), (.long (0 : Int64))] (.long (0 : Int64)) := V36
  have q39 := fun t (kt : Go p e below T36 (mkF m 32 #[vR a1, vI 2, vR b24] [(.ref b24)]) t) => q32 t (st33 t (st36 t (by
    show Go _ _ _ _ (mkF m 31 #[vR a1, vI 2, vR b24] []) _
    refine XS.aloadN X36.here hx rfl (hb hby d14_31) rfl rfl ?_
    exact kt)))
  exact ⟨some (.ref b24), T36, _, _, _, _, X36, by decide, by decide, nofun, q39, fun fs hr => retOut X36 hx hret rfl (o4 ⟨rfl, rfl, rfl⟩) (hb hby d14_32) hr, by rw [e36]; exact ⟨b24, k24, rfl, N36, K38, sz26, Vv36⟩⟩
def Q_rm14_4 (Z : State) (a1 : Addr) (ka : ClassId) (d0 : Int64) (d1 : Int64) (cw : Nat → Nat) (h0 : Heap) (n0 : Nat) (v : Option Value) (h : Heap) (L : List Loc) : Prop := ∃ (r : Addr) (kr : ClassId), v = some (.ref r) ∧ Fr n0 L ∧ Keep h0 h [] ∧ h0.size ≤ r ∧ Arv Z h r kr .long (4 : Int32) [(.long d0), (.long d1), (.long (0 : Int64)), (.long (0 : Int64))] (.long (0 : Int64))
theorem rm14_4 (l : Launch) (Z : State) (a0 : Array Value) (hw : ∀ d ∈ tables_1, d.before a0 Z = true) (ws : List Jvm.Cond) {cw : Nat → Nat} (cx : Cx Z cw) (a1 : Addr) (ka : ClassId) (d0 : Int64) (d1 : Int64) (h0 : Heap) (n0 : Nat) (O0 : Old Z n0 h0) (G0 : Arv Z h0 a1 ka .long (2 : Int32) [(.long d0), (.long d1)] (.long (0 : Int64))) :
    OwnMet l ym9 (Jvm.Cond.code ym9 jdk_65_method_124_code 3 (some (.array .long)) :: ws) (own_R 1 1 4 48) #[(.ref a1), (.int 4)] Z h0 (Q_rm14_4 Z a1 ka d0 d1 cw h0 n0) := by
  refine own_body (plainFor_of_name pn_14) hisR fun p e s m below meth c s₁ hx hby hml hown hnm hret hZ X0 e0 => ?_
  have N0 := Fr.nil n0
  have K0 : Keep h0 h0 [] := Keep.refl _ _
  have pre0 : ∀ t, Go p e below s₁ (mkF m 0 #[vR a1, vI 4, vU] []) t → Go p e below s₁ (entryFrame m #[(.ref a1), (.int 4)] 3) t := fun t k => castTop (ef_14_RI m a1 (4 : Int32)) k
  have q22 := fun t (kt : Go p e below s₁ (mkF m 2 #[vR a1, vI 4, vU] [(.ref a1), (.int 4)]) t) => pre0 t (by
    show Go _ _ _ _ (mkF m 0 #[vR a1, vI 4, vU] []) _
    refine XS.iloadN X0.here hx rfl (hb hby d14_0) rfl ?_
    show Go _ _ _ _ (mkF m 1 _ [(.int 4)]) _
    refine XS.aloadN X0.here hx rfl (hb hby d14_1) rfl rfl ?_
    exact kt)
  obtain ⟨c21, Ar21, -, S21, N21, -, -⟩ := id G0
  have q23 := fun t (kt : Go p e below s₁ (mkF m 15 #[vR a1, vI 4, vU] [(.int 4)]) t) => q22 t (by
    show Go _ _ _ _ (mkF m 2 #[vR a1, vI 4, vU] [(.ref a1), (.int 4)]) _
    refine X0.arraylength hx (by rw [e0]; exact Ar21.1) (State.isArrayOf_alike hZ.alike Ar21.2.1) (g := (mkF m 2 #[vR a1, vI 4, vU] [(.ref a1), (.int 4)])) rfl rfl (hb hby d14_2) _ ?_
    rw [len_of S21 N21]
    show Go _ _ _ _ (mkF m 3 _ [(.int 2), (.int 4)]) _
    refine XS.icmpYes X0.here hx rfl (pc0 := 3) (pc' := 14) rfl (hb hby d14_3) rfl (feq (by decide : ¬ ((4 : Int32) = (2 : Int32)))).2 (by decide) (by decide) ?_
    show Go _ _ _ _ (mkF m 14 _ []) _
    refine XS.iloadN X0.here hx rfl (hb hby d14_14) rfl ?_
    exact kt)
  obtain ⟨T24, h24, k24, X24, e24, E24, A24, st24⟩ := newP X0 hx hZ (ox hw 69 rfl) e0 (g := (mkF m 15 #[vR a1, vI 4, vU] [(.int 4)])) rfl (hb hby d14_15) rfl (by decide) (cap := 4) (by decide) (by decide) (by decide) (by decide)
  obtain ⟨b24, g24⟩ : ∃ z, z = h0.size := ⟨_, rfl⟩
  rw [← g24] at A24 st24
  have gg25 : n0 ≤ b24 := Nat.le_trans (O0.1 ▸ O0.2.1) (Nat.le_of_eq g24.symm)
  have sz26 : h0.size ≤ b24 := Nat.le_trans K0.1 (Nat.le_of_eq g24.symm)
  have O27 := O0.ext E24
  have K28 := K0.ext E24
  have V24 : Arv Z h24 b24 k24 .long (4 : Int32) [(.long (0 : Int64)), (.long (0 : Int64)), (.long (0 : Int64)), (.long (0 : Int64))] (.long (0 : Int64)) := (Arv.new A24 (by decide)).pad (pad_rep [] (.long (0 : Int64)) 4)
  have f29 := (G0.ext E24)
  have q31 := fun t (kt : Go p e below T24 (mkF m 23 #[vR a1, vI 4, vR b24] [(.ref a1), (.int 0), (.ref b24), (.int 0), (.ref a1)]) t) => q23 t (st24 t (by
    show Go _ _ _ _ (mkF m 17 #[vR a1, vI 4, vU] [(.ref b24)]) _
    refine XS.astoreN X24.here hx rfl (hb hby d14_17) rfl rfl (l' := #[vR a1, vI 4, vR b24]) rfl ?_
    show Go _ _ _ _ (mkF m 18 #[vR a1, vI 4, vR b24] []) _
    refine XS.aloadN X24.here hx rfl (hb hby d14_18) rfl rfl ?_
    show Go _ _ _ _ (mkF m 19 _ [(.ref a1)]) _
    refine XS.iconst X24.here hx rfl (hb hby d14_19) ?_
    show Go _ _ _ _ (mkF m 20 _ [(.int 0), (.ref a1)]) _
    refine XS.aloadN X24.here hx rfl (hb hby d14_20) rfl rfl ?_
    show Go _ _ _ _ (mkF m 21 _ [(.ref b24), (.int 0), (.ref a1)]) _
    refine XS.iconst X24.here hx rfl (hb hby d14_21) ?_
    show Go _ _ _ _ (mkF m 22 _ [(.int 0), (.ref b24), (.int 0), (.ref a1)]) _
    refine XS.aloadN X24.here hx rfl (hb hby d14_22) rfl rfl ?_
    exact kt))
  obtain ⟨c30, Ar30, -, S30, N30, -, -⟩ := id f29
  have q32 := fun t (kt : Go p e below T24 (mkF m 25 #[vR a1, vI 4, vR b24] [(.int 4), (.int 2), (.int 0), (.ref b24), (.int 0), (.ref a1)]) t) => q31 t (by
    show Go _ _ _ _ (mkF m 23 #[vR a1, vI 4, vR b24] [(.ref a1), (.int 0), (.ref b24), (.int 0), (.ref a1)]) _
    refine X24.arraylength hx (by rw [e24]; exact Ar30.1) (State.isArrayOf_alike hZ.alike Ar30.2.1) (g := (mkF m 23 #[vR a1, vI 4, vR b24] [(.ref a1), (.int 0), (.ref b24), (.int 0), (.ref a1)])) rfl rfl (hb hby d14_23) _ ?_
    rw [len_of S30 N30]
    show Go _ _ _ _ (mkF m 24 _ [(.int 2), (.int 0), (.ref b24), (.int 0), (.ref a1)]) _
    refine XS.iloadN X24.here hx rfl (hb hby d14_24) rfl ?_
    exact kt)
  obtain ⟨_, _, ⟨T33, L33, k33, n33⟩, -, X33, ⟨_, hQ33, l33, y33, z33⟩, st33⟩ := Jvm.LawKit.callS X24 hx (y := ym7) hown (ow hZ hw 59 rfl) (ow hZ hw 60 rfl) (ow hZ hw 54 rfl) (ow hZ hw 61 rfl) (by decide) (backOf (W := 4) (rm13_2 l Z a0 hw [] cx  h24 n0 O27 ) hZ (ox hw 61 rfl) (ox hw 54 rfl) (by decide) (by decide)) (g := (mkF m 25 #[vR a1, vI 4, vR b24] [(.int 4), (.int 2), (.int 0), (.ref b24), (.int 0), (.ref a1)])) rfl (by rw [hml]; rfl) (argsL := [(.int 2), (.int 4)]) (rest := [(.int 0), (.ref b24), (.int 0), (.ref a1)]) (lenOf pd_2 rfl) rfl own_le0 (hb hby d14_25) (fun _ _ => ⟨rfl, e24, (by decide : 1 + 0 ≤ _), (by decide : 4 + 0 ≤ _)⟩)
  dsimp only [Pt.U, Pt.locs, Pt.cells, Pt.slots] at X33 l33 y33 z33 st33 hQ33
  subst l33 y33 z33
  obtain ⟨rfl, Nq33, eq33⟩ := hQ33
  have N34 := Fr.app N0 Nq33
  obtain ⟨T36, h36, L36, X36, e36, N36, K36, V36, st36⟩ := cpA X33 hx hZ hown (ox hw 62 rfl) (ox hw 65 rfl) (ox hw 63 rfl) (ox hw 64 rfl) eq33 f29 V24 (us := [(.long d0), (.long d1)]) (Or.inl ⟨rfl, rfl⟩) (by decide) (by decide) (by decide) (by decide) (by decide) rfl (Nat.le_of_ble_eq_true rfl) N34 gg25 (g := (mkF m 28 #[vR a1, vI 4, vR b24] [(.int 2), (.int 0), (.ref b24), (.int 0), (.ref a1)])) rfl (by rw [hml]; rfl) rfl (hb hby d14_28) (by decide) (W := 0) own_le0 (by decide)
  have O37 := O27.keep K36 (allS gg25 all0)
  have K38 := K28.trans K36 (allS (Or.inr sz26) all0)
  have Vv36 : Arv Z h36 b24 k24 .long (4 : Int32) [(.long d0), (.long d1), (.long (0 : Int64)), (.long (0 : Int64))] (.long (0 : Int64)) := V36
  have q39 := fun t (kt : Go p e below T36 (mkF m 32 #[vR a1, vI 4, vR b24] [(.ref b24)]) t) => q32 t (st33 t (st36 t (by
    show Go _ _ _ _ (mkF m 31 #[vR a1, vI 4, vR b24] []) _
    refine XS.aloadN X36.here hx rfl (hb hby d14_31) rfl rfl ?_
    exact kt)))
  exact ⟨some (.ref b24), T36, _, _, _, _, X36, by decide, by decide, nofun, q39, fun fs hr => retOut X36 hx hret rfl (o4 ⟨rfl, rfl, rfl⟩) (hb hby d14_32) hr, by rw [e36]; exact ⟨b24, k24, rfl, N36, K38, sz26, Vv36⟩⟩
theorem ef_10_RIIJ (m : MethodId) (x0 : Addr) (x1 : Int32) (x2 : Int32) (x3 : Int64) : entryFrame m #[(.ref x0), (.int x1), (.int x2), (.long x3)] 6 = mkF m 0 #[.val (.ref x0), .val (.int x1), .val (.int x2), .val (.long x3), .second, .unset] [] := by first | (simp [entryFrame, mkF, argsToLocals, Value.category]; done) | rfl
theorem pn_10 : plainName "com/example/pointward/pointward/pointsto/SiteSet" = true := by first | (simp [plainName, overriddenIn]; done) | decide +kernel
theorem d10_0 : decode prog_17_method_7_code 0 = .ok (.aload_n 0, 1) := by decide +kernel
theorem d10_1 : decode prog_17_method_7_code 1 = .ok (.getfield 23, 3) := by decide +kernel
theorem d10_4 : decode prog_17_method_7_code 4 = .ok (.aload_n 0, 1) := by decide +kernel
theorem d10_5 : decode prog_17_method_7_code 5 = .ok (.getfield 13, 3) := by decide +kernel
theorem d10_8 : decode prog_17_method_7_code 8 = .ok (.arraylength, 1) := by decide +kernel
theorem d10_9 : decode prog_17_method_7_code 9 = .ok (.if_icmp .ne 41, 3) := by decide +kernel
theorem d10_12 : decode prog_17_method_7_code 12 = .ok (.iconst 2, 1) := by decide +kernel
theorem d10_13 : decode prog_17_method_7_code 13 = .ok (.aload_n 0, 1) := by decide +kernel
theorem d10_14 : decode prog_17_method_7_code 14 = .ok (.getfield 23, 3) := by decide +kernel
theorem d10_17 : decode prog_17_method_7_code 17 = .ok (.iconst 2, 1) := by decide +kernel
theorem d10_18 : decode prog_17_method_7_code 18 = .ok (.imul, 1) := by decide +kernel
theorem d10_19 : decode prog_17_method_7_code 19 = .ok (.invokestatic 56, 3) := by decide +kernel
theorem d10_22 : decode prog_17_method_7_code 22 = .ok (.istore 5, 2) := by decide +kernel
theorem d10_24 : decode prog_17_method_7_code 24 = .ok (.aload_n 0, 1) := by decide +kernel
theorem d10_25 : decode prog_17_method_7_code 25 = .ok (.aload_n 0, 1) := by decide +kernel
theorem d10_26 : decode prog_17_method_7_code 26 = .ok (.getfield 13, 3) := by decide +kernel
theorem d10_29 : decode prog_17_method_7_code 29 = .ok (.iload 5, 2) := by decide +kernel
theorem d10_31 : decode prog_17_method_7_code 31 = .ok (.invokestatic 62, 3) := by decide +kernel
theorem pd_3 : parseMethodDescriptor "([II)[I" = some ⟨[(.array .int), .int], some (.array .int)⟩ := by decide +kernel
theorem d10_34 : decode prog_17_method_7_code 34 = .ok (.putfield 13, 3) := by decide +kernel
theorem d10_37 : decode prog_17_method_7_code 37 = .ok (.aload_n 0, 1) := by decide +kernel
theorem d10_38 : decode prog_17_method_7_code 38 = .ok (.aload_n 0, 1) := by decide +kernel
theorem d10_39 : decode prog_17_method_7_code 39 = .ok (.getfield 20, 3) := by decide +kernel
theorem d10_42 : decode prog_17_method_7_code 42 = .ok (.iload 5, 2) := by decide +kernel
theorem d10_44 : decode prog_17_method_7_code 44 = .ok (.invokestatic 66, 3) := by decide +kernel
theorem pd_4 : parseMethodDescriptor "([JI)[J" = some ⟨[(.array .long), .int], some (.array .long)⟩ := by decide +kernel
theorem d10_47 : decode prog_17_method_7_code 47 = .ok (.putfield 20, 3) := by decide +kernel
theorem d10_50 : decode prog_17_method_7_code 50 = .ok (.aload_n 0, 1) := by decide +kernel
theorem d10_51 : decode prog_17_method_7_code 51 = .ok (.getfield 13, 3) := by decide +kernel
theorem d10_54 : decode prog_17_method_7_code 54 = .ok (.iload_n 1, 1) := by decide +kernel
theorem d10_55 : decode prog_17_method_7_code 55 = .ok (.aload_n 0, 1) := by decide +kernel
theorem d10_56 : decode prog_17_method_7_code 56 = .ok (.getfield 13, 3) := by decide +kernel
theorem d10_59 : decode prog_17_method_7_code 59 = .ok (.iload_n 1, 1) := by decide +kernel
theorem d10_60 : decode prog_17_method_7_code 60 = .ok (.iconst 1, 1) := by decide +kernel
theorem d10_61 : decode prog_17_method_7_code 61 = .ok (.iadd, 1) := by decide +kernel
theorem d10_62 : decode prog_17_method_7_code 62 = .ok (.aload_n 0, 1) := by decide +kernel
theorem d10_63 : decode prog_17_method_7_code 63 = .ok (.getfield 23, 3) := by decide +kernel
theorem d10_66 : decode prog_17_method_7_code 66 = .ok (.iload_n 1, 1) := by decide +kernel
theorem d10_67 : decode prog_17_method_7_code 67 = .ok (.isub, 1) := by decide +kernel
theorem d10_68 : decode prog_17_method_7_code 68 = .ok (.invokestatic 69, 3) := by decide +kernel
theorem d10_71 : decode prog_17_method_7_code 71 = .ok (.aload_n 0, 1) := by decide +kernel
theorem d10_72 : decode prog_17_method_7_code 72 = .ok (.getfield 20, 3) := by decide +kernel
theorem d10_75 : decode prog_17_method_7_code 75 = .ok (.iload_n 1, 1) := by decide +kernel
theorem d10_76 : decode prog_17_method_7_code 76 = .ok (.aload_n 0, 1) := by decide +kernel
theorem d10_77 : decode prog_17_method_7_code 77 = .ok (.getfield 20, 3) := by decide +kernel
theorem d10_80 : decode prog_17_method_7_code 80 = .ok (.iload_n 1, 1) := by decide +kernel
theorem d10_81 : decode prog_17_method_7_code 81 = .ok (.iconst 1, 1) := by decide +kernel
theorem d10_82 : decode prog_17_method_7_code 82 = .ok (.iadd, 1) := by decide +kernel
theorem d10_83 : decode prog_17_method_7_code 83 = .ok (.aload_n 0, 1) := by decide +kernel
theorem d10_84 : decode prog_17_method_7_code 84 = .ok (.getfield 23, 3) := by decide +kernel
theorem d10_87 : decode prog_17_method_7_code 87 = .ok (.iload_n 1, 1) := by decide +kernel
theorem d10_88 : decode prog_17_method_7_code 88 = .ok (.isub, 1) := by decide +kernel
theorem d10_89 : decode prog_17_method_7_code 89 = .ok (.invokestatic 69, 3) := by decide +kernel
theorem d10_92 : decode prog_17_method_7_code 92 = .ok (.aload_n 0, 1) := by decide +kernel
theorem d10_93 : decode prog_17_method_7_code 93 = .ok (.getfield 13, 3) := by decide +kernel
theorem d10_96 : decode prog_17_method_7_code 96 = .ok (.iload_n 1, 1) := by decide +kernel
theorem d10_97 : decode prog_17_method_7_code 97 = .ok (.iload_n 2, 1) := by decide +kernel
theorem d10_98 : decode prog_17_method_7_code 98 = .ok (.iastore, 1) := by decide +kernel
theorem d10_99 : decode prog_17_method_7_code 99 = .ok (.aload_n 0, 1) := by decide +kernel
theorem d10_100 : decode prog_17_method_7_code 100 = .ok (.getfield 20, 3) := by decide +kernel
theorem d10_103 : decode prog_17_method_7_code 103 = .ok (.iload_n 1, 1) := by decide +kernel
theorem d10_104 : decode prog_17_method_7_code 104 = .ok (.lload_n 3, 1) := by decide +kernel
theorem d10_105 : decode prog_17_method_7_code 105 = .ok (.lastore, 1) := by decide +kernel
theorem d10_106 : decode prog_17_method_7_code 106 = .ok (.aload_n 0, 1) := by decide +kernel
theorem d10_107 : decode prog_17_method_7_code 107 = .ok (.dup, 1) := by decide +kernel
theorem d10_108 : decode prog_17_method_7_code 108 = .ok (.getfield 23, 3) := by decide +kernel
theorem d10_111 : decode prog_17_method_7_code 111 = .ok (.iconst 1, 1) := by decide +kernel
theorem d10_112 : decode prog_17_method_7_code 112 = .ok (.iadd, 1) := by decide +kernel
theorem d10_113 : decode prog_17_method_7_code 113 = .ok (.putfield 23, 3) := by decide +kernel
theorem d10_116 : decode prog_17_method_7_code 116 = .ok (.return_, 1) := by decide +kernel
def Q_rm10_0_0 (Z : State) (a1 : Addr) (p3 : Int32) (wv : Int64) (cw : Nat → Nat) (h0 : Heap) (n0 : Nat) (v : Option Value) (h : Heap) (L : List Loc) : Prop := ∃ (b : Addr) (ta : Addr) (kb : ClassId) (kt : ClassId), v = none ∧ Fr n0 L ∧ Keep h0 h [a1] ∧ h0.size ≤ b ∧ h0.size ≤ ta ∧ Fld Z h a1 sk0 "blocks" "[I" (.ref b) ∧ Fld Z h a1 sk0 "words" "[J" (.ref ta) ∧ Fld Z h a1 sk0 "used" "I" (.int 1) ∧ Arv Z h b kb .int (2 : Int32) [(.int p3), (.int 0)] (.int 0) ∧ Arv Z h ta kt .long (2 : Int32) [(.long wv), (.long (0 : Int64))] (.long (0 : Int64)) ∧ (b ≠ ta)
theorem rm10_0_0 (l : Launch) (Z : State) (a0 : Array Value) (hw : ∀ d ∈ tables_1, d.before a0 Z = true) (ws : List Jvm.Cond) {cw : Nat → Nat} (cx : Cx Z cw) (a1 : Addr) (p3 : Int32) (wv : Int64) (h0 : Heap) (n0 : Nat) (O0 : Old Z n0 h0) (G0 : Exa Z h0 a1 sk0) (G1 : Fld Z h0 a1 sk0 "blocks" "[I" (.ref (cw 0))) (G2 : Fld Z h0 a1 sk0 "words" "[J" (.ref (cw 1))) (G3 : Fld Z h0 a1 sk0 "used" "I" (.int 0)) (g_a1 : n0 ≤ a1) :
    OwnMet l ym10 (Jvm.Cond.code ym10 prog_17_method_7_code 6 none :: ws) (own_R 2 2 4 63) #[(.ref a1), (.int 0), (.int p3), (.long wv)] Z h0 (Q_rm10_0_0 Z a1 p3 wv cw h0 n0) := by
  refine own_body (plainFor_of_name pn_10) hisR fun p e s m below meth c s₁ hx hby hml hown hnm hret hZ X0 e0 => ?_
  have N0 := Fr.nil n0
  have K0 : Keep h0 h0 [a1] := Keep.refl _ _
  have pre0 : ∀ t, Go p e below s₁ (mkF m 0 #[vR a1, vI 0, vI p3, vJ wv, vS, vU] []) t → Go p e below s₁ (entryFrame m #[(.ref a1), (.int 0), (.int p3), (.long wv)] 6) t := fun t k => castTop (ef_10_RIIJ m a1 (0 : Int32) p3 wv) k
  have q21 := fun t (kt : Go p e below s₁ (mkF m 1 #[vR a1, vI 0, vI p3, vJ wv, vS, vU] [(.ref a1)]) t) => pre0 t (by
    show Go _ _ _ _ (mkF m 0 #[vR a1, vI 0, vI p3, vJ wv, vS, vU] []) _
    refine XS.aloadN X0.here hx rfl (hb hby d10_0) rfl rfl ?_
    exact kt)
  obtain ⟨T22, X22, e22, st22⟩ := getF X0 hx hZ hown (host := "") (Or.inl (ox hw 22 rfl)) Via.refl e0 G3 (g := (mkF m 1 #[vR a1, vI 0, vI p3, vJ wv, vS, vU] [(.ref a1)])) rfl rfl (hb hby d10_1)
  have q23 := fun t (kt : Go p e below T22 (mkF m 5 #[vR a1, vI 0, vI p3, vJ wv, vS, vU] [(.ref a1), (.int 0)]) t) => q21 t (st22 t (by
    show Go _ _ _ _ (mkF m 4 #[vR a1, vI 0, vI p3, vJ wv, vS, vU] [(.int 0)]) _
    refine XS.aloadN X22.here hx rfl (hb hby d10_4) rfl rfl ?_
    exact kt))
  obtain ⟨T24, X24, e24, st24⟩ := getF X22 hx hZ hown (host := "") (Or.inl (ox hw 11 rfl)) Via.refl e22 G1 (g := (mkF m 5 #[vR a1, vI 0, vI p3, vJ wv, vS, vU] [(.ref a1), (.int 0)])) rfl rfl (hb hby d10_5)
  obtain ⟨c25, Ar25, -, S25, N25, -, -⟩ := id (cx.2.2.2.2.1.ext O0.2)
  have q26 := fun t (kt : Go p e below T24 (mkF m 14 #[vR a1, vI 0, vI p3, vJ wv, vS, vU] [(.ref a1), (.int 2)]) t) => q23 t (st24 t (by
    show Go _ _ _ _ (mkF m 8 #[vR a1, vI 0, vI p3, vJ wv, vS, vU] [(.ref (cw 0)), (.int 0)]) _
    refine X24.arraylength hx (by rw [e24]; exact Ar25.1) (State.isArrayOf_alike hZ.alike Ar25.2.1) (g := (mkF m 8 #[vR a1, vI 0, vI p3, vJ wv, vS, vU] [(.ref (cw 0)), (.int 0)])) rfl rfl (hb hby d10_8) _ ?_
    rw [len_of S25 N25]
    show Go _ _ _ _ (mkF m 9 _ [(.int 0), (.int 0)]) _
    refine XS.icmpNo X24.here hx rfl (hb hby d10_9) rfl (teq (rfl : (0 : Int32) = (0 : Int32))).2 ?_
    show Go _ _ _ _ (mkF m 12 _ []) _
    refine XS.iconst X24.here hx rfl (hb hby d10_12) ?_
    show Go _ _ _ _ (mkF m 13 _ [(.int 2)]) _
    refine XS.aloadN X24.here hx rfl (hb hby d10_13) rfl rfl ?_
    exact kt))
  obtain ⟨T27, X27, e27, st27⟩ := getF X24 hx hZ hown (host := "") (Or.inl (ox hw 22 rfl)) Via.refl e24 G3 (g := (mkF m 14 #[vR a1, vI 0, vI p3, vJ wv, vS, vU] [(.ref a1), (.int 2)])) rfl rfl (hb hby d10_14)
  have q28 := fun t (kt : Go p e below T27 (mkF m 19 #[vR a1, vI 0, vI p3, vJ wv, vS, vU] [(.int 0), (.int 2)]) t) => q26 t (st27 t (by
    show Go _ _ _ _ (mkF m 17 #[vR a1, vI 0, vI p3, vJ wv, vS, vU] [(.int 0), (.int 2)]) _
    refine XS.iconst X27.here hx rfl (hb hby d10_17) ?_
    show Go _ _ _ _ (mkF m 18 _ [(.int 2), (.int 0), (.int 2)]) _
    refine XS.imul X27.here hx rfl (hb hby d10_18) rfl ?_
    exact kt))
  obtain ⟨_, _, ⟨T29, L29, k29, n29⟩, -, X29, ⟨_, hQ29, l29, y29, z29⟩, st29⟩ := Jvm.LawKit.callS X27 hx (y := ym6) hown (ow hZ hw 52 rfl) (ow hZ hw 53 rfl) (ow hZ hw 54 rfl) (ow hZ hw 55 rfl) (by decide) (backOf (W := 0) (rm11_0 l Z a0 hw [] cx  h0 n0 O0 ) hZ (ox hw 55 rfl) (ox hw 54 rfl) (by decide) (by decide)) (g := (mkF m 19 #[vR a1, vI 0, vI p3, vJ wv, vS, vU] [(.int 0), (.int 2)])) rfl (by rw [hml]; rfl) (argsL := [(.int 2), (.int 0)]) (rest := []) (lenOf pd_2 rfl) rfl own_le0 (hb hby d10_19) (fun _ _ => ⟨rfl, e27, (by decide : 0 + 0 ≤ _), (by decide : 0 + 0 ≤ _)⟩)
  dsimp only [Pt.U, Pt.locs, Pt.cells, Pt.slots] at X29 l29 y29 z29 st29 hQ29
  subst l29 y29 z29
  obtain ⟨rfl, Nq29, eq29⟩ := hQ29
  have N30 := Fr.app N0 Nq29
  have q31 := fun t (kt : Go p e below T29 (mkF m 26 #[vR a1, vI 0, vI p3, vJ wv, vS, vI 2] [(.ref a1), (.ref a1)]) t) => q28 t (st29 t (by
    show Go _ _ _ _ (mkF m 22 #[vR a1, vI 0, vI p3, vJ wv, vS, vU] [(.int 2)]) _
    refine XS.istore X29.here hx rfl (hb hby d10_22) rfl (l' := #[vR a1, vI 0, vI p3, vJ wv, vS, vI 2]) rfl ?_
    show Go _ _ _ _ (mkF m 24 #[vR a1, vI 0, vI p3, vJ wv, vS, vI 2] []) _
    refine XS.aloadN X29.here hx rfl (hb hby d10_24) rfl rfl ?_
    show Go _ _ _ _ (mkF m 25 _ [(.ref a1)]) _
    refine XS.aloadN X29.here hx rfl (hb hby d10_25) rfl rfl ?_
    exact kt))
  obtain ⟨T32, X32, e32, st32⟩ := getF X29 hx hZ hown (host := "") (Or.inl (ox hw 11 rfl)) Via.refl eq29 G1 (g := (mkF m 26 #[vR a1, vI 0, vI p3, vJ wv, vS, vI 2] [(.ref a1), (.ref a1)])) rfl rfl (hb hby d10_26)
  have q33 := fun t (kt : Go p e below T32 (mkF m 31 #[vR a1, vI 0, vI p3, vJ wv, vS, vI 2] [(.int 2), (.ref (cw 0)), (.ref a1)]) t) => q31 t (st32 t (by
    show Go _ _ _ _ (mkF m 29 #[vR a1, vI 0, vI p3, vJ wv, vS, vI 2] [(.ref (cw 0)), (.ref a1)]) _
    refine XS.iload X32.here hx rfl (hb hby d10_29) rfl ?_
    exact kt))
  obtain ⟨_, _, ⟨T34, L34, k34, n34⟩, -, X34, ⟨_, hQ34, l34, y34, z34⟩, st34⟩ := Jvm.LawKit.callS X32 hx (y := ym8) hown (ow hZ hw 56 rfl) (ow hZ hw 57 rfl) (ow hZ hw 37 rfl) (ow hZ hw 58 rfl) (by decide) (backOf (W := 1) (rm12_2 l Z a0 hw [] cx (cw 0) (cw 2) h0 n0 O0 (cx.2.2.2.2.1.ext O0.2)) hZ (ox hw 58 rfl) (ox hw 37 rfl) (by decide) (by decide)) (g := (mkF m 31 #[vR a1, vI 0, vI p3, vJ wv, vS, vI 2] [(.int 2), (.ref (cw 0)), (.ref a1)])) rfl (by rw [hml]; rfl) (argsL := [(.ref (cw 0)), (.int 2)]) (rest := [(.ref a1)]) (lenOf pd_3 rfl) rfl own_le0 (hb hby d10_31) (fun _ _ => ⟨rfl, e32, (by decide : 0 + 1 ≤ _), (by decide : 0 + 2 ≤ _)⟩)
  dsimp only [Pt.U, Pt.locs, Pt.cells, Pt.slots] at X34 l34 y34 z34 st34 hQ34
  subst l34 y34 z34
  obtain ⟨r_34, kr_34, rfl, Nq34, Kq34, fr34_0, fq34_0⟩ := hQ34
  have N35 := Fr.app N30 Nq34
  have gg36 : n0 ≤ r_34 := Nat.le_trans (O0.1 ▸ O0.2.1) fr34_0
  have sz37 : h0.size ≤ r_34 := Nat.le_trans K0.1 fr34_0
  have O38 := O0.keep Kq34 all0
  have K39 := K0.trans Kq34 all0
  have f40 := (G0.keep Kq34)
  have f41 := (G1.keep Kq34 nin0)
  obtain ⟨T42, h42, X42, e42, W42, st42⟩ := putF X34 hx hZ hown (host := "") (Or.inl (ox hw 11 rfl)) Via.refl rfl f41 f40 (Or.inl (ox hw 12 rfl)) (ox hw 1 rfl) (ty := (.array .int)) (by decide) rfl rfl (g := (mkF m 34 #[vR a1, vI 0, vI p3, vJ wv, vS, vI 2] [(.ref r_34), (.ref a1)])) rfl rfl (hb hby d10_34)
  have f43 : Fld Z h42 a1 sk0 "blocks" "[I" (.ref r_34) := f41.same W42
  have N44 := Fr.snoc X42 N35 g_a1
  have O45 := O38.wr W42 g_a1
  have K46 := K39.wr W42 (Or.inl (List.mem_of_getElem? (i := 0) rfl))
  have f47 := ((G2.keep Kq34 nin0).other W42 (Or.inr (slot_ne (Or.inl (ox hw 16 rfl)) (Or.inl (ox hw 12 rfl)) (by decide) (t := (.array .long)) (t' := (.array .int)) (by decide) (by decide))))
  have q48 := fun t (kt : Go p e below T42 (mkF m 39 #[vR a1, vI 0, vI p3, vJ wv, vS, vI 2] [(.ref a1), (.ref a1)]) t) => q33 t (st34 t (st42 t (by
    show Go _ _ _ _ (mkF m 37 #[vR a1, vI 0, vI p3, vJ wv, vS, vI 2] []) _
    refine XS.aloadN X42.here hx rfl (hb hby d10_37) rfl rfl ?_
    show Go _ _ _ _ (mkF m 38 _ [(.ref a1)]) _
    refine XS.aloadN X42.here hx rfl (hb hby d10_38) rfl rfl ?_
    exact kt)))
  obtain ⟨T49, X49, e49, st49⟩ := getF X42 hx hZ hown (host := "") (Or.inl (ox hw 15 rfl)) Via.refl e42 f47 (g := (mkF m 39 #[vR a1, vI 0, vI p3, vJ wv, vS, vI 2] [(.ref a1), (.ref a1)])) rfl rfl (hb hby d10_39)
  have q50 := fun t (kt : Go p e below T49 (mkF m 44 #[vR a1, vI 0, vI p3, vJ wv, vS, vI 2] [(.int 2), (.ref (cw 1)), (.ref a1)]) t) => q48 t (st49 t (by
    show Go _ _ _ _ (mkF m 42 #[vR a1, vI 0, vI p3, vJ wv, vS, vI 2] [(.ref (cw 1)), (.ref a1)]) _
    refine XS.iload X49.here hx rfl (hb hby d10_42) rfl ?_
    exact kt))
  obtain ⟨_, _, ⟨T51, L51, k51, n51⟩, -, X51, ⟨_, hQ51, l51, y51, z51⟩, st51⟩ := Jvm.LawKit.callS X49 hx (y := ym9) hown (ow hZ hw 66 rfl) (ow hZ hw 67 rfl) (ow hZ hw 37 rfl) (ow hZ hw 68 rfl) (by decide) (backOf (W := 1) (rm14_2 l Z a0 hw [] cx (cw 1) (cw 3) h42 n0 O45 (cx.2.2.2.2.2.ext O45.2)) hZ (ox hw 68 rfl) (ox hw 37 rfl) (by decide) (by decide)) (g := (mkF m 44 #[vR a1, vI 0, vI p3, vJ wv, vS, vI 2] [(.int 2), (.ref (cw 1)), (.ref a1)])) rfl (by rw [hml]; rfl) (argsL := [(.ref (cw 1)), (.int 2)]) (rest := [(.ref a1)]) (lenOf pd_4 rfl) rfl own_le0 (hb hby d10_44) (fun _ _ => ⟨rfl, e49, (by decide : 1 + 1 ≤ _), (by decide : 2 + 2 ≤ _)⟩)
  dsimp only [Pt.U, Pt.locs, Pt.cells, Pt.slots] at X51 l51 y51 z51 st51 hQ51
  subst l51 y51 z51
  obtain ⟨r_51, kr_51, rfl, Nq51, Kq51, fr51_0, fq51_0⟩ := hQ51
  have N52 := Fr.app N44 Nq51
  have gg53 : n0 ≤ r_51 := Nat.le_trans (O45.1 ▸ O45.2.1) fr51_0
  have sz54 : h0.size ≤ r_51 := Nat.le_trans K46.1 fr51_0
  have O55 := O45.keep Kq51 all0
  have K56 := K46.trans Kq51 all0
  have f57 := ((f40.wr W42).keep Kq51)
  have f58 := (f47.keep Kq51 nin0)
  obtain ⟨T59, h59, X59, e59, W59, st59⟩ := putF X51 hx hZ hown (host := "") (Or.inl (ox hw 15 rfl)) Via.refl rfl f58 f57 (Or.inl (ox hw 16 rfl)) (ox hw 1 rfl) (ty := (.array .long)) (by decide) rfl rfl (g := (mkF m 47 #[vR a1, vI 0, vI p3, vJ wv, vS, vI 2] [(.ref r_51), (.ref a1)])) rfl rfl (hb hby d10_47)
  have f60 : Fld Z h59 a1 sk0 "words" "[J" (.ref r_51) := f58.same W59
  have N61 := Fr.snoc X59 N52 g_a1
  have O62 := O55.wr W59 g_a1
  have K63 := K56.wr W59 (Or.inl (List.mem_of_getElem? (i := 0) rfl))
  have f64 := ((f43.keep Kq51 nin0).other W59 (Or.inr (slot_ne (Or.inl (ox hw 12 rfl)) (Or.inl (ox hw 16 rfl)) (by decide) (t := (.array .int)) (t' := (.array .long)) (by decide) (by decide))))
  have q65 := fun t (kt : Go p e below T59 (mkF m 51 #[vR a1, vI 0, vI p3, vJ wv, vS, vI 2] [(.ref a1)]) t) => q50 t (st51 t (st59 t (by
    show Go _ _ _ _ (mkF m 50 #[vR a1, vI 0, vI p3, vJ wv, vS, vI 2] []) _
    refine XS.aloadN X59.here hx rfl (hb hby d10_50) rfl rfl ?_
    exact kt)))
  obtain ⟨T66, X66, e66, st66⟩ := getF X59 hx hZ hown (host := "") (Or.inl (ox hw 11 rfl)) Via.refl e59 f64 (g := (mkF m 51 #[vR a1, vI 0, vI p3, vJ wv, vS, vI 2] [(.ref a1)])) rfl rfl (hb hby d10_51)
  have q67 := fun t (kt : Go p e below T66 (mkF m 56 #[vR a1, vI 0, vI p3, vJ wv, vS, vI 2] [(.ref a1), (.int 0), (.ref r_34)]) t) => q65 t (st66 t (by
    show Go _ _ _ _ (mkF m 54 #[vR a1, vI 0, vI p3, vJ wv, vS, vI 2] [(.ref r_34)]) _
    refine XS.iloadN X66.here hx rfl (hb hby d10_54) rfl ?_
    show Go _ _ _ _ (mkF m 55 _ [(.int 0), (.ref r_34)]) _
    refine XS.aloadN X66.here hx rfl (hb hby d10_55) rfl rfl ?_
    exact kt))
  obtain ⟨T68, X68, e68, st68⟩ := getF X66 hx hZ hown (host := "") (Or.inl (ox hw 11 rfl)) Via.refl e66 f64 (g := (mkF m 56 #[vR a1, vI 0, vI p3, vJ wv, vS, vI 2] [(.ref a1), (.int 0), (.ref r_34)])) rfl rfl (hb hby d10_56)
  have f69 := ((((G3.keep Kq34 nin0).other W42 (Or.inr (slot_ne (Or.inl (ox hw 23 rfl)) (Or.inl (ox hw 12 rfl)) (by decide) (t := .int) (t' := (.array .int)) (by decide) (by decide)))).keep Kq51 nin0).other W59 (Or.inr (slot_ne (Or.inl (ox hw 23 rfl)) (Or.inl (ox hw 16 rfl)) (by decide) (t := .int) (t' := (.array .long)) (by decide) (by decide))))
  have q70 := fun t (kt : Go p e below T68 (mkF m 63 #[vR a1, vI 0, vI p3, vJ wv, vS, vI 2] [(.ref a1), (.int 1), (.ref r_34), (.int 0), (.ref r_34)]) t) => q67 t (st68 t (by
    show Go _ _ _ _ (mkF m 59 #[vR a1, vI 0, vI p3, vJ wv, vS, vI 2] [(.ref r_34), (.int 0), (.ref r_34)]) _
    refine XS.iloadN X68.here hx rfl (hb hby d10_59) rfl ?_
    show Go _ _ _ _ (mkF m 60 _ [(.int 0), (.ref r_34), (.int 0), (.ref r_34)]) _
    refine XS.iconst X68.here hx rfl (hb hby d10_60) ?_
    show Go _ _ _ _ (mkF m 61 _ [(.int 1), (.int 0), (.ref r_34), (.int 0), (.ref r_34)]) _
    refine XS.iadd X68.here hx rfl (hb hby d10_61) rfl ?_
    show Go _ _ _ _ (mkF m 62 _ [(.int 1), (.ref r_34), (.int 0), (.ref r_34)]) _
    refine XS.aloadN X68.here hx rfl (hb hby d10_62) rfl rfl ?_
    exact kt))
  obtain ⟨T71, X71, e71, st71⟩ := getF X68 hx hZ hown (host := "") (Or.inl (ox hw 22 rfl)) Via.refl e68 f69 (g := (mkF m 63 #[vR a1, vI 0, vI p3, vJ wv, vS, vI 2] [(.ref a1), (.int 1), (.ref r_34), (.int 0), (.ref r_34)])) rfl rfl (hb hby d10_63)
  have q73 := fun t (kt : Go p e below T71 (mkF m 68 #[vR a1, vI 0, vI p3, vJ wv, vS, vI 2] [(.int 0), (.int 1), (.ref r_34), (.int 0), (.ref r_34)]) t) => q70 t (st71 t (by
    show Go _ _ _ _ (mkF m 66 #[vR a1, vI 0, vI p3, vJ wv, vS, vI 2] [(.int 0), (.int 1), (.ref r_34), (.int 0), (.ref r_34)]) _
    refine XS.iloadN X71.here hx rfl (hb hby d10_66) rfl ?_
    show Go _ _ _ _ (mkF m 67 _ [(.int 0), (.int 0), (.int 1), (.ref r_34), (.int 0), (.ref r_34)]) _
    refine XS.isub X71.here hx rfl (hb hby d10_67) rfl ?_
    exact kt))
  have ne74 : a1 ≠ r_34 := (Nat.ne_of_lt (Nat.lt_of_lt_of_le G0.lt fr34_0))
  have f75 := (((fq34_0.other W42 (Ne.symm ne74)).keep Kq51 nin0).other W59 (Ne.symm ne74))
  obtain ⟨T76, h76, L76, X76, e76, N76, K76, V76, st76⟩ := cpA X71 hx hZ hown (ox hw 70 rfl) (ox hw 65 rfl) (ox hw 63 rfl) (ox hw 64 rfl) e71 f75 f75 (us := []) (Or.inl ⟨rfl, rfl⟩) (by decide) (by decide) (by decide) (by decide) (by decide) rfl (Nat.le_of_ble_eq_true rfl) N61 gg36 (g := (mkF m 68 #[vR a1, vI 0, vI p3, vJ wv, vS, vI 2] [(.int 0), (.int 1), (.ref r_34), (.int 0), (.ref r_34)])) rfl (by rw [hml]; rfl) rfl (hb hby d10_68) (by decide) (W := 0) own_le0 (by decide)
  have O77 := O62.keep K76 (allS gg36 all0)
  have K78 := K63.trans K76 (allS (Or.inr sz37) all0)
  have Vv76 : Arv Z h76 r_34 kr_34 .int (2 : Int32) [(.int 0), (.int 0)] (.int 0) := V76
  have f79 := (f60.keep K76 (ninS ne74 nin0))
  have q80 := fun t (kt : Go p e below T76 (mkF m 72 #[vR a1, vI 0, vI p3, vJ wv, vS, vI 2] [(.ref a1)]) t) => q73 t (st76 t (by
    show Go _ _ _ _ (mkF m 71 #[vR a1, vI 0, vI p3, vJ wv, vS, vI 2] []) _
    refine XS.aloadN X76.here hx rfl (hb hby d10_71) rfl rfl ?_
    exact kt))
  obtain ⟨T81, X81, e81, st81⟩ := getF X76 hx hZ hown (host := "") (Or.inl (ox hw 15 rfl)) Via.refl e76 f79 (g := (mkF m 72 #[vR a1, vI 0, vI p3, vJ wv, vS, vI 2] [(.ref a1)])) rfl rfl (hb hby d10_72)
  have q82 := fun t (kt : Go p e below T81 (mkF m 77 #[vR a1, vI 0, vI p3, vJ wv, vS, vI 2] [(.ref a1), (.int 0), (.ref r_51)]) t) => q80 t (st81 t (by
    show Go _ _ _ _ (mkF m 75 #[vR a1, vI 0, vI p3, vJ wv, vS, vI 2] [(.ref r_51)]) _
    refine XS.iloadN X81.here hx rfl (hb hby d10_75) rfl ?_
    show Go _ _ _ _ (mkF m 76 _ [(.int 0), (.ref r_51)]) _
    refine XS.aloadN X81.here hx rfl (hb hby d10_76) rfl rfl ?_
    exact kt))
  obtain ⟨T83, X83, e83, st83⟩ := getF X81 hx hZ hown (host := "") (Or.inl (ox hw 15 rfl)) Via.refl e81 f79 (g := (mkF m 77 #[vR a1, vI 0, vI p3, vJ wv, vS, vI 2] [(.ref a1), (.int 0), (.ref r_51)])) rfl rfl (hb hby d10_77)
  have f84 := (f69.keep K76 (ninS ne74 nin0))
  have q85 := fun t (kt : Go p e below T83 (mkF m 84 #[vR a1, vI 0, vI p3, vJ wv, vS, vI 2] [(.ref a1), (.int 1), (.ref r_51), (.int 0), (.ref r_51)]) t) => q82 t (st83 t (by
    show Go _ _ _ _ (mkF m 80 #[vR a1, vI 0, vI p3, vJ wv, vS, vI 2] [(.ref r_51), (.int 0), (.ref r_51)]) _
    refine XS.iloadN X83.here hx rfl (hb hby d10_80) rfl ?_
    show Go _ _ _ _ (mkF m 81 _ [(.int 0), (.ref r_51), (.int 0), (.ref r_51)]) _
    refine XS.iconst X83.here hx rfl (hb hby d10_81) ?_
    show Go _ _ _ _ (mkF m 82 _ [(.int 1), (.int 0), (.ref r_51), (.int 0), (.ref r_51)]) _
    refine XS.iadd X83.here hx rfl (hb hby d10_82) rfl ?_
    show Go _ _ _ _ (mkF m 83 _ [(.int 1), (.ref r_51), (.int 0), (.ref r_51)]) _
    refine XS.aloadN X83.here hx rfl (hb hby d10_83) rfl rfl ?_
    exact kt))
  obtain ⟨T86, X86, e86, st86⟩ := getF X83 hx hZ hown (host := "") (Or.inl (ox hw 22 rfl)) Via.refl e83 f84 (g := (mkF m 84 #[vR a1, vI 0, vI p3, vJ wv, vS, vI 2] [(.ref a1), (.int 1), (.ref r_51), (.int 0), (.ref r_51)])) rfl rfl (hb hby d10_84)
  have q88 := fun t (kt : Go p e below T86 (mkF m 89 #[vR a1, vI 0, vI p3, vJ wv, vS, vI 2] [(.int 0), (.int 1), (.ref r_51), (.int 0), (.ref r_51)]) t) => q85 t (st86 t (by
    show Go _ _ _ _ (mkF m 87 #[vR a1, vI 0, vI p3, vJ wv, vS, vI 2] [(.int 0), (.int 1), (.ref r_51), (.int 0), (.ref r_51)]) _
    refine XS.iloadN X86.here hx rfl (hb hby d10_87) rfl ?_
    show Go _ _ _ _ (mkF m 88 _ [(.int 0), (.int 0), (.int 1), (.ref r_51), (.int 0), (.ref r_51)]) _
    refine XS.isub X86.here hx rfl (hb hby d10_88) rfl ?_
    exact kt))
  have ne89 : a1 ≠ r_51 := (Nat.ne_of_lt (Nat.lt_of_lt_of_le (f40.wr W42).lt fr51_0))
  have ne90 : r_34 ≠ r_51 := (Nat.ne_of_lt (Nat.lt_of_lt_of_le (Nat.lt_of_lt_of_le fq34_0.lt (Keep.of_wr W42).1) fr51_0))
  have f91 := ((fq51_0.other W59 (Ne.symm ne89)).keep K76 (ninS (Ne.symm ne90) nin0))
  obtain ⟨T92, h92, L92, X92, e92, N92, K92, V92, st92⟩ := cpA X86 hx hZ hown (ox hw 70 rfl) (ox hw 65 rfl) (ox hw 63 rfl) (ox hw 64 rfl) e86 f91 f91 (us := []) (Or.inl ⟨rfl, rfl⟩) (by decide) (by decide) (by decide) (by decide) (by decide) rfl (Nat.le_of_ble_eq_true rfl) N76 gg53 (g := (mkF m 89 #[vR a1, vI 0, vI p3, vJ wv, vS, vI 2] [(.int 0), (.int 1), (.ref r_51), (.int 0), (.ref r_51)])) rfl (by rw [hml]; rfl) rfl (hb hby d10_89) (by decide) (W := 0) own_le0 (by decide)
  have O93 := O77.keep K92 (allS gg53 all0)
  have K94 := K78.trans K92 (allS (Or.inr sz54) all0)
  have Vv92 : Arv Z h92 r_51 kr_51 .long (2 : Int32) [(.long (0 : Int64)), (.long (0 : Int64))] (.long (0 : Int64)) := V92
  have f95 := ((f64.keep K76 (ninS ne74 nin0)).keep K92 (ninS ne89 nin0))
  have q96 := fun t (kt : Go p e below T92 (mkF m 93 #[vR a1, vI 0, vI p3, vJ wv, vS, vI 2] [(.ref a1)]) t) => q88 t (st92 t (by
    show Go _ _ _ _ (mkF m 92 #[vR a1, vI 0, vI p3, vJ wv, vS, vI 2] []) _
    refine XS.aloadN X92.here hx rfl (hb hby d10_92) rfl rfl ?_
    exact kt))
  obtain ⟨T97, X97, e97, st97⟩ := getF X92 hx hZ hown (host := "") (Or.inl (ox hw 11 rfl)) Via.refl e92 f95 (g := (mkF m 93 #[vR a1, vI 0, vI p3, vJ wv, vS, vI 2] [(.ref a1)])) rfl rfl (hb hby d10_93)
  have f98 := (Vv76.keep K92 (ninS ne90 nin0))
  have q100 := fun t (kt : Go p e below T97 (mkF m 98 #[vR a1, vI 0, vI p3, vJ wv, vS, vI 2] [(.int p3), (.int 0), (.ref r_34)]) t) => q96 t (st97 t (by
    show Go _ _ _ _ (mkF m 96 #[vR a1, vI 0, vI p3, vJ wv, vS, vI 2] [(.ref r_34)]) _
    refine XS.iloadN X97.here hx rfl (hb hby d10_96) rfl ?_
    show Go _ _ _ _ (mkF m 97 _ [(.int 0), (.ref r_34)]) _
    refine XS.iloadN X97.here hx rfl (hb hby d10_97) rfl ?_
    exact kt))
  obtain ⟨c99, Ar99, q99, S99, N99, H99, G99⟩ := id f98
  have hi99 : ¬ ((0 : Int32) < 0 ∨ c99.slots.size ≤ ((0 : Int32)).toNatClampNeg) := inb_of S99 ⟨by decide, by decide⟩
  obtain ⟨T101, h101, X101, e101, W101, st101⟩ := stI X97 hx hZ e97 Ar99 (j := (0 : Int32)) hi99 (g := (mkF m 98 #[vR a1, vI 0, vI p3, vJ wv, vS, vI 2] [(.int p3), (.int 0), (.ref r_34)])) rfl rfl (hb hby d10_98)
  have V101 : Arv Z h101 r_34 kr_34 .int (2 : Int32) [(.int p3), (.int 0)] (.int 0) := Arv.set Ar99 q99 S99 N99 H99 G99 rfl W101 0 rfl (Nat.le_of_ble_eq_true rfl)
  have N102 := Fr.snoc X101 N92 gg36
  have O103 := O93.wr W101 gg36
  have K104 := K94.wr W101 (Or.inr sz37)
  have f105 := ((f79.keep K92 (ninS ne89 nin0)).other W101 (Or.inl ne74))
  have q106 := fun t (kt : Go p e below T101 (mkF m 100 #[vR a1, vI 0, vI p3, vJ wv, vS, vI 2] [(.ref a1)]) t) => q100 t (st101 t (by
    show Go _ _ _ _ (mkF m 99 #[vR a1, vI 0, vI p3, vJ wv, vS, vI 2] []) _
    refine XS.aloadN X101.here hx rfl (hb hby d10_99) rfl rfl ?_
    exact kt))
  obtain ⟨T107, X107, e107, st107⟩ := getF X101 hx hZ hown (host := "") (Or.inl (ox hw 15 rfl)) Via.refl e101 f105 (g := (mkF m 100 #[vR a1, vI 0, vI p3, vJ wv, vS, vI 2] [(.ref a1)])) rfl rfl (hb hby d10_100)
  have f108 := (Vv92.other W101 (Ne.symm ne90))
  have q110 := fun t (kt : Go p e below T107 (mkF m 105 #[vR a1, vI 0, vI p3, vJ wv, vS, vI 2] [(.long wv), (.int 0), (.ref r_51)]) t) => q106 t (st107 t (by
    show Go _ _ _ _ (mkF m 103 #[vR a1, vI 0, vI p3, vJ wv, vS, vI 2] [(.ref r_51)]) _
    refine XS.iloadN X107.here hx rfl (hb hby d10_103) rfl ?_
    show Go _ _ _ _ (mkF m 104 _ [(.int 0), (.ref r_51)]) _
    refine XS.lloadN X107.here hx rfl (hb hby d10_104) rfl ?_
    exact kt))
  obtain ⟨c109, Ar109, q109, S109, N109, H109, G109⟩ := id f108
  have hi109 : ¬ ((0 : Int32) < 0 ∨ c109.slots.size ≤ ((0 : Int32)).toNatClampNeg) := inb_of S109 ⟨by decide, by decide⟩
  obtain ⟨T111, h111, X111, e111, W111, st111⟩ := stJ X107 hx hZ e107 Ar109 (j := (0 : Int32)) hi109 (g := (mkF m 105 #[vR a1, vI 0, vI p3, vJ wv, vS, vI 2] [(.long wv), (.int 0), (.ref r_51)])) rfl rfl (hb hby d10_105)
  have V111 : Arv Z h111 r_51 kr_51 .long (2 : Int32) [(.long wv), (.long (0 : Int64))] (.long (0 : Int64)) := Arv.set Ar109 q109 S109 N109 H109 G109 rfl W111 0 rfl (Nat.le_of_ble_eq_true rfl)
  have N112 := Fr.snoc X111 N102 gg53
  have O113 := O103.wr W111 gg53
  have K114 := K104.wr W111 (Or.inr sz54)
  have f115 := (((f84.keep K92 (ninS ne89 nin0)).other W101 (Or.inl ne74)).other W111 (Or.inl ne89))
  have q116 := fun t (kt : Go p e below T111 (mkF m 108 #[vR a1, vI 0, vI p3, vJ wv, vS, vI 2] [(.ref a1), (.ref a1)]) t) => q110 t (st111 t (by
    show Go _ _ _ _ (mkF m 106 #[vR a1, vI 0, vI p3, vJ wv, vS, vI 2] []) _
    refine XS.aloadN X111.here hx rfl (hb hby d10_106) rfl rfl ?_
    show Go _ _ _ _ (mkF m 107 _ [(.ref a1)]) _
    refine XS.dup X111.here hx rfl (hb hby d10_107) rfl rfl ?_
    exact kt))
  obtain ⟨T117, X117, e117, st117⟩ := getF X111 hx hZ hown (host := "") (Or.inl (ox hw 22 rfl)) Via.refl e111 f115 (g := (mkF m 108 #[vR a1, vI 0, vI p3, vJ wv, vS, vI 2] [(.ref a1), (.ref a1)])) rfl rfl (hb hby d10_108)
  have f118 := (((((f57.wr W59).keep K76).keep K92).wr W101).wr W111)
  have q119 := fun t (kt : Go p e below T117 (mkF m 113 #[vR a1, vI 0, vI p3, vJ wv, vS, vI 2] [(.int 1), (.ref a1)]) t) => q116 t (st117 t (by
    show Go _ _ _ _ (mkF m 111 #[vR a1, vI 0, vI p3, vJ wv, vS, vI 2] [(.int 0), (.ref a1)]) _
    refine XS.iconst X117.here hx rfl (hb hby d10_111) ?_
    show Go _ _ _ _ (mkF m 112 _ [(.int 1), (.int 0), (.ref a1)]) _
    refine XS.iadd X117.here hx rfl (hb hby d10_112) rfl ?_
    exact kt))
  obtain ⟨T120, h120, X120, e120, W120, st120⟩ := putF X117 hx hZ hown (host := "") (Or.inl (ox hw 22 rfl)) Via.refl e117 f115 f118 (Or.inl (ox hw 23 rfl)) (ox hw 1 rfl) (ty := .int) (by decide) rfl rfl (g := (mkF m 113 #[vR a1, vI 0, vI p3, vJ wv, vS, vI 2] [(.int 1), (.ref a1)])) rfl rfl (hb hby d10_113)
  have f121 : Fld Z h120 a1 sk0 "used" "I" (.int 1) := f115.same W120
  have N122 := Fr.snoc X120 N112 g_a1
  have O123 := O113.wr W120 g_a1
  have K124 := K114.wr W120 (Or.inl (List.mem_of_getElem? (i := 0) rfl))
  have q125 := fun t (kt : Go p e below T120 (mkF m 116 #[vR a1, vI 0, vI p3, vJ wv, vS, vI 2] []) t) => q119 t (st120 t kt)
  have f126 := (((f95.other W101 (Or.inl ne74)).other W111 (Or.inl ne89)).other W120 (Or.inr (slot_ne (Or.inl (ox hw 12 rfl)) (Or.inl (ox hw 23 rfl)) (by decide) (t := (.array .int)) (t' := .int) (by decide) (by decide))))
  have f127 := ((f105.other W111 (Or.inl ne89)).other W120 (Or.inr (slot_ne (Or.inl (ox hw 16 rfl)) (Or.inl (ox hw 23 rfl)) (by decide) (t := (.array .long)) (t' := .int) (by decide) (by decide))))
  have f128 := ((V101.other W111 ne90).other W120 (Ne.symm ne74))
  have f129 := (V111.other W120 (Ne.symm ne89))
  exact ⟨none, T120, _, _, _, _, X120, by decide, by decide, fun _ => rfl, q125, fun fs hr => X120.returnOut hx hret (hb hby d10_116) hr, by rw [e120]; exact ⟨r_34, r_51, kr_34, kr_51, rfl, N122, K124, sz37, sz54, f126, f127, f121, f128, f129, ne90⟩⟩
def Q_rm10_1_0 (Z : State) (a1 : Addr) (b : Addr) (ta : Addr) (kb : ClassId) (kt : ClassId) (x0 : Int32) (x1 : Int32) (w0 : Int64) (w1 : Int64) (p3 : Int32) (wv : Int64) (cw : Nat → Nat) (h0 : Heap) (n0 : Nat) (v : Option Value) (h : Heap) (L : List Loc) : Prop := v = none ∧ Fr n0 L ∧ Keep h0 h [a1, b, ta] ∧ Fld Z h a1 sk0 "blocks" "[I" (.ref b) ∧ Fld Z h a1 sk0 "words" "[J" (.ref ta) ∧ Fld Z h a1 sk0 "used" "I" (.int 2) ∧ Arv Z h b kb .int (2 : Int32) [(.int p3), (.int x0)] (.int 0) ∧ Arv Z h ta kt .long (2 : Int32) [(.long wv), (.long w0)] (.long (0 : Int64))
theorem rm10_1_0 (l : Launch) (Z : State) (a0 : Array Value) (hw : ∀ d ∈ tables_1, d.before a0 Z = true) (ws : List Jvm.Cond) {cw : Nat → Nat} (cx : Cx Z cw) (a1 : Addr) (b : Addr) (ta : Addr) (kb : ClassId) (kt : ClassId) (x0 : Int32) (x1 : Int32) (w0 : Int64) (w1 : Int64) (p3 : Int32) (wv : Int64) (h0 : Heap) (n0 : Nat) (O0 : Old Z n0 h0) (G0 : Exa Z h0 a1 sk0) (G1 : Fld Z h0 a1 sk0 "blocks" "[I" (.ref b)) (G2 : Fld Z h0 a1 sk0 "words" "[J" (.ref ta)) (G3 : Fld Z h0 a1 sk0 "used" "I" (.int 1)) (G4 : Arv Z h0 b kb .int (2 : Int32) [(.int x0), (.int x1)] (.int 0)) (G5 : Arv Z h0 ta kt .long (2 : Int32) [(.long w0), (.long w1)] (.long (0 : Int64))) (g_a1 : n0 ≤ a1) (g_b : n0 ≤ b) (g_ta : n0 ≤ ta) (n1 : a1 ≠ b) (n2 : a1 ≠ ta) (n3 : b ≠ ta) :
    OwnMet l ym10 (Jvm.Cond.code ym10 prog_17_method_7_code 6 none :: ws) (own_R 1 0 0 48) #[(.ref a1), (.int 0), (.int p3), (.long wv)] Z h0 (Q_rm10_1_0 Z a1 b ta kb kt x0 x1 w0 w1 p3 wv cw h0 n0) := by
  refine own_body (plainFor_of_name pn_10) hisR fun p e s m below meth c s₁ hx hby hml hown hnm hret hZ X0 e0 => ?_
  have N0 := Fr.nil n0
  have K0 : Keep h0 h0 [a1, b, ta] := Keep.refl _ _
  have pre0 : ∀ t, Go p e below s₁ (mkF m 0 #[vR a1, vI 0, vI p3, vJ wv, vS, vU] []) t → Go p e below s₁ (entryFrame m #[(.ref a1), (.int 0), (.int p3), (.long wv)] 6) t := fun t k => castTop (ef_10_RIIJ m a1 (0 : Int32) p3 wv) k
  have q21 := fun t (kt : Go p e below s₁ (mkF m 1 #[vR a1, vI 0, vI p3, vJ wv, vS, vU] [(.ref a1)]) t) => pre0 t (by
    show Go _ _ _ _ (mkF m 0 #[vR a1, vI 0, vI p3, vJ wv, vS, vU] []) _
    refine XS.aloadN X0.here hx rfl (hb hby d10_0) rfl rfl ?_
    exact kt)
  obtain ⟨T22, X22, e22, st22⟩ := getF X0 hx hZ hown (host := "") (Or.inl (ox hw 22 rfl)) Via.refl e0 G3 (g := (mkF m 1 #[vR a1, vI 0, vI p3, vJ wv, vS, vU] [(.ref a1)])) rfl rfl (hb hby d10_1)
  have q23 := fun t (kt : Go p e below T22 (mkF m 5 #[vR a1, vI 0, vI p3, vJ wv, vS, vU] [(.ref a1), (.int 1)]) t) => q21 t (st22 t (by
    show Go _ _ _ _ (mkF m 4 #[vR a1, vI 0, vI p3, vJ wv, vS, vU] [(.int 1)]) _
    refine XS.aloadN X22.here hx rfl (hb hby d10_4) rfl rfl ?_
    exact kt))
  obtain ⟨T24, X24, e24, st24⟩ := getF X22 hx hZ hown (host := "") (Or.inl (ox hw 11 rfl)) Via.refl e22 G1 (g := (mkF m 5 #[vR a1, vI 0, vI p3, vJ wv, vS, vU] [(.ref a1), (.int 1)])) rfl rfl (hb hby d10_5)
  obtain ⟨c25, Ar25, -, S25, N25, -, -⟩ := id G4
  have q26 := fun t (kt : Go p e below T24 (mkF m 51 #[vR a1, vI 0, vI p3, vJ wv, vS, vU] [(.ref a1)]) t) => q23 t (st24 t (by
    show Go _ _ _ _ (mkF m 8 #[vR a1, vI 0, vI p3, vJ wv, vS, vU] [(.ref b), (.int 1)]) _
    refine X24.arraylength hx (by rw [e24]; exact Ar25.1) (State.isArrayOf_alike hZ.alike Ar25.2.1) (g := (mkF m 8 #[vR a1, vI 0, vI p3, vJ wv, vS, vU] [(.ref b), (.int 1)])) rfl rfl (hb hby d10_8) _ ?_
    rw [len_of S25 N25]
    show Go _ _ _ _ (mkF m 9 _ [(.int 2), (.int 1)]) _
    refine XS.icmpYes X24.here hx rfl (pc0 := 9) (pc' := 50) rfl (hb hby d10_9) rfl (feq (by decide : ¬ ((1 : Int32) = (2 : Int32)))).2 (by decide) (by decide) ?_
    show Go _ _ _ _ (mkF m 50 _ []) _
    refine XS.aloadN X24.here hx rfl (hb hby d10_50) rfl rfl ?_
    exact kt))
  obtain ⟨T27, X27, e27, st27⟩ := getF X24 hx hZ hown (host := "") (Or.inl (ox hw 11 rfl)) Via.refl e24 G1 (g := (mkF m 51 #[vR a1, vI 0, vI p3, vJ wv, vS, vU] [(.ref a1)])) rfl rfl (hb hby d10_51)
  have q28 := fun t (kt : Go p e below T27 (mkF m 56 #[vR a1, vI 0, vI p3, vJ wv, vS, vU] [(.ref a1), (.int 0), (.ref b)]) t) => q26 t (st27 t (by
    show Go _ _ _ _ (mkF m 54 #[vR a1, vI 0, vI p3, vJ wv, vS, vU] [(.ref b)]) _
    refine XS.iloadN X27.here hx rfl (hb hby d10_54) rfl ?_
    show Go _ _ _ _ (mkF m 55 _ [(.int 0), (.ref b)]) _
    refine XS.aloadN X27.here hx rfl (hb hby d10_55) rfl rfl ?_
    exact kt))
  obtain ⟨T29, X29, e29, st29⟩ := getF X27 hx hZ hown (host := "") (Or.inl (ox hw 11 rfl)) Via.refl e27 G1 (g := (mkF m 56 #[vR a1, vI 0, vI p3, vJ wv, vS, vU] [(.ref a1), (.int 0), (.ref b)])) rfl rfl (hb hby d10_56)
  have q30 := fun t (kt : Go p e below T29 (mkF m 63 #[vR a1, vI 0, vI p3, vJ wv, vS, vU] [(.ref a1), (.int 1), (.ref b), (.int 0), (.ref b)]) t) => q28 t (st29 t (by
    show Go _ _ _ _ (mkF m 59 #[vR a1, vI 0, vI p3, vJ wv, vS, vU] [(.ref b), (.int 0), (.ref b)]) _
    refine XS.iloadN X29.here hx rfl (hb hby d10_59) rfl ?_
    show Go _ _ _ _ (mkF m 60 _ [(.int 0), (.ref b), (.int 0), (.ref b)]) _
    refine XS.iconst X29.here hx rfl (hb hby d10_60) ?_
    show Go _ _ _ _ (mkF m 61 _ [(.int 1), (.int 0), (.ref b), (.int 0), (.ref b)]) _
    refine XS.iadd X29.here hx rfl (hb hby d10_61) rfl ?_
    show Go _ _ _ _ (mkF m 62 _ [(.int 1), (.ref b), (.int 0), (.ref b)]) _
    refine XS.aloadN X29.here hx rfl (hb hby d10_62) rfl rfl ?_
    exact kt))
  obtain ⟨T31, X31, e31, st31⟩ := getF X29 hx hZ hown (host := "") (Or.inl (ox hw 22 rfl)) Via.refl e29 G3 (g := (mkF m 63 #[vR a1, vI 0, vI p3, vJ wv, vS, vU] [(.ref a1), (.int 1), (.ref b), (.int 0), (.ref b)])) rfl rfl (hb hby d10_63)
  have q33 := fun t (kt : Go p e below T31 (mkF m 68 #[vR a1, vI 0, vI p3, vJ wv, vS, vU] [(.int 1), (.int 1), (.ref b), (.int 0), (.ref b)]) t) => q30 t (st31 t (by
    show Go _ _ _ _ (mkF m 66 #[vR a1, vI 0, vI p3, vJ wv, vS, vU] [(.int 1), (.int 1), (.ref b), (.int 0), (.ref b)]) _
    refine XS.iloadN X31.here hx rfl (hb hby d10_66) rfl ?_
    show Go _ _ _ _ (mkF m 67 _ [(.int 0), (.int 1), (.int 1), (.ref b), (.int 0), (.ref b)]) _
    refine XS.isub X31.here hx rfl (hb hby d10_67) rfl ?_
    exact kt))
  obtain ⟨T34, h34, L34, X34, e34, N34, K34, V34, st34⟩ := cpA X31 hx hZ hown (ox hw 70 rfl) (ox hw 65 rfl) (ox hw 63 rfl) (ox hw 64 rfl) e31 G4 G4 (us := [(.int x0)]) (Or.inl ⟨rfl, rfl⟩) (by decide) (by decide) (by decide) (by decide) (by decide) rfl (Nat.le_of_ble_eq_true rfl) N0 g_b (g := (mkF m 68 #[vR a1, vI 0, vI p3, vJ wv, vS, vU] [(.int 1), (.int 1), (.ref b), (.int 0), (.ref b)])) rfl (by rw [hml]; rfl) rfl (hb hby d10_68) (by decide) (W := 0) own_le0 (by decide)
  have O35 := O0.keep K34 (allS g_b all0)
  have K36 := K0.trans K34 (allS (Or.inl (List.mem_of_getElem? (i := 1) rfl)) all0)
  have Vv34 : Arv Z h34 b kb .int (2 : Int32) [(.int x0), (.int x0)] (.int 0) := V34
  have f37 := (G2.keep K34 (ninS n1 nin0))
  have q38 := fun t (kt : Go p e below T34 (mkF m 72 #[vR a1, vI 0, vI p3, vJ wv, vS, vU] [(.ref a1)]) t) => q33 t (st34 t (by
    show Go _ _ _ _ (mkF m 71 #[vR a1, vI 0, vI p3, vJ wv, vS, vU] []) _
    refine XS.aloadN X34.here hx rfl (hb hby d10_71) rfl rfl ?_
    exact kt))
  obtain ⟨T39, X39, e39, st39⟩ := getF X34 hx hZ hown (host := "") (Or.inl (ox hw 15 rfl)) Via.refl e34 f37 (g := (mkF m 72 #[vR a1, vI 0, vI p3, vJ wv, vS, vU] [(.ref a1)])) rfl rfl (hb hby d10_72)
  have q40 := fun t (kt : Go p e below T39 (mkF m 77 #[vR a1, vI 0, vI p3, vJ wv, vS, vU] [(.ref a1), (.int 0), (.ref ta)]) t) => q38 t (st39 t (by
    show Go _ _ _ _ (mkF m 75 #[vR a1, vI 0, vI p3, vJ wv, vS, vU] [(.ref ta)]) _
    refine XS.iloadN X39.here hx rfl (hb hby d10_75) rfl ?_
    show Go _ _ _ _ (mkF m 76 _ [(.int 0), (.ref ta)]) _
    refine XS.aloadN X39.here hx rfl (hb hby d10_76) rfl rfl ?_
    exact kt))
  obtain ⟨T41, X41, e41, st41⟩ := getF X39 hx hZ hown (host := "") (Or.inl (ox hw 15 rfl)) Via.refl e39 f37 (g := (mkF m 77 #[vR a1, vI 0, vI p3, vJ wv, vS, vU] [(.ref a1), (.int 0), (.ref ta)])) rfl rfl (hb hby d10_77)
  have f42 := (G3.keep K34 (ninS n1 nin0))
  have q43 := fun t (kt : Go p e below T41 (mkF m 84 #[vR a1, vI 0, vI p3, vJ wv, vS, vU] [(.ref a1), (.int 1), (.ref ta), (.int 0), (.ref ta)]) t) => q40 t (st41 t (by
    show Go _ _ _ _ (mkF m 80 #[vR a1, vI 0, vI p3, vJ wv, vS, vU] [(.ref ta), (.int 0), (.ref ta)]) _
    refine XS.iloadN X41.here hx rfl (hb hby d10_80) rfl ?_
    show Go _ _ _ _ (mkF m 81 _ [(.int 0), (.ref ta), (.int 0), (.ref ta)]) _
    refine XS.iconst X41.here hx rfl (hb hby d10_81) ?_
    show Go _ _ _ _ (mkF m 82 _ [(.int 1), (.int 0), (.ref ta), (.int 0), (.ref ta)]) _
    refine XS.iadd X41.here hx rfl (hb hby d10_82) rfl ?_
    show Go _ _ _ _ (mkF m 83 _ [(.int 1), (.ref ta), (.int 0), (.ref ta)]) _
    refine XS.aloadN X41.here hx rfl (hb hby d10_83) rfl rfl ?_
    exact kt))
  obtain ⟨T44, X44, e44, st44⟩ := getF X41 hx hZ hown (host := "") (Or.inl (ox hw 22 rfl)) Via.refl e41 f42 (g := (mkF m 84 #[vR a1, vI 0, vI p3, vJ wv, vS, vU] [(.ref a1), (.int 1), (.ref ta), (.int 0), (.ref ta)])) rfl rfl (hb hby d10_84)
  have q46 := fun t (kt : Go p e below T44 (mkF m 89 #[vR a1, vI 0, vI p3, vJ wv, vS, vU] [(.int 1), (.int 1), (.ref ta), (.int 0), (.ref ta)]) t) => q43 t (st44 t (by
    show Go _ _ _ _ (mkF m 87 #[vR a1, vI 0, vI p3, vJ wv, vS, vU] [(.int 1), (.int 1), (.ref ta), (.int 0), (.ref ta)]) _
    refine XS.iloadN X44.here hx rfl (hb hby d10_87) rfl ?_
    show Go _ _ _ _ (mkF m 88 _ [(.int 0), (.int 1), (.int 1), (.ref ta), (.int 0), (.ref ta)]) _
    refine XS.isub X44.here hx rfl (hb hby d10_88) rfl ?_
    exact kt))
  have f47 := (G5.keep K34 (ninS (Ne.symm n3) nin0))
  obtain ⟨T48, h48, L48, X48, e48, N48, K48, V48, st48⟩ := cpA X44 hx hZ hown (ox hw 70 rfl) (ox hw 65 rfl) (ox hw 63 rfl) (ox hw 64 rfl) e44 f47 f47 (us := [(.long w0)]) (Or.inl ⟨rfl, rfl⟩) (by decide) (by decide) (by decide) (by decide) (by decide) rfl (Nat.le_of_ble_eq_true rfl) N34 g_ta (g := (mkF m 89 #[vR a1, vI 0, vI p3, vJ wv, vS, vU] [(.int 1), (.int 1), (.ref ta), (.int 0), (.ref ta)])) rfl (by rw [hml]; rfl) rfl (hb hby d10_89) (by decide) (W := 0) own_le0 (by decide)
  have O49 := O35.keep K48 (allS g_ta all0)
  have K50 := K36.trans K48 (allS (Or.inl (List.mem_of_getElem? (i := 2) rfl)) all0)
  have Vv48 : Arv Z h48 ta kt .long (2 : Int32) [(.long w0), (.long w0)] (.long (0 : Int64)) := V48
  have f51 := ((G1.keep K34 (ninS n1 nin0)).keep K48 (ninS n2 nin0))
  have q52 := fun t (kt : Go p e below T48 (mkF m 93 #[vR a1, vI 0, vI p3, vJ wv, vS, vU] [(.ref a1)]) t) => q46 t (st48 t (by
    show Go _ _ _ _ (mkF m 92 #[vR a1, vI 0, vI p3, vJ wv, vS, vU] []) _
    refine XS.aloadN X48.here hx rfl (hb hby d10_92) rfl rfl ?_
    exact kt))
  obtain ⟨T53, X53, e53, st53⟩ := getF X48 hx hZ hown (host := "") (Or.inl (ox hw 11 rfl)) Via.refl e48 f51 (g := (mkF m 93 #[vR a1, vI 0, vI p3, vJ wv, vS, vU] [(.ref a1)])) rfl rfl (hb hby d10_93)
  have f54 := (Vv34.keep K48 (ninS n3 nin0))
  have q56 := fun t (kt : Go p e below T53 (mkF m 98 #[vR a1, vI 0, vI p3, vJ wv, vS, vU] [(.int p3), (.int 0), (.ref b)]) t) => q52 t (st53 t (by
    show Go _ _ _ _ (mkF m 96 #[vR a1, vI 0, vI p3, vJ wv, vS, vU] [(.ref b)]) _
    refine XS.iloadN X53.here hx rfl (hb hby d10_96) rfl ?_
    show Go _ _ _ _ (mkF m 97 _ [(.int 0), (.ref b)]) _
    refine XS.iloadN X53.here hx rfl (hb hby d10_97) rfl ?_
    exact kt))
  obtain ⟨c55, Ar55, q55, S55, N55, H55, G55⟩ := id f54
  have hi55 : ¬ ((0 : Int32) < 0 ∨ c55.slots.size ≤ ((0 : Int32)).toNatClampNeg) := inb_of S55 ⟨by decide, by decide⟩
  obtain ⟨T57, h57, X57, e57, W57, st57⟩ := stI X53 hx hZ e53 Ar55 (j := (0 : Int32)) hi55 (g := (mkF m 98 #[vR a1, vI 0, vI p3, vJ wv, vS, vU] [(.int p3), (.int 0), (.ref b)])) rfl rfl (hb hby d10_98)
  have V57 : Arv Z h57 b kb .int (2 : Int32) [(.int p3), (.int x0)] (.int 0) := Arv.set Ar55 q55 S55 N55 H55 G55 rfl W57 0 rfl (Nat.le_of_ble_eq_true rfl)
  have N58 := Fr.snoc X57 N48 g_b
  have O59 := O49.wr W57 g_b
  have K60 := K50.wr W57 (Or.inl (List.mem_of_getElem? (i := 1) rfl))
  have f61 := ((f37.keep K48 (ninS n2 nin0)).other W57 (Or.inl n1))
  have q62 := fun t (kt : Go p e below T57 (mkF m 100 #[vR a1, vI 0, vI p3, vJ wv, vS, vU] [(.ref a1)]) t) => q56 t (st57 t (by
    show Go _ _ _ _ (mkF m 99 #[vR a1, vI 0, vI p3, vJ wv, vS, vU] []) _
    refine XS.aloadN X57.here hx rfl (hb hby d10_99) rfl rfl ?_
    exact kt))
  obtain ⟨T63, X63, e63, st63⟩ := getF X57 hx hZ hown (host := "") (Or.inl (ox hw 15 rfl)) Via.refl e57 f61 (g := (mkF m 100 #[vR a1, vI 0, vI p3, vJ wv, vS, vU] [(.ref a1)])) rfl rfl (hb hby d10_100)
  have f64 := (Vv48.other W57 (Ne.symm n3))
  have q66 := fun t (kt : Go p e below T63 (mkF m 105 #[vR a1, vI 0, vI p3, vJ wv, vS, vU] [(.long wv), (.int 0), (.ref ta)]) t) => q62 t (st63 t (by
    show Go _ _ _ _ (mkF m 103 #[vR a1, vI 0, vI p3, vJ wv, vS, vU] [(.ref ta)]) _
    refine XS.iloadN X63.here hx rfl (hb hby d10_103) rfl ?_
    show Go _ _ _ _ (mkF m 104 _ [(.int 0), (.ref ta)]) _
    refine XS.lloadN X63.here hx rfl (hb hby d10_104) rfl ?_
    exact kt))
  obtain ⟨c65, Ar65, q65, S65, N65, H65, G65⟩ := id f64
  have hi65 : ¬ ((0 : Int32) < 0 ∨ c65.slots.size ≤ ((0 : Int32)).toNatClampNeg) := inb_of S65 ⟨by decide, by decide⟩
  obtain ⟨T67, h67, X67, e67, W67, st67⟩ := stJ X63 hx hZ e63 Ar65 (j := (0 : Int32)) hi65 (g := (mkF m 105 #[vR a1, vI 0, vI p3, vJ wv, vS, vU] [(.long wv), (.int 0), (.ref ta)])) rfl rfl (hb hby d10_105)
  have V67 : Arv Z h67 ta kt .long (2 : Int32) [(.long wv), (.long w0)] (.long (0 : Int64)) := Arv.set Ar65 q65 S65 N65 H65 G65 rfl W67 0 rfl (Nat.le_of_ble_eq_true rfl)
  have N68 := Fr.snoc X67 N58 g_ta
  have O69 := O59.wr W67 g_ta
  have K70 := K60.wr W67 (Or.inl (List.mem_of_getElem? (i := 2) rfl))
  have f71 := (((f42.keep K48 (ninS n2 nin0)).other W57 (Or.inl n1)).other W67 (Or.inl n2))
  have q72 := fun t (kt : Go p e below T67 (mkF m 108 #[vR a1, vI 0, vI p3, vJ wv, vS, vU] [(.ref a1), (.ref a1)]) t) => q66 t (st67 t (by
    show Go _ _ _ _ (mkF m 106 #[vR a1, vI 0, vI p3, vJ wv, vS, vU] []) _
    refine XS.aloadN X67.here hx rfl (hb hby d10_106) rfl rfl ?_
    show Go _ _ _ _ (mkF m 107 _ [(.ref a1)]) _
    refine XS.dup X67.here hx rfl (hb hby d10_107) rfl rfl ?_
    exact kt))
  obtain ⟨T73, X73, e73, st73⟩ := getF X67 hx hZ hown (host := "") (Or.inl (ox hw 22 rfl)) Via.refl e67 f71 (g := (mkF m 108 #[vR a1, vI 0, vI p3, vJ wv, vS, vU] [(.ref a1), (.ref a1)])) rfl rfl (hb hby d10_108)
  have f74 := ((((G0.keep K34).keep K48).wr W57).wr W67)
  have q75 := fun t (kt : Go p e below T73 (mkF m 113 #[vR a1, vI 0, vI p3, vJ wv, vS, vU] [(.int 2), (.ref a1)]) t) => q72 t (st73 t (by
    show Go _ _ _ _ (mkF m 111 #[vR a1, vI 0, vI p3, vJ wv, vS, vU] [(.int 1), (.ref a1)]) _
    refine XS.iconst X73.here hx rfl (hb hby d10_111) ?_
    show Go _ _ _ _ (mkF m 112 _ [(.int 1), (.int 1), (.ref a1)]) _
    refine XS.iadd X73.here hx rfl (hb hby d10_112) rfl ?_
    exact kt))
  obtain ⟨T76, h76, X76, e76, W76, st76⟩ := putF X73 hx hZ hown (host := "") (Or.inl (ox hw 22 rfl)) Via.refl e73 f71 f74 (Or.inl (ox hw 23 rfl)) (ox hw 1 rfl) (ty := .int) (by decide) rfl rfl (g := (mkF m 113 #[vR a1, vI 0, vI p3, vJ wv, vS, vU] [(.int 2), (.ref a1)])) rfl rfl (hb hby d10_113)
  have f77 : Fld Z h76 a1 sk0 "used" "I" (.int 2) := f71.same W76
  have N78 := Fr.snoc X76 N68 g_a1
  have O79 := O69.wr W76 g_a1
  have K80 := K70.wr W76 (Or.inl (List.mem_of_getElem? (i := 0) rfl))
  have q81 := fun t (kt : Go p e below T76 (mkF m 116 #[vR a1, vI 0, vI p3, vJ wv, vS, vU] []) t) => q75 t (st76 t kt)
  have f82 := (((f51.other W57 (Or.inl n1)).other W67 (Or.inl n2)).other W76 (Or.inr (slot_ne (Or.inl (ox hw 12 rfl)) (Or.inl (ox hw 23 rfl)) (by decide) (t := (.array .int)) (t' := .int) (by decide) (by decide))))
  have f83 := ((f61.other W67 (Or.inl n2)).other W76 (Or.inr (slot_ne (Or.inl (ox hw 16 rfl)) (Or.inl (ox hw 23 rfl)) (by decide) (t := (.array .long)) (t' := .int) (by decide) (by decide))))
  have f84 := ((V57.other W67 n3).other W76 (Ne.symm n1))
  have f85 := (V67.other W76 (Ne.symm n2))
  exact ⟨none, T76, _, _, _, _, X76, by decide, by decide, fun _ => rfl, q81, fun fs hr => X76.returnOut hx hret (hb hby d10_116) hr, by rw [e76]; exact ⟨rfl, N78, K80, f82, f83, f77, f84, f85⟩⟩
def Q_rm10_1_1 (Z : State) (a1 : Addr) (b : Addr) (ta : Addr) (kb : ClassId) (kt : ClassId) (x0 : Int32) (x1 : Int32) (w0 : Int64) (w1 : Int64) (p3 : Int32) (wv : Int64) (cw : Nat → Nat) (h0 : Heap) (n0 : Nat) (v : Option Value) (h : Heap) (L : List Loc) : Prop := v = none ∧ Fr n0 L ∧ Keep h0 h [a1, b, ta] ∧ Fld Z h a1 sk0 "blocks" "[I" (.ref b) ∧ Fld Z h a1 sk0 "words" "[J" (.ref ta) ∧ Fld Z h a1 sk0 "used" "I" (.int 2) ∧ Arv Z h b kb .int (2 : Int32) [(.int x0), (.int p3)] (.int 0) ∧ Arv Z h ta kt .long (2 : Int32) [(.long w0), (.long wv)] (.long (0 : Int64))
theorem rm10_1_1 (l : Launch) (Z : State) (a0 : Array Value) (hw : ∀ d ∈ tables_1, d.before a0 Z = true) (ws : List Jvm.Cond) {cw : Nat → Nat} (cx : Cx Z cw) (a1 : Addr) (b : Addr) (ta : Addr) (kb : ClassId) (kt : ClassId) (x0 : Int32) (x1 : Int32) (w0 : Int64) (w1 : Int64) (p3 : Int32) (wv : Int64) (h0 : Heap) (n0 : Nat) (O0 : Old Z n0 h0) (G0 : Exa Z h0 a1 sk0) (G1 : Fld Z h0 a1 sk0 "blocks" "[I" (.ref b)) (G2 : Fld Z h0 a1 sk0 "words" "[J" (.ref ta)) (G3 : Fld Z h0 a1 sk0 "used" "I" (.int 1)) (G4 : Arv Z h0 b kb .int (2 : Int32) [(.int x0), (.int x1)] (.int 0)) (G5 : Arv Z h0 ta kt .long (2 : Int32) [(.long w0), (.long w1)] (.long (0 : Int64))) (g_a1 : n0 ≤ a1) (g_b : n0 ≤ b) (g_ta : n0 ≤ ta) (n1 : a1 ≠ b) (n2 : a1 ≠ ta) (n3 : b ≠ ta) :
    OwnMet l ym10 (Jvm.Cond.code ym10 prog_17_method_7_code 6 none :: ws) (own_R 1 0 0 48) #[(.ref a1), (.int 1), (.int p3), (.long wv)] Z h0 (Q_rm10_1_1 Z a1 b ta kb kt x0 x1 w0 w1 p3 wv cw h0 n0) := by
  refine own_body (plainFor_of_name pn_10) hisR fun p e s m below meth c s₁ hx hby hml hown hnm hret hZ X0 e0 => ?_
  have N0 := Fr.nil n0
  have K0 : Keep h0 h0 [a1, b, ta] := Keep.refl _ _
  have pre0 : ∀ t, Go p e below s₁ (mkF m 0 #[vR a1, vI 1, vI p3, vJ wv, vS, vU] []) t → Go p e below s₁ (entryFrame m #[(.ref a1), (.int 1), (.int p3), (.long wv)] 6) t := fun t k => castTop (ef_10_RIIJ m a1 (1 : Int32) p3 wv) k
  have q21 := fun t (kt : Go p e below s₁ (mkF m 1 #[vR a1, vI 1, vI p3, vJ wv, vS, vU] [(.ref a1)]) t) => pre0 t (by
    show Go _ _ _ _ (mkF m 0 #[vR a1, vI 1, vI p3, vJ wv, vS, vU] []) _
    refine XS.aloadN X0.here hx rfl (hb hby d10_0) rfl rfl ?_
    exact kt)
  obtain ⟨T22, X22, e22, st22⟩ := getF X0 hx hZ hown (host := "") (Or.inl (ox hw 22 rfl)) Via.refl e0 G3 (g := (mkF m 1 #[vR a1, vI 1, vI p3, vJ wv, vS, vU] [(.ref a1)])) rfl rfl (hb hby d10_1)
  have q23 := fun t (kt : Go p e below T22 (mkF m 5 #[vR a1, vI 1, vI p3, vJ wv, vS, vU] [(.ref a1), (.int 1)]) t) => q21 t (st22 t (by
    show Go _ _ _ _ (mkF m 4 #[vR a1, vI 1, vI p3, vJ wv, vS, vU] [(.int 1)]) _
    refine XS.aloadN X22.here hx rfl (hb hby d10_4) rfl rfl ?_
    exact kt))
  obtain ⟨T24, X24, e24, st24⟩ := getF X22 hx hZ hown (host := "") (Or.inl (ox hw 11 rfl)) Via.refl e22 G1 (g := (mkF m 5 #[vR a1, vI 1, vI p3, vJ wv, vS, vU] [(.ref a1), (.int 1)])) rfl rfl (hb hby d10_5)
  obtain ⟨c25, Ar25, -, S25, N25, -, -⟩ := id G4
  have q26 := fun t (kt : Go p e below T24 (mkF m 51 #[vR a1, vI 1, vI p3, vJ wv, vS, vU] [(.ref a1)]) t) => q23 t (st24 t (by
    show Go _ _ _ _ (mkF m 8 #[vR a1, vI 1, vI p3, vJ wv, vS, vU] [(.ref b), (.int 1)]) _
    refine X24.arraylength hx (by rw [e24]; exact Ar25.1) (State.isArrayOf_alike hZ.alike Ar25.2.1) (g := (mkF m 8 #[vR a1, vI 1, vI p3, vJ wv, vS, vU] [(.ref b), (.int 1)])) rfl rfl (hb hby d10_8) _ ?_
    rw [len_of S25 N25]
    show Go _ _ _ _ (mkF m 9 _ [(.int 2), (.int 1)]) _
    refine XS.icmpYes X24.here hx rfl (pc0 := 9) (pc' := 50) rfl (hb hby d10_9) rfl (feq (by decide : ¬ ((1 : Int32) = (2 : Int32)))).2 (by decide) (by decide) ?_
    show Go _ _ _ _ (mkF m 50 _ []) _
    refine XS.aloadN X24.here hx rfl (hb hby d10_50) rfl rfl ?_
    exact kt))
  obtain ⟨T27, X27, e27, st27⟩ := getF X24 hx hZ hown (host := "") (Or.inl (ox hw 11 rfl)) Via.refl e24 G1 (g := (mkF m 51 #[vR a1, vI 1, vI p3, vJ wv, vS, vU] [(.ref a1)])) rfl rfl (hb hby d10_51)
  have q28 := fun t (kt : Go p e below T27 (mkF m 56 #[vR a1, vI 1, vI p3, vJ wv, vS, vU] [(.ref a1), (.int 1), (.ref b)]) t) => q26 t (st27 t (by
    show Go _ _ _ _ (mkF m 54 #[vR a1, vI 1, vI p3, vJ wv, vS, vU] [(.ref b)]) _
    refine XS.iloadN X27.here hx rfl (hb hby d10_54) rfl ?_
    show Go _ _ _ _ (mkF m 55 _ [(.int 1), (.ref b)]) _
    refine XS.aloadN X27.here hx rfl (hb hby d10_55) rfl rfl ?_
    exact kt))
  obtain ⟨T29, X29, e29, st29⟩ := getF X27 hx hZ hown (host := "") (Or.inl (ox hw 11 rfl)) Via.refl e27 G1 (g := (mkF m 56 #[vR a1, vI 1, vI p3, vJ wv, vS, vU] [(.ref a1), (.int 1), (.ref b)])) rfl rfl (hb hby d10_56)
  have q30 := fun t (kt : Go p e below T29 (mkF m 63 #[vR a1, vI 1, vI p3, vJ wv, vS, vU] [(.ref a1), (.int 2), (.ref b), (.int 1), (.ref b)]) t) => q28 t (st29 t (by
    show Go _ _ _ _ (mkF m 59 #[vR a1, vI 1, vI p3, vJ wv, vS, vU] [(.ref b), (.int 1), (.ref b)]) _
    refine XS.iloadN X29.here hx rfl (hb hby d10_59) rfl ?_
    show Go _ _ _ _ (mkF m 60 _ [(.int 1), (.ref b), (.int 1), (.ref b)]) _
    refine XS.iconst X29.here hx rfl (hb hby d10_60) ?_
    show Go _ _ _ _ (mkF m 61 _ [(.int 1), (.int 1), (.ref b), (.int 1), (.ref b)]) _
    refine XS.iadd X29.here hx rfl (hb hby d10_61) rfl ?_
    show Go _ _ _ _ (mkF m 62 _ [(.int 2), (.ref b), (.int 1), (.ref b)]) _
    refine XS.aloadN X29.here hx rfl (hb hby d10_62) rfl rfl ?_
    exact kt))
  obtain ⟨T31, X31, e31, st31⟩ := getF X29 hx hZ hown (host := "") (Or.inl (ox hw 22 rfl)) Via.refl e29 G3 (g := (mkF m 63 #[vR a1, vI 1, vI p3, vJ wv, vS, vU] [(.ref a1), (.int 2), (.ref b), (.int 1), (.ref b)])) rfl rfl (hb hby d10_63)
  have q33 := fun t (kt : Go p e below T31 (mkF m 68 #[vR a1, vI 1, vI p3, vJ wv, vS, vU] [(.int 0), (.int 2), (.ref b), (.int 1), (.ref b)]) t) => q30 t (st31 t (by
    show Go _ _ _ _ (mkF m 66 #[vR a1, vI 1, vI p3, vJ wv, vS, vU] [(.int 1), (.int 2), (.ref b), (.int 1), (.ref b)]) _
    refine XS.iloadN X31.here hx rfl (hb hby d10_66) rfl ?_
    show Go _ _ _ _ (mkF m 67 _ [(.int 1), (.int 1), (.int 2), (.ref b), (.int 1), (.ref b)]) _
    refine XS.isub X31.here hx rfl (hb hby d10_67) rfl ?_
    exact kt))
  obtain ⟨T34, h34, L34, X34, e34, N34, K34, V34, st34⟩ := cpA X31 hx hZ hown (ox hw 70 rfl) (ox hw 65 rfl) (ox hw 63 rfl) (ox hw 64 rfl) e31 G4 G4 (us := []) (Or.inl ⟨rfl, rfl⟩) (by decide) (by decide) (by decide) (by decide) (by decide) rfl (Nat.le_of_ble_eq_true rfl) N0 g_b (g := (mkF m 68 #[vR a1, vI 1, vI p3, vJ wv, vS, vU] [(.int 0), (.int 2), (.ref b), (.int 1), (.ref b)])) rfl (by rw [hml]; rfl) rfl (hb hby d10_68) (by decide) (W := 0) own_le0 (by decide)
  have O35 := O0.keep K34 (allS g_b all0)
  have K36 := K0.trans K34 (allS (Or.inl (List.mem_of_getElem? (i := 1) rfl)) all0)
  have Vv34 : Arv Z h34 b kb .int (2 : Int32) [(.int x0), (.int x1)] (.int 0) := V34
  have f37 := (G2.keep K34 (ninS n1 nin0))
  have q38 := fun t (kt : Go p e below T34 (mkF m 72 #[vR a1, vI 1, vI p3, vJ wv, vS, vU] [(.ref a1)]) t) => q33 t (st34 t (by
    show Go _ _ _ _ (mkF m 71 #[vR a1, vI 1, vI p3, vJ wv, vS, vU] []) _
    refine XS.aloadN X34.here hx rfl (hb hby d10_71) rfl rfl ?_
    exact kt))
  obtain ⟨T39, X39, e39, st39⟩ := getF X34 hx hZ hown (host := "") (Or.inl (ox hw 15 rfl)) Via.refl e34 f37 (g := (mkF m 72 #[vR a1, vI 1, vI p3, vJ wv, vS, vU] [(.ref a1)])) rfl rfl (hb hby d10_72)
  have q40 := fun t (kt : Go p e below T39 (mkF m 77 #[vR a1, vI 1, vI p3, vJ wv, vS, vU] [(.ref a1), (.int 1), (.ref ta)]) t) => q38 t (st39 t (by
    show Go _ _ _ _ (mkF m 75 #[vR a1, vI 1, vI p3, vJ wv, vS, vU] [(.ref ta)]) _
    refine XS.iloadN X39.here hx rfl (hb hby d10_75) rfl ?_
    show Go _ _ _ _ (mkF m 76 _ [(.int 1), (.ref ta)]) _
    refine XS.aloadN X39.here hx rfl (hb hby d10_76) rfl rfl ?_
    exact kt))
  obtain ⟨T41, X41, e41, st41⟩ := getF X39 hx hZ hown (host := "") (Or.inl (ox hw 15 rfl)) Via.refl e39 f37 (g := (mkF m 77 #[vR a1, vI 1, vI p3, vJ wv, vS, vU] [(.ref a1), (.int 1), (.ref ta)])) rfl rfl (hb hby d10_77)
  have f42 := (G3.keep K34 (ninS n1 nin0))
  have q43 := fun t (kt : Go p e below T41 (mkF m 84 #[vR a1, vI 1, vI p3, vJ wv, vS, vU] [(.ref a1), (.int 2), (.ref ta), (.int 1), (.ref ta)]) t) => q40 t (st41 t (by
    show Go _ _ _ _ (mkF m 80 #[vR a1, vI 1, vI p3, vJ wv, vS, vU] [(.ref ta), (.int 1), (.ref ta)]) _
    refine XS.iloadN X41.here hx rfl (hb hby d10_80) rfl ?_
    show Go _ _ _ _ (mkF m 81 _ [(.int 1), (.ref ta), (.int 1), (.ref ta)]) _
    refine XS.iconst X41.here hx rfl (hb hby d10_81) ?_
    show Go _ _ _ _ (mkF m 82 _ [(.int 1), (.int 1), (.ref ta), (.int 1), (.ref ta)]) _
    refine XS.iadd X41.here hx rfl (hb hby d10_82) rfl ?_
    show Go _ _ _ _ (mkF m 83 _ [(.int 2), (.ref ta), (.int 1), (.ref ta)]) _
    refine XS.aloadN X41.here hx rfl (hb hby d10_83) rfl rfl ?_
    exact kt))
  obtain ⟨T44, X44, e44, st44⟩ := getF X41 hx hZ hown (host := "") (Or.inl (ox hw 22 rfl)) Via.refl e41 f42 (g := (mkF m 84 #[vR a1, vI 1, vI p3, vJ wv, vS, vU] [(.ref a1), (.int 2), (.ref ta), (.int 1), (.ref ta)])) rfl rfl (hb hby d10_84)
  have q46 := fun t (kt : Go p e below T44 (mkF m 89 #[vR a1, vI 1, vI p3, vJ wv, vS, vU] [(.int 0), (.int 2), (.ref ta), (.int 1), (.ref ta)]) t) => q43 t (st44 t (by
    show Go _ _ _ _ (mkF m 87 #[vR a1, vI 1, vI p3, vJ wv, vS, vU] [(.int 1), (.int 2), (.ref ta), (.int 1), (.ref ta)]) _
    refine XS.iloadN X44.here hx rfl (hb hby d10_87) rfl ?_
    show Go _ _ _ _ (mkF m 88 _ [(.int 1), (.int 1), (.int 2), (.ref ta), (.int 1), (.ref ta)]) _
    refine XS.isub X44.here hx rfl (hb hby d10_88) rfl ?_
    exact kt))
  have f47 := (G5.keep K34 (ninS (Ne.symm n3) nin0))
  obtain ⟨T48, h48, L48, X48, e48, N48, K48, V48, st48⟩ := cpA X44 hx hZ hown (ox hw 70 rfl) (ox hw 65 rfl) (ox hw 63 rfl) (ox hw 64 rfl) e44 f47 f47 (us := []) (Or.inl ⟨rfl, rfl⟩) (by decide) (by decide) (by decide) (by decide) (by decide) rfl (Nat.le_of_ble_eq_true rfl) N34 g_ta (g := (mkF m 89 #[vR a1, vI 1, vI p3, vJ wv, vS, vU] [(.int 0), (.int 2), (.ref ta), (.int 1), (.ref ta)])) rfl (by rw [hml]; rfl) rfl (hb hby d10_89) (by decide) (W := 0) own_le0 (by decide)
  have O49 := O35.keep K48 (allS g_ta all0)
  have K50 := K36.trans K48 (allS (Or.inl (List.mem_of_getElem? (i := 2) rfl)) all0)
  have Vv48 : Arv Z h48 ta kt .long (2 : Int32) [(.long w0), (.long w1)] (.long (0 : Int64)) := V48
  have f51 := ((G1.keep K34 (ninS n1 nin0)).keep K48 (ninS n2 nin0))
  have q52 := fun t (kt : Go p e below T48 (mkF m 93 #[vR a1, vI 1, vI p3, vJ wv, vS, vU] [(.ref a1)]) t) => q46 t (st48 t (by
    show Go _ _ _ _ (mkF m 92 #[vR a1, vI 1, vI p3, vJ wv, vS, vU] []) _
    refine XS.aloadN X48.here hx rfl (hb hby d10_92) rfl rfl ?_
    exact kt))
  obtain ⟨T53, X53, e53, st53⟩ := getF X48 hx hZ hown (host := "") (Or.inl (ox hw 11 rfl)) Via.refl e48 f51 (g := (mkF m 93 #[vR a1, vI 1, vI p3, vJ wv, vS, vU] [(.ref a1)])) rfl rfl (hb hby d10_93)
  have f54 := (Vv34.keep K48 (ninS n3 nin0))
  have q56 := fun t (kt : Go p e below T53 (mkF m 98 #[vR a1, vI 1, vI p3, vJ wv, vS, vU] [(.int p3), (.int 1), (.ref b)]) t) => q52 t (st53 t (by
    show Go _ _ _ _ (mkF m 96 #[vR a1, vI 1, vI p3, vJ wv, vS, vU] [(.ref b)]) _
    refine XS.iloadN X53.here hx rfl (hb hby d10_96) rfl ?_
    show Go _ _ _ _ (mkF m 97 _ [(.int 1), (.ref b)]) _
    refine XS.iloadN X53.here hx rfl (hb hby d10_97) rfl ?_
    exact kt))
  obtain ⟨c55, Ar55, q55, S55, N55, H55, G55⟩ := id f54
  have hi55 : ¬ ((1 : Int32) < 0 ∨ c55.slots.size ≤ ((1 : Int32)).toNatClampNeg) := inb_of S55 ⟨by decide, by decide⟩
  obtain ⟨T57, h57, X57, e57, W57, st57⟩ := stI X53 hx hZ e53 Ar55 (j := (1 : Int32)) hi55 (g := (mkF m 98 #[vR a1, vI 1, vI p3, vJ wv, vS, vU] [(.int p3), (.int 1), (.ref b)])) rfl rfl (hb hby d10_98)
  have V57 : Arv Z h57 b kb .int (2 : Int32) [(.int x0), (.int p3)] (.int 0) := Arv.set Ar55 q55 S55 N55 H55 G55 rfl W57 1 rfl (Nat.le_of_ble_eq_true rfl)
  have N58 := Fr.snoc X57 N48 g_b
  have O59 := O49.wr W57 g_b
  have K60 := K50.wr W57 (Or.inl (List.mem_of_getElem? (i := 1) rfl))
  have f61 := ((f37.keep K48 (ninS n2 nin0)).other W57 (Or.inl n1))
  have q62 := fun t (kt : Go p e below T57 (mkF m 100 #[vR a1, vI 1, vI p3, vJ wv, vS, vU] [(.ref a1)]) t) => q56 t (st57 t (by
    show Go _ _ _ _ (mkF m 99 #[vR a1, vI 1, vI p3, vJ wv, vS, vU] []) _
    refine XS.aloadN X57.here hx rfl (hb hby d10_99) rfl rfl ?_
    exact kt))
  obtain ⟨T63, X63, e63, st63⟩ := getF X57 hx hZ hown (host := "") (Or.inl (ox hw 15 rfl)) Via.refl e57 f61 (g := (mkF m 100 #[vR a1, vI 1, vI p3, vJ wv, vS, vU] [(.ref a1)])) rfl rfl (hb hby d10_100)
  have f64 := (Vv48.other W57 (Ne.symm n3))
  have q66 := fun t (kt : Go p e below T63 (mkF m 105 #[vR a1, vI 1, vI p3, vJ wv, vS, vU] [(.long wv), (.int 1), (.ref ta)]) t) => q62 t (st63 t (by
    show Go _ _ _ _ (mkF m 103 #[vR a1, vI 1, vI p3, vJ wv, vS, vU] [(.ref ta)]) _
    refine XS.iloadN X63.here hx rfl (hb hby d10_103) rfl ?_
    show Go _ _ _ _ (mkF m 104 _ [(.int 1), (.ref ta)]) _
    refine XS.lloadN X63.here hx rfl (hb hby d10_104) rfl ?_
    exact kt))
  obtain ⟨c65, Ar65, q65, S65, N65, H65, G65⟩ := id f64
  have hi65 : ¬ ((1 : Int32) < 0 ∨ c65.slots.size ≤ ((1 : Int32)).toNatClampNeg) := inb_of S65 ⟨by decide, by decide⟩
  obtain ⟨T67, h67, X67, e67, W67, st67⟩ := stJ X63 hx hZ e63 Ar65 (j := (1 : Int32)) hi65 (g := (mkF m 105 #[vR a1, vI 1, vI p3, vJ wv, vS, vU] [(.long wv), (.int 1), (.ref ta)])) rfl rfl (hb hby d10_105)
  have V67 : Arv Z h67 ta kt .long (2 : Int32) [(.long w0), (.long wv)] (.long (0 : Int64)) := Arv.set Ar65 q65 S65 N65 H65 G65 rfl W67 1 rfl (Nat.le_of_ble_eq_true rfl)
  have N68 := Fr.snoc X67 N58 g_ta
  have O69 := O59.wr W67 g_ta
  have K70 := K60.wr W67 (Or.inl (List.mem_of_getElem? (i := 2) rfl))
  have f71 := (((f42.keep K48 (ninS n2 nin0)).other W57 (Or.inl n1)).other W67 (Or.inl n2))
  have q72 := fun t (kt : Go p e below T67 (mkF m 108 #[vR a1, vI 1, vI p3, vJ wv, vS, vU] [(.ref a1), (.ref a1)]) t) => q66 t (st67 t (by
    show Go _ _ _ _ (mkF m 106 #[vR a1, vI 1, vI p3, vJ wv, vS, vU] []) _
    refine XS.aloadN X67.here hx rfl (hb hby d10_106) rfl rfl ?_
    show Go _ _ _ _ (mkF m 107 _ [(.ref a1)]) _
    refine XS.dup X67.here hx rfl (hb hby d10_107) rfl rfl ?_
    exact kt))
  obtain ⟨T73, X73, e73, st73⟩ := getF X67 hx hZ hown (host := "") (Or.inl (ox hw 22 rfl)) Via.refl e67 f71 (g := (mkF m 108 #[vR a1, vI 1, vI p3, vJ wv, vS, vU] [(.ref a1), (.ref a1)])) rfl rfl (hb hby d10_108)
  have f74 := ((((G0.keep K34).keep K48).wr W57).wr W67)
  have q75 := fun t (kt : Go p e below T73 (mkF m 113 #[vR a1, vI 1, vI p3, vJ wv, vS, vU] [(.int 2), (.ref a1)]) t) => q72 t (st73 t (by
    show Go _ _ _ _ (mkF m 111 #[vR a1, vI 1, vI p3, vJ wv, vS, vU] [(.int 1), (.ref a1)]) _
    refine XS.iconst X73.here hx rfl (hb hby d10_111) ?_
    show Go _ _ _ _ (mkF m 112 _ [(.int 1), (.int 1), (.ref a1)]) _
    refine XS.iadd X73.here hx rfl (hb hby d10_112) rfl ?_
    exact kt))
  obtain ⟨T76, h76, X76, e76, W76, st76⟩ := putF X73 hx hZ hown (host := "") (Or.inl (ox hw 22 rfl)) Via.refl e73 f71 f74 (Or.inl (ox hw 23 rfl)) (ox hw 1 rfl) (ty := .int) (by decide) rfl rfl (g := (mkF m 113 #[vR a1, vI 1, vI p3, vJ wv, vS, vU] [(.int 2), (.ref a1)])) rfl rfl (hb hby d10_113)
  have f77 : Fld Z h76 a1 sk0 "used" "I" (.int 2) := f71.same W76
  have N78 := Fr.snoc X76 N68 g_a1
  have O79 := O69.wr W76 g_a1
  have K80 := K70.wr W76 (Or.inl (List.mem_of_getElem? (i := 0) rfl))
  have q81 := fun t (kt : Go p e below T76 (mkF m 116 #[vR a1, vI 1, vI p3, vJ wv, vS, vU] []) t) => q75 t (st76 t kt)
  have f82 := (((f51.other W57 (Or.inl n1)).other W67 (Or.inl n2)).other W76 (Or.inr (slot_ne (Or.inl (ox hw 12 rfl)) (Or.inl (ox hw 23 rfl)) (by decide) (t := (.array .int)) (t' := .int) (by decide) (by decide))))
  have f83 := ((f61.other W67 (Or.inl n2)).other W76 (Or.inr (slot_ne (Or.inl (ox hw 16 rfl)) (Or.inl (ox hw 23 rfl)) (by decide) (t := (.array .long)) (t' := .int) (by decide) (by decide))))
  have f84 := ((V57.other W67 n3).other W76 (Ne.symm n1))
  have f85 := (V67.other W76 (Ne.symm n2))
  exact ⟨none, T76, _, _, _, _, X76, by decide, by decide, fun _ => rfl, q81, fun fs hr => X76.returnOut hx hret (hb hby d10_116) hr, by rw [e76]; exact ⟨rfl, N78, K80, f82, f83, f77, f84, f85⟩⟩
def Q_rm10_2_0 (Z : State) (a1 : Addr) (b : Addr) (ta : Addr) (kb : ClassId) (kt : ClassId) (x0 : Int32) (x1 : Int32) (w0 : Int64) (w1 : Int64) (p3 : Int32) (wv : Int64) (cw : Nat → Nat) (h0 : Heap) (n0 : Nat) (v : Option Value) (h : Heap) (L : List Loc) : Prop := ∃ (bb : Addr) (tt : Addr) (kbb : ClassId) (ktt : ClassId), v = none ∧ Fr n0 L ∧ Keep h0 h [a1] ∧ h0.size ≤ bb ∧ h0.size ≤ tt ∧ Fld Z h a1 sk0 "blocks" "[I" (.ref bb) ∧ Fld Z h a1 sk0 "words" "[J" (.ref tt) ∧ Fld Z h a1 sk0 "used" "I" (.int 3) ∧ Arv Z h bb kbb .int (4 : Int32) [(.int p3), (.int x0), (.int x1), (.int 0)] (.int 0) ∧ Arv Z h tt ktt .long (4 : Int32) [(.long wv), (.long w0), (.long w1), (.long (0 : Int64))] (.long (0 : Int64))
theorem rm10_2_0 (l : Launch) (Z : State) (a0 : Array Value) (hw : ∀ d ∈ tables_1, d.before a0 Z = true) (ws : List Jvm.Cond) {cw : Nat → Nat} (cx : Cx Z cw) (a1 : Addr) (b : Addr) (ta : Addr) (kb : ClassId) (kt : ClassId) (x0 : Int32) (x1 : Int32) (w0 : Int64) (w1 : Int64) (p3 : Int32) (wv : Int64) (h0 : Heap) (n0 : Nat) (O0 : Old Z n0 h0) (G0 : Exa Z h0 a1 sk0) (G1 : Fld Z h0 a1 sk0 "blocks" "[I" (.ref b)) (G2 : Fld Z h0 a1 sk0 "words" "[J" (.ref ta)) (G3 : Fld Z h0 a1 sk0 "used" "I" (.int 2)) (G4 : Arv Z h0 b kb .int (2 : Int32) [(.int x0), (.int x1)] (.int 0)) (G5 : Arv Z h0 ta kt .long (2 : Int32) [(.long w0), (.long w1)] (.long (0 : Int64))) (g_a1 : n0 ≤ a1) (g_b : n0 ≤ b) (g_ta : n0 ≤ ta) (n1 : a1 ≠ b) (n2 : a1 ≠ ta) (n3 : b ≠ ta) :
    OwnMet l ym10 (Jvm.Cond.code ym10 prog_17_method_7_code 6 none :: ws) (own_R 2 2 8 63) #[(.ref a1), (.int 0), (.int p3), (.long wv)] Z h0 (Q_rm10_2_0 Z a1 b ta kb kt x0 x1 w0 w1 p3 wv cw h0 n0) := by
  refine own_body (plainFor_of_name pn_10) hisR fun p e s m below meth c s₁ hx hby hml hown hnm hret hZ X0 e0 => ?_
  have N0 := Fr.nil n0
  have K0 : Keep h0 h0 [a1] := Keep.refl _ _
  have pre0 : ∀ t, Go p e below s₁ (mkF m 0 #[vR a1, vI 0, vI p3, vJ wv, vS, vU] []) t → Go p e below s₁ (entryFrame m #[(.ref a1), (.int 0), (.int p3), (.long wv)] 6) t := fun t k => castTop (ef_10_RIIJ m a1 (0 : Int32) p3 wv) k
  have q21 := fun t (kt : Go p e below s₁ (mkF m 1 #[vR a1, vI 0, vI p3, vJ wv, vS, vU] [(.ref a1)]) t) => pre0 t (by
    show Go _ _ _ _ (mkF m 0 #[vR a1, vI 0, vI p3, vJ wv, vS, vU] []) _
    refine XS.aloadN X0.here hx rfl (hb hby d10_0) rfl rfl ?_
    exact kt)
  obtain ⟨T22, X22, e22, st22⟩ := getF X0 hx hZ hown (host := "") (Or.inl (ox hw 22 rfl)) Via.refl e0 G3 (g := (mkF m 1 #[vR a1, vI 0, vI p3, vJ wv, vS, vU] [(.ref a1)])) rfl rfl (hb hby d10_1)
  have q23 := fun t (kt : Go p e below T22 (mkF m 5 #[vR a1, vI 0, vI p3, vJ wv, vS, vU] [(.ref a1), (.int 2)]) t) => q21 t (st22 t (by
    show Go _ _ _ _ (mkF m 4 #[vR a1, vI 0, vI p3, vJ wv, vS, vU] [(.int 2)]) _
    refine XS.aloadN X22.here hx rfl (hb hby d10_4) rfl rfl ?_
    exact kt))
  obtain ⟨T24, X24, e24, st24⟩ := getF X22 hx hZ hown (host := "") (Or.inl (ox hw 11 rfl)) Via.refl e22 G1 (g := (mkF m 5 #[vR a1, vI 0, vI p3, vJ wv, vS, vU] [(.ref a1), (.int 2)])) rfl rfl (hb hby d10_5)
  obtain ⟨c25, Ar25, -, S25, N25, -, -⟩ := id G4
  have q26 := fun t (kt : Go p e below T24 (mkF m 14 #[vR a1, vI 0, vI p3, vJ wv, vS, vU] [(.ref a1), (.int 2)]) t) => q23 t (st24 t (by
    show Go _ _ _ _ (mkF m 8 #[vR a1, vI 0, vI p3, vJ wv, vS, vU] [(.ref b), (.int 2)]) _
    refine X24.arraylength hx (by rw [e24]; exact Ar25.1) (State.isArrayOf_alike hZ.alike Ar25.2.1) (g := (mkF m 8 #[vR a1, vI 0, vI p3, vJ wv, vS, vU] [(.ref b), (.int 2)])) rfl rfl (hb hby d10_8) _ ?_
    rw [len_of S25 N25]
    show Go _ _ _ _ (mkF m 9 _ [(.int 2), (.int 2)]) _
    refine XS.icmpNo X24.here hx rfl (hb hby d10_9) rfl (teq (rfl : (2 : Int32) = (2 : Int32))).2 ?_
    show Go _ _ _ _ (mkF m 12 _ []) _
    refine XS.iconst X24.here hx rfl (hb hby d10_12) ?_
    show Go _ _ _ _ (mkF m 13 _ [(.int 2)]) _
    refine XS.aloadN X24.here hx rfl (hb hby d10_13) rfl rfl ?_
    exact kt))
  obtain ⟨T27, X27, e27, st27⟩ := getF X24 hx hZ hown (host := "") (Or.inl (ox hw 22 rfl)) Via.refl e24 G3 (g := (mkF m 14 #[vR a1, vI 0, vI p3, vJ wv, vS, vU] [(.ref a1), (.int 2)])) rfl rfl (hb hby d10_14)
  have q28 := fun t (kt : Go p e below T27 (mkF m 19 #[vR a1, vI 0, vI p3, vJ wv, vS, vU] [(.int 4), (.int 2)]) t) => q26 t (st27 t (by
    show Go _ _ _ _ (mkF m 17 #[vR a1, vI 0, vI p3, vJ wv, vS, vU] [(.int 2), (.int 2)]) _
    refine XS.iconst X27.here hx rfl (hb hby d10_17) ?_
    show Go _ _ _ _ (mkF m 18 _ [(.int 2), (.int 2), (.int 2)]) _
    refine XS.imul X27.here hx rfl (hb hby d10_18) rfl ?_
    exact kt))
  obtain ⟨_, _, ⟨T29, L29, k29, n29⟩, -, X29, ⟨_, hQ29, l29, y29, z29⟩, st29⟩ := Jvm.LawKit.callS X27 hx (y := ym6) hown (ow hZ hw 52 rfl) (ow hZ hw 53 rfl) (ow hZ hw 54 rfl) (ow hZ hw 55 rfl) (by decide) (backOf (W := 0) (rm11_4 l Z a0 hw [] cx  h0 n0 O0 ) hZ (ox hw 55 rfl) (ox hw 54 rfl) (by decide) (by decide)) (g := (mkF m 19 #[vR a1, vI 0, vI p3, vJ wv, vS, vU] [(.int 4), (.int 2)])) rfl (by rw [hml]; rfl) (argsL := [(.int 2), (.int 4)]) (rest := []) (lenOf pd_2 rfl) rfl own_le0 (hb hby d10_19) (fun _ _ => ⟨rfl, e27, (by decide : 0 + 0 ≤ _), (by decide : 0 + 0 ≤ _)⟩)
  dsimp only [Pt.U, Pt.locs, Pt.cells, Pt.slots] at X29 l29 y29 z29 st29 hQ29
  subst l29 y29 z29
  obtain ⟨rfl, Nq29, eq29⟩ := hQ29
  have N30 := Fr.app N0 Nq29
  have q31 := fun t (kt : Go p e below T29 (mkF m 26 #[vR a1, vI 0, vI p3, vJ wv, vS, vI 4] [(.ref a1), (.ref a1)]) t) => q28 t (st29 t (by
    show Go _ _ _ _ (mkF m 22 #[vR a1, vI 0, vI p3, vJ wv, vS, vU] [(.int 4)]) _
    refine XS.istore X29.here hx rfl (hb hby d10_22) rfl (l' := #[vR a1, vI 0, vI p3, vJ wv, vS, vI 4]) rfl ?_
    show Go _ _ _ _ (mkF m 24 #[vR a1, vI 0, vI p3, vJ wv, vS, vI 4] []) _
    refine XS.aloadN X29.here hx rfl (hb hby d10_24) rfl rfl ?_
    show Go _ _ _ _ (mkF m 25 _ [(.ref a1)]) _
    refine XS.aloadN X29.here hx rfl (hb hby d10_25) rfl rfl ?_
    exact kt))
  obtain ⟨T32, X32, e32, st32⟩ := getF X29 hx hZ hown (host := "") (Or.inl (ox hw 11 rfl)) Via.refl eq29 G1 (g := (mkF m 26 #[vR a1, vI 0, vI p3, vJ wv, vS, vI 4] [(.ref a1), (.ref a1)])) rfl rfl (hb hby d10_26)
  have q33 := fun t (kt : Go p e below T32 (mkF m 31 #[vR a1, vI 0, vI p3, vJ wv, vS, vI 4] [(.int 4), (.ref b), (.ref a1)]) t) => q31 t (st32 t (by
    show Go _ _ _ _ (mkF m 29 #[vR a1, vI 0, vI p3, vJ wv, vS, vI 4] [(.ref b), (.ref a1)]) _
    refine XS.iload X32.here hx rfl (hb hby d10_29) rfl ?_
    exact kt))
  obtain ⟨_, _, ⟨T34, L34, k34, n34⟩, -, X34, ⟨_, hQ34, l34, y34, z34⟩, st34⟩ := Jvm.LawKit.callS X32 hx (y := ym8) hown (ow hZ hw 56 rfl) (ow hZ hw 57 rfl) (ow hZ hw 37 rfl) (ow hZ hw 58 rfl) (by decide) (backOf (W := 1) (rm12_4 l Z a0 hw [] cx b kb x0 x1 h0 n0 O0 G4) hZ (ox hw 58 rfl) (ox hw 37 rfl) (by decide) (by decide)) (g := (mkF m 31 #[vR a1, vI 0, vI p3, vJ wv, vS, vI 4] [(.int 4), (.ref b), (.ref a1)])) rfl (by rw [hml]; rfl) (argsL := [(.ref b), (.int 4)]) (rest := [(.ref a1)]) (lenOf pd_3 rfl) rfl own_le0 (hb hby d10_31) (fun _ _ => ⟨rfl, e32, (by decide : 0 + 1 ≤ _), (by decide : 0 + 4 ≤ _)⟩)
  dsimp only [Pt.U, Pt.locs, Pt.cells, Pt.slots] at X34 l34 y34 z34 st34 hQ34
  subst l34 y34 z34
  obtain ⟨r_34, kr_34, rfl, Nq34, Kq34, fr34_0, fq34_0⟩ := hQ34
  have N35 := Fr.app N30 Nq34
  have gg36 : n0 ≤ r_34 := Nat.le_trans (O0.1 ▸ O0.2.1) fr34_0
  have sz37 : h0.size ≤ r_34 := Nat.le_trans K0.1 fr34_0
  have O38 := O0.keep Kq34 all0
  have K39 := K0.trans Kq34 all0
  have f40 := (G0.keep Kq34)
  have f41 := (G1.keep Kq34 nin0)
  obtain ⟨T42, h42, X42, e42, W42, st42⟩ := putF X34 hx hZ hown (host := "") (Or.inl (ox hw 11 rfl)) Via.refl rfl f41 f40 (Or.inl (ox hw 12 rfl)) (ox hw 1 rfl) (ty := (.array .int)) (by decide) rfl rfl (g := (mkF m 34 #[vR a1, vI 0, vI p3, vJ wv, vS, vI 4] [(.ref r_34), (.ref a1)])) rfl rfl (hb hby d10_34)
  have f43 : Fld Z h42 a1 sk0 "blocks" "[I" (.ref r_34) := f41.same W42
  have N44 := Fr.snoc X42 N35 g_a1
  have O45 := O38.wr W42 g_a1
  have K46 := K39.wr W42 (Or.inl (List.mem_of_getElem? (i := 0) rfl))
  have f47 := ((G2.keep Kq34 nin0).other W42 (Or.inr (slot_ne (Or.inl (ox hw 16 rfl)) (Or.inl (ox hw 12 rfl)) (by decide) (t := (.array .long)) (t' := (.array .int)) (by decide) (by decide))))
  have q48 := fun t (kt : Go p e below T42 (mkF m 39 #[vR a1, vI 0, vI p3, vJ wv, vS, vI 4] [(.ref a1), (.ref a1)]) t) => q33 t (st34 t (st42 t (by
    show Go _ _ _ _ (mkF m 37 #[vR a1, vI 0, vI p3, vJ wv, vS, vI 4] []) _
    refine XS.aloadN X42.here hx rfl (hb hby d10_37) rfl rfl ?_
    show Go _ _ _ _ (mkF m 38 _ [(.ref a1)]) _
    refine XS.aloadN X42.here hx rfl (hb hby d10_38) rfl rfl ?_
    exact kt)))
  obtain ⟨T49, X49, e49, st49⟩ := getF X42 hx hZ hown (host := "") (Or.inl (ox hw 15 rfl)) Via.refl e42 f47 (g := (mkF m 39 #[vR a1, vI 0, vI p3, vJ wv, vS, vI 4] [(.ref a1), (.ref a1)])) rfl rfl (hb hby d10_39)
  have f50 := ((G5.keep Kq34 nin0).other W42 (Ne.symm n2))
  have q51 := fun t (kt : Go p e below T49 (mkF m 44 #[vR a1, vI 0, vI p3, vJ wv, vS, vI 4] [(.int 4), (.ref ta), (.ref a1)]) t) => q48 t (st49 t (by
    show Go _ _ _ _ (mkF m 42 #[vR a1, vI 0, vI p3, vJ wv, vS, vI 4] [(.ref ta), (.ref a1)]) _
    refine XS.iload X49.here hx rfl (hb hby d10_42) rfl ?_
    exact kt))
  obtain ⟨_, _, ⟨T52, L52, k52, n52⟩, -, X52, ⟨_, hQ52, l52, y52, z52⟩, st52⟩ := Jvm.LawKit.callS X49 hx (y := ym9) hown (ow hZ hw 66 rfl) (ow hZ hw 67 rfl) (ow hZ hw 37 rfl) (ow hZ hw 68 rfl) (by decide) (backOf (W := 1) (rm14_4 l Z a0 hw [] cx ta kt w0 w1 h42 n0 O45 f50) hZ (ox hw 68 rfl) (ox hw 37 rfl) (by decide) (by decide)) (g := (mkF m 44 #[vR a1, vI 0, vI p3, vJ wv, vS, vI 4] [(.int 4), (.ref ta), (.ref a1)])) rfl (by rw [hml]; rfl) (argsL := [(.ref ta), (.int 4)]) (rest := [(.ref a1)]) (lenOf pd_4 rfl) rfl own_le0 (hb hby d10_44) (fun _ _ => ⟨rfl, e49, (by decide : 1 + 1 ≤ _), (by decide : 4 + 4 ≤ _)⟩)
  dsimp only [Pt.U, Pt.locs, Pt.cells, Pt.slots] at X52 l52 y52 z52 st52 hQ52
  subst l52 y52 z52
  obtain ⟨r_52, kr_52, rfl, Nq52, Kq52, fr52_0, fq52_0⟩ := hQ52
  have N53 := Fr.app N44 Nq52
  have gg54 : n0 ≤ r_52 := Nat.le_trans (O45.1 ▸ O45.2.1) fr52_0
  have sz55 : h0.size ≤ r_52 := Nat.le_trans K46.1 fr52_0
  have O56 := O45.keep Kq52 all0
  have K57 := K46.trans Kq52 all0
  have f58 := ((f40.wr W42).keep Kq52)
  have f59 := (f47.keep Kq52 nin0)
  obtain ⟨T60, h60, X60, e60, W60, st60⟩ := putF X52 hx hZ hown (host := "") (Or.inl (ox hw 15 rfl)) Via.refl rfl f59 f58 (Or.inl (ox hw 16 rfl)) (ox hw 1 rfl) (ty := (.array .long)) (by decide) rfl rfl (g := (mkF m 47 #[vR a1, vI 0, vI p3, vJ wv, vS, vI 4] [(.ref r_52), (.ref a1)])) rfl rfl (hb hby d10_47)
  have f61 : Fld Z h60 a1 sk0 "words" "[J" (.ref r_52) := f59.same W60
  have N62 := Fr.snoc X60 N53 g_a1
  have O63 := O56.wr W60 g_a1
  have K64 := K57.wr W60 (Or.inl (List.mem_of_getElem? (i := 0) rfl))
  have f65 := ((f43.keep Kq52 nin0).other W60 (Or.inr (slot_ne (Or.inl (ox hw 12 rfl)) (Or.inl (ox hw 16 rfl)) (by decide) (t := (.array .int)) (t' := (.array .long)) (by decide) (by decide))))
  have q66 := fun t (kt : Go p e below T60 (mkF m 51 #[vR a1, vI 0, vI p3, vJ wv, vS, vI 4] [(.ref a1)]) t) => q51 t (st52 t (st60 t (by
    show Go _ _ _ _ (mkF m 50 #[vR a1, vI 0, vI p3, vJ wv, vS, vI 4] []) _
    refine XS.aloadN X60.here hx rfl (hb hby d10_50) rfl rfl ?_
    exact kt)))
  obtain ⟨T67, X67, e67, st67⟩ := getF X60 hx hZ hown (host := "") (Or.inl (ox hw 11 rfl)) Via.refl e60 f65 (g := (mkF m 51 #[vR a1, vI 0, vI p3, vJ wv, vS, vI 4] [(.ref a1)])) rfl rfl (hb hby d10_51)
  have q68 := fun t (kt : Go p e below T67 (mkF m 56 #[vR a1, vI 0, vI p3, vJ wv, vS, vI 4] [(.ref a1), (.int 0), (.ref r_34)]) t) => q66 t (st67 t (by
    show Go _ _ _ _ (mkF m 54 #[vR a1, vI 0, vI p3, vJ wv, vS, vI 4] [(.ref r_34)]) _
    refine XS.iloadN X67.here hx rfl (hb hby d10_54) rfl ?_
    show Go _ _ _ _ (mkF m 55 _ [(.int 0), (.ref r_34)]) _
    refine XS.aloadN X67.here hx rfl (hb hby d10_55) rfl rfl ?_
    exact kt))
  obtain ⟨T69, X69, e69, st69⟩ := getF X67 hx hZ hown (host := "") (Or.inl (ox hw 11 rfl)) Via.refl e67 f65 (g := (mkF m 56 #[vR a1, vI 0, vI p3, vJ wv, vS, vI 4] [(.ref a1), (.int 0), (.ref r_34)])) rfl rfl (hb hby d10_56)
  have f70 := ((((G3.keep Kq34 nin0).other W42 (Or.inr (slot_ne (Or.inl (ox hw 23 rfl)) (Or.inl (ox hw 12 rfl)) (by decide) (t := .int) (t' := (.array .int)) (by decide) (by decide)))).keep Kq52 nin0).other W60 (Or.inr (slot_ne (Or.inl (ox hw 23 rfl)) (Or.inl (ox hw 16 rfl)) (by decide) (t := .int) (t' := (.array .long)) (by decide) (by decide))))
  have q71 := fun t (kt : Go p e below T69 (mkF m 63 #[vR a1, vI 0, vI p3, vJ wv, vS, vI 4] [(.ref a1), (.int 1), (.ref r_34), (.int 0), (.ref r_34)]) t) => q68 t (st69 t (by
    show Go _ _ _ _ (mkF m 59 #[vR a1, vI 0, vI p3, vJ wv, vS, vI 4] [(.ref r_34), (.int 0), (.ref r_34)]) _
    refine XS.iloadN X69.here hx rfl (hb hby d10_59) rfl ?_
    show Go _ _ _ _ (mkF m 60 _ [(.int 0), (.ref r_34), (.int 0), (.ref r_34)]) _
    refine XS.iconst X69.here hx rfl (hb hby d10_60) ?_
    show Go _ _ _ _ (mkF m 61 _ [(.int 1), (.int 0), (.ref r_34), (.int 0), (.ref r_34)]) _
    refine XS.iadd X69.here hx rfl (hb hby d10_61) rfl ?_
    show Go _ _ _ _ (mkF m 62 _ [(.int 1), (.ref r_34), (.int 0), (.ref r_34)]) _
    refine XS.aloadN X69.here hx rfl (hb hby d10_62) rfl rfl ?_
    exact kt))
  obtain ⟨T72, X72, e72, st72⟩ := getF X69 hx hZ hown (host := "") (Or.inl (ox hw 22 rfl)) Via.refl e69 f70 (g := (mkF m 63 #[vR a1, vI 0, vI p3, vJ wv, vS, vI 4] [(.ref a1), (.int 1), (.ref r_34), (.int 0), (.ref r_34)])) rfl rfl (hb hby d10_63)
  have q74 := fun t (kt : Go p e below T72 (mkF m 68 #[vR a1, vI 0, vI p3, vJ wv, vS, vI 4] [(.int 2), (.int 1), (.ref r_34), (.int 0), (.ref r_34)]) t) => q71 t (st72 t (by
    show Go _ _ _ _ (mkF m 66 #[vR a1, vI 0, vI p3, vJ wv, vS, vI 4] [(.int 2), (.int 1), (.ref r_34), (.int 0), (.ref r_34)]) _
    refine XS.iloadN X72.here hx rfl (hb hby d10_66) rfl ?_
    show Go _ _ _ _ (mkF m 67 _ [(.int 0), (.int 2), (.int 1), (.ref r_34), (.int 0), (.ref r_34)]) _
    refine XS.isub X72.here hx rfl (hb hby d10_67) rfl ?_
    exact kt))
  have ne75 : a1 ≠ r_34 := (Nat.ne_of_lt (Nat.lt_of_lt_of_le G0.lt fr34_0))
  have f76 := (((fq34_0.other W42 (Ne.symm ne75)).keep Kq52 nin0).other W60 (Ne.symm ne75))
  obtain ⟨T77, h77, L77, X77, e77, N77, K77, V77, st77⟩ := cpA X72 hx hZ hown (ox hw 70 rfl) (ox hw 65 rfl) (ox hw 63 rfl) (ox hw 64 rfl) e72 f76 f76 (us := [(.int x0), (.int x1)]) (Or.inl ⟨rfl, rfl⟩) (by decide) (by decide) (by decide) (by decide) (by decide) rfl (Nat.le_of_ble_eq_true rfl) N62 gg36 (g := (mkF m 68 #[vR a1, vI 0, vI p3, vJ wv, vS, vI 4] [(.int 2), (.int 1), (.ref r_34), (.int 0), (.ref r_34)])) rfl (by rw [hml]; rfl) rfl (hb hby d10_68) (by decide) (W := 0) own_le0 (by decide)
  have O78 := O63.keep K77 (allS gg36 all0)
  have K79 := K64.trans K77 (allS (Or.inr sz37) all0)
  have Vv77 : Arv Z h77 r_34 kr_34 .int (4 : Int32) [(.int x0), (.int x0), (.int x1), (.int 0)] (.int 0) := V77
  have f80 := (f61.keep K77 (ninS ne75 nin0))
  have q81 := fun t (kt : Go p e below T77 (mkF m 72 #[vR a1, vI 0, vI p3, vJ wv, vS, vI 4] [(.ref a1)]) t) => q74 t (st77 t (by
    show Go _ _ _ _ (mkF m 71 #[vR a1, vI 0, vI p3, vJ wv, vS, vI 4] []) _
    refine XS.aloadN X77.here hx rfl (hb hby d10_71) rfl rfl ?_
    exact kt))
  obtain ⟨T82, X82, e82, st82⟩ := getF X77 hx hZ hown (host := "") (Or.inl (ox hw 15 rfl)) Via.refl e77 f80 (g := (mkF m 72 #[vR a1, vI 0, vI p3, vJ wv, vS, vI 4] [(.ref a1)])) rfl rfl (hb hby d10_72)
  have q83 := fun t (kt : Go p e below T82 (mkF m 77 #[vR a1, vI 0, vI p3, vJ wv, vS, vI 4] [(.ref a1), (.int 0), (.ref r_52)]) t) => q81 t (st82 t (by
    show Go _ _ _ _ (mkF m 75 #[vR a1, vI 0, vI p3, vJ wv, vS, vI 4] [(.ref r_52)]) _
    refine XS.iloadN X82.here hx rfl (hb hby d10_75) rfl ?_
    show Go _ _ _ _ (mkF m 76 _ [(.int 0), (.ref r_52)]) _
    refine XS.aloadN X82.here hx rfl (hb hby d10_76) rfl rfl ?_
    exact kt))
  obtain ⟨T84, X84, e84, st84⟩ := getF X82 hx hZ hown (host := "") (Or.inl (ox hw 15 rfl)) Via.refl e82 f80 (g := (mkF m 77 #[vR a1, vI 0, vI p3, vJ wv, vS, vI 4] [(.ref a1), (.int 0), (.ref r_52)])) rfl rfl (hb hby d10_77)
  have f85 := (f70.keep K77 (ninS ne75 nin0))
  have q86 := fun t (kt : Go p e below T84 (mkF m 84 #[vR a1, vI 0, vI p3, vJ wv, vS, vI 4] [(.ref a1), (.int 1), (.ref r_52), (.int 0), (.ref r_52)]) t) => q83 t (st84 t (by
    show Go _ _ _ _ (mkF m 80 #[vR a1, vI 0, vI p3, vJ wv, vS, vI 4] [(.ref r_52), (.int 0), (.ref r_52)]) _
    refine XS.iloadN X84.here hx rfl (hb hby d10_80) rfl ?_
    show Go _ _ _ _ (mkF m 81 _ [(.int 0), (.ref r_52), (.int 0), (.ref r_52)]) _
    refine XS.iconst X84.here hx rfl (hb hby d10_81) ?_
    show Go _ _ _ _ (mkF m 82 _ [(.int 1), (.int 0), (.ref r_52), (.int 0), (.ref r_52)]) _
    refine XS.iadd X84.here hx rfl (hb hby d10_82) rfl ?_
    show Go _ _ _ _ (mkF m 83 _ [(.int 1), (.ref r_52), (.int 0), (.ref r_52)]) _
    refine XS.aloadN X84.here hx rfl (hb hby d10_83) rfl rfl ?_
    exact kt))
  obtain ⟨T87, X87, e87, st87⟩ := getF X84 hx hZ hown (host := "") (Or.inl (ox hw 22 rfl)) Via.refl e84 f85 (g := (mkF m 84 #[vR a1, vI 0, vI p3, vJ wv, vS, vI 4] [(.ref a1), (.int 1), (.ref r_52), (.int 0), (.ref r_52)])) rfl rfl (hb hby d10_84)
  have q89 := fun t (kt : Go p e below T87 (mkF m 89 #[vR a1, vI 0, vI p3, vJ wv, vS, vI 4] [(.int 2), (.int 1), (.ref r_52), (.int 0), (.ref r_52)]) t) => q86 t (st87 t (by
    show Go _ _ _ _ (mkF m 87 #[vR a1, vI 0, vI p3, vJ wv, vS, vI 4] [(.int 2), (.int 1), (.ref r_52), (.int 0), (.ref r_52)]) _
    refine XS.iloadN X87.here hx rfl (hb hby d10_87) rfl ?_
    show Go _ _ _ _ (mkF m 88 _ [(.int 0), (.int 2), (.int 1), (.ref r_52), (.int 0), (.ref r_52)]) _
    refine XS.isub X87.here hx rfl (hb hby d10_88) rfl ?_
    exact kt))
  have ne90 : a1 ≠ r_52 := (Nat.ne_of_lt (Nat.lt_of_lt_of_le (f40.wr W42).lt fr52_0))
  have ne91 : r_34 ≠ r_52 := (Nat.ne_of_lt (Nat.lt_of_lt_of_le (Nat.lt_of_lt_of_le fq34_0.lt (Keep.of_wr W42).1) fr52_0))
  have f92 := ((fq52_0.other W60 (Ne.symm ne90)).keep K77 (ninS (Ne.symm ne91) nin0))
  obtain ⟨T93, h93, L93, X93, e93, N93, K93, V93, st93⟩ := cpA X87 hx hZ hown (ox hw 70 rfl) (ox hw 65 rfl) (ox hw 63 rfl) (ox hw 64 rfl) e87 f92 f92 (us := [(.long w0), (.long w1)]) (Or.inl ⟨rfl, rfl⟩) (by decide) (by decide) (by decide) (by decide) (by decide) rfl (Nat.le_of_ble_eq_true rfl) N77 gg54 (g := (mkF m 89 #[vR a1, vI 0, vI p3, vJ wv, vS, vI 4] [(.int 2), (.int 1), (.ref r_52), (.int 0), (.ref r_52)])) rfl (by rw [hml]; rfl) rfl (hb hby d10_89) (by decide) (W := 0) own_le0 (by decide)
  have O94 := O78.keep K93 (allS gg54 all0)
  have K95 := K79.trans K93 (allS (Or.inr sz55) all0)
  have Vv93 : Arv Z h93 r_52 kr_52 .long (4 : Int32) [(.long w0), (.long w0), (.long w1), (.long (0 : Int64))] (.long (0 : Int64)) := V93
  have f96 := ((f65.keep K77 (ninS ne75 nin0)).keep K93 (ninS ne90 nin0))
  have q97 := fun t (kt : Go p e below T93 (mkF m 93 #[vR a1, vI 0, vI p3, vJ wv, vS, vI 4] [(.ref a1)]) t) => q89 t (st93 t (by
    show Go _ _ _ _ (mkF m 92 #[vR a1, vI 0, vI p3, vJ wv, vS, vI 4] []) _
    refine XS.aloadN X93.here hx rfl (hb hby d10_92) rfl rfl ?_
    exact kt))
  obtain ⟨T98, X98, e98, st98⟩ := getF X93 hx hZ hown (host := "") (Or.inl (ox hw 11 rfl)) Via.refl e93 f96 (g := (mkF m 93 #[vR a1, vI 0, vI p3, vJ wv, vS, vI 4] [(.ref a1)])) rfl rfl (hb hby d10_93)
  have f99 := (Vv77.keep K93 (ninS ne91 nin0))
  have q101 := fun t (kt : Go p e below T98 (mkF m 98 #[vR a1, vI 0, vI p3, vJ wv, vS, vI 4] [(.int p3), (.int 0), (.ref r_34)]) t) => q97 t (st98 t (by
    show Go _ _ _ _ (mkF m 96 #[vR a1, vI 0, vI p3, vJ wv, vS, vI 4] [(.ref r_34)]) _
    refine XS.iloadN X98.here hx rfl (hb hby d10_96) rfl ?_
    show Go _ _ _ _ (mkF m 97 _ [(.int 0), (.ref r_34)]) _
    refine XS.iloadN X98.here hx rfl (hb hby d10_97) rfl ?_
    exact kt))
  obtain ⟨c100, Ar100, q100, S100, N100, H100, G100⟩ := id f99
  have hi100 : ¬ ((0 : Int32) < 0 ∨ c100.slots.size ≤ ((0 : Int32)).toNatClampNeg) := inb_of S100 ⟨by decide, by decide⟩
  obtain ⟨T102, h102, X102, e102, W102, st102⟩ := stI X98 hx hZ e98 Ar100 (j := (0 : Int32)) hi100 (g := (mkF m 98 #[vR a1, vI 0, vI p3, vJ wv, vS, vI 4] [(.int p3), (.int 0), (.ref r_34)])) rfl rfl (hb hby d10_98)
  have V102 : Arv Z h102 r_34 kr_34 .int (4 : Int32) [(.int p3), (.int x0), (.int x1), (.int 0)] (.int 0) := Arv.set Ar100 q100 S100 N100 H100 G100 rfl W102 0 rfl (Nat.le_of_ble_eq_true rfl)
  have N103 := Fr.snoc X102 N93 gg36
  have O104 := O94.wr W102 gg36
  have K105 := K95.wr W102 (Or.inr sz37)
  have f106 := ((f80.keep K93 (ninS ne90 nin0)).other W102 (Or.inl ne75))
  have q107 := fun t (kt : Go p e below T102 (mkF m 100 #[vR a1, vI 0, vI p3, vJ wv, vS, vI 4] [(.ref a1)]) t) => q101 t (st102 t (by
    show Go _ _ _ _ (mkF m 99 #[vR a1, vI 0, vI p3, vJ wv, vS, vI 4] []) _
    refine XS.aloadN X102.here hx rfl (hb hby d10_99) rfl rfl ?_
    exact kt))
  obtain ⟨T108, X108, e108, st108⟩ := getF X102 hx hZ hown (host := "") (Or.inl (ox hw 15 rfl)) Via.refl e102 f106 (g := (mkF m 100 #[vR a1, vI 0, vI p3, vJ wv, vS, vI 4] [(.ref a1)])) rfl rfl (hb hby d10_100)
  have f109 := (Vv93.other W102 (Ne.symm ne91))
  have q111 := fun t (kt : Go p e below T108 (mkF m 105 #[vR a1, vI 0, vI p3, vJ wv, vS, vI 4] [(.long wv), (.int 0), (.ref r_52)]) t) => q107 t (st108 t (by
    show Go _ _ _ _ (mkF m 103 #[vR a1, vI 0, vI p3, vJ wv, vS, vI 4] [(.ref r_52)]) _
    refine XS.iloadN X108.here hx rfl (hb hby d10_103) rfl ?_
    show Go _ _ _ _ (mkF m 104 _ [(.int 0), (.ref r_52)]) _
    refine XS.lloadN X108.here hx rfl (hb hby d10_104) rfl ?_
    exact kt))
  obtain ⟨c110, Ar110, q110, S110, N110, H110, G110⟩ := id f109
  have hi110 : ¬ ((0 : Int32) < 0 ∨ c110.slots.size ≤ ((0 : Int32)).toNatClampNeg) := inb_of S110 ⟨by decide, by decide⟩
  obtain ⟨T112, h112, X112, e112, W112, st112⟩ := stJ X108 hx hZ e108 Ar110 (j := (0 : Int32)) hi110 (g := (mkF m 105 #[vR a1, vI 0, vI p3, vJ wv, vS, vI 4] [(.long wv), (.int 0), (.ref r_52)])) rfl rfl (hb hby d10_105)
  have V112 : Arv Z h112 r_52 kr_52 .long (4 : Int32) [(.long wv), (.long w0), (.long w1), (.long (0 : Int64))] (.long (0 : Int64)) := Arv.set Ar110 q110 S110 N110 H110 G110 rfl W112 0 rfl (Nat.le_of_ble_eq_true rfl)
  have N113 := Fr.snoc X112 N103 gg54
  have O114 := O104.wr W112 gg54
  have K115 := K105.wr W112 (Or.inr sz55)
  have f116 := (((f85.keep K93 (ninS ne90 nin0)).other W102 (Or.inl ne75)).other W112 (Or.inl ne90))
  have q117 := fun t (kt : Go p e below T112 (mkF m 108 #[vR a1, vI 0, vI p3, vJ wv, vS, vI 4] [(.ref a1), (.ref a1)]) t) => q111 t (st112 t (by
    show Go _ _ _ _ (mkF m 106 #[vR a1, vI 0, vI p3, vJ wv, vS, vI 4] []) _
    refine XS.aloadN X112.here hx rfl (hb hby d10_106) rfl rfl ?_
    show Go _ _ _ _ (mkF m 107 _ [(.ref a1)]) _
    refine XS.dup X112.here hx rfl (hb hby d10_107) rfl rfl ?_
    exact kt))
  obtain ⟨T118, X118, e118, st118⟩ := getF X112 hx hZ hown (host := "") (Or.inl (ox hw 22 rfl)) Via.refl e112 f116 (g := (mkF m 108 #[vR a1, vI 0, vI p3, vJ wv, vS, vI 4] [(.ref a1), (.ref a1)])) rfl rfl (hb hby d10_108)
  have f119 := (((((f58.wr W60).keep K77).keep K93).wr W102).wr W112)
  have q120 := fun t (kt : Go p e below T118 (mkF m 113 #[vR a1, vI 0, vI p3, vJ wv, vS, vI 4] [(.int 3), (.ref a1)]) t) => q117 t (st118 t (by
    show Go _ _ _ _ (mkF m 111 #[vR a1, vI 0, vI p3, vJ wv, vS, vI 4] [(.int 2), (.ref a1)]) _
    refine XS.iconst X118.here hx rfl (hb hby d10_111) ?_
    show Go _ _ _ _ (mkF m 112 _ [(.int 1), (.int 2), (.ref a1)]) _
    refine XS.iadd X118.here hx rfl (hb hby d10_112) rfl ?_
    exact kt))
  obtain ⟨T121, h121, X121, e121, W121, st121⟩ := putF X118 hx hZ hown (host := "") (Or.inl (ox hw 22 rfl)) Via.refl e118 f116 f119 (Or.inl (ox hw 23 rfl)) (ox hw 1 rfl) (ty := .int) (by decide) rfl rfl (g := (mkF m 113 #[vR a1, vI 0, vI p3, vJ wv, vS, vI 4] [(.int 3), (.ref a1)])) rfl rfl (hb hby d10_113)
  have f122 : Fld Z h121 a1 sk0 "used" "I" (.int 3) := f116.same W121
  have N123 := Fr.snoc X121 N113 g_a1
  have O124 := O114.wr W121 g_a1
  have K125 := K115.wr W121 (Or.inl (List.mem_of_getElem? (i := 0) rfl))
  have q126 := fun t (kt : Go p e below T121 (mkF m 116 #[vR a1, vI 0, vI p3, vJ wv, vS, vI 4] []) t) => q120 t (st121 t kt)
  have f127 := (((f96.other W102 (Or.inl ne75)).other W112 (Or.inl ne90)).other W121 (Or.inr (slot_ne (Or.inl (ox hw 12 rfl)) (Or.inl (ox hw 23 rfl)) (by decide) (t := (.array .int)) (t' := .int) (by decide) (by decide))))
  have f128 := ((f106.other W112 (Or.inl ne90)).other W121 (Or.inr (slot_ne (Or.inl (ox hw 16 rfl)) (Or.inl (ox hw 23 rfl)) (by decide) (t := (.array .long)) (t' := .int) (by decide) (by decide))))
  have f129 := ((V102.other W112 ne91).other W121 (Ne.symm ne75))
  have f130 := (V112.other W121 (Ne.symm ne90))
  exact ⟨none, T121, _, _, _, _, X121, by decide, by decide, fun _ => rfl, q126, fun fs hr => X121.returnOut hx hret (hb hby d10_116) hr, by rw [e121]; exact ⟨r_34, r_52, kr_34, kr_52, rfl, N123, K125, sz37, sz55, f127, f128, f122, f129, f130⟩⟩
def Q_rm10_2_1 (Z : State) (a1 : Addr) (b : Addr) (ta : Addr) (kb : ClassId) (kt : ClassId) (x0 : Int32) (x1 : Int32) (w0 : Int64) (w1 : Int64) (p3 : Int32) (wv : Int64) (cw : Nat → Nat) (h0 : Heap) (n0 : Nat) (v : Option Value) (h : Heap) (L : List Loc) : Prop := ∃ (bb : Addr) (tt : Addr) (kbb : ClassId) (ktt : ClassId), v = none ∧ Fr n0 L ∧ Keep h0 h [a1] ∧ h0.size ≤ bb ∧ h0.size ≤ tt ∧ Fld Z h a1 sk0 "blocks" "[I" (.ref bb) ∧ Fld Z h a1 sk0 "words" "[J" (.ref tt) ∧ Fld Z h a1 sk0 "used" "I" (.int 3) ∧ Arv Z h bb kbb .int (4 : Int32) [(.int x0), (.int p3), (.int x1), (.int 0)] (.int 0) ∧ Arv Z h tt ktt .long (4 : Int32) [(.long w0), (.long wv), (.long w1), (.long (0 : Int64))] (.long (0 : Int64))
theorem rm10_2_1 (l : Launch) (Z : State) (a0 : Array Value) (hw : ∀ d ∈ tables_1, d.before a0 Z = true) (ws : List Jvm.Cond) {cw : Nat → Nat} (cx : Cx Z cw) (a1 : Addr) (b : Addr) (ta : Addr) (kb : ClassId) (kt : ClassId) (x0 : Int32) (x1 : Int32) (w0 : Int64) (w1 : Int64) (p3 : Int32) (wv : Int64) (h0 : Heap) (n0 : Nat) (O0 : Old Z n0 h0) (G0 : Exa Z h0 a1 sk0) (G1 : Fld Z h0 a1 sk0 "blocks" "[I" (.ref b)) (G2 : Fld Z h0 a1 sk0 "words" "[J" (.ref ta)) (G3 : Fld Z h0 a1 sk0 "used" "I" (.int 2)) (G4 : Arv Z h0 b kb .int (2 : Int32) [(.int x0), (.int x1)] (.int 0)) (G5 : Arv Z h0 ta kt .long (2 : Int32) [(.long w0), (.long w1)] (.long (0 : Int64))) (g_a1 : n0 ≤ a1) (g_b : n0 ≤ b) (g_ta : n0 ≤ ta) (n1 : a1 ≠ b) (n2 : a1 ≠ ta) (n3 : b ≠ ta) :
    OwnMet l ym10 (Jvm.Cond.code ym10 prog_17_method_7_code 6 none :: ws) (own_R 2 2 8 63) #[(.ref a1), (.int 1), (.int p3), (.long wv)] Z h0 (Q_rm10_2_1 Z a1 b ta kb kt x0 x1 w0 w1 p3 wv cw h0 n0) := by
  refine own_body (plainFor_of_name pn_10) hisR fun p e s m below meth c s₁ hx hby hml hown hnm hret hZ X0 e0 => ?_
  have N0 := Fr.nil n0
  have K0 : Keep h0 h0 [a1] := Keep.refl _ _
  have pre0 : ∀ t, Go p e below s₁ (mkF m 0 #[vR a1, vI 1, vI p3, vJ wv, vS, vU] []) t → Go p e below s₁ (entryFrame m #[(.ref a1), (.int 1), (.int p3), (.long wv)] 6) t := fun t k => castTop (ef_10_RIIJ m a1 (1 : Int32) p3 wv) k
  have q21 := fun t (kt : Go p e below s₁ (mkF m 1 #[vR a1, vI 1, vI p3, vJ wv, vS, vU] [(.ref a1)]) t) => pre0 t (by
    show Go _ _ _ _ (mkF m 0 #[vR a1, vI 1, vI p3, vJ wv, vS, vU] []) _
    refine XS.aloadN X0.here hx rfl (hb hby d10_0) rfl rfl ?_
    exact kt)
  obtain ⟨T22, X22, e22, st22⟩ := getF X0 hx hZ hown (host := "") (Or.inl (ox hw 22 rfl)) Via.refl e0 G3 (g := (mkF m 1 #[vR a1, vI 1, vI p3, vJ wv, vS, vU] [(.ref a1)])) rfl rfl (hb hby d10_1)
  have q23 := fun t (kt : Go p e below T22 (mkF m 5 #[vR a1, vI 1, vI p3, vJ wv, vS, vU] [(.ref a1), (.int 2)]) t) => q21 t (st22 t (by
    show Go _ _ _ _ (mkF m 4 #[vR a1, vI 1, vI p3, vJ wv, vS, vU] [(.int 2)]) _
    refine XS.aloadN X22.here hx rfl (hb hby d10_4) rfl rfl ?_
    exact kt))
  obtain ⟨T24, X24, e24, st24⟩ := getF X22 hx hZ hown (host := "") (Or.inl (ox hw 11 rfl)) Via.refl e22 G1 (g := (mkF m 5 #[vR a1, vI 1, vI p3, vJ wv, vS, vU] [(.ref a1), (.int 2)])) rfl rfl (hb hby d10_5)
  obtain ⟨c25, Ar25, -, S25, N25, -, -⟩ := id G4
  have q26 := fun t (kt : Go p e below T24 (mkF m 14 #[vR a1, vI 1, vI p3, vJ wv, vS, vU] [(.ref a1), (.int 2)]) t) => q23 t (st24 t (by
    show Go _ _ _ _ (mkF m 8 #[vR a1, vI 1, vI p3, vJ wv, vS, vU] [(.ref b), (.int 2)]) _
    refine X24.arraylength hx (by rw [e24]; exact Ar25.1) (State.isArrayOf_alike hZ.alike Ar25.2.1) (g := (mkF m 8 #[vR a1, vI 1, vI p3, vJ wv, vS, vU] [(.ref b), (.int 2)])) rfl rfl (hb hby d10_8) _ ?_
    rw [len_of S25 N25]
    show Go _ _ _ _ (mkF m 9 _ [(.int 2), (.int 2)]) _
    refine XS.icmpNo X24.here hx rfl (hb hby d10_9) rfl (teq (rfl : (2 : Int32) = (2 : Int32))).2 ?_
    show Go _ _ _ _ (mkF m 12 _ []) _
    refine XS.iconst X24.here hx rfl (hb hby d10_12) ?_
    show Go _ _ _ _ (mkF m 13 _ [(.int 2)]) _
    refine XS.aloadN X24.here hx rfl (hb hby d10_13) rfl rfl ?_
    exact kt))
  obtain ⟨T27, X27, e27, st27⟩ := getF X24 hx hZ hown (host := "") (Or.inl (ox hw 22 rfl)) Via.refl e24 G3 (g := (mkF m 14 #[vR a1, vI 1, vI p3, vJ wv, vS, vU] [(.ref a1), (.int 2)])) rfl rfl (hb hby d10_14)
  have q28 := fun t (kt : Go p e below T27 (mkF m 19 #[vR a1, vI 1, vI p3, vJ wv, vS, vU] [(.int 4), (.int 2)]) t) => q26 t (st27 t (by
    show Go _ _ _ _ (mkF m 17 #[vR a1, vI 1, vI p3, vJ wv, vS, vU] [(.int 2), (.int 2)]) _
    refine XS.iconst X27.here hx rfl (hb hby d10_17) ?_
    show Go _ _ _ _ (mkF m 18 _ [(.int 2), (.int 2), (.int 2)]) _
    refine XS.imul X27.here hx rfl (hb hby d10_18) rfl ?_
    exact kt))
  obtain ⟨_, _, ⟨T29, L29, k29, n29⟩, -, X29, ⟨_, hQ29, l29, y29, z29⟩, st29⟩ := Jvm.LawKit.callS X27 hx (y := ym6) hown (ow hZ hw 52 rfl) (ow hZ hw 53 rfl) (ow hZ hw 54 rfl) (ow hZ hw 55 rfl) (by decide) (backOf (W := 0) (rm11_4 l Z a0 hw [] cx  h0 n0 O0 ) hZ (ox hw 55 rfl) (ox hw 54 rfl) (by decide) (by decide)) (g := (mkF m 19 #[vR a1, vI 1, vI p3, vJ wv, vS, vU] [(.int 4), (.int 2)])) rfl (by rw [hml]; rfl) (argsL := [(.int 2), (.int 4)]) (rest := []) (lenOf pd_2 rfl) rfl own_le0 (hb hby d10_19) (fun _ _ => ⟨rfl, e27, (by decide : 0 + 0 ≤ _), (by decide : 0 + 0 ≤ _)⟩)
  dsimp only [Pt.U, Pt.locs, Pt.cells, Pt.slots] at X29 l29 y29 z29 st29 hQ29
  subst l29 y29 z29
  obtain ⟨rfl, Nq29, eq29⟩ := hQ29
  have N30 := Fr.app N0 Nq29
  have q31 := fun t (kt : Go p e below T29 (mkF m 26 #[vR a1, vI 1, vI p3, vJ wv, vS, vI 4] [(.ref a1), (.ref a1)]) t) => q28 t (st29 t (by
    show Go _ _ _ _ (mkF m 22 #[vR a1, vI 1, vI p3, vJ wv, vS, vU] [(.int 4)]) _
    refine XS.istore X29.here hx rfl (hb hby d10_22) rfl (l' := #[vR a1, vI 1, vI p3, vJ wv, vS, vI 4]) rfl ?_
    show Go _ _ _ _ (mkF m 24 #[vR a1, vI 1, vI p3, vJ wv, vS, vI 4] []) _
    refine XS.aloadN X29.here hx rfl (hb hby d10_24) rfl rfl ?_
    show Go _ _ _ _ (mkF m 25 _ [(.ref a1)]) _
    refine XS.aloadN X29.here hx rfl (hb hby d10_25) rfl rfl ?_
    exact kt))
  obtain ⟨T32, X32, e32, st32⟩ := getF X29 hx hZ hown (host := "") (Or.inl (ox hw 11 rfl)) Via.refl eq29 G1 (g := (mkF m 26 #[vR a1, vI 1, vI p3, vJ wv, vS, vI 4] [(.ref a1), (.ref a1)])) rfl rfl (hb hby d10_26)
  have q33 := fun t (kt : Go p e below T32 (mkF m 31 #[vR a1, vI 1, vI p3, vJ wv, vS, vI 4] [(.int 4), (.ref b), (.ref a1)]) t) => q31 t (st32 t (by
    show Go _ _ _ _ (mkF m 29 #[vR a1, vI 1, vI p3, vJ wv, vS, vI 4] [(.ref b), (.ref a1)]) _
    refine XS.iload X32.here hx rfl (hb hby d10_29) rfl ?_
    exact kt))
  obtain ⟨_, _, ⟨T34, L34, k34, n34⟩, -, X34, ⟨_, hQ34, l34, y34, z34⟩, st34⟩ := Jvm.LawKit.callS X32 hx (y := ym8) hown (ow hZ hw 56 rfl) (ow hZ hw 57 rfl) (ow hZ hw 37 rfl) (ow hZ hw 58 rfl) (by decide) (backOf (W := 1) (rm12_4 l Z a0 hw [] cx b kb x0 x1 h0 n0 O0 G4) hZ (ox hw 58 rfl) (ox hw 37 rfl) (by decide) (by decide)) (g := (mkF m 31 #[vR a1, vI 1, vI p3, vJ wv, vS, vI 4] [(.int 4), (.ref b), (.ref a1)])) rfl (by rw [hml]; rfl) (argsL := [(.ref b), (.int 4)]) (rest := [(.ref a1)]) (lenOf pd_3 rfl) rfl own_le0 (hb hby d10_31) (fun _ _ => ⟨rfl, e32, (by decide : 0 + 1 ≤ _), (by decide : 0 + 4 ≤ _)⟩)
  dsimp only [Pt.U, Pt.locs, Pt.cells, Pt.slots] at X34 l34 y34 z34 st34 hQ34
  subst l34 y34 z34
  obtain ⟨r_34, kr_34, rfl, Nq34, Kq34, fr34_0, fq34_0⟩ := hQ34
  have N35 := Fr.app N30 Nq34
  have gg36 : n0 ≤ r_34 := Nat.le_trans (O0.1 ▸ O0.2.1) fr34_0
  have sz37 : h0.size ≤ r_34 := Nat.le_trans K0.1 fr34_0
  have O38 := O0.keep Kq34 all0
  have K39 := K0.trans Kq34 all0
  have f40 := (G0.keep Kq34)
  have f41 := (G1.keep Kq34 nin0)
  obtain ⟨T42, h42, X42, e42, W42, st42⟩ := putF X34 hx hZ hown (host := "") (Or.inl (ox hw 11 rfl)) Via.refl rfl f41 f40 (Or.inl (ox hw 12 rfl)) (ox hw 1 rfl) (ty := (.array .int)) (by decide) rfl rfl (g := (mkF m 34 #[vR a1, vI 1, vI p3, vJ wv, vS, vI 4] [(.ref r_34), (.ref a1)])) rfl rfl (hb hby d10_34)
  have f43 : Fld Z h42 a1 sk0 "blocks" "[I" (.ref r_34) := f41.same W42
  have N44 := Fr.snoc X42 N35 g_a1
  have O45 := O38.wr W42 g_a1
  have K46 := K39.wr W42 (Or.inl (List.mem_of_getElem? (i := 0) rfl))
  have f47 := ((G2.keep Kq34 nin0).other W42 (Or.inr (slot_ne (Or.inl (ox hw 16 rfl)) (Or.inl (ox hw 12 rfl)) (by decide) (t := (.array .long)) (t' := (.array .int)) (by decide) (by decide))))
  have q48 := fun t (kt : Go p e below T42 (mkF m 39 #[vR a1, vI 1, vI p3, vJ wv, vS, vI 4] [(.ref a1), (.ref a1)]) t) => q33 t (st34 t (st42 t (by
    show Go _ _ _ _ (mkF m 37 #[vR a1, vI 1, vI p3, vJ wv, vS, vI 4] []) _
    refine XS.aloadN X42.here hx rfl (hb hby d10_37) rfl rfl ?_
    show Go _ _ _ _ (mkF m 38 _ [(.ref a1)]) _
    refine XS.aloadN X42.here hx rfl (hb hby d10_38) rfl rfl ?_
    exact kt)))
  obtain ⟨T49, X49, e49, st49⟩ := getF X42 hx hZ hown (host := "") (Or.inl (ox hw 15 rfl)) Via.refl e42 f47 (g := (mkF m 39 #[vR a1, vI 1, vI p3, vJ wv, vS, vI 4] [(.ref a1), (.ref a1)])) rfl rfl (hb hby d10_39)
  have f50 := ((G5.keep Kq34 nin0).other W42 (Ne.symm n2))
  have q51 := fun t (kt : Go p e below T49 (mkF m 44 #[vR a1, vI 1, vI p3, vJ wv, vS, vI 4] [(.int 4), (.ref ta), (.ref a1)]) t) => q48 t (st49 t (by
    show Go _ _ _ _ (mkF m 42 #[vR a1, vI 1, vI p3, vJ wv, vS, vI 4] [(.ref ta), (.ref a1)]) _
    refine XS.iload X49.here hx rfl (hb hby d10_42) rfl ?_
    exact kt))
  obtain ⟨_, _, ⟨T52, L52, k52, n52⟩, -, X52, ⟨_, hQ52, l52, y52, z52⟩, st52⟩ := Jvm.LawKit.callS X49 hx (y := ym9) hown (ow hZ hw 66 rfl) (ow hZ hw 67 rfl) (ow hZ hw 37 rfl) (ow hZ hw 68 rfl) (by decide) (backOf (W := 1) (rm14_4 l Z a0 hw [] cx ta kt w0 w1 h42 n0 O45 f50) hZ (ox hw 68 rfl) (ox hw 37 rfl) (by decide) (by decide)) (g := (mkF m 44 #[vR a1, vI 1, vI p3, vJ wv, vS, vI 4] [(.int 4), (.ref ta), (.ref a1)])) rfl (by rw [hml]; rfl) (argsL := [(.ref ta), (.int 4)]) (rest := [(.ref a1)]) (lenOf pd_4 rfl) rfl own_le0 (hb hby d10_44) (fun _ _ => ⟨rfl, e49, (by decide : 1 + 1 ≤ _), (by decide : 4 + 4 ≤ _)⟩)
  dsimp only [Pt.U, Pt.locs, Pt.cells, Pt.slots] at X52 l52 y52 z52 st52 hQ52
  subst l52 y52 z52
  obtain ⟨r_52, kr_52, rfl, Nq52, Kq52, fr52_0, fq52_0⟩ := hQ52
  have N53 := Fr.app N44 Nq52
  have gg54 : n0 ≤ r_52 := Nat.le_trans (O45.1 ▸ O45.2.1) fr52_0
  have sz55 : h0.size ≤ r_52 := Nat.le_trans K46.1 fr52_0
  have O56 := O45.keep Kq52 all0
  have K57 := K46.trans Kq52 all0
  have f58 := ((f40.wr W42).keep Kq52)
  have f59 := (f47.keep Kq52 nin0)
  obtain ⟨T60, h60, X60, e60, W60, st60⟩ := putF X52 hx hZ hown (host := "") (Or.inl (ox hw 15 rfl)) Via.refl rfl f59 f58 (Or.inl (ox hw 16 rfl)) (ox hw 1 rfl) (ty := (.array .long)) (by decide) rfl rfl (g := (mkF m 47 #[vR a1, vI 1, vI p3, vJ wv, vS, vI 4] [(.ref r_52), (.ref a1)])) rfl rfl (hb hby d10_47)
  have f61 : Fld Z h60 a1 sk0 "words" "[J" (.ref r_52) := f59.same W60
  have N62 := Fr.snoc X60 N53 g_a1
  have O63 := O56.wr W60 g_a1
  have K64 := K57.wr W60 (Or.inl (List.mem_of_getElem? (i := 0) rfl))
  have f65 := ((f43.keep Kq52 nin0).other W60 (Or.inr (slot_ne (Or.inl (ox hw 12 rfl)) (Or.inl (ox hw 16 rfl)) (by decide) (t := (.array .int)) (t' := (.array .long)) (by decide) (by decide))))
  have q66 := fun t (kt : Go p e below T60 (mkF m 51 #[vR a1, vI 1, vI p3, vJ wv, vS, vI 4] [(.ref a1)]) t) => q51 t (st52 t (st60 t (by
    show Go _ _ _ _ (mkF m 50 #[vR a1, vI 1, vI p3, vJ wv, vS, vI 4] []) _
    refine XS.aloadN X60.here hx rfl (hb hby d10_50) rfl rfl ?_
    exact kt)))
  obtain ⟨T67, X67, e67, st67⟩ := getF X60 hx hZ hown (host := "") (Or.inl (ox hw 11 rfl)) Via.refl e60 f65 (g := (mkF m 51 #[vR a1, vI 1, vI p3, vJ wv, vS, vI 4] [(.ref a1)])) rfl rfl (hb hby d10_51)
  have q68 := fun t (kt : Go p e below T67 (mkF m 56 #[vR a1, vI 1, vI p3, vJ wv, vS, vI 4] [(.ref a1), (.int 1), (.ref r_34)]) t) => q66 t (st67 t (by
    show Go _ _ _ _ (mkF m 54 #[vR a1, vI 1, vI p3, vJ wv, vS, vI 4] [(.ref r_34)]) _
    refine XS.iloadN X67.here hx rfl (hb hby d10_54) rfl ?_
    show Go _ _ _ _ (mkF m 55 _ [(.int 1), (.ref r_34)]) _
    refine XS.aloadN X67.here hx rfl (hb hby d10_55) rfl rfl ?_
    exact kt))
  obtain ⟨T69, X69, e69, st69⟩ := getF X67 hx hZ hown (host := "") (Or.inl (ox hw 11 rfl)) Via.refl e67 f65 (g := (mkF m 56 #[vR a1, vI 1, vI p3, vJ wv, vS, vI 4] [(.ref a1), (.int 1), (.ref r_34)])) rfl rfl (hb hby d10_56)
  have f70 := ((((G3.keep Kq34 nin0).other W42 (Or.inr (slot_ne (Or.inl (ox hw 23 rfl)) (Or.inl (ox hw 12 rfl)) (by decide) (t := .int) (t' := (.array .int)) (by decide) (by decide)))).keep Kq52 nin0).other W60 (Or.inr (slot_ne (Or.inl (ox hw 23 rfl)) (Or.inl (ox hw 16 rfl)) (by decide) (t := .int) (t' := (.array .long)) (by decide) (by decide))))
  have q71 := fun t (kt : Go p e below T69 (mkF m 63 #[vR a1, vI 1, vI p3, vJ wv, vS, vI 4] [(.ref a1), (.int 2), (.ref r_34), (.int 1), (.ref r_34)]) t) => q68 t (st69 t (by
    show Go _ _ _ _ (mkF m 59 #[vR a1, vI 1, vI p3, vJ wv, vS, vI 4] [(.ref r_34), (.int 1), (.ref r_34)]) _
    refine XS.iloadN X69.here hx rfl (hb hby d10_59) rfl ?_
    show Go _ _ _ _ (mkF m 60 _ [(.int 1), (.ref r_34), (.int 1), (.ref r_34)]) _
    refine XS.iconst X69.here hx rfl (hb hby d10_60) ?_
    show Go _ _ _ _ (mkF m 61 _ [(.int 1), (.int 1), (.ref r_34), (.int 1), (.ref r_34)]) _
    refine XS.iadd X69.here hx rfl (hb hby d10_61) rfl ?_
    show Go _ _ _ _ (mkF m 62 _ [(.int 2), (.ref r_34), (.int 1), (.ref r_34)]) _
    refine XS.aloadN X69.here hx rfl (hb hby d10_62) rfl rfl ?_
    exact kt))
  obtain ⟨T72, X72, e72, st72⟩ := getF X69 hx hZ hown (host := "") (Or.inl (ox hw 22 rfl)) Via.refl e69 f70 (g := (mkF m 63 #[vR a1, vI 1, vI p3, vJ wv, vS, vI 4] [(.ref a1), (.int 2), (.ref r_34), (.int 1), (.ref r_34)])) rfl rfl (hb hby d10_63)
  have q74 := fun t (kt : Go p e below T72 (mkF m 68 #[vR a1, vI 1, vI p3, vJ wv, vS, vI 4] [(.int 1), (.int 2), (.ref r_34), (.int 1), (.ref r_34)]) t) => q71 t (st72 t (by
    show Go _ _ _ _ (mkF m 66 #[vR a1, vI 1, vI p3, vJ wv, vS, vI 4] [(.int 2), (.int 2), (.ref r_34), (.int 1), (.ref r_34)]) _
    refine XS.iloadN X72.here hx rfl (hb hby d10_66) rfl ?_
    show Go _ _ _ _ (mkF m 67 _ [(.int 1), (.int 2), (.int 2), (.ref r_34), (.int 1), (.ref r_34)]) _
    refine XS.isub X72.here hx rfl (hb hby d10_67) rfl ?_
    exact kt))
  have ne75 : a1 ≠ r_34 := (Nat.ne_of_lt (Nat.lt_of_lt_of_le G0.lt fr34_0))
  have f76 := (((fq34_0.other W42 (Ne.symm ne75)).keep Kq52 nin0).other W60 (Ne.symm ne75))
  obtain ⟨T77, h77, L77, X77, e77, N77, K77, V77, st77⟩ := cpA X72 hx hZ hown (ox hw 70 rfl) (ox hw 65 rfl) (ox hw 63 rfl) (ox hw 64 rfl) e72 f76 f76 (us := [(.int x1)]) (Or.inl ⟨rfl, rfl⟩) (by decide) (by decide) (by decide) (by decide) (by decide) rfl (Nat.le_of_ble_eq_true rfl) N62 gg36 (g := (mkF m 68 #[vR a1, vI 1, vI p3, vJ wv, vS, vI 4] [(.int 1), (.int 2), (.ref r_34), (.int 1), (.ref r_34)])) rfl (by rw [hml]; rfl) rfl (hb hby d10_68) (by decide) (W := 0) own_le0 (by decide)
  have O78 := O63.keep K77 (allS gg36 all0)
  have K79 := K64.trans K77 (allS (Or.inr sz37) all0)
  have Vv77 : Arv Z h77 r_34 kr_34 .int (4 : Int32) [(.int x0), (.int x1), (.int x1), (.int 0)] (.int 0) := V77
  have f80 := (f61.keep K77 (ninS ne75 nin0))
  have q81 := fun t (kt : Go p e below T77 (mkF m 72 #[vR a1, vI 1, vI p3, vJ wv, vS, vI 4] [(.ref a1)]) t) => q74 t (st77 t (by
    show Go _ _ _ _ (mkF m 71 #[vR a1, vI 1, vI p3, vJ wv, vS, vI 4] []) _
    refine XS.aloadN X77.here hx rfl (hb hby d10_71) rfl rfl ?_
    exact kt))
  obtain ⟨T82, X82, e82, st82⟩ := getF X77 hx hZ hown (host := "") (Or.inl (ox hw 15 rfl)) Via.refl e77 f80 (g := (mkF m 72 #[vR a1, vI 1, vI p3, vJ wv, vS, vI 4] [(.ref a1)])) rfl rfl (hb hby d10_72)
  have q83 := fun t (kt : Go p e below T82 (mkF m 77 #[vR a1, vI 1, vI p3, vJ wv, vS, vI 4] [(.ref a1), (.int 1), (.ref r_52)]) t) => q81 t (st82 t (by
    show Go _ _ _ _ (mkF m 75 #[vR a1, vI 1, vI p3, vJ wv, vS, vI 4] [(.ref r_52)]) _
    refine XS.iloadN X82.here hx rfl (hb hby d10_75) rfl ?_
    show Go _ _ _ _ (mkF m 76 _ [(.int 1), (.ref r_52)]) _
    refine XS.aloadN X82.here hx rfl (hb hby d10_76) rfl rfl ?_
    exact kt))
  obtain ⟨T84, X84, e84, st84⟩ := getF X82 hx hZ hown (host := "") (Or.inl (ox hw 15 rfl)) Via.refl e82 f80 (g := (mkF m 77 #[vR a1, vI 1, vI p3, vJ wv, vS, vI 4] [(.ref a1), (.int 1), (.ref r_52)])) rfl rfl (hb hby d10_77)
  have f85 := (f70.keep K77 (ninS ne75 nin0))
  have q86 := fun t (kt : Go p e below T84 (mkF m 84 #[vR a1, vI 1, vI p3, vJ wv, vS, vI 4] [(.ref a1), (.int 2), (.ref r_52), (.int 1), (.ref r_52)]) t) => q83 t (st84 t (by
    show Go _ _ _ _ (mkF m 80 #[vR a1, vI 1, vI p3, vJ wv, vS, vI 4] [(.ref r_52), (.int 1), (.ref r_52)]) _
    refine XS.iloadN X84.here hx rfl (hb hby d10_80) rfl ?_
    show Go _ _ _ _ (mkF m 81 _ [(.int 1), (.ref r_52), (.int 1), (.ref r_52)]) _
    refine XS.iconst X84.here hx rfl (hb hby d10_81) ?_
    show Go _ _ _ _ (mkF m 82 _ [(.int 1), (.int 1), (.ref r_52), (.int 1), (.ref r_52)]) _
    refine XS.iadd X84.here hx rfl (hb hby d10_82) rfl ?_
    show Go _ _ _ _ (mkF m 83 _ [(.int 2), (.ref r_52), (.int 1), (.ref r_52)]) _
    refine XS.aloadN X84.here hx rfl (hb hby d10_83) rfl rfl ?_
    exact kt))
  obtain ⟨T87, X87, e87, st87⟩ := getF X84 hx hZ hown (host := "") (Or.inl (ox hw 22 rfl)) Via.refl e84 f85 (g := (mkF m 84 #[vR a1, vI 1, vI p3, vJ wv, vS, vI 4] [(.ref a1), (.int 2), (.ref r_52), (.int 1), (.ref r_52)])) rfl rfl (hb hby d10_84)
  have q89 := fun t (kt : Go p e below T87 (mkF m 89 #[vR a1, vI 1, vI p3, vJ wv, vS, vI 4] [(.int 1), (.int 2), (.ref r_52), (.int 1), (.ref r_52)]) t) => q86 t (st87 t (by
    show Go _ _ _ _ (mkF m 87 #[vR a1, vI 1, vI p3, vJ wv, vS, vI 4] [(.int 2), (.int 2), (.ref r_52), (.int 1), (.ref r_52)]) _
    refine XS.iloadN X87.here hx rfl (hb hby d10_87) rfl ?_
    show Go _ _ _ _ (mkF m 88 _ [(.int 1), (.int 2), (.int 2), (.ref r_52), (.int 1), (.ref r_52)]) _
    refine XS.isub X87.here hx rfl (hb hby d10_88) rfl ?_
    exact kt))
  have ne90 : a1 ≠ r_52 := (Nat.ne_of_lt (Nat.lt_of_lt_of_le (f40.wr W42).lt fr52_0))
  have ne91 : r_34 ≠ r_52 := (Nat.ne_of_lt (Nat.lt_of_lt_of_le (Nat.lt_of_lt_of_le fq34_0.lt (Keep.of_wr W42).1) fr52_0))
  have f92 := ((fq52_0.other W60 (Ne.symm ne90)).keep K77 (ninS (Ne.symm ne91) nin0))
  obtain ⟨T93, h93, L93, X93, e93, N93, K93, V93, st93⟩ := cpA X87 hx hZ hown (ox hw 70 rfl) (ox hw 65 rfl) (ox hw 63 rfl) (ox hw 64 rfl) e87 f92 f92 (us := [(.long w1)]) (Or.inl ⟨rfl, rfl⟩) (by decide) (by decide) (by decide) (by decide) (by decide) rfl (Nat.le_of_ble_eq_true rfl) N77 gg54 (g := (mkF m 89 #[vR a1, vI 1, vI p3, vJ wv, vS, vI 4] [(.int 1), (.int 2), (.ref r_52), (.int 1), (.ref r_52)])) rfl (by rw [hml]; rfl) rfl (hb hby d10_89) (by decide) (W := 0) own_le0 (by decide)
  have O94 := O78.keep K93 (allS gg54 all0)
  have K95 := K79.trans K93 (allS (Or.inr sz55) all0)
  have Vv93 : Arv Z h93 r_52 kr_52 .long (4 : Int32) [(.long w0), (.long w1), (.long w1), (.long (0 : Int64))] (.long (0 : Int64)) := V93
  have f96 := ((f65.keep K77 (ninS ne75 nin0)).keep K93 (ninS ne90 nin0))
  have q97 := fun t (kt : Go p e below T93 (mkF m 93 #[vR a1, vI 1, vI p3, vJ wv, vS, vI 4] [(.ref a1)]) t) => q89 t (st93 t (by
    show Go _ _ _ _ (mkF m 92 #[vR a1, vI 1, vI p3, vJ wv, vS, vI 4] []) _
    refine XS.aloadN X93.here hx rfl (hb hby d10_92) rfl rfl ?_
    exact kt))
  obtain ⟨T98, X98, e98, st98⟩ := getF X93 hx hZ hown (host := "") (Or.inl (ox hw 11 rfl)) Via.refl e93 f96 (g := (mkF m 93 #[vR a1, vI 1, vI p3, vJ wv, vS, vI 4] [(.ref a1)])) rfl rfl (hb hby d10_93)
  have f99 := (Vv77.keep K93 (ninS ne91 nin0))
  have q101 := fun t (kt : Go p e below T98 (mkF m 98 #[vR a1, vI 1, vI p3, vJ wv, vS, vI 4] [(.int p3), (.int 1), (.ref r_34)]) t) => q97 t (st98 t (by
    show Go _ _ _ _ (mkF m 96 #[vR a1, vI 1, vI p3, vJ wv, vS, vI 4] [(.ref r_34)]) _
    refine XS.iloadN X98.here hx rfl (hb hby d10_96) rfl ?_
    show Go _ _ _ _ (mkF m 97 _ [(.int 1), (.ref r_34)]) _
    refine XS.iloadN X98.here hx rfl (hb hby d10_97) rfl ?_
    exact kt))
  obtain ⟨c100, Ar100, q100, S100, N100, H100, G100⟩ := id f99
  have hi100 : ¬ ((1 : Int32) < 0 ∨ c100.slots.size ≤ ((1 : Int32)).toNatClampNeg) := inb_of S100 ⟨by decide, by decide⟩
  obtain ⟨T102, h102, X102, e102, W102, st102⟩ := stI X98 hx hZ e98 Ar100 (j := (1 : Int32)) hi100 (g := (mkF m 98 #[vR a1, vI 1, vI p3, vJ wv, vS, vI 4] [(.int p3), (.int 1), (.ref r_34)])) rfl rfl (hb hby d10_98)
  have V102 : Arv Z h102 r_34 kr_34 .int (4 : Int32) [(.int x0), (.int p3), (.int x1), (.int 0)] (.int 0) := Arv.set Ar100 q100 S100 N100 H100 G100 rfl W102 1 rfl (Nat.le_of_ble_eq_true rfl)
  have N103 := Fr.snoc X102 N93 gg36
  have O104 := O94.wr W102 gg36
  have K105 := K95.wr W102 (Or.inr sz37)
  have f106 := ((f80.keep K93 (ninS ne90 nin0)).other W102 (Or.inl ne75))
  have q107 := fun t (kt : Go p e below T102 (mkF m 100 #[vR a1, vI 1, vI p3, vJ wv, vS, vI 4] [(.ref a1)]) t) => q101 t (st102 t (by
    show Go _ _ _ _ (mkF m 99 #[vR a1, vI 1, vI p3, vJ wv, vS, vI 4] []) _
    refine XS.aloadN X102.here hx rfl (hb hby d10_99) rfl rfl ?_
    exact kt))
  obtain ⟨T108, X108, e108, st108⟩ := getF X102 hx hZ hown (host := "") (Or.inl (ox hw 15 rfl)) Via.refl e102 f106 (g := (mkF m 100 #[vR a1, vI 1, vI p3, vJ wv, vS, vI 4] [(.ref a1)])) rfl rfl (hb hby d10_100)
  have f109 := (Vv93.other W102 (Ne.symm ne91))
  have q111 := fun t (kt : Go p e below T108 (mkF m 105 #[vR a1, vI 1, vI p3, vJ wv, vS, vI 4] [(.long wv), (.int 1), (.ref r_52)]) t) => q107 t (st108 t (by
    show Go _ _ _ _ (mkF m 103 #[vR a1, vI 1, vI p3, vJ wv, vS, vI 4] [(.ref r_52)]) _
    refine XS.iloadN X108.here hx rfl (hb hby d10_103) rfl ?_
    show Go _ _ _ _ (mkF m 104 _ [(.int 1), (.ref r_52)]) _
    refine XS.lloadN X108.here hx rfl (hb hby d10_104) rfl ?_
    exact kt))
  obtain ⟨c110, Ar110, q110, S110, N110, H110, G110⟩ := id f109
  have hi110 : ¬ ((1 : Int32) < 0 ∨ c110.slots.size ≤ ((1 : Int32)).toNatClampNeg) := inb_of S110 ⟨by decide, by decide⟩
  obtain ⟨T112, h112, X112, e112, W112, st112⟩ := stJ X108 hx hZ e108 Ar110 (j := (1 : Int32)) hi110 (g := (mkF m 105 #[vR a1, vI 1, vI p3, vJ wv, vS, vI 4] [(.long wv), (.int 1), (.ref r_52)])) rfl rfl (hb hby d10_105)
  have V112 : Arv Z h112 r_52 kr_52 .long (4 : Int32) [(.long w0), (.long wv), (.long w1), (.long (0 : Int64))] (.long (0 : Int64)) := Arv.set Ar110 q110 S110 N110 H110 G110 rfl W112 1 rfl (Nat.le_of_ble_eq_true rfl)
  have N113 := Fr.snoc X112 N103 gg54
  have O114 := O104.wr W112 gg54
  have K115 := K105.wr W112 (Or.inr sz55)
  have f116 := (((f85.keep K93 (ninS ne90 nin0)).other W102 (Or.inl ne75)).other W112 (Or.inl ne90))
  have q117 := fun t (kt : Go p e below T112 (mkF m 108 #[vR a1, vI 1, vI p3, vJ wv, vS, vI 4] [(.ref a1), (.ref a1)]) t) => q111 t (st112 t (by
    show Go _ _ _ _ (mkF m 106 #[vR a1, vI 1, vI p3, vJ wv, vS, vI 4] []) _
    refine XS.aloadN X112.here hx rfl (hb hby d10_106) rfl rfl ?_
    show Go _ _ _ _ (mkF m 107 _ [(.ref a1)]) _
    refine XS.dup X112.here hx rfl (hb hby d10_107) rfl rfl ?_
    exact kt))
  obtain ⟨T118, X118, e118, st118⟩ := getF X112 hx hZ hown (host := "") (Or.inl (ox hw 22 rfl)) Via.refl e112 f116 (g := (mkF m 108 #[vR a1, vI 1, vI p3, vJ wv, vS, vI 4] [(.ref a1), (.ref a1)])) rfl rfl (hb hby d10_108)
  have f119 := (((((f58.wr W60).keep K77).keep K93).wr W102).wr W112)
  have q120 := fun t (kt : Go p e below T118 (mkF m 113 #[vR a1, vI 1, vI p3, vJ wv, vS, vI 4] [(.int 3), (.ref a1)]) t) => q117 t (st118 t (by
    show Go _ _ _ _ (mkF m 111 #[vR a1, vI 1, vI p3, vJ wv, vS, vI 4] [(.int 2), (.ref a1)]) _
    refine XS.iconst X118.here hx rfl (hb hby d10_111) ?_
    show Go _ _ _ _ (mkF m 112 _ [(.int 1), (.int 2), (.ref a1)]) _
    refine XS.iadd X118.here hx rfl (hb hby d10_112) rfl ?_
    exact kt))
  obtain ⟨T121, h121, X121, e121, W121, st121⟩ := putF X118 hx hZ hown (host := "") (Or.inl (ox hw 22 rfl)) Via.refl e118 f116 f119 (Or.inl (ox hw 23 rfl)) (ox hw 1 rfl) (ty := .int) (by decide) rfl rfl (g := (mkF m 113 #[vR a1, vI 1, vI p3, vJ wv, vS, vI 4] [(.int 3), (.ref a1)])) rfl rfl (hb hby d10_113)
  have f122 : Fld Z h121 a1 sk0 "used" "I" (.int 3) := f116.same W121
  have N123 := Fr.snoc X121 N113 g_a1
  have O124 := O114.wr W121 g_a1
  have K125 := K115.wr W121 (Or.inl (List.mem_of_getElem? (i := 0) rfl))
  have q126 := fun t (kt : Go p e below T121 (mkF m 116 #[vR a1, vI 1, vI p3, vJ wv, vS, vI 4] []) t) => q120 t (st121 t kt)
  have f127 := (((f96.other W102 (Or.inl ne75)).other W112 (Or.inl ne90)).other W121 (Or.inr (slot_ne (Or.inl (ox hw 12 rfl)) (Or.inl (ox hw 23 rfl)) (by decide) (t := (.array .int)) (t' := .int) (by decide) (by decide))))
  have f128 := ((f106.other W112 (Or.inl ne90)).other W121 (Or.inr (slot_ne (Or.inl (ox hw 16 rfl)) (Or.inl (ox hw 23 rfl)) (by decide) (t := (.array .long)) (t' := .int) (by decide) (by decide))))
  have f129 := ((V102.other W112 ne91).other W121 (Ne.symm ne75))
  have f130 := (V112.other W121 (Ne.symm ne90))
  exact ⟨none, T121, _, _, _, _, X121, by decide, by decide, fun _ => rfl, q126, fun fs hr => X121.returnOut hx hret (hb hby d10_116) hr, by rw [e121]; exact ⟨r_34, r_52, kr_34, kr_52, rfl, N123, K125, sz37, sz55, f127, f128, f122, f129, f130⟩⟩
def Q_rm10_2_2 (Z : State) (a1 : Addr) (b : Addr) (ta : Addr) (kb : ClassId) (kt : ClassId) (x0 : Int32) (x1 : Int32) (w0 : Int64) (w1 : Int64) (p3 : Int32) (wv : Int64) (cw : Nat → Nat) (h0 : Heap) (n0 : Nat) (v : Option Value) (h : Heap) (L : List Loc) : Prop := ∃ (bb : Addr) (tt : Addr) (kbb : ClassId) (ktt : ClassId), v = none ∧ Fr n0 L ∧ Keep h0 h [a1] ∧ h0.size ≤ bb ∧ h0.size ≤ tt ∧ Fld Z h a1 sk0 "blocks" "[I" (.ref bb) ∧ Fld Z h a1 sk0 "words" "[J" (.ref tt) ∧ Fld Z h a1 sk0 "used" "I" (.int 3) ∧ Arv Z h bb kbb .int (4 : Int32) [(.int x0), (.int x1), (.int p3), (.int 0)] (.int 0) ∧ Arv Z h tt ktt .long (4 : Int32) [(.long w0), (.long w1), (.long wv), (.long (0 : Int64))] (.long (0 : Int64))
theorem rm10_2_2 (l : Launch) (Z : State) (a0 : Array Value) (hw : ∀ d ∈ tables_1, d.before a0 Z = true) (ws : List Jvm.Cond) {cw : Nat → Nat} (cx : Cx Z cw) (a1 : Addr) (b : Addr) (ta : Addr) (kb : ClassId) (kt : ClassId) (x0 : Int32) (x1 : Int32) (w0 : Int64) (w1 : Int64) (p3 : Int32) (wv : Int64) (h0 : Heap) (n0 : Nat) (O0 : Old Z n0 h0) (G0 : Exa Z h0 a1 sk0) (G1 : Fld Z h0 a1 sk0 "blocks" "[I" (.ref b)) (G2 : Fld Z h0 a1 sk0 "words" "[J" (.ref ta)) (G3 : Fld Z h0 a1 sk0 "used" "I" (.int 2)) (G4 : Arv Z h0 b kb .int (2 : Int32) [(.int x0), (.int x1)] (.int 0)) (G5 : Arv Z h0 ta kt .long (2 : Int32) [(.long w0), (.long w1)] (.long (0 : Int64))) (g_a1 : n0 ≤ a1) (g_b : n0 ≤ b) (g_ta : n0 ≤ ta) (n1 : a1 ≠ b) (n2 : a1 ≠ ta) (n3 : b ≠ ta) :
    OwnMet l ym10 (Jvm.Cond.code ym10 prog_17_method_7_code 6 none :: ws) (own_R 2 2 8 63) #[(.ref a1), (.int 2), (.int p3), (.long wv)] Z h0 (Q_rm10_2_2 Z a1 b ta kb kt x0 x1 w0 w1 p3 wv cw h0 n0) := by
  refine own_body (plainFor_of_name pn_10) hisR fun p e s m below meth c s₁ hx hby hml hown hnm hret hZ X0 e0 => ?_
  have N0 := Fr.nil n0
  have K0 : Keep h0 h0 [a1] := Keep.refl _ _
  have pre0 : ∀ t, Go p e below s₁ (mkF m 0 #[vR a1, vI 2, vI p3, vJ wv, vS, vU] []) t → Go p e below s₁ (entryFrame m #[(.ref a1), (.int 2), (.int p3), (.long wv)] 6) t := fun t k => castTop (ef_10_RIIJ m a1 (2 : Int32) p3 wv) k
  have q21 := fun t (kt : Go p e below s₁ (mkF m 1 #[vR a1, vI 2, vI p3, vJ wv, vS, vU] [(.ref a1)]) t) => pre0 t (by
    show Go _ _ _ _ (mkF m 0 #[vR a1, vI 2, vI p3, vJ wv, vS, vU] []) _
    refine XS.aloadN X0.here hx rfl (hb hby d10_0) rfl rfl ?_
    exact kt)
  obtain ⟨T22, X22, e22, st22⟩ := getF X0 hx hZ hown (host := "") (Or.inl (ox hw 22 rfl)) Via.refl e0 G3 (g := (mkF m 1 #[vR a1, vI 2, vI p3, vJ wv, vS, vU] [(.ref a1)])) rfl rfl (hb hby d10_1)
  have q23 := fun t (kt : Go p e below T22 (mkF m 5 #[vR a1, vI 2, vI p3, vJ wv, vS, vU] [(.ref a1), (.int 2)]) t) => q21 t (st22 t (by
    show Go _ _ _ _ (mkF m 4 #[vR a1, vI 2, vI p3, vJ wv, vS, vU] [(.int 2)]) _
    refine XS.aloadN X22.here hx rfl (hb hby d10_4) rfl rfl ?_
    exact kt))
  obtain ⟨T24, X24, e24, st24⟩ := getF X22 hx hZ hown (host := "") (Or.inl (ox hw 11 rfl)) Via.refl e22 G1 (g := (mkF m 5 #[vR a1, vI 2, vI p3, vJ wv, vS, vU] [(.ref a1), (.int 2)])) rfl rfl (hb hby d10_5)
  obtain ⟨c25, Ar25, -, S25, N25, -, -⟩ := id G4
  have q26 := fun t (kt : Go p e below T24 (mkF m 14 #[vR a1, vI 2, vI p3, vJ wv, vS, vU] [(.ref a1), (.int 2)]) t) => q23 t (st24 t (by
    show Go _ _ _ _ (mkF m 8 #[vR a1, vI 2, vI p3, vJ wv, vS, vU] [(.ref b), (.int 2)]) _
    refine X24.arraylength hx (by rw [e24]; exact Ar25.1) (State.isArrayOf_alike hZ.alike Ar25.2.1) (g := (mkF m 8 #[vR a1, vI 2, vI p3, vJ wv, vS, vU] [(.ref b), (.int 2)])) rfl rfl (hb hby d10_8) _ ?_
    rw [len_of S25 N25]
    show Go _ _ _ _ (mkF m 9 _ [(.int 2), (.int 2)]) _
    refine XS.icmpNo X24.here hx rfl (hb hby d10_9) rfl (teq (rfl : (2 : Int32) = (2 : Int32))).2 ?_
    show Go _ _ _ _ (mkF m 12 _ []) _
    refine XS.iconst X24.here hx rfl (hb hby d10_12) ?_
    show Go _ _ _ _ (mkF m 13 _ [(.int 2)]) _
    refine XS.aloadN X24.here hx rfl (hb hby d10_13) rfl rfl ?_
    exact kt))
  obtain ⟨T27, X27, e27, st27⟩ := getF X24 hx hZ hown (host := "") (Or.inl (ox hw 22 rfl)) Via.refl e24 G3 (g := (mkF m 14 #[vR a1, vI 2, vI p3, vJ wv, vS, vU] [(.ref a1), (.int 2)])) rfl rfl (hb hby d10_14)
  have q28 := fun t (kt : Go p e below T27 (mkF m 19 #[vR a1, vI 2, vI p3, vJ wv, vS, vU] [(.int 4), (.int 2)]) t) => q26 t (st27 t (by
    show Go _ _ _ _ (mkF m 17 #[vR a1, vI 2, vI p3, vJ wv, vS, vU] [(.int 2), (.int 2)]) _
    refine XS.iconst X27.here hx rfl (hb hby d10_17) ?_
    show Go _ _ _ _ (mkF m 18 _ [(.int 2), (.int 2), (.int 2)]) _
    refine XS.imul X27.here hx rfl (hb hby d10_18) rfl ?_
    exact kt))
  obtain ⟨_, _, ⟨T29, L29, k29, n29⟩, -, X29, ⟨_, hQ29, l29, y29, z29⟩, st29⟩ := Jvm.LawKit.callS X27 hx (y := ym6) hown (ow hZ hw 52 rfl) (ow hZ hw 53 rfl) (ow hZ hw 54 rfl) (ow hZ hw 55 rfl) (by decide) (backOf (W := 0) (rm11_4 l Z a0 hw [] cx  h0 n0 O0 ) hZ (ox hw 55 rfl) (ox hw 54 rfl) (by decide) (by decide)) (g := (mkF m 19 #[vR a1, vI 2, vI p3, vJ wv, vS, vU] [(.int 4), (.int 2)])) rfl (by rw [hml]; rfl) (argsL := [(.int 2), (.int 4)]) (rest := []) (lenOf pd_2 rfl) rfl own_le0 (hb hby d10_19) (fun _ _ => ⟨rfl, e27, (by decide : 0 + 0 ≤ _), (by decide : 0 + 0 ≤ _)⟩)
  dsimp only [Pt.U, Pt.locs, Pt.cells, Pt.slots] at X29 l29 y29 z29 st29 hQ29
  subst l29 y29 z29
  obtain ⟨rfl, Nq29, eq29⟩ := hQ29
  have N30 := Fr.app N0 Nq29
  have q31 := fun t (kt : Go p e below T29 (mkF m 26 #[vR a1, vI 2, vI p3, vJ wv, vS, vI 4] [(.ref a1), (.ref a1)]) t) => q28 t (st29 t (by
    show Go _ _ _ _ (mkF m 22 #[vR a1, vI 2, vI p3, vJ wv, vS, vU] [(.int 4)]) _
    refine XS.istore X29.here hx rfl (hb hby d10_22) rfl (l' := #[vR a1, vI 2, vI p3, vJ wv, vS, vI 4]) rfl ?_
    show Go _ _ _ _ (mkF m 24 #[vR a1, vI 2, vI p3, vJ wv, vS, vI 4] []) _
    refine XS.aloadN X29.here hx rfl (hb hby d10_24) rfl rfl ?_
    show Go _ _ _ _ (mkF m 25 _ [(.ref a1)]) _
    refine XS.aloadN X29.here hx rfl (hb hby d10_25) rfl rfl ?_
    exact kt))
  obtain ⟨T32, X32, e32, st32⟩ := getF X29 hx hZ hown (host := "") (Or.inl (ox hw 11 rfl)) Via.refl eq29 G1 (g := (mkF m 26 #[vR a1, vI 2, vI p3, vJ wv, vS, vI 4] [(.ref a1), (.ref a1)])) rfl rfl (hb hby d10_26)
  have q33 := fun t (kt : Go p e below T32 (mkF m 31 #[vR a1, vI 2, vI p3, vJ wv, vS, vI 4] [(.int 4), (.ref b), (.ref a1)]) t) => q31 t (st32 t (by
    show Go _ _ _ _ (mkF m 29 #[vR a1, vI 2, vI p3, vJ wv, vS, vI 4] [(.ref b), (.ref a1)]) _
    refine XS.iload X32.here hx rfl (hb hby d10_29) rfl ?_
    exact kt))
  obtain ⟨_, _, ⟨T34, L34, k34, n34⟩, -, X34, ⟨_, hQ34, l34, y34, z34⟩, st34⟩ := Jvm.LawKit.callS X32 hx (y := ym8) hown (ow hZ hw 56 rfl) (ow hZ hw 57 rfl) (ow hZ hw 37 rfl) (ow hZ hw 58 rfl) (by decide) (backOf (W := 1) (rm12_4 l Z a0 hw [] cx b kb x0 x1 h0 n0 O0 G4) hZ (ox hw 58 rfl) (ox hw 37 rfl) (by decide) (by decide)) (g := (mkF m 31 #[vR a1, vI 2, vI p3, vJ wv, vS, vI 4] [(.int 4), (.ref b), (.ref a1)])) rfl (by rw [hml]; rfl) (argsL := [(.ref b), (.int 4)]) (rest := [(.ref a1)]) (lenOf pd_3 rfl) rfl own_le0 (hb hby d10_31) (fun _ _ => ⟨rfl, e32, (by decide : 0 + 1 ≤ _), (by decide : 0 + 4 ≤ _)⟩)
  dsimp only [Pt.U, Pt.locs, Pt.cells, Pt.slots] at X34 l34 y34 z34 st34 hQ34
  subst l34 y34 z34
  obtain ⟨r_34, kr_34, rfl, Nq34, Kq34, fr34_0, fq34_0⟩ := hQ34
  have N35 := Fr.app N30 Nq34
  have gg36 : n0 ≤ r_34 := Nat.le_trans (O0.1 ▸ O0.2.1) fr34_0
  have sz37 : h0.size ≤ r_34 := Nat.le_trans K0.1 fr34_0
  have O38 := O0.keep Kq34 all0
  have K39 := K0.trans Kq34 all0
  have f40 := (G0.keep Kq34)
  have f41 := (G1.keep Kq34 nin0)
  obtain ⟨T42, h42, X42, e42, W42, st42⟩ := putF X34 hx hZ hown (host := "") (Or.inl (ox hw 11 rfl)) Via.refl rfl f41 f40 (Or.inl (ox hw 12 rfl)) (ox hw 1 rfl) (ty := (.array .int)) (by decide) rfl rfl (g := (mkF m 34 #[vR a1, vI 2, vI p3, vJ wv, vS, vI 4] [(.ref r_34), (.ref a1)])) rfl rfl (hb hby d10_34)
  have f43 : Fld Z h42 a1 sk0 "blocks" "[I" (.ref r_34) := f41.same W42
  have N44 := Fr.snoc X42 N35 g_a1
  have O45 := O38.wr W42 g_a1
  have K46 := K39.wr W42 (Or.inl (List.mem_of_getElem? (i := 0) rfl))
  have f47 := ((G2.keep Kq34 nin0).other W42 (Or.inr (slot_ne (Or.inl (ox hw 16 rfl)) (Or.inl (ox hw 12 rfl)) (by decide) (t := (.array .long)) (t' := (.array .int)) (by decide) (by decide))))
  have q48 := fun t (kt : Go p e below T42 (mkF m 39 #[vR a1, vI 2, vI p3, vJ wv, vS, vI 4] [(.ref a1), (.ref a1)]) t) => q33 t (st34 t (st42 t (by
    show Go _ _ _ _ (mkF m 37 #[vR a1, vI 2, vI p3, vJ wv, vS, vI 4] []) _
    refine XS.aloadN X42.here hx rfl (hb hby d10_37) rfl rfl ?_
    show Go _ _ _ _ (mkF m 38 _ [(.ref a1)]) _
    refine XS.aloadN X42.here hx rfl (hb hby d10_38) rfl rfl ?_
    exact kt)))
  obtain ⟨T49, X49, e49, st49⟩ := getF X42 hx hZ hown (host := "") (Or.inl (ox hw 15 rfl)) Via.refl e42 f47 (g := (mkF m 39 #[vR a1, vI 2, vI p3, vJ wv, vS, vI 4] [(.ref a1), (.ref a1)])) rfl rfl (hb hby d10_39)
  have f50 := ((G5.keep Kq34 nin0).other W42 (Ne.symm n2))
  have q51 := fun t (kt : Go p e below T49 (mkF m 44 #[vR a1, vI 2, vI p3, vJ wv, vS, vI 4] [(.int 4), (.ref ta), (.ref a1)]) t) => q48 t (st49 t (by
    show Go _ _ _ _ (mkF m 42 #[vR a1, vI 2, vI p3, vJ wv, vS, vI 4] [(.ref ta), (.ref a1)]) _
    refine XS.iload X49.here hx rfl (hb hby d10_42) rfl ?_
    exact kt))
  obtain ⟨_, _, ⟨T52, L52, k52, n52⟩, -, X52, ⟨_, hQ52, l52, y52, z52⟩, st52⟩ := Jvm.LawKit.callS X49 hx (y := ym9) hown (ow hZ hw 66 rfl) (ow hZ hw 67 rfl) (ow hZ hw 37 rfl) (ow hZ hw 68 rfl) (by decide) (backOf (W := 1) (rm14_4 l Z a0 hw [] cx ta kt w0 w1 h42 n0 O45 f50) hZ (ox hw 68 rfl) (ox hw 37 rfl) (by decide) (by decide)) (g := (mkF m 44 #[vR a1, vI 2, vI p3, vJ wv, vS, vI 4] [(.int 4), (.ref ta), (.ref a1)])) rfl (by rw [hml]; rfl) (argsL := [(.ref ta), (.int 4)]) (rest := [(.ref a1)]) (lenOf pd_4 rfl) rfl own_le0 (hb hby d10_44) (fun _ _ => ⟨rfl, e49, (by decide : 1 + 1 ≤ _), (by decide : 4 + 4 ≤ _)⟩)
  dsimp only [Pt.U, Pt.locs, Pt.cells, Pt.slots] at X52 l52 y52 z52 st52 hQ52
  subst l52 y52 z52
  obtain ⟨r_52, kr_52, rfl, Nq52, Kq52, fr52_0, fq52_0⟩ := hQ52
  have N53 := Fr.app N44 Nq52
  have gg54 : n0 ≤ r_52 := Nat.le_trans (O45.1 ▸ O45.2.1) fr52_0
  have sz55 : h0.size ≤ r_52 := Nat.le_trans K46.1 fr52_0
  have O56 := O45.keep Kq52 all0
  have K57 := K46.trans Kq52 all0
  have f58 := ((f40.wr W42).keep Kq52)
  have f59 := (f47.keep Kq52 nin0)
  obtain ⟨T60, h60, X60, e60, W60, st60⟩ := putF X52 hx hZ hown (host := "") (Or.inl (ox hw 15 rfl)) Via.refl rfl f59 f58 (Or.inl (ox hw 16 rfl)) (ox hw 1 rfl) (ty := (.array .long)) (by decide) rfl rfl (g := (mkF m 47 #[vR a1, vI 2, vI p3, vJ wv, vS, vI 4] [(.ref r_52), (.ref a1)])) rfl rfl (hb hby d10_47)
  have f61 : Fld Z h60 a1 sk0 "words" "[J" (.ref r_52) := f59.same W60
  have N62 := Fr.snoc X60 N53 g_a1
  have O63 := O56.wr W60 g_a1
  have K64 := K57.wr W60 (Or.inl (List.mem_of_getElem? (i := 0) rfl))
  have f65 := ((f43.keep Kq52 nin0).other W60 (Or.inr (slot_ne (Or.inl (ox hw 12 rfl)) (Or.inl (ox hw 16 rfl)) (by decide) (t := (.array .int)) (t' := (.array .long)) (by decide) (by decide))))
  have q66 := fun t (kt : Go p e below T60 (mkF m 51 #[vR a1, vI 2, vI p3, vJ wv, vS, vI 4] [(.ref a1)]) t) => q51 t (st52 t (st60 t (by
    show Go _ _ _ _ (mkF m 50 #[vR a1, vI 2, vI p3, vJ wv, vS, vI 4] []) _
    refine XS.aloadN X60.here hx rfl (hb hby d10_50) rfl rfl ?_
    exact kt)))
  obtain ⟨T67, X67, e67, st67⟩ := getF X60 hx hZ hown (host := "") (Or.inl (ox hw 11 rfl)) Via.refl e60 f65 (g := (mkF m 51 #[vR a1, vI 2, vI p3, vJ wv, vS, vI 4] [(.ref a1)])) rfl rfl (hb hby d10_51)
  have q68 := fun t (kt : Go p e below T67 (mkF m 56 #[vR a1, vI 2, vI p3, vJ wv, vS, vI 4] [(.ref a1), (.int 2), (.ref r_34)]) t) => q66 t (st67 t (by
    show Go _ _ _ _ (mkF m 54 #[vR a1, vI 2, vI p3, vJ wv, vS, vI 4] [(.ref r_34)]) _
    refine XS.iloadN X67.here hx rfl (hb hby d10_54) rfl ?_
    show Go _ _ _ _ (mkF m 55 _ [(.int 2), (.ref r_34)]) _
    refine XS.aloadN X67.here hx rfl (hb hby d10_55) rfl rfl ?_
    exact kt))
  obtain ⟨T69, X69, e69, st69⟩ := getF X67 hx hZ hown (host := "") (Or.inl (ox hw 11 rfl)) Via.refl e67 f65 (g := (mkF m 56 #[vR a1, vI 2, vI p3, vJ wv, vS, vI 4] [(.ref a1), (.int 2), (.ref r_34)])) rfl rfl (hb hby d10_56)
  have f70 := ((((G3.keep Kq34 nin0).other W42 (Or.inr (slot_ne (Or.inl (ox hw 23 rfl)) (Or.inl (ox hw 12 rfl)) (by decide) (t := .int) (t' := (.array .int)) (by decide) (by decide)))).keep Kq52 nin0).other W60 (Or.inr (slot_ne (Or.inl (ox hw 23 rfl)) (Or.inl (ox hw 16 rfl)) (by decide) (t := .int) (t' := (.array .long)) (by decide) (by decide))))
  have q71 := fun t (kt : Go p e below T69 (mkF m 63 #[vR a1, vI 2, vI p3, vJ wv, vS, vI 4] [(.ref a1), (.int 3), (.ref r_34), (.int 2), (.ref r_34)]) t) => q68 t (st69 t (by
    show Go _ _ _ _ (mkF m 59 #[vR a1, vI 2, vI p3, vJ wv, vS, vI 4] [(.ref r_34), (.int 2), (.ref r_34)]) _
    refine XS.iloadN X69.here hx rfl (hb hby d10_59) rfl ?_
    show Go _ _ _ _ (mkF m 60 _ [(.int 2), (.ref r_34), (.int 2), (.ref r_34)]) _
    refine XS.iconst X69.here hx rfl (hb hby d10_60) ?_
    show Go _ _ _ _ (mkF m 61 _ [(.int 1), (.int 2), (.ref r_34), (.int 2), (.ref r_34)]) _
    refine XS.iadd X69.here hx rfl (hb hby d10_61) rfl ?_
    show Go _ _ _ _ (mkF m 62 _ [(.int 3), (.ref r_34), (.int 2), (.ref r_34)]) _
    refine XS.aloadN X69.here hx rfl (hb hby d10_62) rfl rfl ?_
    exact kt))
  obtain ⟨T72, X72, e72, st72⟩ := getF X69 hx hZ hown (host := "") (Or.inl (ox hw 22 rfl)) Via.refl e69 f70 (g := (mkF m 63 #[vR a1, vI 2, vI p3, vJ wv, vS, vI 4] [(.ref a1), (.int 3), (.ref r_34), (.int 2), (.ref r_34)])) rfl rfl (hb hby d10_63)
  have q74 := fun t (kt : Go p e below T72 (mkF m 68 #[vR a1, vI 2, vI p3, vJ wv, vS, vI 4] [(.int 0), (.int 3), (.ref r_34), (.int 2), (.ref r_34)]) t) => q71 t (st72 t (by
    show Go _ _ _ _ (mkF m 66 #[vR a1, vI 2, vI p3, vJ wv, vS, vI 4] [(.int 2), (.int 3), (.ref r_34), (.int 2), (.ref r_34)]) _
    refine XS.iloadN X72.here hx rfl (hb hby d10_66) rfl ?_
    show Go _ _ _ _ (mkF m 67 _ [(.int 2), (.int 2), (.int 3), (.ref r_34), (.int 2), (.ref r_34)]) _
    refine XS.isub X72.here hx rfl (hb hby d10_67) rfl ?_
    exact kt))
  have ne75 : a1 ≠ r_34 := (Nat.ne_of_lt (Nat.lt_of_lt_of_le G0.lt fr34_0))
  have f76 := (((fq34_0.other W42 (Ne.symm ne75)).keep Kq52 nin0).other W60 (Ne.symm ne75))
  obtain ⟨T77, h77, L77, X77, e77, N77, K77, V77, st77⟩ := cpA X72 hx hZ hown (ox hw 70 rfl) (ox hw 65 rfl) (ox hw 63 rfl) (ox hw 64 rfl) e72 f76 f76 (us := []) (Or.inl ⟨rfl, rfl⟩) (by decide) (by decide) (by decide) (by decide) (by decide) rfl (Nat.le_of_ble_eq_true rfl) N62 gg36 (g := (mkF m 68 #[vR a1, vI 2, vI p3, vJ wv, vS, vI 4] [(.int 0), (.int 3), (.ref r_34), (.int 2), (.ref r_34)])) rfl (by rw [hml]; rfl) rfl (hb hby d10_68) (by decide) (W := 0) own_le0 (by decide)
  have O78 := O63.keep K77 (allS gg36 all0)
  have K79 := K64.trans K77 (allS (Or.inr sz37) all0)
  have Vv77 : Arv Z h77 r_34 kr_34 .int (4 : Int32) [(.int x0), (.int x1), (.int 0), (.int 0)] (.int 0) := V77
  have f80 := (f61.keep K77 (ninS ne75 nin0))
  have q81 := fun t (kt : Go p e below T77 (mkF m 72 #[vR a1, vI 2, vI p3, vJ wv, vS, vI 4] [(.ref a1)]) t) => q74 t (st77 t (by
    show Go _ _ _ _ (mkF m 71 #[vR a1, vI 2, vI p3, vJ wv, vS, vI 4] []) _
    refine XS.aloadN X77.here hx rfl (hb hby d10_71) rfl rfl ?_
    exact kt))
  obtain ⟨T82, X82, e82, st82⟩ := getF X77 hx hZ hown (host := "") (Or.inl (ox hw 15 rfl)) Via.refl e77 f80 (g := (mkF m 72 #[vR a1, vI 2, vI p3, vJ wv, vS, vI 4] [(.ref a1)])) rfl rfl (hb hby d10_72)
  have q83 := fun t (kt : Go p e below T82 (mkF m 77 #[vR a1, vI 2, vI p3, vJ wv, vS, vI 4] [(.ref a1), (.int 2), (.ref r_52)]) t) => q81 t (st82 t (by
    show Go _ _ _ _ (mkF m 75 #[vR a1, vI 2, vI p3, vJ wv, vS, vI 4] [(.ref r_52)]) _
    refine XS.iloadN X82.here hx rfl (hb hby d10_75) rfl ?_
    show Go _ _ _ _ (mkF m 76 _ [(.int 2), (.ref r_52)]) _
    refine XS.aloadN X82.here hx rfl (hb hby d10_76) rfl rfl ?_
    exact kt))
  obtain ⟨T84, X84, e84, st84⟩ := getF X82 hx hZ hown (host := "") (Or.inl (ox hw 15 rfl)) Via.refl e82 f80 (g := (mkF m 77 #[vR a1, vI 2, vI p3, vJ wv, vS, vI 4] [(.ref a1), (.int 2), (.ref r_52)])) rfl rfl (hb hby d10_77)
  have f85 := (f70.keep K77 (ninS ne75 nin0))
  have q86 := fun t (kt : Go p e below T84 (mkF m 84 #[vR a1, vI 2, vI p3, vJ wv, vS, vI 4] [(.ref a1), (.int 3), (.ref r_52), (.int 2), (.ref r_52)]) t) => q83 t (st84 t (by
    show Go _ _ _ _ (mkF m 80 #[vR a1, vI 2, vI p3, vJ wv, vS, vI 4] [(.ref r_52), (.int 2), (.ref r_52)]) _
    refine XS.iloadN X84.here hx rfl (hb hby d10_80) rfl ?_
    show Go _ _ _ _ (mkF m 81 _ [(.int 2), (.ref r_52), (.int 2), (.ref r_52)]) _
    refine XS.iconst X84.here hx rfl (hb hby d10_81) ?_
    show Go _ _ _ _ (mkF m 82 _ [(.int 1), (.int 2), (.ref r_52), (.int 2), (.ref r_52)]) _
    refine XS.iadd X84.here hx rfl (hb hby d10_82) rfl ?_
    show Go _ _ _ _ (mkF m 83 _ [(.int 3), (.ref r_52), (.int 2), (.ref r_52)]) _
    refine XS.aloadN X84.here hx rfl (hb hby d10_83) rfl rfl ?_
    exact kt))
  obtain ⟨T87, X87, e87, st87⟩ := getF X84 hx hZ hown (host := "") (Or.inl (ox hw 22 rfl)) Via.refl e84 f85 (g := (mkF m 84 #[vR a1, vI 2, vI p3, vJ wv, vS, vI 4] [(.ref a1), (.int 3), (.ref r_52), (.int 2), (.ref r_52)])) rfl rfl (hb hby d10_84)
  have q89 := fun t (kt : Go p e below T87 (mkF m 89 #[vR a1, vI 2, vI p3, vJ wv, vS, vI 4] [(.int 0), (.int 3), (.ref r_52), (.int 2), (.ref r_52)]) t) => q86 t (st87 t (by
    show Go _ _ _ _ (mkF m 87 #[vR a1, vI 2, vI p3, vJ wv, vS, vI 4] [(.int 2), (.int 3), (.ref r_52), (.int 2), (.ref r_52)]) _
    refine XS.iloadN X87.here hx rfl (hb hby d10_87) rfl ?_
    show Go _ _ _ _ (mkF m 88 _ [(.int 2), (.int 2), (.int 3), (.ref r_52), (.int 2), (.ref r_52)]) _
    refine XS.isub X87.here hx rfl (hb hby d10_88) rfl ?_
    exact kt))
  have ne90 : a1 ≠ r_52 := (Nat.ne_of_lt (Nat.lt_of_lt_of_le (f40.wr W42).lt fr52_0))
  have ne91 : r_34 ≠ r_52 := (Nat.ne_of_lt (Nat.lt_of_lt_of_le (Nat.lt_of_lt_of_le fq34_0.lt (Keep.of_wr W42).1) fr52_0))
  have f92 := ((fq52_0.other W60 (Ne.symm ne90)).keep K77 (ninS (Ne.symm ne91) nin0))
  obtain ⟨T93, h93, L93, X93, e93, N93, K93, V93, st93⟩ := cpA X87 hx hZ hown (ox hw 70 rfl) (ox hw 65 rfl) (ox hw 63 rfl) (ox hw 64 rfl) e87 f92 f92 (us := []) (Or.inl ⟨rfl, rfl⟩) (by decide) (by decide) (by decide) (by decide) (by decide) rfl (Nat.le_of_ble_eq_true rfl) N77 gg54 (g := (mkF m 89 #[vR a1, vI 2, vI p3, vJ wv, vS, vI 4] [(.int 0), (.int 3), (.ref r_52), (.int 2), (.ref r_52)])) rfl (by rw [hml]; rfl) rfl (hb hby d10_89) (by decide) (W := 0) own_le0 (by decide)
  have O94 := O78.keep K93 (allS gg54 all0)
  have K95 := K79.trans K93 (allS (Or.inr sz55) all0)
  have Vv93 : Arv Z h93 r_52 kr_52 .long (4 : Int32) [(.long w0), (.long w1), (.long (0 : Int64)), (.long (0 : Int64))] (.long (0 : Int64)) := V93
  have f96 := ((f65.keep K77 (ninS ne75 nin0)).keep K93 (ninS ne90 nin0))
  have q97 := fun t (kt : Go p e below T93 (mkF m 93 #[vR a1, vI 2, vI p3, vJ wv, vS, vI 4] [(.ref a1)]) t) => q89 t (st93 t (by
    show Go _ _ _ _ (mkF m 92 #[vR a1, vI 2, vI p3, vJ wv, vS, vI 4] []) _
    refine XS.aloadN X93.here hx rfl (hb hby d10_92) rfl rfl ?_
    exact kt))
  obtain ⟨T98, X98, e98, st98⟩ := getF X93 hx hZ hown (host := "") (Or.inl (ox hw 11 rfl)) Via.refl e93 f96 (g := (mkF m 93 #[vR a1, vI 2, vI p3, vJ wv, vS, vI 4] [(.ref a1)])) rfl rfl (hb hby d10_93)
  have f99 := (Vv77.keep K93 (ninS ne91 nin0))
  have q101 := fun t (kt : Go p e below T98 (mkF m 98 #[vR a1, vI 2, vI p3, vJ wv, vS, vI 4] [(.int p3), (.int 2), (.ref r_34)]) t) => q97 t (st98 t (by
    show Go _ _ _ _ (mkF m 96 #[vR a1, vI 2, vI p3, vJ wv, vS, vI 4] [(.ref r_34)]) _
    refine XS.iloadN X98.here hx rfl (hb hby d10_96) rfl ?_
    show Go _ _ _ _ (mkF m 97 _ [(.int 2), (.ref r_34)]) _
    refine XS.iloadN X98.here hx rfl (hb hby d10_97) rfl ?_
    exact kt))
  obtain ⟨c100, Ar100, q100, S100, N100, H100, G100⟩ := id f99
  have hi100 : ¬ ((2 : Int32) < 0 ∨ c100.slots.size ≤ ((2 : Int32)).toNatClampNeg) := inb_of S100 ⟨by decide, by decide⟩
  obtain ⟨T102, h102, X102, e102, W102, st102⟩ := stI X98 hx hZ e98 Ar100 (j := (2 : Int32)) hi100 (g := (mkF m 98 #[vR a1, vI 2, vI p3, vJ wv, vS, vI 4] [(.int p3), (.int 2), (.ref r_34)])) rfl rfl (hb hby d10_98)
  have V102 : Arv Z h102 r_34 kr_34 .int (4 : Int32) [(.int x0), (.int x1), (.int p3), (.int 0)] (.int 0) := Arv.set Ar100 q100 S100 N100 H100 G100 rfl W102 2 rfl (Nat.le_of_ble_eq_true rfl)
  have N103 := Fr.snoc X102 N93 gg36
  have O104 := O94.wr W102 gg36
  have K105 := K95.wr W102 (Or.inr sz37)
  have f106 := ((f80.keep K93 (ninS ne90 nin0)).other W102 (Or.inl ne75))
  have q107 := fun t (kt : Go p e below T102 (mkF m 100 #[vR a1, vI 2, vI p3, vJ wv, vS, vI 4] [(.ref a1)]) t) => q101 t (st102 t (by
    show Go _ _ _ _ (mkF m 99 #[vR a1, vI 2, vI p3, vJ wv, vS, vI 4] []) _
    refine XS.aloadN X102.here hx rfl (hb hby d10_99) rfl rfl ?_
    exact kt))
  obtain ⟨T108, X108, e108, st108⟩ := getF X102 hx hZ hown (host := "") (Or.inl (ox hw 15 rfl)) Via.refl e102 f106 (g := (mkF m 100 #[vR a1, vI 2, vI p3, vJ wv, vS, vI 4] [(.ref a1)])) rfl rfl (hb hby d10_100)
  have f109 := (Vv93.other W102 (Ne.symm ne91))
  have q111 := fun t (kt : Go p e below T108 (mkF m 105 #[vR a1, vI 2, vI p3, vJ wv, vS, vI 4] [(.long wv), (.int 2), (.ref r_52)]) t) => q107 t (st108 t (by
    show Go _ _ _ _ (mkF m 103 #[vR a1, vI 2, vI p3, vJ wv, vS, vI 4] [(.ref r_52)]) _
    refine XS.iloadN X108.here hx rfl (hb hby d10_103) rfl ?_
    show Go _ _ _ _ (mkF m 104 _ [(.int 2), (.ref r_52)]) _
    refine XS.lloadN X108.here hx rfl (hb hby d10_104) rfl ?_
    exact kt))
  obtain ⟨c110, Ar110, q110, S110, N110, H110, G110⟩ := id f109
  have hi110 : ¬ ((2 : Int32) < 0 ∨ c110.slots.size ≤ ((2 : Int32)).toNatClampNeg) := inb_of S110 ⟨by decide, by decide⟩
  obtain ⟨T112, h112, X112, e112, W112, st112⟩ := stJ X108 hx hZ e108 Ar110 (j := (2 : Int32)) hi110 (g := (mkF m 105 #[vR a1, vI 2, vI p3, vJ wv, vS, vI 4] [(.long wv), (.int 2), (.ref r_52)])) rfl rfl (hb hby d10_105)
  have V112 : Arv Z h112 r_52 kr_52 .long (4 : Int32) [(.long w0), (.long w1), (.long wv), (.long (0 : Int64))] (.long (0 : Int64)) := Arv.set Ar110 q110 S110 N110 H110 G110 rfl W112 2 rfl (Nat.le_of_ble_eq_true rfl)
  have N113 := Fr.snoc X112 N103 gg54
  have O114 := O104.wr W112 gg54
  have K115 := K105.wr W112 (Or.inr sz55)
  have f116 := (((f85.keep K93 (ninS ne90 nin0)).other W102 (Or.inl ne75)).other W112 (Or.inl ne90))
  have q117 := fun t (kt : Go p e below T112 (mkF m 108 #[vR a1, vI 2, vI p3, vJ wv, vS, vI 4] [(.ref a1), (.ref a1)]) t) => q111 t (st112 t (by
    show Go _ _ _ _ (mkF m 106 #[vR a1, vI 2, vI p3, vJ wv, vS, vI 4] []) _
    refine XS.aloadN X112.here hx rfl (hb hby d10_106) rfl rfl ?_
    show Go _ _ _ _ (mkF m 107 _ [(.ref a1)]) _
    refine XS.dup X112.here hx rfl (hb hby d10_107) rfl rfl ?_
    exact kt))
  obtain ⟨T118, X118, e118, st118⟩ := getF X112 hx hZ hown (host := "") (Or.inl (ox hw 22 rfl)) Via.refl e112 f116 (g := (mkF m 108 #[vR a1, vI 2, vI p3, vJ wv, vS, vI 4] [(.ref a1), (.ref a1)])) rfl rfl (hb hby d10_108)
  have f119 := (((((f58.wr W60).keep K77).keep K93).wr W102).wr W112)
  have q120 := fun t (kt : Go p e below T118 (mkF m 113 #[vR a1, vI 2, vI p3, vJ wv, vS, vI 4] [(.int 3), (.ref a1)]) t) => q117 t (st118 t (by
    show Go _ _ _ _ (mkF m 111 #[vR a1, vI 2, vI p3, vJ wv, vS, vI 4] [(.int 2), (.ref a1)]) _
    refine XS.iconst X118.here hx rfl (hb hby d10_111) ?_
    show Go _ _ _ _ (mkF m 112 _ [(.int 1), (.int 2), (.ref a1)]) _
    refine XS.iadd X118.here hx rfl (hb hby d10_112) rfl ?_
    exact kt))
  obtain ⟨T121, h121, X121, e121, W121, st121⟩ := putF X118 hx hZ hown (host := "") (Or.inl (ox hw 22 rfl)) Via.refl e118 f116 f119 (Or.inl (ox hw 23 rfl)) (ox hw 1 rfl) (ty := .int) (by decide) rfl rfl (g := (mkF m 113 #[vR a1, vI 2, vI p3, vJ wv, vS, vI 4] [(.int 3), (.ref a1)])) rfl rfl (hb hby d10_113)
  have f122 : Fld Z h121 a1 sk0 "used" "I" (.int 3) := f116.same W121
  have N123 := Fr.snoc X121 N113 g_a1
  have O124 := O114.wr W121 g_a1
  have K125 := K115.wr W121 (Or.inl (List.mem_of_getElem? (i := 0) rfl))
  have q126 := fun t (kt : Go p e below T121 (mkF m 116 #[vR a1, vI 2, vI p3, vJ wv, vS, vI 4] []) t) => q120 t (st121 t kt)
  have f127 := (((f96.other W102 (Or.inl ne75)).other W112 (Or.inl ne90)).other W121 (Or.inr (slot_ne (Or.inl (ox hw 12 rfl)) (Or.inl (ox hw 23 rfl)) (by decide) (t := (.array .int)) (t' := .int) (by decide) (by decide))))
  have f128 := ((f106.other W112 (Or.inl ne90)).other W121 (Or.inr (slot_ne (Or.inl (ox hw 16 rfl)) (Or.inl (ox hw 23 rfl)) (by decide) (t := (.array .long)) (t' := .int) (by decide) (by decide))))
  have f129 := ((V102.other W112 ne91).other W121 (Ne.symm ne75))
  have f130 := (V112.other W121 (Ne.symm ne90))
  exact ⟨none, T121, _, _, _, _, X121, by decide, by decide, fun _ => rfl, q126, fun fs hr => X121.returnOut hx hret (hb hby d10_116) hr, by rw [e121]; exact ⟨r_34, r_52, kr_34, kr_52, rfl, N123, K125, sz37, sz55, f127, f128, f122, f129, f130⟩⟩
theorem ef_5_RI (m : MethodId) (x0 : Addr) (x1 : Int32) : entryFrame m #[(.ref x0), (.int x1)] 6 = mkF m 0 #[.val (.ref x0), .val (.int x1), .unset, .unset, .unset, .unset] [] := by first | (simp [entryFrame, mkF, argsToLocals, Value.category]; done) | rfl
theorem pn_5 : plainName "com/example/pointward/pointward/pointsto/SiteSet" = true := by first | (simp [plainName, overriddenIn]; done) | decide +kernel
theorem d5_0 : decode prog_17_method_3_code 0 = .ok (.iload_n 1, 1) := by decide +kernel
theorem d5_1 : decode prog_17_method_3_code 1 = .ok (.bipush 6, 2) := by decide +kernel
theorem d5_3 : decode prog_17_method_3_code 3 = .ok (.iushr, 1) := by decide +kernel
theorem d5_4 : decode prog_17_method_3_code 4 = .ok (.istore_n 2, 1) := by decide +kernel
theorem d5_5 : decode prog_17_method_3_code 5 = .ok (.aload_n 0, 1) := by decide +kernel
theorem d5_6 : decode prog_17_method_3_code 6 = .ok (.getfield 13, 3) := by decide +kernel
theorem d5_9 : decode prog_17_method_3_code 9 = .ok (.iconst 0, 1) := by decide +kernel
theorem d5_10 : decode prog_17_method_3_code 10 = .ok (.aload_n 0, 1) := by decide +kernel
theorem d5_11 : decode prog_17_method_3_code 11 = .ok (.getfield 23, 3) := by decide +kernel
theorem d5_14 : decode prog_17_method_3_code 14 = .ok (.iload_n 2, 1) := by decide +kernel
theorem d5_15 : decode prog_17_method_3_code 15 = .ok (.invokestatic 27, 3) := by decide +kernel
theorem d5_18 : decode prog_17_method_3_code 18 = .ok (.istore_n 3, 1) := by decide +kernel
theorem d5_19 : decode prog_17_method_3_code 19 = .ok (.iload_n 3, 1) := by decide +kernel
theorem d5_20 : decode prog_17_method_3_code 20 = .ok (.ifCond .lt 42, 3) := by decide +kernel
theorem d5_62 : decode prog_17_method_3_code 62 = .ok (.aload_n 0, 1) := by decide +kernel
theorem d5_63 : decode prog_17_method_3_code 63 = .ok (.iload_n 3, 1) := by decide +kernel
theorem d5_64 : decode prog_17_method_3_code 64 = .ok (.ineg, 1) := by decide +kernel
theorem d5_65 : decode prog_17_method_3_code 65 = .ok (.iconst 1, 1) := by decide +kernel
theorem d5_66 : decode prog_17_method_3_code 66 = .ok (.isub, 1) := by decide +kernel
theorem d5_67 : decode prog_17_method_3_code 67 = .ok (.iload_n 2, 1) := by decide +kernel
theorem d5_68 : decode prog_17_method_3_code 68 = .ok (.iload_n 1, 1) := by decide +kernel
theorem d5_69 : decode prog_17_method_3_code 69 = .ok (.invokestatic 33, 3) := by decide +kernel
theorem pd_5 : parseMethodDescriptor "(I)J" = some ⟨[.int], some .long⟩ := by decide +kernel
theorem d5_72 : decode prog_17_method_3_code 72 = .ok (.invokevirtual 37, 3) := by decide +kernel
theorem pd_6 : parseMethodDescriptor "(IIJ)V" = some ⟨[.int, .int, .long], none⟩ := by decide +kernel
theorem d5_75 : decode prog_17_method_3_code 75 = .ok (.iconst 1, 1) := by decide +kernel
theorem d5_76 : decode prog_17_method_3_code 76 = .ok (.ireturn, 1) := by decide +kernel
def Q_rm5_0 (Z : State) (a1 : Addr) (p2 : Int32) (cw : Nat → Nat) (h0 : Heap) (n0 : Nat) (v : Option Value) (h : Heap) (L : List Loc) : Prop := ∃ (b : Addr) (ta : Addr) (kb : ClassId) (kt : ClassId) (x0 : Int32), v = some (.int 1) ∧ Fr n0 L ∧ Keep h0 h [a1] ∧ h0.size ≤ b ∧ h0.size ≤ ta ∧ Fld Z h a1 sk0 "blocks" "[I" (.ref b) ∧ Fld Z h a1 sk0 "words" "[J" (.ref ta) ∧ Fld Z h a1 sk0 "used" "I" (.int 1) ∧ Arv Z h b kb .int (2 : Int32) [(.int x0), (.int 0)] (.int 0) ∧ Arv Z h ta kt .long (2 : Int32) [(.long (own_b p2)), (.long (0 : Int64))] (.long (0 : Int64)) ∧ (b ≠ ta)
theorem rm5_0 (l : Launch) (Z : State) (a0 : Array Value) (hw : ∀ d ∈ tables_1, d.before a0 Z = true) (ws : List Jvm.Cond) {cw : Nat → Nat} (cx : Cx Z cw) (a1 : Addr) (p2 : Int32) (h0 : Heap) (n0 : Nat) (O0 : Old Z n0 h0) (G0 : Exa Z h0 a1 sk0) (G1 : Fld Z h0 a1 sk0 "blocks" "[I" (.ref (cw 0))) (G2 : Fld Z h0 a1 sk0 "words" "[J" (.ref (cw 1))) (G3 : Fld Z h0 a1 sk0 "used" "I" (.int 0)) (g_a1 : n0 ≤ a1) :
    OwnMet l ym11 (Jvm.Cond.code ym11 prog_17_method_3_code 6 (some .boolean) :: ws) (own_R 3 2 4 80) #[(.ref a1), (.int p2)] Z h0 (Q_rm5_0 Z a1 p2 cw h0 n0) := by
  refine own_body (plainFor_of_name pn_5) hisR fun p e s m below meth c s₁ hx hby hml hown hnm hret hZ X0 e0 => ?_
  have N0 := Fr.nil n0
  have K0 : Keep h0 h0 [a1] := Keep.refl _ _
  have pre0 : ∀ t, Go p e below s₁ (mkF m 0 #[vR a1, vI p2, vU, vU, vU, vU] []) t → Go p e below s₁ (entryFrame m #[(.ref a1), (.int p2)] 6) t := fun t k => castTop (ef_5_RI m a1 p2) k
  have q21 := fun t (kt : Go p e below s₁ (mkF m 6 #[vR a1, vI p2, vI ((p2.toUInt32 >>> ((6 : Int32) &&& 31).toUInt32).toInt32), vU, vU, vU] [(.ref a1)]) t) => pre0 t (by
    show Go _ _ _ _ (mkF m 0 #[vR a1, vI p2, vU, vU, vU, vU] []) _
    refine XS.iloadN X0.here hx rfl (hb hby d5_0) rfl ?_
    show Go _ _ _ _ (mkF m 1 _ [(.int p2)]) _
    refine XS.bipush X0.here hx rfl (hb hby d5_1) ?_
    show Go _ _ _ _ (mkF m 3 _ [(.int 6), (.int p2)]) _
    refine XS.iushr X0.here hx rfl (hb hby d5_3) rfl ?_
    show Go _ _ _ _ (mkF m 4 _ [(.int ((p2.toUInt32 >>> ((6 : Int32) &&& 31).toUInt32).toInt32))]) _
    refine XS.istoreN X0.here hx rfl (hb hby d5_4) rfl (l' := #[vR a1, vI p2, vI ((p2.toUInt32 >>> ((6 : Int32) &&& 31).toUInt32).toInt32), vU, vU, vU]) rfl ?_
    show Go _ _ _ _ (mkF m 5 #[vR a1, vI p2, vI ((p2.toUInt32 >>> ((6 : Int32) &&& 31).toUInt32).toInt32), vU, vU, vU] []) _
    refine XS.aloadN X0.here hx rfl (hb hby d5_5) rfl rfl ?_
    exact kt)
  obtain ⟨T22, X22, e22, st22⟩ := getF X0 hx hZ hown (host := "") (Or.inl (ox hw 11 rfl)) Via.refl e0 G1 (g := (mkF m 6 #[vR a1, vI p2, vI ((p2.toUInt32 >>> ((6 : Int32) &&& 31).toUInt32).toInt32), vU, vU, vU] [(.ref a1)])) rfl rfl (hb hby d5_6)
  have q23 := fun t (kt : Go p e below T22 (mkF m 11 #[vR a1, vI p2, vI ((p2.toUInt32 >>> ((6 : Int32) &&& 31).toUInt32).toInt32), vU, vU, vU] [(.ref a1), (.int 0), (.ref (cw 0))]) t) => q21 t (st22 t (by
    show Go _ _ _ _ (mkF m 9 #[vR a1, vI p2, vI ((p2.toUInt32 >>> ((6 : Int32) &&& 31).toUInt32).toInt32), vU, vU, vU] [(.ref (cw 0))]) _
    refine XS.iconst X22.here hx rfl (hb hby d5_9) ?_
    show Go _ _ _ _ (mkF m 10 _ [(.int 0), (.ref (cw 0))]) _
    refine XS.aloadN X22.here hx rfl (hb hby d5_10) rfl rfl ?_
    exact kt))
  obtain ⟨T24, X24, e24, st24⟩ := getF X22 hx hZ hown (host := "") (Or.inl (ox hw 22 rfl)) Via.refl e22 G3 (g := (mkF m 11 #[vR a1, vI p2, vI ((p2.toUInt32 >>> ((6 : Int32) &&& 31).toUInt32).toInt32), vU, vU, vU] [(.ref a1), (.int 0), (.ref (cw 0))])) rfl rfl (hb hby d5_11)
  have q25 := fun t (kt : Go p e below T24 (mkF m 15 #[vR a1, vI p2, vI ((p2.toUInt32 >>> ((6 : Int32) &&& 31).toUInt32).toInt32), vU, vU, vU] [(.int ((p2.toUInt32 >>> ((6 : Int32) &&& 31).toUInt32).toInt32)), (.int 0), (.int 0), (.ref (cw 0))]) t) => q23 t (st24 t (by
    show Go _ _ _ _ (mkF m 14 #[vR a1, vI p2, vI ((p2.toUInt32 >>> ((6 : Int32) &&& 31).toUInt32).toInt32), vU, vU, vU] [(.int 0), (.int 0), (.ref (cw 0))]) _
    refine XS.iloadN X24.here hx rfl (hb hby d5_14) rfl ?_
    exact kt))
  obtain ⟨_, _, ⟨T26, L26, k26, n26⟩, -, X26, ⟨_, hQ26, l26, y26, z26⟩, st26⟩ := Jvm.LawKit.callS X24 hx (y := ym4) hown (ow hZ hw 35 rfl) (ow hZ hw 36 rfl) (ow hZ hw 37 rfl) (ow hZ hw 38 rfl) (by decide) (backOf (W := 0) (rm6_0 l Z a0 hw [] cx (cw 0) (cw 2) ((p2.toUInt32 >>> ((6 : Int32) &&& 31).toUInt32).toInt32) h0 n0 O0 (cx.2.2.2.2.1.ext O0.2)) hZ (ox hw 38 rfl) (ox hw 37 rfl) (by decide) (by decide)) (g := (mkF m 15 #[vR a1, vI p2, vI ((p2.toUInt32 >>> ((6 : Int32) &&& 31).toUInt32).toInt32), vU, vU, vU] [(.int ((p2.toUInt32 >>> ((6 : Int32) &&& 31).toUInt32).toInt32)), (.int 0), (.int 0), (.ref (cw 0))])) rfl (by rw [hml]; rfl) (argsL := [(.ref (cw 0)), (.int 0), (.int 0), (.int ((p2.toUInt32 >>> ((6 : Int32) &&& 31).toUInt32).toInt32))]) (rest := []) (lenOf pd_1 rfl) rfl own_le0 (hb hby d5_15) (fun _ _ => ⟨rfl, e24, (by decide : 0 + 0 ≤ _), (by decide : 0 + 0 ≤ _)⟩)
  dsimp only [Pt.U, Pt.locs, Pt.cells, Pt.slots] at X26 l26 y26 z26 st26 hQ26
  subst l26 y26 z26
  obtain ⟨rfl, Nq26, eq26⟩ := hQ26
  have N27 := Fr.app N0 Nq26
  have q28 := fun t (kt : Go p e below T26 (mkF m 69 #[vR a1, vI p2, vI ((p2.toUInt32 >>> ((6 : Int32) &&& 31).toUInt32).toInt32), vI (-1 : Int32), vU, vU] [(.int p2), (.int ((p2.toUInt32 >>> ((6 : Int32) &&& 31).toUInt32).toInt32)), (.int 0), (.ref a1)]) t) => q25 t (st26 t (by
    show Go _ _ _ _ (mkF m 18 #[vR a1, vI p2, vI ((p2.toUInt32 >>> ((6 : Int32) &&& 31).toUInt32).toInt32), vU, vU, vU] [(.int (-1 : Int32))]) _
    refine XS.istoreN X26.here hx rfl (hb hby d5_18) rfl (l' := #[vR a1, vI p2, vI ((p2.toUInt32 >>> ((6 : Int32) &&& 31).toUInt32).toInt32), vI (-1 : Int32), vU, vU]) rfl ?_
    show Go _ _ _ _ (mkF m 19 #[vR a1, vI p2, vI ((p2.toUInt32 >>> ((6 : Int32) &&& 31).toUInt32).toInt32), vI (-1 : Int32), vU, vU] []) _
    refine XS.iloadN X26.here hx rfl (hb hby d5_19) rfl ?_
    show Go _ _ _ _ (mkF m 20 _ [(.int (-1 : Int32))]) _
    refine XS.ifYes X26.here hx rfl (pc0 := 20) (pc' := 62) rfl (hb hby d5_20) rfl ((if0 _ _).trans (tlt (by decide : (-1 : Int32) < (0 : Int32))).1) (by decide) (by decide) ?_
    show Go _ _ _ _ (mkF m 62 _ []) _
    refine XS.aloadN X26.here hx rfl (hb hby d5_62) rfl rfl ?_
    show Go _ _ _ _ (mkF m 63 _ [(.ref a1)]) _
    refine XS.iloadN X26.here hx rfl (hb hby d5_63) rfl ?_
    show Go _ _ _ _ (mkF m 64 _ [(.int (-1 : Int32)), (.ref a1)]) _
    refine XS.ineg X26.here hx rfl (hb hby d5_64) rfl ?_
    show Go _ _ _ _ (mkF m 65 _ [(.int 1), (.ref a1)]) _
    refine XS.iconst X26.here hx rfl (hb hby d5_65) ?_
    show Go _ _ _ _ (mkF m 66 _ [(.int 1), (.int 1), (.ref a1)]) _
    refine XS.isub X26.here hx rfl (hb hby d5_66) rfl ?_
    show Go _ _ _ _ (mkF m 67 _ [(.int 0), (.ref a1)]) _
    refine XS.iloadN X26.here hx rfl (hb hby d5_67) rfl ?_
    show Go _ _ _ _ (mkF m 68 _ [(.int ((p2.toUInt32 >>> ((6 : Int32) &&& 31).toUInt32).toInt32)), (.int 0), (.ref a1)]) _
    refine XS.iloadN X26.here hx rfl (hb hby d5_68) rfl ?_
    exact kt))
  obtain ⟨_, _, ⟨T29, L29, k29, n29⟩, -, X29, ⟨_, hQ29, l29, y29, z29⟩, st29⟩ := Jvm.LawKit.callS X26 hx (y := ym5) hown (ow hZ hw 45 rfl) (ow hZ hw 46 rfl) (ow hZ hw 2 rfl) (ow hZ hw 47 rfl) (by decide) (backOf (W := 3) (rm9 l Z a0 hw [] cx p2 h0 n0 O0 ) hZ (ox hw 47 rfl) (ox hw 2 rfl) (by decide) (by decide)) (g := (mkF m 69 #[vR a1, vI p2, vI ((p2.toUInt32 >>> ((6 : Int32) &&& 31).toUInt32).toInt32), vI (-1 : Int32), vU, vU] [(.int p2), (.int ((p2.toUInt32 >>> ((6 : Int32) &&& 31).toUInt32).toInt32)), (.int 0), (.ref a1)])) rfl (by rw [hml]; rfl) (argsL := [(.int p2)]) (rest := [(.int ((p2.toUInt32 >>> ((6 : Int32) &&& 31).toUInt32).toInt32)), (.int 0), (.ref a1)]) (lenOf pd_5 rfl) rfl own_le0 (hb hby d5_69) (fun _ _ => ⟨rfl, eq26, (by decide : 0 + 0 ≤ _), (by decide : 0 + 0 ≤ _)⟩)
  dsimp only [Pt.U, Pt.locs, Pt.cells, Pt.slots] at X29 l29 y29 z29 st29 hQ29
  subst l29 y29 z29
  obtain ⟨rfl, Nq29, eq29⟩ := hQ29
  have N30 := Fr.app N27 Nq29
  obtain ⟨cq32, q32, q32'⟩ := G0.cell
  obtain ⟨_, _, ⟨T31, L31, k31, n31⟩, -, X31, ⟨_, hQ31, l31, y31, z31⟩, st31⟩ := X29.privateBack hx (y := ym10) hown (ow hZ hw 48 rfl) (ow hZ hw 49 rfl) (mvT hZ (own_selP2 (ox hw 20 rfl) rfl (ox hw 49 rfl) (ox hw 50 rfl) (by decide))) (Cond.privateMethod_at (mvP hZ (ox hw 50 rfl) (args := #[]))) (ow hZ hw 51 rfl) (by decide) (backOf (W := 0) (rm10_0_0 l Z a0 hw [] cx a1 ((p2.toUInt32 >>> ((6 : Int32) &&& 31).toUInt32).toInt32) (own_b p2) h0 n0 O0 G0 G1 G2 G3 g_a1) hZ (ox hw 51 rfl) (ox hw 2 rfl) (by decide) (by decide)) (g := (mkF m 72 #[vR a1, vI p2, vI ((p2.toUInt32 >>> ((6 : Int32) &&& 31).toUInt32).toInt32), vI (-1 : Int32), vU, vU] [(.long (own_b p2)), (.int ((p2.toUInt32 >>> ((6 : Int32) &&& 31).toUInt32).toInt32)), (.int 0), (.ref a1)])) rfl (by rw [hml]; rfl) (Steps.refl _) (a := a1) (by rw [eq29]; exact q32) q32' (argsL := [(.int 0), (.int ((p2.toUInt32 >>> ((6 : Int32) &&& 31).toUInt32).toInt32)), (.long (own_b p2))]) (rest := []) (lenOf pd_6 rfl) rfl own_le0 (hb hby d5_72) (fun _ _ => ⟨rfl, eq29, (by decide : 0 + 2 ≤ _), (by decide : 0 + 4 ≤ _)⟩)
  dsimp only [Pt.U, Pt.locs, Pt.cells, Pt.slots] at X31 l31 y31 z31 st31 hQ31
  subst l31 y31 z31
  obtain ⟨b_31, ta_31, kb_31, kt_31, rfl, Nq31, Kq31, fr31_0, fr31_1, fq31_0, fq31_1, fq31_2, fq31_3, fq31_4, pq31_0⟩ := hQ31
  have N33 := Fr.app N30 Nq31
  have gg34 : n0 ≤ b_31 := Nat.le_trans (O0.1 ▸ O0.2.1) fr31_0
  have sz35 : h0.size ≤ b_31 := Nat.le_trans K0.1 fr31_0
  have gg36 : n0 ≤ ta_31 := Nat.le_trans (O0.1 ▸ O0.2.1) fr31_1
  have sz37 : h0.size ≤ ta_31 := Nat.le_trans K0.1 fr31_1
  have O38 := O0.keep Kq31 (allS g_a1 all0)
  have K39 := K0.trans Kq31 (allS (Or.inl (List.mem_of_getElem? (i := 0) rfl)) all0)
  have q40 := fun t (kt : Go p e below T31 (mkF m 76 #[vR a1, vI p2, vI ((p2.toUInt32 >>> ((6 : Int32) &&& 31).toUInt32).toInt32), vI (-1 : Int32), vU, vU] [(.int 1)]) t) => q28 t (st29 t (st31.trans (by
    show Go _ _ _ _ (mkF m 75 #[vR a1, vI p2, vI ((p2.toUInt32 >>> ((6 : Int32) &&& 31).toUInt32).toInt32), vI (-1 : Int32), vU, vU] []) _
    refine XS.iconst X31.here hx rfl (hb hby d5_75) ?_
    exact kt)))
  exact ⟨some (.int 1), T31, _, _, _, _, X31, by decide, by decide, nofun, q40, fun fs hr => retN X31 hx (t := .boolean) hret (by simp) (hb hby d5_76) hr, ⟨b_31, ta_31, kb_31, kt_31, ((p2.toUInt32 >>> ((6 : Int32) &&& 31).toUInt32).toInt32), rfl, N33, K39, sz35, sz37, fq31_0, fq31_1, fq31_2, fq31_3, fq31_4, pq31_0⟩⟩
theorem d5_23 : decode prog_17_method_3_code 23 = .ok (.aload_n 0, 1) := by decide +kernel
theorem d5_24 : decode prog_17_method_3_code 24 = .ok (.getfield 20, 3) := by decide +kernel
theorem d5_27 : decode prog_17_method_3_code 27 = .ok (.iload_n 3, 1) := by decide +kernel
theorem d5_28 : decode prog_17_method_3_code 28 = .ok (.laload, 1) := by decide +kernel
theorem d5_29 : decode prog_17_method_3_code 29 = .ok (.lstore 4, 2) := by decide +kernel
theorem d5_31 : decode prog_17_method_3_code 31 = .ok (.aload_n 0, 1) := by decide +kernel
theorem d5_32 : decode prog_17_method_3_code 32 = .ok (.getfield 20, 3) := by decide +kernel
theorem d5_35 : decode prog_17_method_3_code 35 = .ok (.iload_n 3, 1) := by decide +kernel
theorem d5_36 : decode prog_17_method_3_code 36 = .ok (.lload 4, 2) := by decide +kernel
theorem d5_38 : decode prog_17_method_3_code 38 = .ok (.iload_n 1, 1) := by decide +kernel
theorem d5_39 : decode prog_17_method_3_code 39 = .ok (.invokestatic 33, 3) := by decide +kernel
theorem d5_42 : decode prog_17_method_3_code 42 = .ok (.lor, 1) := by decide +kernel
theorem d5_43 : decode prog_17_method_3_code 43 = .ok (.lastore, 1) := by decide +kernel
theorem d5_44 : decode prog_17_method_3_code 44 = .ok (.aload_n 0, 1) := by decide +kernel
theorem d5_45 : decode prog_17_method_3_code 45 = .ok (.getfield 20, 3) := by decide +kernel
theorem d5_48 : decode prog_17_method_3_code 48 = .ok (.iload_n 3, 1) := by decide +kernel
theorem d5_49 : decode prog_17_method_3_code 49 = .ok (.laload, 1) := by decide +kernel
theorem d5_50 : decode prog_17_method_3_code 50 = .ok (.lload 4, 2) := by decide +kernel
theorem d5_52 : decode prog_17_method_3_code 52 = .ok (.lcmp, 1) := by decide +kernel
theorem d5_53 : decode prog_17_method_3_code 53 = .ok (.ifCond .eq 7, 3) := by decide +kernel
theorem d5_60 : decode prog_17_method_3_code 60 = .ok (.iconst 0, 1) := by decide +kernel
theorem d5_61 : decode prog_17_method_3_code 61 = .ok (.ireturn, 1) := by decide +kernel
theorem d5_56 : decode prog_17_method_3_code 56 = .ok (.iconst 1, 1) := by decide +kernel
theorem d5_57 : decode prog_17_method_3_code 57 = .ok (.goto 4, 3) := by decide +kernel
def Q_rm5_1 (Z : State) (a1 : Addr) (b : Addr) (ta : Addr) (kb : ClassId) (kt : ClassId) (x0 : Int32) (x1 : Int32) (w0 : Int64) (w1 : Int64) (p2 : Int32) (nw : Nat) (cw : Nat → Nat) (h0 : Heap) (n0 : Nat) (v : Option Value) (h : Heap) (L : List Loc) : Prop := ∃ (uu : Int32) (y0 : Int32) (y1 : Int32) (v0 : Int64) (v1 : Int64) (r : Int32), v = some (.int r) ∧ Fr n0 L ∧ Keep h0 h [a1, b, ta] ∧ Fld Z h a1 sk0 "blocks" "[I" (.ref b) ∧ Fld Z h a1 sk0 "words" "[J" (.ref ta) ∧ Fld Z h a1 sk0 "used" "I" (.int uu) ∧ Arv Z h b kb .int (2 : Int32) [(.int y0), (.int y1)] (.int 0) ∧ Arv Z h ta kt .long (2 : Int32) [(.long v0), (.long v1)] (.long (0 : Int64)) ∧ ((uu = (1 : Int32) ∧ own_W (nw + 1) v0) ∨ (uu = (2 : Int32) ∧ own_W nw v0 ∧ own_W nw v1))
theorem rm5_1 (l : Launch) (Z : State) (a0 : Array Value) (hw : ∀ d ∈ tables_1, d.before a0 Z = true) (ws : List Jvm.Cond) {cw : Nat → Nat} (cx : Cx Z cw) (a1 : Addr) (b : Addr) (ta : Addr) (kb : ClassId) (kt : ClassId) (x0 : Int32) (x1 : Int32) (w0 : Int64) (w1 : Int64) (p2 : Int32) (nw : Nat) (h0 : Heap) (n0 : Nat) (O0 : Old Z n0 h0) (G0 : Exa Z h0 a1 sk0) (G1 : Fld Z h0 a1 sk0 "blocks" "[I" (.ref b)) (G2 : Fld Z h0 a1 sk0 "words" "[J" (.ref ta)) (G3 : Fld Z h0 a1 sk0 "used" "I" (.int 1)) (G4 : Arv Z h0 b kb .int (2 : Int32) [(.int x0), (.int x1)] (.int 0)) (G5 : Arv Z h0 ta kt .long (2 : Int32) [(.long w0), (.long w1)] (.long (0 : Int64))) (g_a1 : n0 ≤ a1) (g_b : n0 ≤ b) (g_ta : n0 ≤ ta) (n1 : a1 ≠ b) (n2 : a1 ≠ ta) (n3 : b ≠ ta) (hW : own_W nw w0) :
    OwnMet l ym11 (Jvm.Cond.code ym11 prog_17_method_3_code 6 (some .boolean) :: ws) (own_R 2 0 0 65) #[(.ref a1), (.int p2)] Z h0 (Q_rm5_1 Z a1 b ta kb kt x0 x1 w0 w1 p2 nw cw h0 n0) := by
  refine own_body (plainFor_of_name pn_5) hisR fun p e s m below meth c s₁ hx hby hml hown hnm hret hZ X0 e0 => ?_
  have N0 := Fr.nil n0
  have K0 : Keep h0 h0 [a1, b, ta] := Keep.refl _ _
  have pre0 : ∀ t, Go p e below s₁ (mkF m 0 #[vR a1, vI p2, vU, vU, vU, vU] []) t → Go p e below s₁ (entryFrame m #[(.ref a1), (.int p2)] 6) t := fun t k => castTop (ef_5_RI m a1 p2) k
  have q21 := fun t (kt : Go p e below s₁ (mkF m 6 #[vR a1, vI p2, vI ((p2.toUInt32 >>> ((6 : Int32) &&& 31).toUInt32).toInt32), vU, vU, vU] [(.ref a1)]) t) => pre0 t (by
    show Go _ _ _ _ (mkF m 0 #[vR a1, vI p2, vU, vU, vU, vU] []) _
    refine XS.iloadN X0.here hx rfl (hb hby d5_0) rfl ?_
    show Go _ _ _ _ (mkF m 1 _ [(.int p2)]) _
    refine XS.bipush X0.here hx rfl (hb hby d5_1) ?_
    show Go _ _ _ _ (mkF m 3 _ [(.int 6), (.int p2)]) _
    refine XS.iushr X0.here hx rfl (hb hby d5_3) rfl ?_
    show Go _ _ _ _ (mkF m 4 _ [(.int ((p2.toUInt32 >>> ((6 : Int32) &&& 31).toUInt32).toInt32))]) _
    refine XS.istoreN X0.here hx rfl (hb hby d5_4) rfl (l' := #[vR a1, vI p2, vI ((p2.toUInt32 >>> ((6 : Int32) &&& 31).toUInt32).toInt32), vU, vU, vU]) rfl ?_
    show Go _ _ _ _ (mkF m 5 #[vR a1, vI p2, vI ((p2.toUInt32 >>> ((6 : Int32) &&& 31).toUInt32).toInt32), vU, vU, vU] []) _
    refine XS.aloadN X0.here hx rfl (hb hby d5_5) rfl rfl ?_
    exact kt)
  obtain ⟨T22, X22, e22, st22⟩ := getF X0 hx hZ hown (host := "") (Or.inl (ox hw 11 rfl)) Via.refl e0 G1 (g := (mkF m 6 #[vR a1, vI p2, vI ((p2.toUInt32 >>> ((6 : Int32) &&& 31).toUInt32).toInt32), vU, vU, vU] [(.ref a1)])) rfl rfl (hb hby d5_6)
  have q23 := fun t (kt : Go p e below T22 (mkF m 11 #[vR a1, vI p2, vI ((p2.toUInt32 >>> ((6 : Int32) &&& 31).toUInt32).toInt32), vU, vU, vU] [(.ref a1), (.int 0), (.ref b)]) t) => q21 t (st22 t (by
    show Go _ _ _ _ (mkF m 9 #[vR a1, vI p2, vI ((p2.toUInt32 >>> ((6 : Int32) &&& 31).toUInt32).toInt32), vU, vU, vU] [(.ref b)]) _
    refine XS.iconst X22.here hx rfl (hb hby d5_9) ?_
    show Go _ _ _ _ (mkF m 10 _ [(.int 0), (.ref b)]) _
    refine XS.aloadN X22.here hx rfl (hb hby d5_10) rfl rfl ?_
    exact kt))
  obtain ⟨T24, X24, e24, st24⟩ := getF X22 hx hZ hown (host := "") (Or.inl (ox hw 22 rfl)) Via.refl e22 G3 (g := (mkF m 11 #[vR a1, vI p2, vI ((p2.toUInt32 >>> ((6 : Int32) &&& 31).toUInt32).toInt32), vU, vU, vU] [(.ref a1), (.int 0), (.ref b)])) rfl rfl (hb hby d5_11)
  have q25 := fun t (kt : Go p e below T24 (mkF m 15 #[vR a1, vI p2, vI ((p2.toUInt32 >>> ((6 : Int32) &&& 31).toUInt32).toInt32), vU, vU, vU] [(.int ((p2.toUInt32 >>> ((6 : Int32) &&& 31).toUInt32).toInt32)), (.int 1), (.int 0), (.ref b)]) t) => q23 t (st24 t (by
    show Go _ _ _ _ (mkF m 14 #[vR a1, vI p2, vI ((p2.toUInt32 >>> ((6 : Int32) &&& 31).toUInt32).toInt32), vU, vU, vU] [(.int 1), (.int 0), (.ref b)]) _
    refine XS.iloadN X24.here hx rfl (hb hby d5_14) rfl ?_
    exact kt))
  obtain ⟨_, _, ⟨T26, L26, k26, n26⟩, -, X26, ⟨_, hQ26, l26, y26, z26⟩, st26⟩ := Jvm.LawKit.callS X24 hx (y := ym4) hown (ow hZ hw 35 rfl) (ow hZ hw 36 rfl) (ow hZ hw 37 rfl) (ow hZ hw 38 rfl) (by decide) (backOf (W := 0) (rm6_1 l Z a0 hw [] cx b kb x0 x1 ((p2.toUInt32 >>> ((6 : Int32) &&& 31).toUInt32).toInt32) h0 n0 O0 G4) hZ (ox hw 38 rfl) (ox hw 37 rfl) (by decide) (by decide)) (g := (mkF m 15 #[vR a1, vI p2, vI ((p2.toUInt32 >>> ((6 : Int32) &&& 31).toUInt32).toInt32), vU, vU, vU] [(.int ((p2.toUInt32 >>> ((6 : Int32) &&& 31).toUInt32).toInt32)), (.int 1), (.int 0), (.ref b)])) rfl (by rw [hml]; rfl) (argsL := [(.ref b), (.int 0), (.int 1), (.int ((p2.toUInt32 >>> ((6 : Int32) &&& 31).toUInt32).toInt32))]) (rest := []) (lenOf pd_1 rfl) rfl own_le0 (hb hby d5_15) (fun _ _ => ⟨rfl, e24, (by decide : 0 + 0 ≤ _), (by decide : 0 + 0 ≤ _)⟩)
  dsimp only [Pt.U, Pt.locs, Pt.cells, Pt.slots] at X26 l26 y26 z26 st26 hQ26
  subst l26 y26 z26
  obtain ⟨r_26, rfl, Nq26, eq26, pq26_0⟩ := hQ26
  have N27 := Fr.app N0 Nq26
  have q28 := fun t (kt : Go p e below T26 (mkF m 18 #[vR a1, vI p2, vI ((p2.toUInt32 >>> ((6 : Int32) &&& 31).toUInt32).toInt32), vU, vU, vU] [(.int r_26)]) t) => q25 t (st26 t kt)
  rcases pq26_0 with hr_ | hr_ | hr_
  · skip
    have q29 := fun t (kt : Go p e below T26 (mkF m 18 #[vR a1, vI p2, vI ((p2.toUInt32 >>> ((6 : Int32) &&& 31).toUInt32).toInt32), vU, vU, vU] [(.int 0)]) t) => q28 t (by rw [hr_]; exact kt)
    have q30 := fun t (kt : Go p e below T26 (mkF m 24 #[vR a1, vI p2, vI ((p2.toUInt32 >>> ((6 : Int32) &&& 31).toUInt32).toInt32), vI 0, vU, vU] [(.ref a1)]) t) => q29 t (by
      show Go _ _ _ _ (mkF m 18 #[vR a1, vI p2, vI ((p2.toUInt32 >>> ((6 : Int32) &&& 31).toUInt32).toInt32), vU, vU, vU] [(.int 0)]) _
      refine XS.istoreN X26.here hx rfl (hb hby d5_18) rfl (l' := #[vR a1, vI p2, vI ((p2.toUInt32 >>> ((6 : Int32) &&& 31).toUInt32).toInt32), vI 0, vU, vU]) rfl ?_
      show Go _ _ _ _ (mkF m 19 #[vR a1, vI p2, vI ((p2.toUInt32 >>> ((6 : Int32) &&& 31).toUInt32).toInt32), vI 0, vU, vU] []) _
      refine XS.iloadN X26.here hx rfl (hb hby d5_19) rfl ?_
      show Go _ _ _ _ (mkF m 20 _ [(.int 0)]) _
      refine XS.ifNo X26.here hx rfl (hb hby d5_20) rfl ((if0 _ _).trans (flt (by decide : ¬ ((0 : Int32) < (0 : Int32)))).1) ?_
      show Go _ _ _ _ (mkF m 23 _ []) _
      refine XS.aloadN X26.here hx rfl (hb hby d5_23) rfl rfl ?_
      exact kt)
    obtain ⟨T31, X31, e31, st31⟩ := getF X26 hx hZ hown (host := "") (Or.inl (ox hw 15 rfl)) Via.refl eq26 G2 (g := (mkF m 24 #[vR a1, vI p2, vI ((p2.toUInt32 >>> ((6 : Int32) &&& 31).toUInt32).toInt32), vI 0, vU, vU] [(.ref a1)])) rfl rfl (hb hby d5_24)
    have q33 := fun t (kt : Go p e below T31 (mkF m 28 #[vR a1, vI p2, vI ((p2.toUInt32 >>> ((6 : Int32) &&& 31).toUInt32).toInt32), vI 0, vU, vU] [(.int 0), (.ref ta)]) t) => q30 t (st31 t (by
      show Go _ _ _ _ (mkF m 27 #[vR a1, vI p2, vI ((p2.toUInt32 >>> ((6 : Int32) &&& 31).toUInt32).toInt32), vI 0, vU, vU] [(.ref ta)]) _
      refine XS.iloadN X31.here hx rfl (hb hby d5_27) rfl ?_
      exact kt))
    obtain ⟨c32, Ar32, -, S32, N32, H32, -⟩ := id G5
    have q34 := fun t (kt : Go p e below T31 (mkF m 32 #[vR a1, vI p2, vI ((p2.toUInt32 >>> ((6 : Int32) &&& 31).toUInt32).toInt32), vI 0, vJ w0, vS] [(.ref a1)]) t) => q33 t (by
      show Go _ _ _ _ (mkF m 28 #[vR a1, vI p2, vI ((p2.toUInt32 >>> ((6 : Int32) &&& 31).toUInt32).toInt32), vI 0, vU, vU] [(.int 0), (.ref ta)]) _
      refine X31.laload hx (j := (0 : Int32)) (v := (.long w0)) (by rw [e31]; exact Ar32.1) (State.isArrayOf_alike hZ.alike Ar32.2.1) Ar32.2.2 (inb_of S32 ⟨by decide, by decide⟩) (Has.at H32 (inb_of S32 ⟨by decide, by decide⟩) rfl) (g := (mkF m 28 #[vR a1, vI p2, vI ((p2.toUInt32 >>> ((6 : Int32) &&& 31).toUInt32).toInt32), vI 0, vU, vU] [(.int 0), (.ref ta)])) rfl rfl (hb hby d5_28) _ ?_
      show Go _ _ _ _ (mkF m 29 _ [(.long w0)]) _
      refine XS.lstore X31.here hx rfl (hb hby d5_29) rfl (l' := #[vR a1, vI p2, vI ((p2.toUInt32 >>> ((6 : Int32) &&& 31).toUInt32).toInt32), vI 0, vJ w0, vS]) rfl ?_
      show Go _ _ _ _ (mkF m 31 #[vR a1, vI p2, vI ((p2.toUInt32 >>> ((6 : Int32) &&& 31).toUInt32).toInt32), vI 0, vJ w0, vS] []) _
      refine XS.aloadN X31.here hx rfl (hb hby d5_31) rfl rfl ?_
      exact kt)
    obtain ⟨T35, X35, e35, st35⟩ := getF X31 hx hZ hown (host := "") (Or.inl (ox hw 15 rfl)) Via.refl e31 G2 (g := (mkF m 32 #[vR a1, vI p2, vI ((p2.toUInt32 >>> ((6 : Int32) &&& 31).toUInt32).toInt32), vI 0, vJ w0, vS] [(.ref a1)])) rfl rfl (hb hby d5_32)
    have q36 := fun t (kt : Go p e below T35 (mkF m 39 #[vR a1, vI p2, vI ((p2.toUInt32 >>> ((6 : Int32) &&& 31).toUInt32).toInt32), vI 0, vJ w0, vS] [(.int p2), (.long w0), (.int 0), (.ref ta)]) t) => q34 t (st35 t (by
      show Go _ _ _ _ (mkF m 35 #[vR a1, vI p2, vI ((p2.toUInt32 >>> ((6 : Int32) &&& 31).toUInt32).toInt32), vI 0, vJ w0, vS] [(.ref ta)]) _
      refine XS.iloadN X35.here hx rfl (hb hby d5_35) rfl ?_
      show Go _ _ _ _ (mkF m 36 _ [(.int 0), (.ref ta)]) _
      refine XS.lload X35.here hx rfl (hb hby d5_36) rfl ?_
      show Go _ _ _ _ (mkF m 38 _ [(.long w0), (.int 0), (.ref ta)]) _
      refine XS.iloadN X35.here hx rfl (hb hby d5_38) rfl ?_
      exact kt))
    obtain ⟨_, _, ⟨T37, L37, k37, n37⟩, -, X37, ⟨_, hQ37, l37, y37, z37⟩, st37⟩ := Jvm.LawKit.callS X35 hx (y := ym5) hown (ow hZ hw 45 rfl) (ow hZ hw 46 rfl) (ow hZ hw 2 rfl) (ow hZ hw 47 rfl) (by decide) (backOf (W := 4) (rm9 l Z a0 hw [] cx p2 h0 n0 O0 ) hZ (ox hw 47 rfl) (ox hw 2 rfl) (by decide) (by decide)) (g := (mkF m 39 #[vR a1, vI p2, vI ((p2.toUInt32 >>> ((6 : Int32) &&& 31).toUInt32).toInt32), vI 0, vJ w0, vS] [(.int p2), (.long w0), (.int 0), (.ref ta)])) rfl (by rw [hml]; rfl) (argsL := [(.int p2)]) (rest := [(.long w0), (.int 0), (.ref ta)]) (lenOf pd_5 rfl) rfl own_le0 (hb hby d5_39) (fun _ _ => ⟨rfl, e35, (by decide : 0 + 0 ≤ _), (by decide : 0 + 0 ≤ _)⟩)
    dsimp only [Pt.U, Pt.locs, Pt.cells, Pt.slots] at X37 l37 y37 z37 st37 hQ37
    subst l37 y37 z37
    obtain ⟨rfl, Nq37, eq37⟩ := hQ37
    have N38 := Fr.app N27 Nq37
    have q40 := fun t (kt : Go p e below T37 (mkF m 43 #[vR a1, vI p2, vI ((p2.toUInt32 >>> ((6 : Int32) &&& 31).toUInt32).toInt32), vI 0, vJ w0, vS] [(.long (w0 ||| (own_b p2))), (.int 0), (.ref ta)]) t) => q36 t (st37 t (by
      show Go _ _ _ _ (mkF m 42 #[vR a1, vI p2, vI ((p2.toUInt32 >>> ((6 : Int32) &&& 31).toUInt32).toInt32), vI 0, vJ w0, vS] [(.long (own_b p2)), (.long w0), (.int 0), (.ref ta)]) _
      refine XS.lor X37.here hx rfl (hb hby d5_42) rfl ?_
      exact kt))
    obtain ⟨c39, Ar39, q39, S39, N39, H39, G39⟩ := id G5
    have hi39 : ¬ ((0 : Int32) < 0 ∨ c39.slots.size ≤ ((0 : Int32)).toNatClampNeg) := inb_of S39 ⟨by decide, by decide⟩
    obtain ⟨T41, h41, X41, e41, W41, st41⟩ := stJ X37 hx hZ eq37 Ar39 (j := (0 : Int32)) hi39 (g := (mkF m 43 #[vR a1, vI p2, vI ((p2.toUInt32 >>> ((6 : Int32) &&& 31).toUInt32).toInt32), vI 0, vJ w0, vS] [(.long (w0 ||| (own_b p2))), (.int 0), (.ref ta)])) rfl rfl (hb hby d5_43)
    have V41 : Arv Z h41 ta kt .long (2 : Int32) [(.long (w0 ||| (own_b p2))), (.long w1)] (.long (0 : Int64)) := Arv.set Ar39 q39 S39 N39 H39 G39 rfl W41 0 rfl (Nat.le_of_ble_eq_true rfl)
    have N42 := Fr.snoc X41 N38 g_ta
    have O43 := O0.wr W41 g_ta
    have K44 := K0.wr W41 (Or.inl (List.mem_of_getElem? (i := 2) rfl))
    have f45 := (G2.other W41 (Or.inl n2))
    have q46 := fun t (kt : Go p e below T41 (mkF m 45 #[vR a1, vI p2, vI ((p2.toUInt32 >>> ((6 : Int32) &&& 31).toUInt32).toInt32), vI 0, vJ w0, vS] [(.ref a1)]) t) => q40 t (st41 t (by
      show Go _ _ _ _ (mkF m 44 #[vR a1, vI p2, vI ((p2.toUInt32 >>> ((6 : Int32) &&& 31).toUInt32).toInt32), vI 0, vJ w0, vS] []) _
      refine XS.aloadN X41.here hx rfl (hb hby d5_44) rfl rfl ?_
      exact kt))
    obtain ⟨T47, X47, e47, st47⟩ := getF X41 hx hZ hown (host := "") (Or.inl (ox hw 15 rfl)) Via.refl e41 f45 (g := (mkF m 45 #[vR a1, vI p2, vI ((p2.toUInt32 >>> ((6 : Int32) &&& 31).toUInt32).toInt32), vI 0, vJ w0, vS] [(.ref a1)])) rfl rfl (hb hby d5_45)
    have q49 := fun t (kt : Go p e below T47 (mkF m 49 #[vR a1, vI p2, vI ((p2.toUInt32 >>> ((6 : Int32) &&& 31).toUInt32).toInt32), vI 0, vJ w0, vS] [(.int 0), (.ref ta)]) t) => q46 t (st47 t (by
      show Go _ _ _ _ (mkF m 48 #[vR a1, vI p2, vI ((p2.toUInt32 >>> ((6 : Int32) &&& 31).toUInt32).toInt32), vI 0, vJ w0, vS] [(.ref ta)]) _
      refine XS.iloadN X47.here hx rfl (hb hby d5_48) rfl ?_
      exact kt))
    obtain ⟨c48, Ar48, -, S48, N48, H48, -⟩ := id V41
    have q50 := fun t (kt : Go p e below T47 (mkF m 53 #[vR a1, vI p2, vI ((p2.toUInt32 >>> ((6 : Int32) &&& 31).toUInt32).toInt32), vI 0, vJ w0, vS] [(.int (lcmpW (w0 ||| (own_b p2)) w0))]) t) => q49 t (by
      show Go _ _ _ _ (mkF m 49 #[vR a1, vI p2, vI ((p2.toUInt32 >>> ((6 : Int32) &&& 31).toUInt32).toInt32), vI 0, vJ w0, vS] [(.int 0), (.ref ta)]) _
      refine X47.laload hx (j := (0 : Int32)) (v := (.long (w0 ||| (own_b p2)))) (by rw [e47]; exact Ar48.1) (State.isArrayOf_alike hZ.alike Ar48.2.1) Ar48.2.2 (inb_of S48 ⟨by decide, by decide⟩) (Has.at H48 (inb_of S48 ⟨by decide, by decide⟩) rfl) (g := (mkF m 49 #[vR a1, vI p2, vI ((p2.toUInt32 >>> ((6 : Int32) &&& 31).toUInt32).toInt32), vI 0, vJ w0, vS] [(.int 0), (.ref ta)])) rfl rfl (hb hby d5_49) _ ?_
      show Go _ _ _ _ (mkF m 50 _ [(.long (w0 ||| (own_b p2)))]) _
      refine XS.lload X47.here hx rfl (hb hby d5_50) rfl ?_
      show Go _ _ _ _ (mkF m 52 _ [(.long w0), (.long (w0 ||| (own_b p2)))]) _
      refine XS.lcmp X47.here hx rfl (hb hby d5_52) rfl ?_
      exact kt)
    by_cases hc51 : (lcmpW (w0 ||| (own_b p2)) w0) = (0 : Int32)
    · have q52 := fun t (kt : Go p e below T47 (mkF m 61 #[vR a1, vI p2, vI ((p2.toUInt32 >>> ((6 : Int32) &&& 31).toUInt32).toInt32), vI 0, vJ w0, vS] [(.int 0)]) t) => q50 t (by
        show Go _ _ _ _ (mkF m 53 #[vR a1, vI p2, vI ((p2.toUInt32 >>> ((6 : Int32) &&& 31).toUInt32).toInt32), vI 0, vJ w0, vS] [(.int (lcmpW (w0 ||| (own_b p2)) w0))]) _
        refine XS.ifYes X47.here hx rfl (pc0 := 53) (pc' := 60) rfl (hb hby d5_53) rfl ((if0 _ _).trans (teq hc51).1) (by decide) (by decide) ?_
        show Go _ _ _ _ (mkF m 60 _ []) _
        refine XS.iconst X47.here hx rfl (hb hby d5_60) ?_
        exact kt)
      have f53 := (G1.other W41 (Or.inl n2))
      have f54 := (G3.other W41 (Or.inl n2))
      have f55 := (G4.other W41 n3)
      exact ⟨some (.int 0), T47, _, _, _, _, X47, by decide, by decide, nofun, q52, fun fs hr => retN X47 hx (t := .boolean) hret (by simp) (hb hby d5_61) hr, by rw [e47]; exact ⟨(1 : Int32), x0, x1, (w0 ||| (own_b p2)), w1, (0 : Int32), rfl, N42, K44, f53, f45, f54, f55, V41, (Or.inl ⟨rfl, own_W_or hW _⟩)⟩⟩
    · have q56 := fun t (kt : Go p e below T47 (mkF m 61 #[vR a1, vI p2, vI ((p2.toUInt32 >>> ((6 : Int32) &&& 31).toUInt32).toInt32), vI 0, vJ w0, vS] [(.int 1)]) t) => q50 t (by
        show Go _ _ _ _ (mkF m 53 #[vR a1, vI p2, vI ((p2.toUInt32 >>> ((6 : Int32) &&& 31).toUInt32).toInt32), vI 0, vJ w0, vS] [(.int (lcmpW (w0 ||| (own_b p2)) w0))]) _
        refine XS.ifNo X47.here hx rfl (hb hby d5_53) rfl ((if0 _ _).trans (feq hc51).1) ?_
        show Go _ _ _ _ (mkF m 56 _ []) _
        refine XS.iconst X47.here hx rfl (hb hby d5_56) ?_
        show Go _ _ _ _ (mkF m 57 _ [(.int 1)]) _
        refine XS.goto X47.here hx rfl (pc0 := 57) (pc' := 61) rfl (hb hby d5_57) (by decide) (by decide) ?_
        exact kt)
      have f57 := (G1.other W41 (Or.inl n2))
      have f58 := (G3.other W41 (Or.inl n2))
      have f59 := (G4.other W41 n3)
      exact ⟨some (.int 1), T47, _, _, _, _, X47, by decide, by decide, nofun, q56, fun fs hr => retN X47 hx (t := .boolean) hret (by simp) (hb hby d5_61) hr, by rw [e47]; exact ⟨(1 : Int32), x0, x1, (w0 ||| (own_b p2)), w1, (1 : Int32), rfl, N42, K44, f57, f45, f58, f59, V41, (Or.inl ⟨rfl, own_W_or hW _⟩)⟩⟩
  · skip
    have q60 := fun t (kt : Go p e below T26 (mkF m 18 #[vR a1, vI p2, vI ((p2.toUInt32 >>> ((6 : Int32) &&& 31).toUInt32).toInt32), vU, vU, vU] [(.int (-1 : Int32))]) t) => q28 t (by rw [hr_]; exact kt)
    have q61 := fun t (kt : Go p e below T26 (mkF m 69 #[vR a1, vI p2, vI ((p2.toUInt32 >>> ((6 : Int32) &&& 31).toUInt32).toInt32), vI (-1 : Int32), vU, vU] [(.int p2), (.int ((p2.toUInt32 >>> ((6 : Int32) &&& 31).toUInt32).toInt32)), (.int 0), (.ref a1)]) t) => q60 t (by
      show Go _ _ _ _ (mkF m 18 #[vR a1, vI p2, vI ((p2.toUInt32 >>> ((6 : Int32) &&& 31).toUInt32).toInt32), vU, vU, vU] [(.int (-1 : Int32))]) _
      refine XS.istoreN X26.here hx rfl (hb hby d5_18) rfl (l' := #[vR a1, vI p2, vI ((p2.toUInt32 >>> ((6 : Int32) &&& 31).toUInt32).toInt32), vI (-1 : Int32), vU, vU]) rfl ?_
      show Go _ _ _ _ (mkF m 19 #[vR a1, vI p2, vI ((p2.toUInt32 >>> ((6 : Int32) &&& 31).toUInt32).toInt32), vI (-1 : Int32), vU, vU] []) _
      refine XS.iloadN X26.here hx rfl (hb hby d5_19) rfl ?_
      show Go _ _ _ _ (mkF m 20 _ [(.int (-1 : Int32))]) _
      refine XS.ifYes X26.here hx rfl (pc0 := 20) (pc' := 62) rfl (hb hby d5_20) rfl ((if0 _ _).trans (tlt (by decide : (-1 : Int32) < (0 : Int32))).1) (by decide) (by decide) ?_
      show Go _ _ _ _ (mkF m 62 _ []) _
      refine XS.aloadN X26.here hx rfl (hb hby d5_62) rfl rfl ?_
      show Go _ _ _ _ (mkF m 63 _ [(.ref a1)]) _
      refine XS.iloadN X26.here hx rfl (hb hby d5_63) rfl ?_
      show Go _ _ _ _ (mkF m 64 _ [(.int (-1 : Int32)), (.ref a1)]) _
      refine XS.ineg X26.here hx rfl (hb hby d5_64) rfl ?_
      show Go _ _ _ _ (mkF m 65 _ [(.int 1), (.ref a1)]) _
      refine XS.iconst X26.here hx rfl (hb hby d5_65) ?_
      show Go _ _ _ _ (mkF m 66 _ [(.int 1), (.int 1), (.ref a1)]) _
      refine XS.isub X26.here hx rfl (hb hby d5_66) rfl ?_
      show Go _ _ _ _ (mkF m 67 _ [(.int 0), (.ref a1)]) _
      refine XS.iloadN X26.here hx rfl (hb hby d5_67) rfl ?_
      show Go _ _ _ _ (mkF m 68 _ [(.int ((p2.toUInt32 >>> ((6 : Int32) &&& 31).toUInt32).toInt32)), (.int 0), (.ref a1)]) _
      refine XS.iloadN X26.here hx rfl (hb hby d5_68) rfl ?_
      exact kt)
    obtain ⟨_, _, ⟨T62, L62, k62, n62⟩, -, X62, ⟨_, hQ62, l62, y62, z62⟩, st62⟩ := Jvm.LawKit.callS X26 hx (y := ym5) hown (ow hZ hw 45 rfl) (ow hZ hw 46 rfl) (ow hZ hw 2 rfl) (ow hZ hw 47 rfl) (by decide) (backOf (W := 3) (rm9 l Z a0 hw [] cx p2 h0 n0 O0 ) hZ (ox hw 47 rfl) (ox hw 2 rfl) (by decide) (by decide)) (g := (mkF m 69 #[vR a1, vI p2, vI ((p2.toUInt32 >>> ((6 : Int32) &&& 31).toUInt32).toInt32), vI (-1 : Int32), vU, vU] [(.int p2), (.int ((p2.toUInt32 >>> ((6 : Int32) &&& 31).toUInt32).toInt32)), (.int 0), (.ref a1)])) rfl (by rw [hml]; rfl) (argsL := [(.int p2)]) (rest := [(.int ((p2.toUInt32 >>> ((6 : Int32) &&& 31).toUInt32).toInt32)), (.int 0), (.ref a1)]) (lenOf pd_5 rfl) rfl own_le0 (hb hby d5_69) (fun _ _ => ⟨rfl, eq26, (by decide : 0 + 0 ≤ _), (by decide : 0 + 0 ≤ _)⟩)
    dsimp only [Pt.U, Pt.locs, Pt.cells, Pt.slots] at X62 l62 y62 z62 st62 hQ62
    subst l62 y62 z62
    obtain ⟨rfl, Nq62, eq62⟩ := hQ62
    have N63 := Fr.app N27 Nq62
    obtain ⟨cq65, q65, q65'⟩ := G0.cell
    obtain ⟨_, _, ⟨T64, L64, k64, n64⟩, -, X64, ⟨_, hQ64, l64, y64, z64⟩, st64⟩ := X62.privateBack hx (y := ym10) hown (ow hZ hw 48 rfl) (ow hZ hw 49 rfl) (mvT hZ (own_selP2 (ox hw 20 rfl) rfl (ox hw 49 rfl) (ox hw 50 rfl) (by decide))) (Cond.privateMethod_at (mvP hZ (ox hw 50 rfl) (args := #[]))) (ow hZ hw 51 rfl) (by decide) (backOf (W := 0) (rm10_1_0 l Z a0 hw [] cx a1 b ta kb kt x0 x1 w0 w1 ((p2.toUInt32 >>> ((6 : Int32) &&& 31).toUInt32).toInt32) (own_b p2) h0 n0 O0 G0 G1 G2 G3 G4 G5 g_a1 g_b g_ta n1 n2 n3) hZ (ox hw 51 rfl) (ox hw 2 rfl) (by decide) (by decide)) (g := (mkF m 72 #[vR a1, vI p2, vI ((p2.toUInt32 >>> ((6 : Int32) &&& 31).toUInt32).toInt32), vI (-1 : Int32), vU, vU] [(.long (own_b p2)), (.int ((p2.toUInt32 >>> ((6 : Int32) &&& 31).toUInt32).toInt32)), (.int 0), (.ref a1)])) rfl (by rw [hml]; rfl) (Steps.refl _) (a := a1) (by rw [eq62]; exact q65) q65' (argsL := [(.int 0), (.int ((p2.toUInt32 >>> ((6 : Int32) &&& 31).toUInt32).toInt32)), (.long (own_b p2))]) (rest := []) (lenOf pd_6 rfl) rfl own_le0 (hb hby d5_72) (fun _ _ => ⟨rfl, eq62, (by decide : 0 + 0 ≤ _), (by decide : 0 + 0 ≤ _)⟩)
    dsimp only [Pt.U, Pt.locs, Pt.cells, Pt.slots] at X64 l64 y64 z64 st64 hQ64
    subst l64 y64 z64
    obtain ⟨rfl, Nq64, Kq64, fq64_0, fq64_1, fq64_2, fq64_3, fq64_4⟩ := hQ64
    have N66 := Fr.app N63 Nq64
    have O67 := O0.keep Kq64 (allS g_a1 (allS g_b (allS g_ta all0)))
    have K68 := K0.trans Kq64 (allS (Or.inl (List.mem_of_getElem? (i := 0) rfl)) (allS (Or.inl (List.mem_of_getElem? (i := 1) rfl)) (allS (Or.inl (List.mem_of_getElem? (i := 2) rfl)) all0)))
    have q69 := fun t (kt : Go p e below T64 (mkF m 76 #[vR a1, vI p2, vI ((p2.toUInt32 >>> ((6 : Int32) &&& 31).toUInt32).toInt32), vI (-1 : Int32), vU, vU] [(.int 1)]) t) => q61 t (st62 t (st64.trans (by
      show Go _ _ _ _ (mkF m 75 #[vR a1, vI p2, vI ((p2.toUInt32 >>> ((6 : Int32) &&& 31).toUInt32).toInt32), vI (-1 : Int32), vU, vU] []) _
      refine XS.iconst X64.here hx rfl (hb hby d5_75) ?_
      exact kt)))
    exact ⟨some (.int 1), T64, _, _, _, _, X64, by decide, by decide, nofun, q69, fun fs hr => retN X64 hx (t := .boolean) hret (by simp) (hb hby d5_76) hr, ⟨(2 : Int32), ((p2.toUInt32 >>> ((6 : Int32) &&& 31).toUInt32).toInt32), x0, (own_b p2), w0, (1 : Int32), rfl, N66, K68, fq64_0, fq64_1, fq64_2, fq64_3, fq64_4, (Or.inr ⟨rfl, own_W_b hW _, hW⟩)⟩⟩
  · skip
    have q70 := fun t (kt : Go p e below T26 (mkF m 18 #[vR a1, vI p2, vI ((p2.toUInt32 >>> ((6 : Int32) &&& 31).toUInt32).toInt32), vU, vU, vU] [(.int (-2 : Int32))]) t) => q28 t (by rw [hr_]; exact kt)
    have q71 := fun t (kt : Go p e below T26 (mkF m 69 #[vR a1, vI p2, vI ((p2.toUInt32 >>> ((6 : Int32) &&& 31).toUInt32).toInt32), vI (-2 : Int32), vU, vU] [(.int p2), (.int ((p2.toUInt32 >>> ((6 : Int32) &&& 31).toUInt32).toInt32)), (.int 1), (.ref a1)]) t) => q70 t (by
      show Go _ _ _ _ (mkF m 18 #[vR a1, vI p2, vI ((p2.toUInt32 >>> ((6 : Int32) &&& 31).toUInt32).toInt32), vU, vU, vU] [(.int (-2 : Int32))]) _
      refine XS.istoreN X26.here hx rfl (hb hby d5_18) rfl (l' := #[vR a1, vI p2, vI ((p2.toUInt32 >>> ((6 : Int32) &&& 31).toUInt32).toInt32), vI (-2 : Int32), vU, vU]) rfl ?_
      show Go _ _ _ _ (mkF m 19 #[vR a1, vI p2, vI ((p2.toUInt32 >>> ((6 : Int32) &&& 31).toUInt32).toInt32), vI (-2 : Int32), vU, vU] []) _
      refine XS.iloadN X26.here hx rfl (hb hby d5_19) rfl ?_
      show Go _ _ _ _ (mkF m 20 _ [(.int (-2 : Int32))]) _
      refine XS.ifYes X26.here hx rfl (pc0 := 20) (pc' := 62) rfl (hb hby d5_20) rfl ((if0 _ _).trans (tlt (by decide : (-2 : Int32) < (0 : Int32))).1) (by decide) (by decide) ?_
      show Go _ _ _ _ (mkF m 62 _ []) _
      refine XS.aloadN X26.here hx rfl (hb hby d5_62) rfl rfl ?_
      show Go _ _ _ _ (mkF m 63 _ [(.ref a1)]) _
      refine XS.iloadN X26.here hx rfl (hb hby d5_63) rfl ?_
      show Go _ _ _ _ (mkF m 64 _ [(.int (-2 : Int32)), (.ref a1)]) _
      refine XS.ineg X26.here hx rfl (hb hby d5_64) rfl ?_
      show Go _ _ _ _ (mkF m 65 _ [(.int 2), (.ref a1)]) _
      refine XS.iconst X26.here hx rfl (hb hby d5_65) ?_
      show Go _ _ _ _ (mkF m 66 _ [(.int 1), (.int 2), (.ref a1)]) _
      refine XS.isub X26.here hx rfl (hb hby d5_66) rfl ?_
      show Go _ _ _ _ (mkF m 67 _ [(.int 1), (.ref a1)]) _
      refine XS.iloadN X26.here hx rfl (hb hby d5_67) rfl ?_
      show Go _ _ _ _ (mkF m 68 _ [(.int ((p2.toUInt32 >>> ((6 : Int32) &&& 31).toUInt32).toInt32)), (.int 1), (.ref a1)]) _
      refine XS.iloadN X26.here hx rfl (hb hby d5_68) rfl ?_
      exact kt)
    obtain ⟨_, _, ⟨T72, L72, k72, n72⟩, -, X72, ⟨_, hQ72, l72, y72, z72⟩, st72⟩ := Jvm.LawKit.callS X26 hx (y := ym5) hown (ow hZ hw 45 rfl) (ow hZ hw 46 rfl) (ow hZ hw 2 rfl) (ow hZ hw 47 rfl) (by decide) (backOf (W := 3) (rm9 l Z a0 hw [] cx p2 h0 n0 O0 ) hZ (ox hw 47 rfl) (ox hw 2 rfl) (by decide) (by decide)) (g := (mkF m 69 #[vR a1, vI p2, vI ((p2.toUInt32 >>> ((6 : Int32) &&& 31).toUInt32).toInt32), vI (-2 : Int32), vU, vU] [(.int p2), (.int ((p2.toUInt32 >>> ((6 : Int32) &&& 31).toUInt32).toInt32)), (.int 1), (.ref a1)])) rfl (by rw [hml]; rfl) (argsL := [(.int p2)]) (rest := [(.int ((p2.toUInt32 >>> ((6 : Int32) &&& 31).toUInt32).toInt32)), (.int 1), (.ref a1)]) (lenOf pd_5 rfl) rfl own_le0 (hb hby d5_69) (fun _ _ => ⟨rfl, eq26, (by decide : 0 + 0 ≤ _), (by decide : 0 + 0 ≤ _)⟩)
    dsimp only [Pt.U, Pt.locs, Pt.cells, Pt.slots] at X72 l72 y72 z72 st72 hQ72
    subst l72 y72 z72
    obtain ⟨rfl, Nq72, eq72⟩ := hQ72
    have N73 := Fr.app N27 Nq72
    obtain ⟨cq75, q75, q75'⟩ := G0.cell
    obtain ⟨_, _, ⟨T74, L74, k74, n74⟩, -, X74, ⟨_, hQ74, l74, y74, z74⟩, st74⟩ := X72.privateBack hx (y := ym10) hown (ow hZ hw 48 rfl) (ow hZ hw 49 rfl) (mvT hZ (own_selP2 (ox hw 20 rfl) rfl (ox hw 49 rfl) (ox hw 50 rfl) (by decide))) (Cond.privateMethod_at (mvP hZ (ox hw 50 rfl) (args := #[]))) (ow hZ hw 51 rfl) (by decide) (backOf (W := 0) (rm10_1_1 l Z a0 hw [] cx a1 b ta kb kt x0 x1 w0 w1 ((p2.toUInt32 >>> ((6 : Int32) &&& 31).toUInt32).toInt32) (own_b p2) h0 n0 O0 G0 G1 G2 G3 G4 G5 g_a1 g_b g_ta n1 n2 n3) hZ (ox hw 51 rfl) (ox hw 2 rfl) (by decide) (by decide)) (g := (mkF m 72 #[vR a1, vI p2, vI ((p2.toUInt32 >>> ((6 : Int32) &&& 31).toUInt32).toInt32), vI (-2 : Int32), vU, vU] [(.long (own_b p2)), (.int ((p2.toUInt32 >>> ((6 : Int32) &&& 31).toUInt32).toInt32)), (.int 1), (.ref a1)])) rfl (by rw [hml]; rfl) (Steps.refl _) (a := a1) (by rw [eq72]; exact q75) q75' (argsL := [(.int 1), (.int ((p2.toUInt32 >>> ((6 : Int32) &&& 31).toUInt32).toInt32)), (.long (own_b p2))]) (rest := []) (lenOf pd_6 rfl) rfl own_le0 (hb hby d5_72) (fun _ _ => ⟨rfl, eq72, (by decide : 0 + 0 ≤ _), (by decide : 0 + 0 ≤ _)⟩)
    dsimp only [Pt.U, Pt.locs, Pt.cells, Pt.slots] at X74 l74 y74 z74 st74 hQ74
    subst l74 y74 z74
    obtain ⟨rfl, Nq74, Kq74, fq74_0, fq74_1, fq74_2, fq74_3, fq74_4⟩ := hQ74
    have N76 := Fr.app N73 Nq74
    have O77 := O0.keep Kq74 (allS g_a1 (allS g_b (allS g_ta all0)))
    have K78 := K0.trans Kq74 (allS (Or.inl (List.mem_of_getElem? (i := 0) rfl)) (allS (Or.inl (List.mem_of_getElem? (i := 1) rfl)) (allS (Or.inl (List.mem_of_getElem? (i := 2) rfl)) all0)))
    have q79 := fun t (kt : Go p e below T74 (mkF m 76 #[vR a1, vI p2, vI ((p2.toUInt32 >>> ((6 : Int32) &&& 31).toUInt32).toInt32), vI (-2 : Int32), vU, vU] [(.int 1)]) t) => q71 t (st72 t (st74.trans (by
      show Go _ _ _ _ (mkF m 75 #[vR a1, vI p2, vI ((p2.toUInt32 >>> ((6 : Int32) &&& 31).toUInt32).toInt32), vI (-2 : Int32), vU, vU] []) _
      refine XS.iconst X74.here hx rfl (hb hby d5_75) ?_
      exact kt)))
    exact ⟨some (.int 1), T74, _, _, _, _, X74, by decide, by decide, nofun, q79, fun fs hr => retN X74 hx (t := .boolean) hret (by simp) (hb hby d5_76) hr, ⟨(2 : Int32), x0, ((p2.toUInt32 >>> ((6 : Int32) &&& 31).toUInt32).toInt32), w0, (own_b p2), (1 : Int32), rfl, N76, K78, fq74_0, fq74_1, fq74_2, fq74_3, fq74_4, (Or.inr ⟨rfl, hW, own_W_b hW _⟩)⟩⟩
def Q_rm5_2 (Z : State) (a1 : Addr) (b : Addr) (ta : Addr) (kb : ClassId) (kt : ClassId) (x0 : Int32) (x1 : Int32) (w0 : Int64) (w1 : Int64) (p2 : Int32) (cw : Nat → Nat) (h0 : Heap) (n0 : Nat) (v : Option Value) (h : Heap) (L : List Loc) : Prop := ∃ (uu : Int32) (bb : Addr) (tt : Addr) (kbb : ClassId) (ktt : ClassId) (zz : Int32) (vb : List Value) (vt : List Value) (r : Int32), v = some (.int r) ∧ Fr n0 L ∧ Keep h0 h [a1, b, ta] ∧ Fld Z h a1 sk0 "blocks" "[I" (.ref bb) ∧ Fld Z h a1 sk0 "words" "[J" (.ref tt) ∧ Fld Z h a1 sk0 "used" "I" (.int uu) ∧ Arv Z h bb kbb .int zz vb (.int 0) ∧ Arv Z h tt ktt .long zz vt (.long (0 : Int64)) ∧ (own_P2 uu zz vb vt)
theorem rm5_2 (l : Launch) (Z : State) (a0 : Array Value) (hw : ∀ d ∈ tables_1, d.before a0 Z = true) (ws : List Jvm.Cond) {cw : Nat → Nat} (cx : Cx Z cw) (a1 : Addr) (b : Addr) (ta : Addr) (kb : ClassId) (kt : ClassId) (x0 : Int32) (x1 : Int32) (w0 : Int64) (w1 : Int64) (p2 : Int32) (h0 : Heap) (n0 : Nat) (O0 : Old Z n0 h0) (G0 : Exa Z h0 a1 sk0) (G1 : Fld Z h0 a1 sk0 "blocks" "[I" (.ref b)) (G2 : Fld Z h0 a1 sk0 "words" "[J" (.ref ta)) (G3 : Fld Z h0 a1 sk0 "used" "I" (.int 2)) (G4 : Arv Z h0 b kb .int (2 : Int32) [(.int x0), (.int x1)] (.int 0)) (G5 : Arv Z h0 ta kt .long (2 : Int32) [(.long w0), (.long w1)] (.long (0 : Int64))) (g_a1 : n0 ≤ a1) (g_b : n0 ≤ b) (g_ta : n0 ≤ ta) (n1 : a1 ≠ b) (n2 : a1 ≠ ta) (n3 : b ≠ ta) (hW0 : own_W 1 w0) (hW1 : own_W 1 w1) :
    OwnMet l ym11 (Jvm.Cond.code ym11 prog_17_method_3_code 6 (some .boolean) :: ws) (own_R 3 2 8 80) #[(.ref a1), (.int p2)] Z h0 (Q_rm5_2 Z a1 b ta kb kt x0 x1 w0 w1 p2 cw h0 n0) := by
  refine own_body (plainFor_of_name pn_5) hisR fun p e s m below meth c s₁ hx hby hml hown hnm hret hZ X0 e0 => ?_
  have N0 := Fr.nil n0
  have K0 : Keep h0 h0 [a1, b, ta] := Keep.refl _ _
  have pre0 : ∀ t, Go p e below s₁ (mkF m 0 #[vR a1, vI p2, vU, vU, vU, vU] []) t → Go p e below s₁ (entryFrame m #[(.ref a1), (.int p2)] 6) t := fun t k => castTop (ef_5_RI m a1 p2) k
  have q21 := fun t (kt : Go p e below s₁ (mkF m 6 #[vR a1, vI p2, vI ((p2.toUInt32 >>> ((6 : Int32) &&& 31).toUInt32).toInt32), vU, vU, vU] [(.ref a1)]) t) => pre0 t (by
    show Go _ _ _ _ (mkF m 0 #[vR a1, vI p2, vU, vU, vU, vU] []) _
    refine XS.iloadN X0.here hx rfl (hb hby d5_0) rfl ?_
    show Go _ _ _ _ (mkF m 1 _ [(.int p2)]) _
    refine XS.bipush X0.here hx rfl (hb hby d5_1) ?_
    show Go _ _ _ _ (mkF m 3 _ [(.int 6), (.int p2)]) _
    refine XS.iushr X0.here hx rfl (hb hby d5_3) rfl ?_
    show Go _ _ _ _ (mkF m 4 _ [(.int ((p2.toUInt32 >>> ((6 : Int32) &&& 31).toUInt32).toInt32))]) _
    refine XS.istoreN X0.here hx rfl (hb hby d5_4) rfl (l' := #[vR a1, vI p2, vI ((p2.toUInt32 >>> ((6 : Int32) &&& 31).toUInt32).toInt32), vU, vU, vU]) rfl ?_
    show Go _ _ _ _ (mkF m 5 #[vR a1, vI p2, vI ((p2.toUInt32 >>> ((6 : Int32) &&& 31).toUInt32).toInt32), vU, vU, vU] []) _
    refine XS.aloadN X0.here hx rfl (hb hby d5_5) rfl rfl ?_
    exact kt)
  obtain ⟨T22, X22, e22, st22⟩ := getF X0 hx hZ hown (host := "") (Or.inl (ox hw 11 rfl)) Via.refl e0 G1 (g := (mkF m 6 #[vR a1, vI p2, vI ((p2.toUInt32 >>> ((6 : Int32) &&& 31).toUInt32).toInt32), vU, vU, vU] [(.ref a1)])) rfl rfl (hb hby d5_6)
  have q23 := fun t (kt : Go p e below T22 (mkF m 11 #[vR a1, vI p2, vI ((p2.toUInt32 >>> ((6 : Int32) &&& 31).toUInt32).toInt32), vU, vU, vU] [(.ref a1), (.int 0), (.ref b)]) t) => q21 t (st22 t (by
    show Go _ _ _ _ (mkF m 9 #[vR a1, vI p2, vI ((p2.toUInt32 >>> ((6 : Int32) &&& 31).toUInt32).toInt32), vU, vU, vU] [(.ref b)]) _
    refine XS.iconst X22.here hx rfl (hb hby d5_9) ?_
    show Go _ _ _ _ (mkF m 10 _ [(.int 0), (.ref b)]) _
    refine XS.aloadN X22.here hx rfl (hb hby d5_10) rfl rfl ?_
    exact kt))
  obtain ⟨T24, X24, e24, st24⟩ := getF X22 hx hZ hown (host := "") (Or.inl (ox hw 22 rfl)) Via.refl e22 G3 (g := (mkF m 11 #[vR a1, vI p2, vI ((p2.toUInt32 >>> ((6 : Int32) &&& 31).toUInt32).toInt32), vU, vU, vU] [(.ref a1), (.int 0), (.ref b)])) rfl rfl (hb hby d5_11)
  have q25 := fun t (kt : Go p e below T24 (mkF m 15 #[vR a1, vI p2, vI ((p2.toUInt32 >>> ((6 : Int32) &&& 31).toUInt32).toInt32), vU, vU, vU] [(.int ((p2.toUInt32 >>> ((6 : Int32) &&& 31).toUInt32).toInt32)), (.int 2), (.int 0), (.ref b)]) t) => q23 t (st24 t (by
    show Go _ _ _ _ (mkF m 14 #[vR a1, vI p2, vI ((p2.toUInt32 >>> ((6 : Int32) &&& 31).toUInt32).toInt32), vU, vU, vU] [(.int 2), (.int 0), (.ref b)]) _
    refine XS.iloadN X24.here hx rfl (hb hby d5_14) rfl ?_
    exact kt))
  obtain ⟨_, _, ⟨T26, L26, k26, n26⟩, -, X26, ⟨_, hQ26, l26, y26, z26⟩, st26⟩ := Jvm.LawKit.callS X24 hx (y := ym4) hown (ow hZ hw 35 rfl) (ow hZ hw 36 rfl) (ow hZ hw 37 rfl) (ow hZ hw 38 rfl) (by decide) (backOf (W := 0) (rm6_2 l Z a0 hw [] cx b kb x0 x1 ((p2.toUInt32 >>> ((6 : Int32) &&& 31).toUInt32).toInt32) h0 n0 O0 G4) hZ (ox hw 38 rfl) (ox hw 37 rfl) (by decide) (by decide)) (g := (mkF m 15 #[vR a1, vI p2, vI ((p2.toUInt32 >>> ((6 : Int32) &&& 31).toUInt32).toInt32), vU, vU, vU] [(.int ((p2.toUInt32 >>> ((6 : Int32) &&& 31).toUInt32).toInt32)), (.int 2), (.int 0), (.ref b)])) rfl (by rw [hml]; rfl) (argsL := [(.ref b), (.int 0), (.int 2), (.int ((p2.toUInt32 >>> ((6 : Int32) &&& 31).toUInt32).toInt32))]) (rest := []) (lenOf pd_1 rfl) rfl own_le0 (hb hby d5_15) (fun _ _ => ⟨rfl, e24, (by decide : 0 + 0 ≤ _), (by decide : 0 + 0 ≤ _)⟩)
  dsimp only [Pt.U, Pt.locs, Pt.cells, Pt.slots] at X26 l26 y26 z26 st26 hQ26
  subst l26 y26 z26
  obtain ⟨r_26, rfl, Nq26, eq26, pq26_0⟩ := hQ26
  have N27 := Fr.app N0 Nq26
  have q28 := fun t (kt : Go p e below T26 (mkF m 18 #[vR a1, vI p2, vI ((p2.toUInt32 >>> ((6 : Int32) &&& 31).toUInt32).toInt32), vU, vU, vU] [(.int r_26)]) t) => q25 t (st26 t kt)
  rcases pq26_0 with hr_ | hr_ | hr_ | hr_ | hr_
  · skip
    have q29 := fun t (kt : Go p e below T26 (mkF m 18 #[vR a1, vI p2, vI ((p2.toUInt32 >>> ((6 : Int32) &&& 31).toUInt32).toInt32), vU, vU, vU] [(.int 0)]) t) => q28 t (by rw [hr_]; exact kt)
    have q30 := fun t (kt : Go p e below T26 (mkF m 24 #[vR a1, vI p2, vI ((p2.toUInt32 >>> ((6 : Int32) &&& 31).toUInt32).toInt32), vI 0, vU, vU] [(.ref a1)]) t) => q29 t (by
      show Go _ _ _ _ (mkF m 18 #[vR a1, vI p2, vI ((p2.toUInt32 >>> ((6 : Int32) &&& 31).toUInt32).toInt32), vU, vU, vU] [(.int 0)]) _
      refine XS.istoreN X26.here hx rfl (hb hby d5_18) rfl (l' := #[vR a1, vI p2, vI ((p2.toUInt32 >>> ((6 : Int32) &&& 31).toUInt32).toInt32), vI 0, vU, vU]) rfl ?_
      show Go _ _ _ _ (mkF m 19 #[vR a1, vI p2, vI ((p2.toUInt32 >>> ((6 : Int32) &&& 31).toUInt32).toInt32), vI 0, vU, vU] []) _
      refine XS.iloadN X26.here hx rfl (hb hby d5_19) rfl ?_
      show Go _ _ _ _ (mkF m 20 _ [(.int 0)]) _
      refine XS.ifNo X26.here hx rfl (hb hby d5_20) rfl ((if0 _ _).trans (flt (by decide : ¬ ((0 : Int32) < (0 : Int32)))).1) ?_
      show Go _ _ _ _ (mkF m 23 _ []) _
      refine XS.aloadN X26.here hx rfl (hb hby d5_23) rfl rfl ?_
      exact kt)
    obtain ⟨T31, X31, e31, st31⟩ := getF X26 hx hZ hown (host := "") (Or.inl (ox hw 15 rfl)) Via.refl eq26 G2 (g := (mkF m 24 #[vR a1, vI p2, vI ((p2.toUInt32 >>> ((6 : Int32) &&& 31).toUInt32).toInt32), vI 0, vU, vU] [(.ref a1)])) rfl rfl (hb hby d5_24)
    have q33 := fun t (kt : Go p e below T31 (mkF m 28 #[vR a1, vI p2, vI ((p2.toUInt32 >>> ((6 : Int32) &&& 31).toUInt32).toInt32), vI 0, vU, vU] [(.int 0), (.ref ta)]) t) => q30 t (st31 t (by
      show Go _ _ _ _ (mkF m 27 #[vR a1, vI p2, vI ((p2.toUInt32 >>> ((6 : Int32) &&& 31).toUInt32).toInt32), vI 0, vU, vU] [(.ref ta)]) _
      refine XS.iloadN X31.here hx rfl (hb hby d5_27) rfl ?_
      exact kt))
    obtain ⟨c32, Ar32, -, S32, N32, H32, -⟩ := id G5
    have q34 := fun t (kt : Go p e below T31 (mkF m 32 #[vR a1, vI p2, vI ((p2.toUInt32 >>> ((6 : Int32) &&& 31).toUInt32).toInt32), vI 0, vJ w0, vS] [(.ref a1)]) t) => q33 t (by
      show Go _ _ _ _ (mkF m 28 #[vR a1, vI p2, vI ((p2.toUInt32 >>> ((6 : Int32) &&& 31).toUInt32).toInt32), vI 0, vU, vU] [(.int 0), (.ref ta)]) _
      refine X31.laload hx (j := (0 : Int32)) (v := (.long w0)) (by rw [e31]; exact Ar32.1) (State.isArrayOf_alike hZ.alike Ar32.2.1) Ar32.2.2 (inb_of S32 ⟨by decide, by decide⟩) (Has.at H32 (inb_of S32 ⟨by decide, by decide⟩) rfl) (g := (mkF m 28 #[vR a1, vI p2, vI ((p2.toUInt32 >>> ((6 : Int32) &&& 31).toUInt32).toInt32), vI 0, vU, vU] [(.int 0), (.ref ta)])) rfl rfl (hb hby d5_28) _ ?_
      show Go _ _ _ _ (mkF m 29 _ [(.long w0)]) _
      refine XS.lstore X31.here hx rfl (hb hby d5_29) rfl (l' := #[vR a1, vI p2, vI ((p2.toUInt32 >>> ((6 : Int32) &&& 31).toUInt32).toInt32), vI 0, vJ w0, vS]) rfl ?_
      show Go _ _ _ _ (mkF m 31 #[vR a1, vI p2, vI ((p2.toUInt32 >>> ((6 : Int32) &&& 31).toUInt32).toInt32), vI 0, vJ w0, vS] []) _
      refine XS.aloadN X31.here hx rfl (hb hby d5_31) rfl rfl ?_
      exact kt)
    obtain ⟨T35, X35, e35, st35⟩ := getF X31 hx hZ hown (host := "") (Or.inl (ox hw 15 rfl)) Via.refl e31 G2 (g := (mkF m 32 #[vR a1, vI p2, vI ((p2.toUInt32 >>> ((6 : Int32) &&& 31).toUInt32).toInt32), vI 0, vJ w0, vS] [(.ref a1)])) rfl rfl (hb hby d5_32)
    have q36 := fun t (kt : Go p e below T35 (mkF m 39 #[vR a1, vI p2, vI ((p2.toUInt32 >>> ((6 : Int32) &&& 31).toUInt32).toInt32), vI 0, vJ w0, vS] [(.int p2), (.long w0), (.int 0), (.ref ta)]) t) => q34 t (st35 t (by
      show Go _ _ _ _ (mkF m 35 #[vR a1, vI p2, vI ((p2.toUInt32 >>> ((6 : Int32) &&& 31).toUInt32).toInt32), vI 0, vJ w0, vS] [(.ref ta)]) _
      refine XS.iloadN X35.here hx rfl (hb hby d5_35) rfl ?_
      show Go _ _ _ _ (mkF m 36 _ [(.int 0), (.ref ta)]) _
      refine XS.lload X35.here hx rfl (hb hby d5_36) rfl ?_
      show Go _ _ _ _ (mkF m 38 _ [(.long w0), (.int 0), (.ref ta)]) _
      refine XS.iloadN X35.here hx rfl (hb hby d5_38) rfl ?_
      exact kt))
    obtain ⟨_, _, ⟨T37, L37, k37, n37⟩, -, X37, ⟨_, hQ37, l37, y37, z37⟩, st37⟩ := Jvm.LawKit.callS X35 hx (y := ym5) hown (ow hZ hw 45 rfl) (ow hZ hw 46 rfl) (ow hZ hw 2 rfl) (ow hZ hw 47 rfl) (by decide) (backOf (W := 4) (rm9 l Z a0 hw [] cx p2 h0 n0 O0 ) hZ (ox hw 47 rfl) (ox hw 2 rfl) (by decide) (by decide)) (g := (mkF m 39 #[vR a1, vI p2, vI ((p2.toUInt32 >>> ((6 : Int32) &&& 31).toUInt32).toInt32), vI 0, vJ w0, vS] [(.int p2), (.long w0), (.int 0), (.ref ta)])) rfl (by rw [hml]; rfl) (argsL := [(.int p2)]) (rest := [(.long w0), (.int 0), (.ref ta)]) (lenOf pd_5 rfl) rfl own_le0 (hb hby d5_39) (fun _ _ => ⟨rfl, e35, (by decide : 0 + 0 ≤ _), (by decide : 0 + 0 ≤ _)⟩)
    dsimp only [Pt.U, Pt.locs, Pt.cells, Pt.slots] at X37 l37 y37 z37 st37 hQ37
    subst l37 y37 z37
    obtain ⟨rfl, Nq37, eq37⟩ := hQ37
    have N38 := Fr.app N27 Nq37
    have q40 := fun t (kt : Go p e below T37 (mkF m 43 #[vR a1, vI p2, vI ((p2.toUInt32 >>> ((6 : Int32) &&& 31).toUInt32).toInt32), vI 0, vJ w0, vS] [(.long (w0 ||| (own_b p2))), (.int 0), (.ref ta)]) t) => q36 t (st37 t (by
      show Go _ _ _ _ (mkF m 42 #[vR a1, vI p2, vI ((p2.toUInt32 >>> ((6 : Int32) &&& 31).toUInt32).toInt32), vI 0, vJ w0, vS] [(.long (own_b p2)), (.long w0), (.int 0), (.ref ta)]) _
      refine XS.lor X37.here hx rfl (hb hby d5_42) rfl ?_
      exact kt))
    obtain ⟨c39, Ar39, q39, S39, N39, H39, G39⟩ := id G5
    have hi39 : ¬ ((0 : Int32) < 0 ∨ c39.slots.size ≤ ((0 : Int32)).toNatClampNeg) := inb_of S39 ⟨by decide, by decide⟩
    obtain ⟨T41, h41, X41, e41, W41, st41⟩ := stJ X37 hx hZ eq37 Ar39 (j := (0 : Int32)) hi39 (g := (mkF m 43 #[vR a1, vI p2, vI ((p2.toUInt32 >>> ((6 : Int32) &&& 31).toUInt32).toInt32), vI 0, vJ w0, vS] [(.long (w0 ||| (own_b p2))), (.int 0), (.ref ta)])) rfl rfl (hb hby d5_43)
    have V41 : Arv Z h41 ta kt .long (2 : Int32) [(.long (w0 ||| (own_b p2))), (.long w1)] (.long (0 : Int64)) := Arv.set Ar39 q39 S39 N39 H39 G39 rfl W41 0 rfl (Nat.le_of_ble_eq_true rfl)
    have N42 := Fr.snoc X41 N38 g_ta
    have O43 := O0.wr W41 g_ta
    have K44 := K0.wr W41 (Or.inl (List.mem_of_getElem? (i := 2) rfl))
    have f45 := (G2.other W41 (Or.inl n2))
    have q46 := fun t (kt : Go p e below T41 (mkF m 45 #[vR a1, vI p2, vI ((p2.toUInt32 >>> ((6 : Int32) &&& 31).toUInt32).toInt32), vI 0, vJ w0, vS] [(.ref a1)]) t) => q40 t (st41 t (by
      show Go _ _ _ _ (mkF m 44 #[vR a1, vI p2, vI ((p2.toUInt32 >>> ((6 : Int32) &&& 31).toUInt32).toInt32), vI 0, vJ w0, vS] []) _
      refine XS.aloadN X41.here hx rfl (hb hby d5_44) rfl rfl ?_
      exact kt))
    obtain ⟨T47, X47, e47, st47⟩ := getF X41 hx hZ hown (host := "") (Or.inl (ox hw 15 rfl)) Via.refl e41 f45 (g := (mkF m 45 #[vR a1, vI p2, vI ((p2.toUInt32 >>> ((6 : Int32) &&& 31).toUInt32).toInt32), vI 0, vJ w0, vS] [(.ref a1)])) rfl rfl (hb hby d5_45)
    have q49 := fun t (kt : Go p e below T47 (mkF m 49 #[vR a1, vI p2, vI ((p2.toUInt32 >>> ((6 : Int32) &&& 31).toUInt32).toInt32), vI 0, vJ w0, vS] [(.int 0), (.ref ta)]) t) => q46 t (st47 t (by
      show Go _ _ _ _ (mkF m 48 #[vR a1, vI p2, vI ((p2.toUInt32 >>> ((6 : Int32) &&& 31).toUInt32).toInt32), vI 0, vJ w0, vS] [(.ref ta)]) _
      refine XS.iloadN X47.here hx rfl (hb hby d5_48) rfl ?_
      exact kt))
    obtain ⟨c48, Ar48, -, S48, N48, H48, -⟩ := id V41
    have q50 := fun t (kt : Go p e below T47 (mkF m 53 #[vR a1, vI p2, vI ((p2.toUInt32 >>> ((6 : Int32) &&& 31).toUInt32).toInt32), vI 0, vJ w0, vS] [(.int (lcmpW (w0 ||| (own_b p2)) w0))]) t) => q49 t (by
      show Go _ _ _ _ (mkF m 49 #[vR a1, vI p2, vI ((p2.toUInt32 >>> ((6 : Int32) &&& 31).toUInt32).toInt32), vI 0, vJ w0, vS] [(.int 0), (.ref ta)]) _
      refine X47.laload hx (j := (0 : Int32)) (v := (.long (w0 ||| (own_b p2)))) (by rw [e47]; exact Ar48.1) (State.isArrayOf_alike hZ.alike Ar48.2.1) Ar48.2.2 (inb_of S48 ⟨by decide, by decide⟩) (Has.at H48 (inb_of S48 ⟨by decide, by decide⟩) rfl) (g := (mkF m 49 #[vR a1, vI p2, vI ((p2.toUInt32 >>> ((6 : Int32) &&& 31).toUInt32).toInt32), vI 0, vJ w0, vS] [(.int 0), (.ref ta)])) rfl rfl (hb hby d5_49) _ ?_
      show Go _ _ _ _ (mkF m 50 _ [(.long (w0 ||| (own_b p2)))]) _
      refine XS.lload X47.here hx rfl (hb hby d5_50) rfl ?_
      show Go _ _ _ _ (mkF m 52 _ [(.long w0), (.long (w0 ||| (own_b p2)))]) _
      refine XS.lcmp X47.here hx rfl (hb hby d5_52) rfl ?_
      exact kt)
    by_cases hc51 : (lcmpW (w0 ||| (own_b p2)) w0) = (0 : Int32)
    · have q52 := fun t (kt : Go p e below T47 (mkF m 61 #[vR a1, vI p2, vI ((p2.toUInt32 >>> ((6 : Int32) &&& 31).toUInt32).toInt32), vI 0, vJ w0, vS] [(.int 0)]) t) => q50 t (by
        show Go _ _ _ _ (mkF m 53 #[vR a1, vI p2, vI ((p2.toUInt32 >>> ((6 : Int32) &&& 31).toUInt32).toInt32), vI 0, vJ w0, vS] [(.int (lcmpW (w0 ||| (own_b p2)) w0))]) _
        refine XS.ifYes X47.here hx rfl (pc0 := 53) (pc' := 60) rfl (hb hby d5_53) rfl ((if0 _ _).trans (teq hc51).1) (by decide) (by decide) ?_
        show Go _ _ _ _ (mkF m 60 _ []) _
        refine XS.iconst X47.here hx rfl (hb hby d5_60) ?_
        exact kt)
      have f53 := (G1.other W41 (Or.inl n2))
      have f54 := (G3.other W41 (Or.inl n2))
      have f55 := (G4.other W41 n3)
      exact ⟨some (.int 0), T47, _, _, _, _, X47, by decide, by decide, nofun, q52, fun fs hr => retN X47 hx (t := .boolean) hret (by simp) (hb hby d5_61) hr, by rw [e47]; exact ⟨(2 : Int32), b, ta, kb, kt, (2 : Int32), [(.int x0), (.int x1)], [(.long (w0 ||| (own_b p2))), (.long w1)], (0 : Int32), rfl, N42, K44, f53, f45, f54, f55, V41, (Or.inl ⟨rfl, rfl, ⟨_, _, rfl⟩, _, _, rfl, (own_W_or hW0 _), (own_W_mono hW1)⟩)⟩⟩
    · have q56 := fun t (kt : Go p e below T47 (mkF m 61 #[vR a1, vI p2, vI ((p2.toUInt32 >>> ((6 : Int32) &&& 31).toUInt32).toInt32), vI 0, vJ w0, vS] [(.int 1)]) t) => q50 t (by
        show Go _ _ _ _ (mkF m 53 #[vR a1, vI p2, vI ((p2.toUInt32 >>> ((6 : Int32) &&& 31).toUInt32).toInt32), vI 0, vJ w0, vS] [(.int (lcmpW (w0 ||| (own_b p2)) w0))]) _
        refine XS.ifNo X47.here hx rfl (hb hby d5_53) rfl ((if0 _ _).trans (feq hc51).1) ?_
        show Go _ _ _ _ (mkF m 56 _ []) _
        refine XS.iconst X47.here hx rfl (hb hby d5_56) ?_
        show Go _ _ _ _ (mkF m 57 _ [(.int 1)]) _
        refine XS.goto X47.here hx rfl (pc0 := 57) (pc' := 61) rfl (hb hby d5_57) (by decide) (by decide) ?_
        exact kt)
      have f57 := (G1.other W41 (Or.inl n2))
      have f58 := (G3.other W41 (Or.inl n2))
      have f59 := (G4.other W41 n3)
      exact ⟨some (.int 1), T47, _, _, _, _, X47, by decide, by decide, nofun, q56, fun fs hr => retN X47 hx (t := .boolean) hret (by simp) (hb hby d5_61) hr, by rw [e47]; exact ⟨(2 : Int32), b, ta, kb, kt, (2 : Int32), [(.int x0), (.int x1)], [(.long (w0 ||| (own_b p2))), (.long w1)], (1 : Int32), rfl, N42, K44, f57, f45, f58, f59, V41, (Or.inl ⟨rfl, rfl, ⟨_, _, rfl⟩, _, _, rfl, (own_W_or hW0 _), (own_W_mono hW1)⟩)⟩⟩
  · skip
    have q60 := fun t (kt : Go p e below T26 (mkF m 18 #[vR a1, vI p2, vI ((p2.toUInt32 >>> ((6 : Int32) &&& 31).toUInt32).toInt32), vU, vU, vU] [(.int 1)]) t) => q28 t (by rw [hr_]; exact kt)
    have q61 := fun t (kt : Go p e below T26 (mkF m 24 #[vR a1, vI p2, vI ((p2.toUInt32 >>> ((6 : Int32) &&& 31).toUInt32).toInt32), vI 1, vU, vU] [(.ref a1)]) t) => q60 t (by
      show Go _ _ _ _ (mkF m 18 #[vR a1, vI p2, vI ((p2.toUInt32 >>> ((6 : Int32) &&& 31).toUInt32).toInt32), vU, vU, vU] [(.int 1)]) _
      refine XS.istoreN X26.here hx rfl (hb hby d5_18) rfl (l' := #[vR a1, vI p2, vI ((p2.toUInt32 >>> ((6 : Int32) &&& 31).toUInt32).toInt32), vI 1, vU, vU]) rfl ?_
      show Go _ _ _ _ (mkF m 19 #[vR a1, vI p2, vI ((p2.toUInt32 >>> ((6 : Int32) &&& 31).toUInt32).toInt32), vI 1, vU, vU] []) _
      refine XS.iloadN X26.here hx rfl (hb hby d5_19) rfl ?_
      show Go _ _ _ _ (mkF m 20 _ [(.int 1)]) _
      refine XS.ifNo X26.here hx rfl (hb hby d5_20) rfl ((if0 _ _).trans (flt (by decide : ¬ ((1 : Int32) < (0 : Int32)))).1) ?_
      show Go _ _ _ _ (mkF m 23 _ []) _
      refine XS.aloadN X26.here hx rfl (hb hby d5_23) rfl rfl ?_
      exact kt)
    obtain ⟨T62, X62, e62, st62⟩ := getF X26 hx hZ hown (host := "") (Or.inl (ox hw 15 rfl)) Via.refl eq26 G2 (g := (mkF m 24 #[vR a1, vI p2, vI ((p2.toUInt32 >>> ((6 : Int32) &&& 31).toUInt32).toInt32), vI 1, vU, vU] [(.ref a1)])) rfl rfl (hb hby d5_24)
    have q64 := fun t (kt : Go p e below T62 (mkF m 28 #[vR a1, vI p2, vI ((p2.toUInt32 >>> ((6 : Int32) &&& 31).toUInt32).toInt32), vI 1, vU, vU] [(.int 1), (.ref ta)]) t) => q61 t (st62 t (by
      show Go _ _ _ _ (mkF m 27 #[vR a1, vI p2, vI ((p2.toUInt32 >>> ((6 : Int32) &&& 31).toUInt32).toInt32), vI 1, vU, vU] [(.ref ta)]) _
      refine XS.iloadN X62.here hx rfl (hb hby d5_27) rfl ?_
      exact kt))
    obtain ⟨c63, Ar63, -, S63, N63, H63, -⟩ := id G5
    have q65 := fun t (kt : Go p e below T62 (mkF m 32 #[vR a1, vI p2, vI ((p2.toUInt32 >>> ((6 : Int32) &&& 31).toUInt32).toInt32), vI 1, vJ w1, vS] [(.ref a1)]) t) => q64 t (by
      show Go _ _ _ _ (mkF m 28 #[vR a1, vI p2, vI ((p2.toUInt32 >>> ((6 : Int32) &&& 31).toUInt32).toInt32), vI 1, vU, vU] [(.int 1), (.ref ta)]) _
      refine X62.laload hx (j := (1 : Int32)) (v := (.long w1)) (by rw [e62]; exact Ar63.1) (State.isArrayOf_alike hZ.alike Ar63.2.1) Ar63.2.2 (inb_of S63 ⟨by decide, by decide⟩) (Has.at H63 (inb_of S63 ⟨by decide, by decide⟩) rfl) (g := (mkF m 28 #[vR a1, vI p2, vI ((p2.toUInt32 >>> ((6 : Int32) &&& 31).toUInt32).toInt32), vI 1, vU, vU] [(.int 1), (.ref ta)])) rfl rfl (hb hby d5_28) _ ?_
      show Go _ _ _ _ (mkF m 29 _ [(.long w1)]) _
      refine XS.lstore X62.here hx rfl (hb hby d5_29) rfl (l' := #[vR a1, vI p2, vI ((p2.toUInt32 >>> ((6 : Int32) &&& 31).toUInt32).toInt32), vI 1, vJ w1, vS]) rfl ?_
      show Go _ _ _ _ (mkF m 31 #[vR a1, vI p2, vI ((p2.toUInt32 >>> ((6 : Int32) &&& 31).toUInt32).toInt32), vI 1, vJ w1, vS] []) _
      refine XS.aloadN X62.here hx rfl (hb hby d5_31) rfl rfl ?_
      exact kt)
    obtain ⟨T66, X66, e66, st66⟩ := getF X62 hx hZ hown (host := "") (Or.inl (ox hw 15 rfl)) Via.refl e62 G2 (g := (mkF m 32 #[vR a1, vI p2, vI ((p2.toUInt32 >>> ((6 : Int32) &&& 31).toUInt32).toInt32), vI 1, vJ w1, vS] [(.ref a1)])) rfl rfl (hb hby d5_32)
    have q67 := fun t (kt : Go p e below T66 (mkF m 39 #[vR a1, vI p2, vI ((p2.toUInt32 >>> ((6 : Int32) &&& 31).toUInt32).toInt32), vI 1, vJ w1, vS] [(.int p2), (.long w1), (.int 1), (.ref ta)]) t) => q65 t (st66 t (by
      show Go _ _ _ _ (mkF m 35 #[vR a1, vI p2, vI ((p2.toUInt32 >>> ((6 : Int32) &&& 31).toUInt32).toInt32), vI 1, vJ w1, vS] [(.ref ta)]) _
      refine XS.iloadN X66.here hx rfl (hb hby d5_35) rfl ?_
      show Go _ _ _ _ (mkF m 36 _ [(.int 1), (.ref ta)]) _
      refine XS.lload X66.here hx rfl (hb hby d5_36) rfl ?_
      show Go _ _ _ _ (mkF m 38 _ [(.long w1), (.int 1), (.ref ta)]) _
      refine XS.iloadN X66.here hx rfl (hb hby d5_38) rfl ?_
      exact kt))
    obtain ⟨_, _, ⟨T68, L68, k68, n68⟩, -, X68, ⟨_, hQ68, l68, y68, z68⟩, st68⟩ := Jvm.LawKit.callS X66 hx (y := ym5) hown (ow hZ hw 45 rfl) (ow hZ hw 46 rfl) (ow hZ hw 2 rfl) (ow hZ hw 47 rfl) (by decide) (backOf (W := 4) (rm9 l Z a0 hw [] cx p2 h0 n0 O0 ) hZ (ox hw 47 rfl) (ox hw 2 rfl) (by decide) (by decide)) (g := (mkF m 39 #[vR a1, vI p2, vI ((p2.toUInt32 >>> ((6 : Int32) &&& 31).toUInt32).toInt32), vI 1, vJ w1, vS] [(.int p2), (.long w1), (.int 1), (.ref ta)])) rfl (by rw [hml]; rfl) (argsL := [(.int p2)]) (rest := [(.long w1), (.int 1), (.ref ta)]) (lenOf pd_5 rfl) rfl own_le0 (hb hby d5_39) (fun _ _ => ⟨rfl, e66, (by decide : 0 + 0 ≤ _), (by decide : 0 + 0 ≤ _)⟩)
    dsimp only [Pt.U, Pt.locs, Pt.cells, Pt.slots] at X68 l68 y68 z68 st68 hQ68
    subst l68 y68 z68
    obtain ⟨rfl, Nq68, eq68⟩ := hQ68
    have N69 := Fr.app N27 Nq68
    have q71 := fun t (kt : Go p e below T68 (mkF m 43 #[vR a1, vI p2, vI ((p2.toUInt32 >>> ((6 : Int32) &&& 31).toUInt32).toInt32), vI 1, vJ w1, vS] [(.long (w1 ||| (own_b p2))), (.int 1), (.ref ta)]) t) => q67 t (st68 t (by
      show Go _ _ _ _ (mkF m 42 #[vR a1, vI p2, vI ((p2.toUInt32 >>> ((6 : Int32) &&& 31).toUInt32).toInt32), vI 1, vJ w1, vS] [(.long (own_b p2)), (.long w1), (.int 1), (.ref ta)]) _
      refine XS.lor X68.here hx rfl (hb hby d5_42) rfl ?_
      exact kt))
    obtain ⟨c70, Ar70, q70, S70, N70, H70, G70⟩ := id G5
    have hi70 : ¬ ((1 : Int32) < 0 ∨ c70.slots.size ≤ ((1 : Int32)).toNatClampNeg) := inb_of S70 ⟨by decide, by decide⟩
    obtain ⟨T72, h72, X72, e72, W72, st72⟩ := stJ X68 hx hZ eq68 Ar70 (j := (1 : Int32)) hi70 (g := (mkF m 43 #[vR a1, vI p2, vI ((p2.toUInt32 >>> ((6 : Int32) &&& 31).toUInt32).toInt32), vI 1, vJ w1, vS] [(.long (w1 ||| (own_b p2))), (.int 1), (.ref ta)])) rfl rfl (hb hby d5_43)
    have V72 : Arv Z h72 ta kt .long (2 : Int32) [(.long w0), (.long (w1 ||| (own_b p2)))] (.long (0 : Int64)) := Arv.set Ar70 q70 S70 N70 H70 G70 rfl W72 1 rfl (Nat.le_of_ble_eq_true rfl)
    have N73 := Fr.snoc X72 N69 g_ta
    have O74 := O0.wr W72 g_ta
    have K75 := K0.wr W72 (Or.inl (List.mem_of_getElem? (i := 2) rfl))
    have f76 := (G2.other W72 (Or.inl n2))
    have q77 := fun t (kt : Go p e below T72 (mkF m 45 #[vR a1, vI p2, vI ((p2.toUInt32 >>> ((6 : Int32) &&& 31).toUInt32).toInt32), vI 1, vJ w1, vS] [(.ref a1)]) t) => q71 t (st72 t (by
      show Go _ _ _ _ (mkF m 44 #[vR a1, vI p2, vI ((p2.toUInt32 >>> ((6 : Int32) &&& 31).toUInt32).toInt32), vI 1, vJ w1, vS] []) _
      refine XS.aloadN X72.here hx rfl (hb hby d5_44) rfl rfl ?_
      exact kt))
    obtain ⟨T78, X78, e78, st78⟩ := getF X72 hx hZ hown (host := "") (Or.inl (ox hw 15 rfl)) Via.refl e72 f76 (g := (mkF m 45 #[vR a1, vI p2, vI ((p2.toUInt32 >>> ((6 : Int32) &&& 31).toUInt32).toInt32), vI 1, vJ w1, vS] [(.ref a1)])) rfl rfl (hb hby d5_45)
    have q80 := fun t (kt : Go p e below T78 (mkF m 49 #[vR a1, vI p2, vI ((p2.toUInt32 >>> ((6 : Int32) &&& 31).toUInt32).toInt32), vI 1, vJ w1, vS] [(.int 1), (.ref ta)]) t) => q77 t (st78 t (by
      show Go _ _ _ _ (mkF m 48 #[vR a1, vI p2, vI ((p2.toUInt32 >>> ((6 : Int32) &&& 31).toUInt32).toInt32), vI 1, vJ w1, vS] [(.ref ta)]) _
      refine XS.iloadN X78.here hx rfl (hb hby d5_48) rfl ?_
      exact kt))
    obtain ⟨c79, Ar79, -, S79, N79, H79, -⟩ := id V72
    have q81 := fun t (kt : Go p e below T78 (mkF m 53 #[vR a1, vI p2, vI ((p2.toUInt32 >>> ((6 : Int32) &&& 31).toUInt32).toInt32), vI 1, vJ w1, vS] [(.int (lcmpW (w1 ||| (own_b p2)) w1))]) t) => q80 t (by
      show Go _ _ _ _ (mkF m 49 #[vR a1, vI p2, vI ((p2.toUInt32 >>> ((6 : Int32) &&& 31).toUInt32).toInt32), vI 1, vJ w1, vS] [(.int 1), (.ref ta)]) _
      refine X78.laload hx (j := (1 : Int32)) (v := (.long (w1 ||| (own_b p2)))) (by rw [e78]; exact Ar79.1) (State.isArrayOf_alike hZ.alike Ar79.2.1) Ar79.2.2 (inb_of S79 ⟨by decide, by decide⟩) (Has.at H79 (inb_of S79 ⟨by decide, by decide⟩) rfl) (g := (mkF m 49 #[vR a1, vI p2, vI ((p2.toUInt32 >>> ((6 : Int32) &&& 31).toUInt32).toInt32), vI 1, vJ w1, vS] [(.int 1), (.ref ta)])) rfl rfl (hb hby d5_49) _ ?_
      show Go _ _ _ _ (mkF m 50 _ [(.long (w1 ||| (own_b p2)))]) _
      refine XS.lload X78.here hx rfl (hb hby d5_50) rfl ?_
      show Go _ _ _ _ (mkF m 52 _ [(.long w1), (.long (w1 ||| (own_b p2)))]) _
      refine XS.lcmp X78.here hx rfl (hb hby d5_52) rfl ?_
      exact kt)
    by_cases hc82 : (lcmpW (w1 ||| (own_b p2)) w1) = (0 : Int32)
    · have q83 := fun t (kt : Go p e below T78 (mkF m 61 #[vR a1, vI p2, vI ((p2.toUInt32 >>> ((6 : Int32) &&& 31).toUInt32).toInt32), vI 1, vJ w1, vS] [(.int 0)]) t) => q81 t (by
        show Go _ _ _ _ (mkF m 53 #[vR a1, vI p2, vI ((p2.toUInt32 >>> ((6 : Int32) &&& 31).toUInt32).toInt32), vI 1, vJ w1, vS] [(.int (lcmpW (w1 ||| (own_b p2)) w1))]) _
        refine XS.ifYes X78.here hx rfl (pc0 := 53) (pc' := 60) rfl (hb hby d5_53) rfl ((if0 _ _).trans (teq hc82).1) (by decide) (by decide) ?_
        show Go _ _ _ _ (mkF m 60 _ []) _
        refine XS.iconst X78.here hx rfl (hb hby d5_60) ?_
        exact kt)
      have f84 := (G1.other W72 (Or.inl n2))
      have f85 := (G3.other W72 (Or.inl n2))
      have f86 := (G4.other W72 n3)
      exact ⟨some (.int 0), T78, _, _, _, _, X78, by decide, by decide, nofun, q83, fun fs hr => retN X78 hx (t := .boolean) hret (by simp) (hb hby d5_61) hr, by rw [e78]; exact ⟨(2 : Int32), b, ta, kb, kt, (2 : Int32), [(.int x0), (.int x1)], [(.long w0), (.long (w1 ||| (own_b p2)))], (0 : Int32), rfl, N73, K75, f84, f76, f85, f86, V72, (Or.inl ⟨rfl, rfl, ⟨_, _, rfl⟩, _, _, rfl, (own_W_mono hW0), (own_W_or hW1 _)⟩)⟩⟩
    · have q87 := fun t (kt : Go p e below T78 (mkF m 61 #[vR a1, vI p2, vI ((p2.toUInt32 >>> ((6 : Int32) &&& 31).toUInt32).toInt32), vI 1, vJ w1, vS] [(.int 1)]) t) => q81 t (by
        show Go _ _ _ _ (mkF m 53 #[vR a1, vI p2, vI ((p2.toUInt32 >>> ((6 : Int32) &&& 31).toUInt32).toInt32), vI 1, vJ w1, vS] [(.int (lcmpW (w1 ||| (own_b p2)) w1))]) _
        refine XS.ifNo X78.here hx rfl (hb hby d5_53) rfl ((if0 _ _).trans (feq hc82).1) ?_
        show Go _ _ _ _ (mkF m 56 _ []) _
        refine XS.iconst X78.here hx rfl (hb hby d5_56) ?_
        show Go _ _ _ _ (mkF m 57 _ [(.int 1)]) _
        refine XS.goto X78.here hx rfl (pc0 := 57) (pc' := 61) rfl (hb hby d5_57) (by decide) (by decide) ?_
        exact kt)
      have f88 := (G1.other W72 (Or.inl n2))
      have f89 := (G3.other W72 (Or.inl n2))
      have f90 := (G4.other W72 n3)
      exact ⟨some (.int 1), T78, _, _, _, _, X78, by decide, by decide, nofun, q87, fun fs hr => retN X78 hx (t := .boolean) hret (by simp) (hb hby d5_61) hr, by rw [e78]; exact ⟨(2 : Int32), b, ta, kb, kt, (2 : Int32), [(.int x0), (.int x1)], [(.long w0), (.long (w1 ||| (own_b p2)))], (1 : Int32), rfl, N73, K75, f88, f76, f89, f90, V72, (Or.inl ⟨rfl, rfl, ⟨_, _, rfl⟩, _, _, rfl, (own_W_mono hW0), (own_W_or hW1 _)⟩)⟩⟩
  · skip
    have q91 := fun t (kt : Go p e below T26 (mkF m 18 #[vR a1, vI p2, vI ((p2.toUInt32 >>> ((6 : Int32) &&& 31).toUInt32).toInt32), vU, vU, vU] [(.int (-1 : Int32))]) t) => q28 t (by rw [hr_]; exact kt)
    have q92 := fun t (kt : Go p e below T26 (mkF m 69 #[vR a1, vI p2, vI ((p2.toUInt32 >>> ((6 : Int32) &&& 31).toUInt32).toInt32), vI (-1 : Int32), vU, vU] [(.int p2), (.int ((p2.toUInt32 >>> ((6 : Int32) &&& 31).toUInt32).toInt32)), (.int 0), (.ref a1)]) t) => q91 t (by
      show Go _ _ _ _ (mkF m 18 #[vR a1, vI p2, vI ((p2.toUInt32 >>> ((6 : Int32) &&& 31).toUInt32).toInt32), vU, vU, vU] [(.int (-1 : Int32))]) _
      refine XS.istoreN X26.here hx rfl (hb hby d5_18) rfl (l' := #[vR a1, vI p2, vI ((p2.toUInt32 >>> ((6 : Int32) &&& 31).toUInt32).toInt32), vI (-1 : Int32), vU, vU]) rfl ?_
      show Go _ _ _ _ (mkF m 19 #[vR a1, vI p2, vI ((p2.toUInt32 >>> ((6 : Int32) &&& 31).toUInt32).toInt32), vI (-1 : Int32), vU, vU] []) _
      refine XS.iloadN X26.here hx rfl (hb hby d5_19) rfl ?_
      show Go _ _ _ _ (mkF m 20 _ [(.int (-1 : Int32))]) _
      refine XS.ifYes X26.here hx rfl (pc0 := 20) (pc' := 62) rfl (hb hby d5_20) rfl ((if0 _ _).trans (tlt (by decide : (-1 : Int32) < (0 : Int32))).1) (by decide) (by decide) ?_
      show Go _ _ _ _ (mkF m 62 _ []) _
      refine XS.aloadN X26.here hx rfl (hb hby d5_62) rfl rfl ?_
      show Go _ _ _ _ (mkF m 63 _ [(.ref a1)]) _
      refine XS.iloadN X26.here hx rfl (hb hby d5_63) rfl ?_
      show Go _ _ _ _ (mkF m 64 _ [(.int (-1 : Int32)), (.ref a1)]) _
      refine XS.ineg X26.here hx rfl (hb hby d5_64) rfl ?_
      show Go _ _ _ _ (mkF m 65 _ [(.int 1), (.ref a1)]) _
      refine XS.iconst X26.here hx rfl (hb hby d5_65) ?_
      show Go _ _ _ _ (mkF m 66 _ [(.int 1), (.int 1), (.ref a1)]) _
      refine XS.isub X26.here hx rfl (hb hby d5_66) rfl ?_
      show Go _ _ _ _ (mkF m 67 _ [(.int 0), (.ref a1)]) _
      refine XS.iloadN X26.here hx rfl (hb hby d5_67) rfl ?_
      show Go _ _ _ _ (mkF m 68 _ [(.int ((p2.toUInt32 >>> ((6 : Int32) &&& 31).toUInt32).toInt32)), (.int 0), (.ref a1)]) _
      refine XS.iloadN X26.here hx rfl (hb hby d5_68) rfl ?_
      exact kt)
    obtain ⟨_, _, ⟨T93, L93, k93, n93⟩, -, X93, ⟨_, hQ93, l93, y93, z93⟩, st93⟩ := Jvm.LawKit.callS X26 hx (y := ym5) hown (ow hZ hw 45 rfl) (ow hZ hw 46 rfl) (ow hZ hw 2 rfl) (ow hZ hw 47 rfl) (by decide) (backOf (W := 3) (rm9 l Z a0 hw [] cx p2 h0 n0 O0 ) hZ (ox hw 47 rfl) (ox hw 2 rfl) (by decide) (by decide)) (g := (mkF m 69 #[vR a1, vI p2, vI ((p2.toUInt32 >>> ((6 : Int32) &&& 31).toUInt32).toInt32), vI (-1 : Int32), vU, vU] [(.int p2), (.int ((p2.toUInt32 >>> ((6 : Int32) &&& 31).toUInt32).toInt32)), (.int 0), (.ref a1)])) rfl (by rw [hml]; rfl) (argsL := [(.int p2)]) (rest := [(.int ((p2.toUInt32 >>> ((6 : Int32) &&& 31).toUInt32).toInt32)), (.int 0), (.ref a1)]) (lenOf pd_5 rfl) rfl own_le0 (hb hby d5_69) (fun _ _ => ⟨rfl, eq26, (by decide : 0 + 0 ≤ _), (by decide : 0 + 0 ≤ _)⟩)
    dsimp only [Pt.U, Pt.locs, Pt.cells, Pt.slots] at X93 l93 y93 z93 st93 hQ93
    subst l93 y93 z93
    obtain ⟨rfl, Nq93, eq93⟩ := hQ93
    have N94 := Fr.app N27 Nq93
    obtain ⟨cq96, q96, q96'⟩ := G0.cell
    obtain ⟨_, _, ⟨T95, L95, k95, n95⟩, -, X95, ⟨_, hQ95, l95, y95, z95⟩, st95⟩ := X93.privateBack hx (y := ym10) hown (ow hZ hw 48 rfl) (ow hZ hw 49 rfl) (mvT hZ (own_selP2 (ox hw 20 rfl) rfl (ox hw 49 rfl) (ox hw 50 rfl) (by decide))) (Cond.privateMethod_at (mvP hZ (ox hw 50 rfl) (args := #[]))) (ow hZ hw 51 rfl) (by decide) (backOf (W := 0) (rm10_2_0 l Z a0 hw [] cx a1 b ta kb kt x0 x1 w0 w1 ((p2.toUInt32 >>> ((6 : Int32) &&& 31).toUInt32).toInt32) (own_b p2) h0 n0 O0 G0 G1 G2 G3 G4 G5 g_a1 g_b g_ta n1 n2 n3) hZ (ox hw 51 rfl) (ox hw 2 rfl) (by decide) (by decide)) (g := (mkF m 72 #[vR a1, vI p2, vI ((p2.toUInt32 >>> ((6 : Int32) &&& 31).toUInt32).toInt32), vI (-1 : Int32), vU, vU] [(.long (own_b p2)), (.int ((p2.toUInt32 >>> ((6 : Int32) &&& 31).toUInt32).toInt32)), (.int 0), (.ref a1)])) rfl (by rw [hml]; rfl) (Steps.refl _) (a := a1) (by rw [eq93]; exact q96) q96' (argsL := [(.int 0), (.int ((p2.toUInt32 >>> ((6 : Int32) &&& 31).toUInt32).toInt32)), (.long (own_b p2))]) (rest := []) (lenOf pd_6 rfl) rfl own_le0 (hb hby d5_72) (fun _ _ => ⟨rfl, eq93, (by decide : 0 + 2 ≤ _), (by decide : 0 + 8 ≤ _)⟩)
    dsimp only [Pt.U, Pt.locs, Pt.cells, Pt.slots] at X95 l95 y95 z95 st95 hQ95
    subst l95 y95 z95
    obtain ⟨bb_95, tt_95, kbb_95, ktt_95, rfl, Nq95, Kq95, fr95_0, fr95_1, fq95_0, fq95_1, fq95_2, fq95_3, fq95_4⟩ := hQ95
    have N97 := Fr.app N94 Nq95
    have gg98 : n0 ≤ bb_95 := Nat.le_trans (O0.1 ▸ O0.2.1) fr95_0
    have sz99 : h0.size ≤ bb_95 := Nat.le_trans K0.1 fr95_0
    have gg100 : n0 ≤ tt_95 := Nat.le_trans (O0.1 ▸ O0.2.1) fr95_1
    have sz101 : h0.size ≤ tt_95 := Nat.le_trans K0.1 fr95_1
    have O102 := O0.keep Kq95 (allS g_a1 all0)
    have K103 := K0.trans Kq95 (allS (Or.inl (List.mem_of_getElem? (i := 0) rfl)) all0)
    have q104 := fun t (kt : Go p e below T95 (mkF m 76 #[vR a1, vI p2, vI ((p2.toUInt32 >>> ((6 : Int32) &&& 31).toUInt32).toInt32), vI (-1 : Int32), vU, vU] [(.int 1)]) t) => q92 t (st93 t (st95.trans (by
      show Go _ _ _ _ (mkF m 75 #[vR a1, vI p2, vI ((p2.toUInt32 >>> ((6 : Int32) &&& 31).toUInt32).toInt32), vI (-1 : Int32), vU, vU] []) _
      refine XS.iconst X95.here hx rfl (hb hby d5_75) ?_
      exact kt)))
    exact ⟨some (.int 1), T95, _, _, _, _, X95, by decide, by decide, nofun, q104, fun fs hr => retN X95 hx (t := .boolean) hret (by simp) (hb hby d5_76) hr, ⟨(3 : Int32), bb_95, tt_95, kbb_95, ktt_95, (4 : Int32), [(.int ((p2.toUInt32 >>> ((6 : Int32) &&& 31).toUInt32).toInt32)), (.int x0), (.int x1), (.int 0)], [(.long (own_b p2)), (.long w0), (.long w1), (.long (0 : Int64))], (1 : Int32), rfl, N97, K103, fq95_0, fq95_1, fq95_2, fq95_3, fq95_4, (Or.inr ⟨rfl, rfl, ⟨_, _, _, rfl⟩, _, _, _, rfl, (own_W_1 _), hW0, hW1⟩)⟩⟩
  · skip
    have q105 := fun t (kt : Go p e below T26 (mkF m 18 #[vR a1, vI p2, vI ((p2.toUInt32 >>> ((6 : Int32) &&& 31).toUInt32).toInt32), vU, vU, vU] [(.int (-2 : Int32))]) t) => q28 t (by rw [hr_]; exact kt)
    have q106 := fun t (kt : Go p e below T26 (mkF m 69 #[vR a1, vI p2, vI ((p2.toUInt32 >>> ((6 : Int32) &&& 31).toUInt32).toInt32), vI (-2 : Int32), vU, vU] [(.int p2), (.int ((p2.toUInt32 >>> ((6 : Int32) &&& 31).toUInt32).toInt32)), (.int 1), (.ref a1)]) t) => q105 t (by
      show Go _ _ _ _ (mkF m 18 #[vR a1, vI p2, vI ((p2.toUInt32 >>> ((6 : Int32) &&& 31).toUInt32).toInt32), vU, vU, vU] [(.int (-2 : Int32))]) _
      refine XS.istoreN X26.here hx rfl (hb hby d5_18) rfl (l' := #[vR a1, vI p2, vI ((p2.toUInt32 >>> ((6 : Int32) &&& 31).toUInt32).toInt32), vI (-2 : Int32), vU, vU]) rfl ?_
      show Go _ _ _ _ (mkF m 19 #[vR a1, vI p2, vI ((p2.toUInt32 >>> ((6 : Int32) &&& 31).toUInt32).toInt32), vI (-2 : Int32), vU, vU] []) _
      refine XS.iloadN X26.here hx rfl (hb hby d5_19) rfl ?_
      show Go _ _ _ _ (mkF m 20 _ [(.int (-2 : Int32))]) _
      refine XS.ifYes X26.here hx rfl (pc0 := 20) (pc' := 62) rfl (hb hby d5_20) rfl ((if0 _ _).trans (tlt (by decide : (-2 : Int32) < (0 : Int32))).1) (by decide) (by decide) ?_
      show Go _ _ _ _ (mkF m 62 _ []) _
      refine XS.aloadN X26.here hx rfl (hb hby d5_62) rfl rfl ?_
      show Go _ _ _ _ (mkF m 63 _ [(.ref a1)]) _
      refine XS.iloadN X26.here hx rfl (hb hby d5_63) rfl ?_
      show Go _ _ _ _ (mkF m 64 _ [(.int (-2 : Int32)), (.ref a1)]) _
      refine XS.ineg X26.here hx rfl (hb hby d5_64) rfl ?_
      show Go _ _ _ _ (mkF m 65 _ [(.int 2), (.ref a1)]) _
      refine XS.iconst X26.here hx rfl (hb hby d5_65) ?_
      show Go _ _ _ _ (mkF m 66 _ [(.int 1), (.int 2), (.ref a1)]) _
      refine XS.isub X26.here hx rfl (hb hby d5_66) rfl ?_
      show Go _ _ _ _ (mkF m 67 _ [(.int 1), (.ref a1)]) _
      refine XS.iloadN X26.here hx rfl (hb hby d5_67) rfl ?_
      show Go _ _ _ _ (mkF m 68 _ [(.int ((p2.toUInt32 >>> ((6 : Int32) &&& 31).toUInt32).toInt32)), (.int 1), (.ref a1)]) _
      refine XS.iloadN X26.here hx rfl (hb hby d5_68) rfl ?_
      exact kt)
    obtain ⟨_, _, ⟨T107, L107, k107, n107⟩, -, X107, ⟨_, hQ107, l107, y107, z107⟩, st107⟩ := Jvm.LawKit.callS X26 hx (y := ym5) hown (ow hZ hw 45 rfl) (ow hZ hw 46 rfl) (ow hZ hw 2 rfl) (ow hZ hw 47 rfl) (by decide) (backOf (W := 3) (rm9 l Z a0 hw [] cx p2 h0 n0 O0 ) hZ (ox hw 47 rfl) (ox hw 2 rfl) (by decide) (by decide)) (g := (mkF m 69 #[vR a1, vI p2, vI ((p2.toUInt32 >>> ((6 : Int32) &&& 31).toUInt32).toInt32), vI (-2 : Int32), vU, vU] [(.int p2), (.int ((p2.toUInt32 >>> ((6 : Int32) &&& 31).toUInt32).toInt32)), (.int 1), (.ref a1)])) rfl (by rw [hml]; rfl) (argsL := [(.int p2)]) (rest := [(.int ((p2.toUInt32 >>> ((6 : Int32) &&& 31).toUInt32).toInt32)), (.int 1), (.ref a1)]) (lenOf pd_5 rfl) rfl own_le0 (hb hby d5_69) (fun _ _ => ⟨rfl, eq26, (by decide : 0 + 0 ≤ _), (by decide : 0 + 0 ≤ _)⟩)
    dsimp only [Pt.U, Pt.locs, Pt.cells, Pt.slots] at X107 l107 y107 z107 st107 hQ107
    subst l107 y107 z107
    obtain ⟨rfl, Nq107, eq107⟩ := hQ107
    have N108 := Fr.app N27 Nq107
    obtain ⟨cq110, q110, q110'⟩ := G0.cell
    obtain ⟨_, _, ⟨T109, L109, k109, n109⟩, -, X109, ⟨_, hQ109, l109, y109, z109⟩, st109⟩ := X107.privateBack hx (y := ym10) hown (ow hZ hw 48 rfl) (ow hZ hw 49 rfl) (mvT hZ (own_selP2 (ox hw 20 rfl) rfl (ox hw 49 rfl) (ox hw 50 rfl) (by decide))) (Cond.privateMethod_at (mvP hZ (ox hw 50 rfl) (args := #[]))) (ow hZ hw 51 rfl) (by decide) (backOf (W := 0) (rm10_2_1 l Z a0 hw [] cx a1 b ta kb kt x0 x1 w0 w1 ((p2.toUInt32 >>> ((6 : Int32) &&& 31).toUInt32).toInt32) (own_b p2) h0 n0 O0 G0 G1 G2 G3 G4 G5 g_a1 g_b g_ta n1 n2 n3) hZ (ox hw 51 rfl) (ox hw 2 rfl) (by decide) (by decide)) (g := (mkF m 72 #[vR a1, vI p2, vI ((p2.toUInt32 >>> ((6 : Int32) &&& 31).toUInt32).toInt32), vI (-2 : Int32), vU, vU] [(.long (own_b p2)), (.int ((p2.toUInt32 >>> ((6 : Int32) &&& 31).toUInt32).toInt32)), (.int 1), (.ref a1)])) rfl (by rw [hml]; rfl) (Steps.refl _) (a := a1) (by rw [eq107]; exact q110) q110' (argsL := [(.int 1), (.int ((p2.toUInt32 >>> ((6 : Int32) &&& 31).toUInt32).toInt32)), (.long (own_b p2))]) (rest := []) (lenOf pd_6 rfl) rfl own_le0 (hb hby d5_72) (fun _ _ => ⟨rfl, eq107, (by decide : 0 + 2 ≤ _), (by decide : 0 + 8 ≤ _)⟩)
    dsimp only [Pt.U, Pt.locs, Pt.cells, Pt.slots] at X109 l109 y109 z109 st109 hQ109
    subst l109 y109 z109
    obtain ⟨bb_109, tt_109, kbb_109, ktt_109, rfl, Nq109, Kq109, fr109_0, fr109_1, fq109_0, fq109_1, fq109_2, fq109_3, fq109_4⟩ := hQ109
    have N111 := Fr.app N108 Nq109
    have gg112 : n0 ≤ bb_109 := Nat.le_trans (O0.1 ▸ O0.2.1) fr109_0
    have sz113 : h0.size ≤ bb_109 := Nat.le_trans K0.1 fr109_0
    have gg114 : n0 ≤ tt_109 := Nat.le_trans (O0.1 ▸ O0.2.1) fr109_1
    have sz115 : h0.size ≤ tt_109 := Nat.le_trans K0.1 fr109_1
    have O116 := O0.keep Kq109 (allS g_a1 all0)
    have K117 := K0.trans Kq109 (allS (Or.inl (List.mem_of_getElem? (i := 0) rfl)) all0)
    have q118 := fun t (kt : Go p e below T109 (mkF m 76 #[vR a1, vI p2, vI ((p2.toUInt32 >>> ((6 : Int32) &&& 31).toUInt32).toInt32), vI (-2 : Int32), vU, vU] [(.int 1)]) t) => q106 t (st107 t (st109.trans (by
      show Go _ _ _ _ (mkF m 75 #[vR a1, vI p2, vI ((p2.toUInt32 >>> ((6 : Int32) &&& 31).toUInt32).toInt32), vI (-2 : Int32), vU, vU] []) _
      refine XS.iconst X109.here hx rfl (hb hby d5_75) ?_
      exact kt)))
    exact ⟨some (.int 1), T109, _, _, _, _, X109, by decide, by decide, nofun, q118, fun fs hr => retN X109 hx (t := .boolean) hret (by simp) (hb hby d5_76) hr, ⟨(3 : Int32), bb_109, tt_109, kbb_109, ktt_109, (4 : Int32), [(.int x0), (.int ((p2.toUInt32 >>> ((6 : Int32) &&& 31).toUInt32).toInt32)), (.int x1), (.int 0)], [(.long w0), (.long (own_b p2)), (.long w1), (.long (0 : Int64))], (1 : Int32), rfl, N111, K117, fq109_0, fq109_1, fq109_2, fq109_3, fq109_4, (Or.inr ⟨rfl, rfl, ⟨_, _, _, rfl⟩, _, _, _, rfl, hW0, (own_W_1 _), hW1⟩)⟩⟩
  · skip
    have q119 := fun t (kt : Go p e below T26 (mkF m 18 #[vR a1, vI p2, vI ((p2.toUInt32 >>> ((6 : Int32) &&& 31).toUInt32).toInt32), vU, vU, vU] [(.int (-3 : Int32))]) t) => q28 t (by rw [hr_]; exact kt)
    have q120 := fun t (kt : Go p e below T26 (mkF m 69 #[vR a1, vI p2, vI ((p2.toUInt32 >>> ((6 : Int32) &&& 31).toUInt32).toInt32), vI (-3 : Int32), vU, vU] [(.int p2), (.int ((p2.toUInt32 >>> ((6 : Int32) &&& 31).toUInt32).toInt32)), (.int 2), (.ref a1)]) t) => q119 t (by
      show Go _ _ _ _ (mkF m 18 #[vR a1, vI p2, vI ((p2.toUInt32 >>> ((6 : Int32) &&& 31).toUInt32).toInt32), vU, vU, vU] [(.int (-3 : Int32))]) _
      refine XS.istoreN X26.here hx rfl (hb hby d5_18) rfl (l' := #[vR a1, vI p2, vI ((p2.toUInt32 >>> ((6 : Int32) &&& 31).toUInt32).toInt32), vI (-3 : Int32), vU, vU]) rfl ?_
      show Go _ _ _ _ (mkF m 19 #[vR a1, vI p2, vI ((p2.toUInt32 >>> ((6 : Int32) &&& 31).toUInt32).toInt32), vI (-3 : Int32), vU, vU] []) _
      refine XS.iloadN X26.here hx rfl (hb hby d5_19) rfl ?_
      show Go _ _ _ _ (mkF m 20 _ [(.int (-3 : Int32))]) _
      refine XS.ifYes X26.here hx rfl (pc0 := 20) (pc' := 62) rfl (hb hby d5_20) rfl ((if0 _ _).trans (tlt (by decide : (-3 : Int32) < (0 : Int32))).1) (by decide) (by decide) ?_
      show Go _ _ _ _ (mkF m 62 _ []) _
      refine XS.aloadN X26.here hx rfl (hb hby d5_62) rfl rfl ?_
      show Go _ _ _ _ (mkF m 63 _ [(.ref a1)]) _
      refine XS.iloadN X26.here hx rfl (hb hby d5_63) rfl ?_
      show Go _ _ _ _ (mkF m 64 _ [(.int (-3 : Int32)), (.ref a1)]) _
      refine XS.ineg X26.here hx rfl (hb hby d5_64) rfl ?_
      show Go _ _ _ _ (mkF m 65 _ [(.int 3), (.ref a1)]) _
      refine XS.iconst X26.here hx rfl (hb hby d5_65) ?_
      show Go _ _ _ _ (mkF m 66 _ [(.int 1), (.int 3), (.ref a1)]) _
      refine XS.isub X26.here hx rfl (hb hby d5_66) rfl ?_
      show Go _ _ _ _ (mkF m 67 _ [(.int 2), (.ref a1)]) _
      refine XS.iloadN X26.here hx rfl (hb hby d5_67) rfl ?_
      show Go _ _ _ _ (mkF m 68 _ [(.int ((p2.toUInt32 >>> ((6 : Int32) &&& 31).toUInt32).toInt32)), (.int 2), (.ref a1)]) _
      refine XS.iloadN X26.here hx rfl (hb hby d5_68) rfl ?_
      exact kt)
    obtain ⟨_, _, ⟨T121, L121, k121, n121⟩, -, X121, ⟨_, hQ121, l121, y121, z121⟩, st121⟩ := Jvm.LawKit.callS X26 hx (y := ym5) hown (ow hZ hw 45 rfl) (ow hZ hw 46 rfl) (ow hZ hw 2 rfl) (ow hZ hw 47 rfl) (by decide) (backOf (W := 3) (rm9 l Z a0 hw [] cx p2 h0 n0 O0 ) hZ (ox hw 47 rfl) (ox hw 2 rfl) (by decide) (by decide)) (g := (mkF m 69 #[vR a1, vI p2, vI ((p2.toUInt32 >>> ((6 : Int32) &&& 31).toUInt32).toInt32), vI (-3 : Int32), vU, vU] [(.int p2), (.int ((p2.toUInt32 >>> ((6 : Int32) &&& 31).toUInt32).toInt32)), (.int 2), (.ref a1)])) rfl (by rw [hml]; rfl) (argsL := [(.int p2)]) (rest := [(.int ((p2.toUInt32 >>> ((6 : Int32) &&& 31).toUInt32).toInt32)), (.int 2), (.ref a1)]) (lenOf pd_5 rfl) rfl own_le0 (hb hby d5_69) (fun _ _ => ⟨rfl, eq26, (by decide : 0 + 0 ≤ _), (by decide : 0 + 0 ≤ _)⟩)
    dsimp only [Pt.U, Pt.locs, Pt.cells, Pt.slots] at X121 l121 y121 z121 st121 hQ121
    subst l121 y121 z121
    obtain ⟨rfl, Nq121, eq121⟩ := hQ121
    have N122 := Fr.app N27 Nq121
    obtain ⟨cq124, q124, q124'⟩ := G0.cell
    obtain ⟨_, _, ⟨T123, L123, k123, n123⟩, -, X123, ⟨_, hQ123, l123, y123, z123⟩, st123⟩ := X121.privateBack hx (y := ym10) hown (ow hZ hw 48 rfl) (ow hZ hw 49 rfl) (mvT hZ (own_selP2 (ox hw 20 rfl) rfl (ox hw 49 rfl) (ox hw 50 rfl) (by decide))) (Cond.privateMethod_at (mvP hZ (ox hw 50 rfl) (args := #[]))) (ow hZ hw 51 rfl) (by decide) (backOf (W := 0) (rm10_2_2 l Z a0 hw [] cx a1 b ta kb kt x0 x1 w0 w1 ((p2.toUInt32 >>> ((6 : Int32) &&& 31).toUInt32).toInt32) (own_b p2) h0 n0 O0 G0 G1 G2 G3 G4 G5 g_a1 g_b g_ta n1 n2 n3) hZ (ox hw 51 rfl) (ox hw 2 rfl) (by decide) (by decide)) (g := (mkF m 72 #[vR a1, vI p2, vI ((p2.toUInt32 >>> ((6 : Int32) &&& 31).toUInt32).toInt32), vI (-3 : Int32), vU, vU] [(.long (own_b p2)), (.int ((p2.toUInt32 >>> ((6 : Int32) &&& 31).toUInt32).toInt32)), (.int 2), (.ref a1)])) rfl (by rw [hml]; rfl) (Steps.refl _) (a := a1) (by rw [eq121]; exact q124) q124' (argsL := [(.int 2), (.int ((p2.toUInt32 >>> ((6 : Int32) &&& 31).toUInt32).toInt32)), (.long (own_b p2))]) (rest := []) (lenOf pd_6 rfl) rfl own_le0 (hb hby d5_72) (fun _ _ => ⟨rfl, eq121, (by decide : 0 + 2 ≤ _), (by decide : 0 + 8 ≤ _)⟩)
    dsimp only [Pt.U, Pt.locs, Pt.cells, Pt.slots] at X123 l123 y123 z123 st123 hQ123
    subst l123 y123 z123
    obtain ⟨bb_123, tt_123, kbb_123, ktt_123, rfl, Nq123, Kq123, fr123_0, fr123_1, fq123_0, fq123_1, fq123_2, fq123_3, fq123_4⟩ := hQ123
    have N125 := Fr.app N122 Nq123
    have gg126 : n0 ≤ bb_123 := Nat.le_trans (O0.1 ▸ O0.2.1) fr123_0
    have sz127 : h0.size ≤ bb_123 := Nat.le_trans K0.1 fr123_0
    have gg128 : n0 ≤ tt_123 := Nat.le_trans (O0.1 ▸ O0.2.1) fr123_1
    have sz129 : h0.size ≤ tt_123 := Nat.le_trans K0.1 fr123_1
    have O130 := O0.keep Kq123 (allS g_a1 all0)
    have K131 := K0.trans Kq123 (allS (Or.inl (List.mem_of_getElem? (i := 0) rfl)) all0)
    have q132 := fun t (kt : Go p e below T123 (mkF m 76 #[vR a1, vI p2, vI ((p2.toUInt32 >>> ((6 : Int32) &&& 31).toUInt32).toInt32), vI (-3 : Int32), vU, vU] [(.int 1)]) t) => q120 t (st121 t (st123.trans (by
      show Go _ _ _ _ (mkF m 75 #[vR a1, vI p2, vI ((p2.toUInt32 >>> ((6 : Int32) &&& 31).toUInt32).toInt32), vI (-3 : Int32), vU, vU] []) _
      refine XS.iconst X123.here hx rfl (hb hby d5_75) ?_
      exact kt)))
    exact ⟨some (.int 1), T123, _, _, _, _, X123, by decide, by decide, nofun, q132, fun fs hr => retN X123 hx (t := .boolean) hret (by simp) (hb hby d5_76) hr, ⟨(3 : Int32), bb_123, tt_123, kbb_123, ktt_123, (4 : Int32), [(.int x0), (.int x1), (.int ((p2.toUInt32 >>> ((6 : Int32) &&& 31).toUInt32).toInt32)), (.int 0)], [(.long w0), (.long w1), (.long (own_b p2)), (.long (0 : Int64))], (1 : Int32), rfl, N125, K131, fq123_0, fq123_1, fq123_2, fq123_3, fq123_4, (Or.inr ⟨rfl, rfl, ⟨_, _, _, rfl⟩, _, _, _, rfl, hW0, hW1, (own_W_1 _)⟩)⟩⟩
theorem ef_15_J (m : MethodId) (x0 : Int64) : entryFrame m #[(.long x0)] 2 = mkF m 0 #[.val (.long x0), .second] [] := by first | (simp [entryFrame, mkF, argsToLocals, Value.category]; done) | rfl
theorem pn_15 : plainName "java/lang/Long" = true := by first | (simp [plainName, overriddenIn]; done) | decide +kernel
theorem d15_0 : decode jdk_35_method_50_code 0 = .ok (.lload_n 0, 1) := by decide +kernel
theorem d15_1 : decode jdk_35_method_50_code 1 = .ok (.lload_n 0, 1) := by decide +kernel
theorem d15_2 : decode jdk_35_method_50_code 2 = .ok (.iconst 1, 1) := by decide +kernel
theorem d15_3 : decode jdk_35_method_50_code 3 = .ok (.lushr, 1) := by decide +kernel
theorem d15_4 : decode jdk_35_method_50_code 4 = .ok (.ldc2_w 314, 3) := by decide +kernel
theorem d15_7 : decode jdk_35_method_50_code 7 = .ok (.land, 1) := by decide +kernel
theorem d15_8 : decode jdk_35_method_50_code 8 = .ok (.lsub, 1) := by decide +kernel
theorem d15_9 : decode jdk_35_method_50_code 9 = .ok (.lstore_n 0, 1) := by decide +kernel
theorem d15_10 : decode jdk_35_method_50_code 10 = .ok (.lload_n 0, 1) := by decide +kernel
theorem d15_11 : decode jdk_35_method_50_code 11 = .ok (.ldc2_w 316, 3) := by decide +kernel
theorem d15_14 : decode jdk_35_method_50_code 14 = .ok (.land, 1) := by decide +kernel
theorem d15_15 : decode jdk_35_method_50_code 15 = .ok (.lload_n 0, 1) := by decide +kernel
theorem d15_16 : decode jdk_35_method_50_code 16 = .ok (.iconst 2, 1) := by decide +kernel
theorem d15_17 : decode jdk_35_method_50_code 17 = .ok (.lushr, 1) := by decide +kernel
theorem d15_18 : decode jdk_35_method_50_code 18 = .ok (.ldc2_w 316, 3) := by decide +kernel
theorem d15_21 : decode jdk_35_method_50_code 21 = .ok (.land, 1) := by decide +kernel
theorem d15_22 : decode jdk_35_method_50_code 22 = .ok (.ladd, 1) := by decide +kernel
theorem d15_23 : decode jdk_35_method_50_code 23 = .ok (.lstore_n 0, 1) := by decide +kernel
theorem d15_24 : decode jdk_35_method_50_code 24 = .ok (.lload_n 0, 1) := by decide +kernel
theorem d15_25 : decode jdk_35_method_50_code 25 = .ok (.lload_n 0, 1) := by decide +kernel
theorem d15_26 : decode jdk_35_method_50_code 26 = .ok (.iconst 4, 1) := by decide +kernel
theorem d15_27 : decode jdk_35_method_50_code 27 = .ok (.lushr, 1) := by decide +kernel
theorem d15_28 : decode jdk_35_method_50_code 28 = .ok (.ladd, 1) := by decide +kernel
theorem d15_29 : decode jdk_35_method_50_code 29 = .ok (.ldc2_w 318, 3) := by decide +kernel
theorem d15_32 : decode jdk_35_method_50_code 32 = .ok (.land, 1) := by decide +kernel
theorem d15_33 : decode jdk_35_method_50_code 33 = .ok (.lstore_n 0, 1) := by decide +kernel
theorem d15_34 : decode jdk_35_method_50_code 34 = .ok (.lload_n 0, 1) := by decide +kernel
theorem d15_35 : decode jdk_35_method_50_code 35 = .ok (.lload_n 0, 1) := by decide +kernel
theorem d15_36 : decode jdk_35_method_50_code 36 = .ok (.bipush 8, 2) := by decide +kernel
theorem d15_38 : decode jdk_35_method_50_code 38 = .ok (.lushr, 1) := by decide +kernel
theorem d15_39 : decode jdk_35_method_50_code 39 = .ok (.ladd, 1) := by decide +kernel
theorem d15_40 : decode jdk_35_method_50_code 40 = .ok (.lstore_n 0, 1) := by decide +kernel
theorem d15_41 : decode jdk_35_method_50_code 41 = .ok (.lload_n 0, 1) := by decide +kernel
theorem d15_42 : decode jdk_35_method_50_code 42 = .ok (.lload_n 0, 1) := by decide +kernel
theorem d15_43 : decode jdk_35_method_50_code 43 = .ok (.bipush 16, 2) := by decide +kernel
theorem d15_45 : decode jdk_35_method_50_code 45 = .ok (.lushr, 1) := by decide +kernel
theorem d15_46 : decode jdk_35_method_50_code 46 = .ok (.ladd, 1) := by decide +kernel
theorem d15_47 : decode jdk_35_method_50_code 47 = .ok (.lstore_n 0, 1) := by decide +kernel
theorem d15_48 : decode jdk_35_method_50_code 48 = .ok (.lload_n 0, 1) := by decide +kernel
theorem d15_49 : decode jdk_35_method_50_code 49 = .ok (.lload_n 0, 1) := by decide +kernel
theorem d15_50 : decode jdk_35_method_50_code 50 = .ok (.bipush 32, 2) := by decide +kernel
theorem d15_52 : decode jdk_35_method_50_code 52 = .ok (.lushr, 1) := by decide +kernel
theorem d15_53 : decode jdk_35_method_50_code 53 = .ok (.ladd, 1) := by decide +kernel
theorem d15_54 : decode jdk_35_method_50_code 54 = .ok (.lstore_n 0, 1) := by decide +kernel
theorem d15_55 : decode jdk_35_method_50_code 55 = .ok (.lload_n 0, 1) := by decide +kernel
theorem d15_56 : decode jdk_35_method_50_code 56 = .ok (.l2i, 1) := by decide +kernel
theorem d15_57 : decode jdk_35_method_50_code 57 = .ok (.bipush 127, 2) := by decide +kernel
theorem d15_59 : decode jdk_35_method_50_code 59 = .ok (.iand, 1) := by decide +kernel
theorem d15_60 : decode jdk_35_method_50_code 60 = .ok (.ireturn, 1) := by decide +kernel
def Q_rm15 (Z : State) (xq : Int64) (cw : Nat → Nat) (h0 : Heap) (n0 : Nat) (v : Option Value) (h : Heap) (L : List Loc) : Prop := v = some (.int (own_bc xq)) ∧ Fr n0 L ∧ h = h0
theorem rm15 (l : Launch) (Z : State) (a0 : Array Value) (hw : ∀ d ∈ tables_1, d.before a0 Z = true) (ws : List Jvm.Cond) {cw : Nat → Nat} (cx : Cx Z cw) (xq : Int64) (h0 : Heap) (n0 : Nat) (O0 : Old Z n0 h0) :
    OwnMet l ym12 (Jvm.Cond.code ym12 jdk_35_method_50_code 2 (some .int) :: ws) (own_R 0 0 0 0) #[(.long xq)] Z h0 (Q_rm15 Z xq cw h0 n0) := by
  refine own_body (plainFor_of_name pn_15) hisR fun p e s m below meth c s₁ hx hby hml hown hnm hret hZ X0 e0 => ?_
  have N0 := Fr.nil n0
  have pre0 : ∀ t, Go p e below s₁ (mkF m 0 #[vJ xq, vS] []) t → Go p e below s₁ (entryFrame m #[(.long xq)] 2) t := fun t k => castTop (ef_15_J m xq) k
  have q21 := fun t (kt : Go p e below s₁ (mkF m 9 #[vJ xq, vS] [(.long (xq - (((xq.toUInt64 >>> ((1 : Int32) &&& 0x3f).toInt64.toUInt64).toInt64) &&& (6148914691236517205 : Int64))))]) t) => pre0 t (by
    show Go _ _ _ _ (mkF m 0 #[vJ xq, vS] []) _
    refine XS.lloadN X0.here hx rfl (hb hby d15_0) rfl ?_
    show Go _ _ _ _ (mkF m 1 _ [(.long xq)]) _
    refine XS.lloadN X0.here hx rfl (hb hby d15_1) rfl ?_
    show Go _ _ _ _ (mkF m 2 _ [(.long xq), (.long xq)]) _
    refine XS.iconst X0.here hx rfl (hb hby d15_2) ?_
    show Go _ _ _ _ (mkF m 3 _ [(.int 1), (.long xq), (.long xq)]) _
    refine XS.lushr X0.here hx rfl (hb hby d15_3) rfl ?_
    show Go _ _ _ _ (mkF m 4 _ [(.long ((xq.toUInt64 >>> ((1 : Int32) &&& 0x3f).toInt64.toUInt64).toInt64)), (.long xq)]) _
    refine X0.ldc2Long hx hown (ow hZ hw 75 rfl) (g := (mkF m 4 #[vJ xq, vS] [(.long ((xq.toUInt64 >>> ((1 : Int32) &&& 0x3f).toInt64.toUInt64).toInt64)), (.long xq)])) rfl (hb hby d15_4) _ ?_
    show Go _ _ _ _ (mkF m 7 _ [(.long (6148914691236517205 : Int64)), (.long ((xq.toUInt64 >>> ((1 : Int32) &&& 0x3f).toInt64.toUInt64).toInt64)), (.long xq)]) _
    refine XS.land X0.here hx rfl (hb hby d15_7) rfl ?_
    show Go _ _ _ _ (mkF m 8 _ [(.long (((xq.toUInt64 >>> ((1 : Int32) &&& 0x3f).toInt64.toUInt64).toInt64) &&& (6148914691236517205 : Int64))), (.long xq)]) _
    refine XS.lsub X0.here hx rfl (hb hby d15_8) rfl ?_
    exact kt)
  have q22 := fun t (kt : Go p e below s₁ (mkF m 9 #[vJ xq, vS] [(.long (own_c1 xq))]) t) => q21 t (by rw [(show (xq - (((xq.toUInt64 >>> ((1 : Int32) &&& 0x3f).toInt64.toUInt64).toInt64) &&& (6148914691236517205 : Int64))) = (own_c1 xq) from rfl)]; exact kt)
  have q23 := fun t (kt : Go p e below s₁ (mkF m 23 #[vJ (own_c1 xq), vS] [(.long (((own_c1 xq) &&& (3689348814741910323 : Int64)) + ((((own_c1 xq).toUInt64 >>> ((2 : Int32) &&& 0x3f).toInt64.toUInt64).toInt64) &&& (3689348814741910323 : Int64))))]) t) => q22 t (by
    show Go _ _ _ _ (mkF m 9 #[vJ xq, vS] [(.long (own_c1 xq))]) _
    refine XS.lstoreN X0.here hx rfl (hb hby d15_9) rfl (l' := #[vJ (own_c1 xq), vS]) rfl ?_
    show Go _ _ _ _ (mkF m 10 #[vJ (own_c1 xq), vS] []) _
    refine XS.lloadN X0.here hx rfl (hb hby d15_10) rfl ?_
    show Go _ _ _ _ (mkF m 11 _ [(.long (own_c1 xq))]) _
    refine X0.ldc2Long hx hown (ow hZ hw 76 rfl) (g := (mkF m 11 #[vJ (own_c1 xq), vS] [(.long (own_c1 xq))])) rfl (hb hby d15_11) _ ?_
    show Go _ _ _ _ (mkF m 14 _ [(.long (3689348814741910323 : Int64)), (.long (own_c1 xq))]) _
    refine XS.land X0.here hx rfl (hb hby d15_14) rfl ?_
    show Go _ _ _ _ (mkF m 15 _ [(.long ((own_c1 xq) &&& (3689348814741910323 : Int64)))]) _
    refine XS.lloadN X0.here hx rfl (hb hby d15_15) rfl ?_
    show Go _ _ _ _ (mkF m 16 _ [(.long (own_c1 xq)), (.long ((own_c1 xq) &&& (3689348814741910323 : Int64)))]) _
    refine XS.iconst X0.here hx rfl (hb hby d15_16) ?_
    show Go _ _ _ _ (mkF m 17 _ [(.int 2), (.long (own_c1 xq)), (.long ((own_c1 xq) &&& (3689348814741910323 : Int64)))]) _
    refine XS.lushr X0.here hx rfl (hb hby d15_17) rfl ?_
    show Go _ _ _ _ (mkF m 18 _ [(.long (((own_c1 xq).toUInt64 >>> ((2 : Int32) &&& 0x3f).toInt64.toUInt64).toInt64)), (.long ((own_c1 xq) &&& (3689348814741910323 : Int64)))]) _
    refine X0.ldc2Long hx hown (ow hZ hw 76 rfl) (g := (mkF m 18 #[vJ (own_c1 xq), vS] [(.long (((own_c1 xq).toUInt64 >>> ((2 : Int32) &&& 0x3f).toInt64.toUInt64).toInt64)), (.long ((own_c1 xq) &&& (3689348814741910323 : Int64)))])) rfl (hb hby d15_18) _ ?_
    show Go _ _ _ _ (mkF m 21 _ [(.long (3689348814741910323 : Int64)), (.long (((own_c1 xq).toUInt64 >>> ((2 : Int32) &&& 0x3f).toInt64.toUInt64).toInt64)), (.long ((own_c1 xq) &&& (3689348814741910323 : Int64)))]) _
    refine XS.land X0.here hx rfl (hb hby d15_21) rfl ?_
    show Go _ _ _ _ (mkF m 22 _ [(.long ((((own_c1 xq).toUInt64 >>> ((2 : Int32) &&& 0x3f).toInt64.toUInt64).toInt64) &&& (3689348814741910323 : Int64))), (.long ((own_c1 xq) &&& (3689348814741910323 : Int64)))]) _
    refine XS.ladd X0.here hx rfl (hb hby d15_22) rfl ?_
    exact kt)
  have q24 := fun t (kt : Go p e below s₁ (mkF m 23 #[vJ (own_c1 xq), vS] [(.long (own_c2 (own_c1 xq)))]) t) => q23 t (by rw [(show (((own_c1 xq) &&& (3689348814741910323 : Int64)) + ((((own_c1 xq).toUInt64 >>> ((2 : Int32) &&& 0x3f).toInt64.toUInt64).toInt64) &&& (3689348814741910323 : Int64))) = (own_c2 (own_c1 xq)) from rfl)]; exact kt)
  have q25 := fun t (kt : Go p e below s₁ (mkF m 33 #[vJ (own_c2 (own_c1 xq)), vS] [(.long (((own_c2 (own_c1 xq)) + (((own_c2 (own_c1 xq)).toUInt64 >>> ((4 : Int32) &&& 0x3f).toInt64.toUInt64).toInt64)) &&& (1085102592571150095 : Int64)))]) t) => q24 t (by
    show Go _ _ _ _ (mkF m 23 #[vJ (own_c1 xq), vS] [(.long (own_c2 (own_c1 xq)))]) _
    refine XS.lstoreN X0.here hx rfl (hb hby d15_23) rfl (l' := #[vJ (own_c2 (own_c1 xq)), vS]) rfl ?_
    show Go _ _ _ _ (mkF m 24 #[vJ (own_c2 (own_c1 xq)), vS] []) _
    refine XS.lloadN X0.here hx rfl (hb hby d15_24) rfl ?_
    show Go _ _ _ _ (mkF m 25 _ [(.long (own_c2 (own_c1 xq)))]) _
    refine XS.lloadN X0.here hx rfl (hb hby d15_25) rfl ?_
    show Go _ _ _ _ (mkF m 26 _ [(.long (own_c2 (own_c1 xq))), (.long (own_c2 (own_c1 xq)))]) _
    refine XS.iconst X0.here hx rfl (hb hby d15_26) ?_
    show Go _ _ _ _ (mkF m 27 _ [(.int 4), (.long (own_c2 (own_c1 xq))), (.long (own_c2 (own_c1 xq)))]) _
    refine XS.lushr X0.here hx rfl (hb hby d15_27) rfl ?_
    show Go _ _ _ _ (mkF m 28 _ [(.long (((own_c2 (own_c1 xq)).toUInt64 >>> ((4 : Int32) &&& 0x3f).toInt64.toUInt64).toInt64)), (.long (own_c2 (own_c1 xq)))]) _
    refine XS.ladd X0.here hx rfl (hb hby d15_28) rfl ?_
    show Go _ _ _ _ (mkF m 29 _ [(.long ((own_c2 (own_c1 xq)) + (((own_c2 (own_c1 xq)).toUInt64 >>> ((4 : Int32) &&& 0x3f).toInt64.toUInt64).toInt64)))]) _
    refine X0.ldc2Long hx hown (ow hZ hw 77 rfl) (g := (mkF m 29 #[vJ (own_c2 (own_c1 xq)), vS] [(.long ((own_c2 (own_c1 xq)) + (((own_c2 (own_c1 xq)).toUInt64 >>> ((4 : Int32) &&& 0x3f).toInt64.toUInt64).toInt64)))])) rfl (hb hby d15_29) _ ?_
    show Go _ _ _ _ (mkF m 32 _ [(.long (1085102592571150095 : Int64)), (.long ((own_c2 (own_c1 xq)) + (((own_c2 (own_c1 xq)).toUInt64 >>> ((4 : Int32) &&& 0x3f).toInt64.toUInt64).toInt64)))]) _
    refine XS.land X0.here hx rfl (hb hby d15_32) rfl ?_
    exact kt)
  have q26 := fun t (kt : Go p e below s₁ (mkF m 33 #[vJ (own_c2 (own_c1 xq)), vS] [(.long (own_c3 (own_c2 (own_c1 xq))))]) t) => q25 t (by rw [(show (((own_c2 (own_c1 xq)) + (((own_c2 (own_c1 xq)).toUInt64 >>> ((4 : Int32) &&& 0x3f).toInt64.toUInt64).toInt64)) &&& (1085102592571150095 : Int64)) = (own_c3 (own_c2 (own_c1 xq))) from rfl)]; exact kt)
  have q27 := fun t (kt : Go p e below s₁ (mkF m 40 #[vJ (own_c3 (own_c2 (own_c1 xq))), vS] [(.long ((own_c3 (own_c2 (own_c1 xq))) + (((own_c3 (own_c2 (own_c1 xq))).toUInt64 >>> ((8 : Int32) &&& 0x3f).toInt64.toUInt64).toInt64)))]) t) => q26 t (by
    show Go _ _ _ _ (mkF m 33 #[vJ (own_c2 (own_c1 xq)), vS] [(.long (own_c3 (own_c2 (own_c1 xq))))]) _
    refine XS.lstoreN X0.here hx rfl (hb hby d15_33) rfl (l' := #[vJ (own_c3 (own_c2 (own_c1 xq))), vS]) rfl ?_
    show Go _ _ _ _ (mkF m 34 #[vJ (own_c3 (own_c2 (own_c1 xq))), vS] []) _
    refine XS.lloadN X0.here hx rfl (hb hby d15_34) rfl ?_
    show Go _ _ _ _ (mkF m 35 _ [(.long (own_c3 (own_c2 (own_c1 xq))))]) _
    refine XS.lloadN X0.here hx rfl (hb hby d15_35) rfl ?_
    show Go _ _ _ _ (mkF m 36 _ [(.long (own_c3 (own_c2 (own_c1 xq)))), (.long (own_c3 (own_c2 (own_c1 xq))))]) _
    refine XS.bipush X0.here hx rfl (hb hby d15_36) ?_
    show Go _ _ _ _ (mkF m 38 _ [(.int 8), (.long (own_c3 (own_c2 (own_c1 xq)))), (.long (own_c3 (own_c2 (own_c1 xq))))]) _
    refine XS.lushr X0.here hx rfl (hb hby d15_38) rfl ?_
    show Go _ _ _ _ (mkF m 39 _ [(.long (((own_c3 (own_c2 (own_c1 xq))).toUInt64 >>> ((8 : Int32) &&& 0x3f).toInt64.toUInt64).toInt64)), (.long (own_c3 (own_c2 (own_c1 xq))))]) _
    refine XS.ladd X0.here hx rfl (hb hby d15_39) rfl ?_
    exact kt)
  have q28 := fun t (kt : Go p e below s₁ (mkF m 40 #[vJ (own_c3 (own_c2 (own_c1 xq))), vS] [(.long (own_c4 (own_c3 (own_c2 (own_c1 xq)))))]) t) => q27 t (by rw [(show ((own_c3 (own_c2 (own_c1 xq))) + (((own_c3 (own_c2 (own_c1 xq))).toUInt64 >>> ((8 : Int32) &&& 0x3f).toInt64.toUInt64).toInt64)) = (own_c4 (own_c3 (own_c2 (own_c1 xq)))) from rfl)]; exact kt)
  have q29 := fun t (kt : Go p e below s₁ (mkF m 47 #[vJ (own_c4 (own_c3 (own_c2 (own_c1 xq)))), vS] [(.long ((own_c4 (own_c3 (own_c2 (own_c1 xq)))) + (((own_c4 (own_c3 (own_c2 (own_c1 xq)))).toUInt64 >>> ((16 : Int32) &&& 0x3f).toInt64.toUInt64).toInt64)))]) t) => q28 t (by
    show Go _ _ _ _ (mkF m 40 #[vJ (own_c3 (own_c2 (own_c1 xq))), vS] [(.long (own_c4 (own_c3 (own_c2 (own_c1 xq)))))]) _
    refine XS.lstoreN X0.here hx rfl (hb hby d15_40) rfl (l' := #[vJ (own_c4 (own_c3 (own_c2 (own_c1 xq)))), vS]) rfl ?_
    show Go _ _ _ _ (mkF m 41 #[vJ (own_c4 (own_c3 (own_c2 (own_c1 xq)))), vS] []) _
    refine XS.lloadN X0.here hx rfl (hb hby d15_41) rfl ?_
    show Go _ _ _ _ (mkF m 42 _ [(.long (own_c4 (own_c3 (own_c2 (own_c1 xq)))))]) _
    refine XS.lloadN X0.here hx rfl (hb hby d15_42) rfl ?_
    show Go _ _ _ _ (mkF m 43 _ [(.long (own_c4 (own_c3 (own_c2 (own_c1 xq))))), (.long (own_c4 (own_c3 (own_c2 (own_c1 xq)))))]) _
    refine XS.bipush X0.here hx rfl (hb hby d15_43) ?_
    show Go _ _ _ _ (mkF m 45 _ [(.int 16), (.long (own_c4 (own_c3 (own_c2 (own_c1 xq))))), (.long (own_c4 (own_c3 (own_c2 (own_c1 xq)))))]) _
    refine XS.lushr X0.here hx rfl (hb hby d15_45) rfl ?_
    show Go _ _ _ _ (mkF m 46 _ [(.long (((own_c4 (own_c3 (own_c2 (own_c1 xq)))).toUInt64 >>> ((16 : Int32) &&& 0x3f).toInt64.toUInt64).toInt64)), (.long (own_c4 (own_c3 (own_c2 (own_c1 xq)))))]) _
    refine XS.ladd X0.here hx rfl (hb hby d15_46) rfl ?_
    exact kt)
  have q30 := fun t (kt : Go p e below s₁ (mkF m 47 #[vJ (own_c4 (own_c3 (own_c2 (own_c1 xq)))), vS] [(.long (own_c5 (own_c4 (own_c3 (own_c2 (own_c1 xq))))))]) t) => q29 t (by rw [(show ((own_c4 (own_c3 (own_c2 (own_c1 xq)))) + (((own_c4 (own_c3 (own_c2 (own_c1 xq)))).toUInt64 >>> ((16 : Int32) &&& 0x3f).toInt64.toUInt64).toInt64)) = (own_c5 (own_c4 (own_c3 (own_c2 (own_c1 xq))))) from rfl)]; exact kt)
  have q31 := fun t (kt : Go p e below s₁ (mkF m 54 #[vJ (own_c5 (own_c4 (own_c3 (own_c2 (own_c1 xq))))), vS] [(.long ((own_c5 (own_c4 (own_c3 (own_c2 (own_c1 xq))))) + (((own_c5 (own_c4 (own_c3 (own_c2 (own_c1 xq))))).toUInt64 >>> ((32 : Int32) &&& 0x3f).toInt64.toUInt64).toInt64)))]) t) => q30 t (by
    show Go _ _ _ _ (mkF m 47 #[vJ (own_c4 (own_c3 (own_c2 (own_c1 xq)))), vS] [(.long (own_c5 (own_c4 (own_c3 (own_c2 (own_c1 xq))))))]) _
    refine XS.lstoreN X0.here hx rfl (hb hby d15_47) rfl (l' := #[vJ (own_c5 (own_c4 (own_c3 (own_c2 (own_c1 xq))))), vS]) rfl ?_
    show Go _ _ _ _ (mkF m 48 #[vJ (own_c5 (own_c4 (own_c3 (own_c2 (own_c1 xq))))), vS] []) _
    refine XS.lloadN X0.here hx rfl (hb hby d15_48) rfl ?_
    show Go _ _ _ _ (mkF m 49 _ [(.long (own_c5 (own_c4 (own_c3 (own_c2 (own_c1 xq))))))]) _
    refine XS.lloadN X0.here hx rfl (hb hby d15_49) rfl ?_
    show Go _ _ _ _ (mkF m 50 _ [(.long (own_c5 (own_c4 (own_c3 (own_c2 (own_c1 xq)))))), (.long (own_c5 (own_c4 (own_c3 (own_c2 (own_c1 xq))))))]) _
    refine XS.bipush X0.here hx rfl (hb hby d15_50) ?_
    show Go _ _ _ _ (mkF m 52 _ [(.int 32), (.long (own_c5 (own_c4 (own_c3 (own_c2 (own_c1 xq)))))), (.long (own_c5 (own_c4 (own_c3 (own_c2 (own_c1 xq))))))]) _
    refine XS.lushr X0.here hx rfl (hb hby d15_52) rfl ?_
    show Go _ _ _ _ (mkF m 53 _ [(.long (((own_c5 (own_c4 (own_c3 (own_c2 (own_c1 xq))))).toUInt64 >>> ((32 : Int32) &&& 0x3f).toInt64.toUInt64).toInt64)), (.long (own_c5 (own_c4 (own_c3 (own_c2 (own_c1 xq))))))]) _
    refine XS.ladd X0.here hx rfl (hb hby d15_53) rfl ?_
    exact kt)
  have q32 := fun t (kt : Go p e below s₁ (mkF m 54 #[vJ (own_c5 (own_c4 (own_c3 (own_c2 (own_c1 xq))))), vS] [(.long (own_c6 (own_c5 (own_c4 (own_c3 (own_c2 (own_c1 xq)))))))]) t) => q31 t (by rw [(show ((own_c5 (own_c4 (own_c3 (own_c2 (own_c1 xq))))) + (((own_c5 (own_c4 (own_c3 (own_c2 (own_c1 xq))))).toUInt64 >>> ((32 : Int32) &&& 0x3f).toInt64.toUInt64).toInt64)) = (own_c6 (own_c5 (own_c4 (own_c3 (own_c2 (own_c1 xq)))))) from rfl)]; exact kt)
  have q33 := fun t (kt : Go p e below s₁ (mkF m 60 #[vJ (own_c6 (own_c5 (own_c4 (own_c3 (own_c2 (own_c1 xq)))))), vS] [(.int (((own_c6 (own_c5 (own_c4 (own_c3 (own_c2 (own_c1 xq)))))).toInt32) &&& (127 : Int32)))]) t) => q32 t (by
    show Go _ _ _ _ (mkF m 54 #[vJ (own_c5 (own_c4 (own_c3 (own_c2 (own_c1 xq))))), vS] [(.long (own_c6 (own_c5 (own_c4 (own_c3 (own_c2 (own_c1 xq)))))))]) _
    refine XS.lstoreN X0.here hx rfl (hb hby d15_54) rfl (l' := #[vJ (own_c6 (own_c5 (own_c4 (own_c3 (own_c2 (own_c1 xq)))))), vS]) rfl ?_
    show Go _ _ _ _ (mkF m 55 #[vJ (own_c6 (own_c5 (own_c4 (own_c3 (own_c2 (own_c1 xq)))))), vS] []) _
    refine XS.lloadN X0.here hx rfl (hb hby d15_55) rfl ?_
    show Go _ _ _ _ (mkF m 56 _ [(.long (own_c6 (own_c5 (own_c4 (own_c3 (own_c2 (own_c1 xq)))))))]) _
    refine XS.l2i X0.here hx rfl (hb hby d15_56) rfl ?_
    show Go _ _ _ _ (mkF m 57 _ [(.int ((own_c6 (own_c5 (own_c4 (own_c3 (own_c2 (own_c1 xq)))))).toInt32))]) _
    refine XS.bipush X0.here hx rfl (hb hby d15_57) ?_
    show Go _ _ _ _ (mkF m 59 _ [(.int 127), (.int ((own_c6 (own_c5 (own_c4 (own_c3 (own_c2 (own_c1 xq)))))).toInt32))]) _
    refine XS.iand X0.here hx rfl (hb hby d15_59) rfl ?_
    exact kt)
  exact ⟨some (.int (((own_c6 (own_c5 (own_c4 (own_c3 (own_c2 (own_c1 xq)))))).toInt32) &&& (127 : Int32))), s₁, _, _, _, _, X0, by decide, by decide, nofun, q33, fun fs hr => retI X0 hx hret (hb hby d15_60) hr, by rw [e0]; exact ⟨rfl, N0, rfl⟩⟩
theorem ef_17_I (m : MethodId) (x0 : Int32) : entryFrame m #[(.int x0)] 2 = mkF m 0 #[.val (.int x0), .unset] [] := by first | (simp [entryFrame, mkF, argsToLocals, Value.category]; done) | rfl
theorem pn_17 : plainName "java/lang/Integer" = true := by first | (simp [plainName, overriddenIn]; done) | decide +kernel
theorem d17_0 : decode jdk_33_method_48_code 0 = .ok (.iload_n 0, 1) := by decide +kernel
theorem d17_1 : decode jdk_33_method_48_code 1 = .ok (.iconst (-1), 1) := by decide +kernel
theorem d17_2 : decode jdk_33_method_48_code 2 = .ok (.ixor, 1) := by decide +kernel
theorem d17_3 : decode jdk_33_method_48_code 3 = .ok (.iload_n 0, 1) := by decide +kernel
theorem d17_4 : decode jdk_33_method_48_code 4 = .ok (.iconst 1, 1) := by decide +kernel
theorem d17_5 : decode jdk_33_method_48_code 5 = .ok (.isub, 1) := by decide +kernel
theorem d17_6 : decode jdk_33_method_48_code 6 = .ok (.iand, 1) := by decide +kernel
theorem d17_7 : decode jdk_33_method_48_code 7 = .ok (.istore_n 0, 1) := by decide +kernel
theorem d17_8 : decode jdk_33_method_48_code 8 = .ok (.iload_n 0, 1) := by decide +kernel
theorem d17_9 : decode jdk_33_method_48_code 9 = .ok (.ifCond .gt 8, 3) := by decide +kernel
theorem d17_17 : decode jdk_33_method_48_code 17 = .ok (.iconst 1, 1) := by decide +kernel
theorem d17_18 : decode jdk_33_method_48_code 18 = .ok (.istore_n 1, 1) := by decide +kernel
theorem d17_19 : decode jdk_33_method_48_code 19 = .ok (.iload_n 0, 1) := by decide +kernel
theorem d17_20 : decode jdk_33_method_48_code 20 = .ok (.ldc_w 264, 3) := by decide +kernel
theorem d17_23 : decode jdk_33_method_48_code 23 = .ok (.if_icmp .le 11, 3) := by decide +kernel
theorem d17_26 : decode jdk_33_method_48_code 26 = .ok (.iinc 1 16, 3) := by decide +kernel
theorem d17_29 : decode jdk_33_method_48_code 29 = .ok (.iload_n 0, 1) := by decide +kernel
theorem d17_30 : decode jdk_33_method_48_code 30 = .ok (.bipush 16, 2) := by decide +kernel
theorem d17_32 : decode jdk_33_method_48_code 32 = .ok (.iushr, 1) := by decide +kernel
theorem d17_33 : decode jdk_33_method_48_code 33 = .ok (.istore_n 0, 1) := by decide +kernel
theorem d17_34 : decode jdk_33_method_48_code 34 = .ok (.iload_n 0, 1) := by decide +kernel
theorem d17_35 : decode jdk_33_method_48_code 35 = .ok (.sipush 256, 3) := by decide +kernel
theorem d17_38 : decode jdk_33_method_48_code 38 = .ok (.if_icmp .le 11, 3) := by decide +kernel
theorem d17_41 : decode jdk_33_method_48_code 41 = .ok (.iinc 1 8, 3) := by decide +kernel
theorem d17_44 : decode jdk_33_method_48_code 44 = .ok (.iload_n 0, 1) := by decide +kernel
theorem d17_45 : decode jdk_33_method_48_code 45 = .ok (.bipush 8, 2) := by decide +kernel
theorem d17_47 : decode jdk_33_method_48_code 47 = .ok (.iushr, 1) := by decide +kernel
theorem d17_48 : decode jdk_33_method_48_code 48 = .ok (.istore_n 0, 1) := by decide +kernel
theorem d17_49 : decode jdk_33_method_48_code 49 = .ok (.iload_n 0, 1) := by decide +kernel
theorem d17_50 : decode jdk_33_method_48_code 50 = .ok (.bipush 16, 2) := by decide +kernel
theorem d17_52 : decode jdk_33_method_48_code 52 = .ok (.if_icmp .le 10, 3) := by decide +kernel
theorem d17_55 : decode jdk_33_method_48_code 55 = .ok (.iinc 1 4, 3) := by decide +kernel
theorem d17_58 : decode jdk_33_method_48_code 58 = .ok (.iload_n 0, 1) := by decide +kernel
theorem d17_59 : decode jdk_33_method_48_code 59 = .ok (.iconst 4, 1) := by decide +kernel
theorem d17_60 : decode jdk_33_method_48_code 60 = .ok (.iushr, 1) := by decide +kernel
theorem d17_61 : decode jdk_33_method_48_code 61 = .ok (.istore_n 0, 1) := by decide +kernel
theorem d17_62 : decode jdk_33_method_48_code 62 = .ok (.iload_n 0, 1) := by decide +kernel
theorem d17_63 : decode jdk_33_method_48_code 63 = .ok (.iconst 4, 1) := by decide +kernel
theorem d17_64 : decode jdk_33_method_48_code 64 = .ok (.if_icmp .le 10, 3) := by decide +kernel
theorem d17_67 : decode jdk_33_method_48_code 67 = .ok (.iinc 1 2, 3) := by decide +kernel
theorem d17_70 : decode jdk_33_method_48_code 70 = .ok (.iload_n 0, 1) := by decide +kernel
theorem d17_71 : decode jdk_33_method_48_code 71 = .ok (.iconst 2, 1) := by decide +kernel
theorem d17_72 : decode jdk_33_method_48_code 72 = .ok (.iushr, 1) := by decide +kernel
theorem d17_73 : decode jdk_33_method_48_code 73 = .ok (.istore_n 0, 1) := by decide +kernel
theorem d17_74 : decode jdk_33_method_48_code 74 = .ok (.iload_n 1, 1) := by decide +kernel
theorem d17_75 : decode jdk_33_method_48_code 75 = .ok (.iload_n 0, 1) := by decide +kernel
theorem d17_76 : decode jdk_33_method_48_code 76 = .ok (.iconst 1, 1) := by decide +kernel
theorem d17_77 : decode jdk_33_method_48_code 77 = .ok (.iushr, 1) := by decide +kernel
theorem d17_78 : decode jdk_33_method_48_code 78 = .ok (.iadd, 1) := by decide +kernel
theorem d17_79 : decode jdk_33_method_48_code 79 = .ok (.ireturn, 1) := by decide +kernel
theorem d17_12 : decode jdk_33_method_48_code 12 = .ok (.iload_n 0, 1) := by decide +kernel
theorem d17_13 : decode jdk_33_method_48_code 13 = .ok (.bipush 32, 2) := by decide +kernel
theorem d17_15 : decode jdk_33_method_48_code 15 = .ok (.iand, 1) := by decide +kernel
theorem d17_16 : decode jdk_33_method_48_code 16 = .ok (.ireturn, 1) := by decide +kernel
def Q_rm17 (Z : State) (p1 : Int32) (cw : Nat → Nat) (h0 : Heap) (n0 : Nat) (v : Option Value) (h : Heap) (L : List Loc) : Prop := ∃ (r : Int32), v = some (.int r) ∧ Fr n0 L ∧ h = h0
theorem rm17 (l : Launch) (Z : State) (a0 : Array Value) (hw : ∀ d ∈ tables_1, d.before a0 Z = true) (ws : List Jvm.Cond) {cw : Nat → Nat} (cx : Cx Z cw) (p1 : Int32) (h0 : Heap) (n0 : Nat) (O0 : Old Z n0 h0) :
    OwnMet l ym13 (Jvm.Cond.code ym13 jdk_33_method_48_code 2 (some .int) :: ws) (own_R 0 0 0 0) #[(.int p1)] Z h0 (Q_rm17 Z p1 cw h0 n0) := by
  refine own_body (plainFor_of_name pn_17) hisR fun p e s m below meth c s₁ hx hby hml hown hnm hret hZ X0 e0 => ?_
  have N0 := Fr.nil n0
  have pre0 : ∀ t, Go p e below s₁ (mkF m 0 #[vI p1, vU] []) t → Go p e below s₁ (entryFrame m #[(.int p1)] 2) t := fun t k => castTop (ef_17_I m p1) k
  have q21 := fun t (kt : Go p e below s₁ (mkF m 9 #[vI ((p1 ^^^ (-1 : Int32)) &&& (p1 - (1 : Int32))), vU] [(.int ((p1 ^^^ (-1 : Int32)) &&& (p1 - (1 : Int32))))]) t) => pre0 t (by
    show Go _ _ _ _ (mkF m 0 #[vI p1, vU] []) _
    refine XS.iloadN X0.here hx rfl (hb hby d17_0) rfl ?_
    show Go _ _ _ _ (mkF m 1 _ [(.int p1)]) _
    refine XS.iconst X0.here hx rfl (hb hby d17_1) ?_
    show Go _ _ _ _ (mkF m 2 _ [(.int (-1 : Int32)), (.int p1)]) _
    refine XS.ixor X0.here hx rfl (hb hby d17_2) rfl ?_
    show Go _ _ _ _ (mkF m 3 _ [(.int (p1 ^^^ (-1 : Int32)))]) _
    refine XS.iloadN X0.here hx rfl (hb hby d17_3) rfl ?_
    show Go _ _ _ _ (mkF m 4 _ [(.int p1), (.int (p1 ^^^ (-1 : Int32)))]) _
    refine XS.iconst X0.here hx rfl (hb hby d17_4) ?_
    show Go _ _ _ _ (mkF m 5 _ [(.int 1), (.int p1), (.int (p1 ^^^ (-1 : Int32)))]) _
    refine XS.isub X0.here hx rfl (hb hby d17_5) rfl ?_
    show Go _ _ _ _ (mkF m 6 _ [(.int (p1 - (1 : Int32))), (.int (p1 ^^^ (-1 : Int32)))]) _
    refine XS.iand X0.here hx rfl (hb hby d17_6) rfl ?_
    show Go _ _ _ _ (mkF m 7 _ [(.int ((p1 ^^^ (-1 : Int32)) &&& (p1 - (1 : Int32))))]) _
    refine XS.istoreN X0.here hx rfl (hb hby d17_7) rfl (l' := #[vI ((p1 ^^^ (-1 : Int32)) &&& (p1 - (1 : Int32))), vU]) rfl ?_
    show Go _ _ _ _ (mkF m 8 #[vI ((p1 ^^^ (-1 : Int32)) &&& (p1 - (1 : Int32))), vU] []) _
    refine XS.iloadN X0.here hx rfl (hb hby d17_8) rfl ?_
    exact kt)
  by_cases hc22 : (0 : Int32) < ((p1 ^^^ (-1 : Int32)) &&& (p1 - (1 : Int32)))
  · have q23 := fun t (kt : Go p e below s₁ (mkF m 19 #[vI ((p1 ^^^ (-1 : Int32)) &&& (p1 - (1 : Int32))), vI 1] []) t) => q21 t (by
      show Go _ _ _ _ (mkF m 9 #[vI ((p1 ^^^ (-1 : Int32)) &&& (p1 - (1 : Int32))), vU] [(.int ((p1 ^^^ (-1 : Int32)) &&& (p1 - (1 : Int32))))]) _
      refine XS.ifYes X0.here hx rfl (pc0 := 9) (pc' := 17) rfl (hb hby d17_9) rfl ((if0 _ _).trans (tlt hc22).2.2.1) (by decide) (by decide) ?_
      show Go _ _ _ _ (mkF m 17 _ []) _
      refine XS.iconst X0.here hx rfl (hb hby d17_17) ?_
      show Go _ _ _ _ (mkF m 18 _ [(.int 1)]) _
      refine XS.istoreN X0.here hx rfl (hb hby d17_18) rfl (l' := #[vI ((p1 ^^^ (-1 : Int32)) &&& (p1 - (1 : Int32))), vI 1]) rfl ?_
      exact kt)
    obtain ⟨T24, lo24, v34, k34, X24, e24, N24, q24⟩ : ∃ (T24 : State) (lo24 : List Loc) (v34 : Int32) (k34 : Int32), Stand p l e (own_R 0 0 0 0) s m #[(.int p1)] below meth c T24 lo24 0 0 ∧ T24.heap = h0 ∧ Fr n0 lo24 ∧ ∀ t, Go p e below T24 (mkF m 34 #[vI v34, vI k34] []) t → Go p e below s₁ (entryFrame m #[(.int p1)] 2) t := by
      skip
      have q25 := fun t (kt : Go p e below s₁ (mkF m 23 #[vI ((p1 ^^^ (-1 : Int32)) &&& (p1 - (1 : Int32))), vI 1] [(.int 65536), (.int ((p1 ^^^ (-1 : Int32)) &&& (p1 - (1 : Int32))))]) t) => q23 t (by
        show Go _ _ _ _ (mkF m 19 #[vI ((p1 ^^^ (-1 : Int32)) &&& (p1 - (1 : Int32))), vI 1] []) _
        refine XS.iloadN X0.here hx rfl (hb hby d17_19) rfl ?_
        show Go _ _ _ _ (mkF m 20 _ [(.int ((p1 ^^^ (-1 : Int32)) &&& (p1 - (1 : Int32))))]) _
        refine X0.ldcwInt hx hown (ow hZ hw 85 rfl) (g := (mkF m 20 #[vI ((p1 ^^^ (-1 : Int32)) &&& (p1 - (1 : Int32))), vI 1] [(.int ((p1 ^^^ (-1 : Int32)) &&& (p1 - (1 : Int32))))])) rfl (hb hby d17_20) _ ?_
        exact kt)
      by_cases hc26 : (65536 : Int32) < ((p1 ^^^ (-1 : Int32)) &&& (p1 - (1 : Int32)))
      · have q27 := fun t (kt : Go p e below s₁ (mkF m 34 #[vI ((((p1 ^^^ (-1 : Int32)) &&& (p1 - (1 : Int32))).toUInt32 >>> ((16 : Int32) &&& 31).toUInt32).toInt32), vI 17] []) t) => q25 t (by
          show Go _ _ _ _ (mkF m 23 #[vI ((p1 ^^^ (-1 : Int32)) &&& (p1 - (1 : Int32))), vI 1] [(.int 65536), (.int ((p1 ^^^ (-1 : Int32)) &&& (p1 - (1 : Int32))))]) _
          refine XS.icmpNo X0.here hx rfl (hb hby d17_23) rfl (tlt hc26).2.2.2 ?_
          show Go _ _ _ _ (mkF m 26 _ []) _
          refine XS.iinc X0.here hx rfl (hb hby d17_26) rfl (l' := #[vI ((p1 ^^^ (-1 : Int32)) &&& (p1 - (1 : Int32))), vI 17]) rfl ?_
          show Go _ _ _ _ (mkF m 29 #[vI ((p1 ^^^ (-1 : Int32)) &&& (p1 - (1 : Int32))), vI 17] []) _
          refine XS.iloadN X0.here hx rfl (hb hby d17_29) rfl ?_
          show Go _ _ _ _ (mkF m 30 _ [(.int ((p1 ^^^ (-1 : Int32)) &&& (p1 - (1 : Int32))))]) _
          refine XS.bipush X0.here hx rfl (hb hby d17_30) ?_
          show Go _ _ _ _ (mkF m 32 _ [(.int 16), (.int ((p1 ^^^ (-1 : Int32)) &&& (p1 - (1 : Int32))))]) _
          refine XS.iushr X0.here hx rfl (hb hby d17_32) rfl ?_
          show Go _ _ _ _ (mkF m 33 _ [(.int ((((p1 ^^^ (-1 : Int32)) &&& (p1 - (1 : Int32))).toUInt32 >>> ((16 : Int32) &&& 31).toUInt32).toInt32))]) _
          refine XS.istoreN X0.here hx rfl (hb hby d17_33) rfl (l' := #[vI ((((p1 ^^^ (-1 : Int32)) &&& (p1 - (1 : Int32))).toUInt32 >>> ((16 : Int32) &&& 31).toUInt32).toInt32), vI 17]) rfl ?_
          exact kt)
        exact ⟨s₁, _, ((((p1 ^^^ (-1 : Int32)) &&& (p1 - (1 : Int32))).toUInt32 >>> ((16 : Int32) &&& 31).toUInt32).toInt32), (17 : Int32), X0, e0, N0, q27⟩
      · have q28 := fun t (kt : Go p e below s₁ (mkF m 34 #[vI ((p1 ^^^ (-1 : Int32)) &&& (p1 - (1 : Int32))), vI 1] []) t) => q25 t (by
          show Go _ _ _ _ (mkF m 23 #[vI ((p1 ^^^ (-1 : Int32)) &&& (p1 - (1 : Int32))), vI 1] [(.int 65536), (.int ((p1 ^^^ (-1 : Int32)) &&& (p1 - (1 : Int32))))]) _
          refine XS.icmpYes X0.here hx rfl (pc0 := 23) (pc' := 34) rfl (hb hby d17_23) rfl (flt hc26).2.2.2 (by decide) (by decide) ?_
          exact kt)
        exact ⟨s₁, _, ((p1 ^^^ (-1 : Int32)) &&& (p1 - (1 : Int32))), (1 : Int32), X0, e0, N0, q28⟩
    obtain ⟨T29, lo29, v49, k49, X29, e29, N29, q29⟩ : ∃ (T29 : State) (lo29 : List Loc) (v49 : Int32) (k49 : Int32), Stand p l e (own_R 0 0 0 0) s m #[(.int p1)] below meth c T29 lo29 0 0 ∧ T29.heap = h0 ∧ Fr n0 lo29 ∧ ∀ t, Go p e below T29 (mkF m 49 #[vI v49, vI k49] []) t → Go p e below s₁ (entryFrame m #[(.int p1)] 2) t := by
      skip
      have q30 := fun t (kt : Go p e below T24 (mkF m 38 #[vI v34, vI k34] [(.int 256), (.int v34)]) t) => q24 t (by
        show Go _ _ _ _ (mkF m 34 #[vI v34, vI k34] []) _
        refine XS.iloadN X24.here hx rfl (hb hby d17_34) rfl ?_
        show Go _ _ _ _ (mkF m 35 _ [(.int v34)]) _
        refine XS.sipush X24.here hx rfl (hb hby d17_35) ?_
        exact kt)
      by_cases hc31 : (256 : Int32) < v34
      · have q32 := fun t (kt : Go p e below T24 (mkF m 49 #[vI ((v34.toUInt32 >>> ((8 : Int32) &&& 31).toUInt32).toInt32), vI (k34 + (8 : Int32))] []) t) => q30 t (by
          show Go _ _ _ _ (mkF m 38 #[vI v34, vI k34] [(.int 256), (.int v34)]) _
          refine XS.icmpNo X24.here hx rfl (hb hby d17_38) rfl (tlt hc31).2.2.2 ?_
          show Go _ _ _ _ (mkF m 41 _ []) _
          refine XS.iinc X24.here hx rfl (hb hby d17_41) rfl (l' := #[vI v34, vI (k34 + (8 : Int32))]) rfl ?_
          show Go _ _ _ _ (mkF m 44 #[vI v34, vI (k34 + (8 : Int32))] []) _
          refine XS.iloadN X24.here hx rfl (hb hby d17_44) rfl ?_
          show Go _ _ _ _ (mkF m 45 _ [(.int v34)]) _
          refine XS.bipush X24.here hx rfl (hb hby d17_45) ?_
          show Go _ _ _ _ (mkF m 47 _ [(.int 8), (.int v34)]) _
          refine XS.iushr X24.here hx rfl (hb hby d17_47) rfl ?_
          show Go _ _ _ _ (mkF m 48 _ [(.int ((v34.toUInt32 >>> ((8 : Int32) &&& 31).toUInt32).toInt32))]) _
          refine XS.istoreN X24.here hx rfl (hb hby d17_48) rfl (l' := #[vI ((v34.toUInt32 >>> ((8 : Int32) &&& 31).toUInt32).toInt32), vI (k34 + (8 : Int32))]) rfl ?_
          exact kt)
        exact ⟨T24, _, ((v34.toUInt32 >>> ((8 : Int32) &&& 31).toUInt32).toInt32), (k34 + (8 : Int32)), X24, e24, N24, q32⟩
      · have q33 := fun t (kt : Go p e below T24 (mkF m 49 #[vI v34, vI k34] []) t) => q30 t (by
          show Go _ _ _ _ (mkF m 38 #[vI v34, vI k34] [(.int 256), (.int v34)]) _
          refine XS.icmpYes X24.here hx rfl (pc0 := 38) (pc' := 49) rfl (hb hby d17_38) rfl (flt hc31).2.2.2 (by decide) (by decide) ?_
          exact kt)
        exact ⟨T24, _, v34, k34, X24, e24, N24, q33⟩
    obtain ⟨T34, lo34, v62, k62, X34, e34, N34, q34⟩ : ∃ (T34 : State) (lo34 : List Loc) (v62 : Int32) (k62 : Int32), Stand p l e (own_R 0 0 0 0) s m #[(.int p1)] below meth c T34 lo34 0 0 ∧ T34.heap = h0 ∧ Fr n0 lo34 ∧ ∀ t, Go p e below T34 (mkF m 62 #[vI v62, vI k62] []) t → Go p e below s₁ (entryFrame m #[(.int p1)] 2) t := by
      skip
      have q35 := fun t (kt : Go p e below T29 (mkF m 52 #[vI v49, vI k49] [(.int 16), (.int v49)]) t) => q29 t (by
        show Go _ _ _ _ (mkF m 49 #[vI v49, vI k49] []) _
        refine XS.iloadN X29.here hx rfl (hb hby d17_49) rfl ?_
        show Go _ _ _ _ (mkF m 50 _ [(.int v49)]) _
        refine XS.bipush X29.here hx rfl (hb hby d17_50) ?_
        exact kt)
      by_cases hc36 : (16 : Int32) < v49
      · have q37 := fun t (kt : Go p e below T29 (mkF m 62 #[vI ((v49.toUInt32 >>> ((4 : Int32) &&& 31).toUInt32).toInt32), vI (k49 + (4 : Int32))] []) t) => q35 t (by
          show Go _ _ _ _ (mkF m 52 #[vI v49, vI k49] [(.int 16), (.int v49)]) _
          refine XS.icmpNo X29.here hx rfl (hb hby d17_52) rfl (tlt hc36).2.2.2 ?_
          show Go _ _ _ _ (mkF m 55 _ []) _
          refine XS.iinc X29.here hx rfl (hb hby d17_55) rfl (l' := #[vI v49, vI (k49 + (4 : Int32))]) rfl ?_
          show Go _ _ _ _ (mkF m 58 #[vI v49, vI (k49 + (4 : Int32))] []) _
          refine XS.iloadN X29.here hx rfl (hb hby d17_58) rfl ?_
          show Go _ _ _ _ (mkF m 59 _ [(.int v49)]) _
          refine XS.iconst X29.here hx rfl (hb hby d17_59) ?_
          show Go _ _ _ _ (mkF m 60 _ [(.int 4), (.int v49)]) _
          refine XS.iushr X29.here hx rfl (hb hby d17_60) rfl ?_
          show Go _ _ _ _ (mkF m 61 _ [(.int ((v49.toUInt32 >>> ((4 : Int32) &&& 31).toUInt32).toInt32))]) _
          refine XS.istoreN X29.here hx rfl (hb hby d17_61) rfl (l' := #[vI ((v49.toUInt32 >>> ((4 : Int32) &&& 31).toUInt32).toInt32), vI (k49 + (4 : Int32))]) rfl ?_
          exact kt)
        exact ⟨T29, _, ((v49.toUInt32 >>> ((4 : Int32) &&& 31).toUInt32).toInt32), (k49 + (4 : Int32)), X29, e29, N29, q37⟩
      · have q38 := fun t (kt : Go p e below T29 (mkF m 62 #[vI v49, vI k49] []) t) => q35 t (by
          show Go _ _ _ _ (mkF m 52 #[vI v49, vI k49] [(.int 16), (.int v49)]) _
          refine XS.icmpYes X29.here hx rfl (pc0 := 52) (pc' := 62) rfl (hb hby d17_52) rfl (flt hc36).2.2.2 (by decide) (by decide) ?_
          exact kt)
        exact ⟨T29, _, v49, k49, X29, e29, N29, q38⟩
    obtain ⟨T39, lo39, v74, k74, X39, e39, N39, q39⟩ : ∃ (T39 : State) (lo39 : List Loc) (v74 : Int32) (k74 : Int32), Stand p l e (own_R 0 0 0 0) s m #[(.int p1)] below meth c T39 lo39 0 0 ∧ T39.heap = h0 ∧ Fr n0 lo39 ∧ ∀ t, Go p e below T39 (mkF m 74 #[vI v74, vI k74] []) t → Go p e below s₁ (entryFrame m #[(.int p1)] 2) t := by
      skip
      have q40 := fun t (kt : Go p e below T34 (mkF m 64 #[vI v62, vI k62] [(.int 4), (.int v62)]) t) => q34 t (by
        show Go _ _ _ _ (mkF m 62 #[vI v62, vI k62] []) _
        refine XS.iloadN X34.here hx rfl (hb hby d17_62) rfl ?_
        show Go _ _ _ _ (mkF m 63 _ [(.int v62)]) _
        refine XS.iconst X34.here hx rfl (hb hby d17_63) ?_
        exact kt)
      by_cases hc41 : (4 : Int32) < v62
      · have q42 := fun t (kt : Go p e below T34 (mkF m 74 #[vI ((v62.toUInt32 >>> ((2 : Int32) &&& 31).toUInt32).toInt32), vI (k62 + (2 : Int32))] []) t) => q40 t (by
          show Go _ _ _ _ (mkF m 64 #[vI v62, vI k62] [(.int 4), (.int v62)]) _
          refine XS.icmpNo X34.here hx rfl (hb hby d17_64) rfl (tlt hc41).2.2.2 ?_
          show Go _ _ _ _ (mkF m 67 _ []) _
          refine XS.iinc X34.here hx rfl (hb hby d17_67) rfl (l' := #[vI v62, vI (k62 + (2 : Int32))]) rfl ?_
          show Go _ _ _ _ (mkF m 70 #[vI v62, vI (k62 + (2 : Int32))] []) _
          refine XS.iloadN X34.here hx rfl (hb hby d17_70) rfl ?_
          show Go _ _ _ _ (mkF m 71 _ [(.int v62)]) _
          refine XS.iconst X34.here hx rfl (hb hby d17_71) ?_
          show Go _ _ _ _ (mkF m 72 _ [(.int 2), (.int v62)]) _
          refine XS.iushr X34.here hx rfl (hb hby d17_72) rfl ?_
          show Go _ _ _ _ (mkF m 73 _ [(.int ((v62.toUInt32 >>> ((2 : Int32) &&& 31).toUInt32).toInt32))]) _
          refine XS.istoreN X34.here hx rfl (hb hby d17_73) rfl (l' := #[vI ((v62.toUInt32 >>> ((2 : Int32) &&& 31).toUInt32).toInt32), vI (k62 + (2 : Int32))]) rfl ?_
          exact kt)
        exact ⟨T34, _, ((v62.toUInt32 >>> ((2 : Int32) &&& 31).toUInt32).toInt32), (k62 + (2 : Int32)), X34, e34, N34, q42⟩
      · have q43 := fun t (kt : Go p e below T34 (mkF m 74 #[vI v62, vI k62] []) t) => q40 t (by
          show Go _ _ _ _ (mkF m 64 #[vI v62, vI k62] [(.int 4), (.int v62)]) _
          refine XS.icmpYes X34.here hx rfl (pc0 := 64) (pc' := 74) rfl (hb hby d17_64) rfl (flt hc41).2.2.2 (by decide) (by decide) ?_
          exact kt)
        exact ⟨T34, _, v62, k62, X34, e34, N34, q43⟩
    have q44 := fun t (kt : Go p e below T39 (mkF m 79 #[vI v74, vI k74] [(.int (k74 + ((v74.toUInt32 >>> ((1 : Int32) &&& 31).toUInt32).toInt32)))]) t) => q39 t (by
      show Go _ _ _ _ (mkF m 74 #[vI v74, vI k74] []) _
      refine XS.iloadN X39.here hx rfl (hb hby d17_74) rfl ?_
      show Go _ _ _ _ (mkF m 75 _ [(.int k74)]) _
      refine XS.iloadN X39.here hx rfl (hb hby d17_75) rfl ?_
      show Go _ _ _ _ (mkF m 76 _ [(.int v74), (.int k74)]) _
      refine XS.iconst X39.here hx rfl (hb hby d17_76) ?_
      show Go _ _ _ _ (mkF m 77 _ [(.int 1), (.int v74), (.int k74)]) _
      refine XS.iushr X39.here hx rfl (hb hby d17_77) rfl ?_
      show Go _ _ _ _ (mkF m 78 _ [(.int ((v74.toUInt32 >>> ((1 : Int32) &&& 31).toUInt32).toInt32)), (.int k74)]) _
      refine XS.iadd X39.here hx rfl (hb hby d17_78) rfl ?_
      exact kt)
    exact ⟨some (.int (k74 + ((v74.toUInt32 >>> ((1 : Int32) &&& 31).toUInt32).toInt32))), T39, _, _, _, _, X39, by decide, by decide, nofun, q44, fun fs hr => retI X39 hx hret (hb hby d17_79) hr, by rw [e39]; exact ⟨(k74 + ((v74.toUInt32 >>> ((1 : Int32) &&& 31).toUInt32).toInt32)), rfl, N39, rfl⟩⟩
  · have q45 := fun t (kt : Go p e below s₁ (mkF m 16 #[vI ((p1 ^^^ (-1 : Int32)) &&& (p1 - (1 : Int32))), vU] [(.int (((p1 ^^^ (-1 : Int32)) &&& (p1 - (1 : Int32))) &&& (32 : Int32)))]) t) => q21 t (by
      show Go _ _ _ _ (mkF m 9 #[vI ((p1 ^^^ (-1 : Int32)) &&& (p1 - (1 : Int32))), vU] [(.int ((p1 ^^^ (-1 : Int32)) &&& (p1 - (1 : Int32))))]) _
      refine XS.ifNo X0.here hx rfl (hb hby d17_9) rfl ((if0 _ _).trans (flt hc22).2.2.1) ?_
      show Go _ _ _ _ (mkF m 12 _ []) _
      refine XS.iloadN X0.here hx rfl (hb hby d17_12) rfl ?_
      show Go _ _ _ _ (mkF m 13 _ [(.int ((p1 ^^^ (-1 : Int32)) &&& (p1 - (1 : Int32))))]) _
      refine XS.bipush X0.here hx rfl (hb hby d17_13) ?_
      show Go _ _ _ _ (mkF m 15 _ [(.int 32), (.int ((p1 ^^^ (-1 : Int32)) &&& (p1 - (1 : Int32))))]) _
      refine XS.iand X0.here hx rfl (hb hby d17_15) rfl ?_
      exact kt)
    exact ⟨some (.int (((p1 ^^^ (-1 : Int32)) &&& (p1 - (1 : Int32))) &&& (32 : Int32))), s₁, _, _, _, _, X0, by decide, by decide, nofun, q45, fun fs hr => retI X0 hx hret (hb hby d17_16) hr, by rw [e0]; exact ⟨(((p1 ^^^ (-1 : Int32)) &&& (p1 - (1 : Int32))) &&& (32 : Int32)), rfl, N0, rfl⟩⟩
theorem ef_16_J (m : MethodId) (x0 : Int64) : entryFrame m #[(.long x0)] 3 = mkF m 0 #[.val (.long x0), .second, .unset] [] := by first | (simp [entryFrame, mkF, argsToLocals, Value.category]; done) | rfl
theorem pn_16 : plainName "java/lang/Long" = true := by first | (simp [plainName, overriddenIn]; done) | decide +kernel
theorem d16_0 : decode jdk_35_method_49_code 0 = .ok (.lload_n 0, 1) := by decide +kernel
theorem d16_1 : decode jdk_35_method_49_code 1 = .ok (.l2i, 1) := by decide +kernel
theorem d16_2 : decode jdk_35_method_49_code 2 = .ok (.istore_n 2, 1) := by decide +kernel
theorem d16_3 : decode jdk_35_method_49_code 3 = .ok (.iload_n 2, 1) := by decide +kernel
theorem d16_4 : decode jdk_35_method_49_code 4 = .ok (.ifCond .ne 17, 3) := by decide +kernel
theorem d16_7 : decode jdk_35_method_49_code 7 = .ok (.bipush 32, 2) := by decide +kernel
theorem d16_9 : decode jdk_35_method_49_code 9 = .ok (.lload_n 0, 1) := by decide +kernel
theorem d16_10 : decode jdk_35_method_49_code 10 = .ok (.bipush 32, 2) := by decide +kernel
theorem d16_12 : decode jdk_35_method_49_code 12 = .ok (.lushr, 1) := by decide +kernel
theorem d16_13 : decode jdk_35_method_49_code 13 = .ok (.l2i, 1) := by decide +kernel
theorem d16_14 : decode jdk_35_method_49_code 14 = .ok (.invokestatic 311, 3) := by decide +kernel
theorem pd_7 : parseMethodDescriptor "(I)I" = some ⟨[.int], some .int⟩ := by decide +kernel
theorem d16_17 : decode jdk_35_method_49_code 17 = .ok (.iadd, 1) := by decide +kernel
theorem d16_18 : decode jdk_35_method_49_code 18 = .ok (.goto 7, 3) := by decide +kernel
theorem d16_25 : decode jdk_35_method_49_code 25 = .ok (.ireturn, 1) := by decide +kernel
theorem d16_21 : decode jdk_35_method_49_code 21 = .ok (.iload_n 2, 1) := by decide +kernel
theorem d16_22 : decode jdk_35_method_49_code 22 = .ok (.invokestatic 311, 3) := by decide +kernel
def Q_rm16 (Z : State) (xq : Int64) (cw : Nat → Nat) (h0 : Heap) (n0 : Nat) (v : Option Value) (h : Heap) (L : List Loc) : Prop := ∃ (r : Int32), v = some (.int r) ∧ Fr n0 L ∧ h = h0
theorem rm16 (l : Launch) (Z : State) (a0 : Array Value) (hw : ∀ d ∈ tables_1, d.before a0 Z = true) (ws : List Jvm.Cond) {cw : Nat → Nat} (cx : Cx Z cw) (xq : Int64) (h0 : Heap) (n0 : Nat) (O0 : Old Z n0 h0) :
    OwnMet l ym14 (Jvm.Cond.code ym14 jdk_35_method_49_code 3 (some .int) :: ws) (own_R 1 0 0 14) #[(.long xq)] Z h0 (Q_rm16 Z xq cw h0 n0) := by
  refine own_body (plainFor_of_name pn_16) hisR fun p e s m below meth c s₁ hx hby hml hown hnm hret hZ X0 e0 => ?_
  have N0 := Fr.nil n0
  have pre0 : ∀ t, Go p e below s₁ (mkF m 0 #[vJ xq, vS, vU] []) t → Go p e below s₁ (entryFrame m #[(.long xq)] 3) t := fun t k => castTop (ef_16_J m xq) k
  have q21 := fun t (kt : Go p e below s₁ (mkF m 4 #[vJ xq, vS, vI (xq.toInt32)] [(.int (xq.toInt32))]) t) => pre0 t (by
    show Go _ _ _ _ (mkF m 0 #[vJ xq, vS, vU] []) _
    refine XS.lloadN X0.here hx rfl (hb hby d16_0) rfl ?_
    show Go _ _ _ _ (mkF m 1 _ [(.long xq)]) _
    refine XS.l2i X0.here hx rfl (hb hby d16_1) rfl ?_
    show Go _ _ _ _ (mkF m 2 _ [(.int (xq.toInt32))]) _
    refine XS.istoreN X0.here hx rfl (hb hby d16_2) rfl (l' := #[vJ xq, vS, vI (xq.toInt32)]) rfl ?_
    show Go _ _ _ _ (mkF m 3 #[vJ xq, vS, vI (xq.toInt32)] []) _
    refine XS.iloadN X0.here hx rfl (hb hby d16_3) rfl ?_
    exact kt)
  by_cases hc22 : (xq.toInt32) = (0 : Int32)
  · have q23 := fun t (kt : Go p e below s₁ (mkF m 14 #[vJ xq, vS, vI (xq.toInt32)] [(.int (((xq.toUInt64 >>> ((32 : Int32) &&& 0x3f).toInt64.toUInt64).toInt64).toInt32)), (.int 32)]) t) => q21 t (by
      show Go _ _ _ _ (mkF m 4 #[vJ xq, vS, vI (xq.toInt32)] [(.int (xq.toInt32))]) _
      refine XS.ifNo X0.here hx rfl (hb hby d16_4) rfl ((if0 _ _).trans (teq hc22).2) ?_
      show Go _ _ _ _ (mkF m 7 _ []) _
      refine XS.bipush X0.here hx rfl (hb hby d16_7) ?_
      show Go _ _ _ _ (mkF m 9 _ [(.int 32)]) _
      refine XS.lloadN X0.here hx rfl (hb hby d16_9) rfl ?_
      show Go _ _ _ _ (mkF m 10 _ [(.long xq), (.int 32)]) _
      refine XS.bipush X0.here hx rfl (hb hby d16_10) ?_
      show Go _ _ _ _ (mkF m 12 _ [(.int 32), (.long xq), (.int 32)]) _
      refine XS.lushr X0.here hx rfl (hb hby d16_12) rfl ?_
      show Go _ _ _ _ (mkF m 13 _ [(.long ((xq.toUInt64 >>> ((32 : Int32) &&& 0x3f).toInt64.toUInt64).toInt64)), (.int 32)]) _
      refine XS.l2i X0.here hx rfl (hb hby d16_13) rfl ?_
      exact kt)
    obtain ⟨_, _, ⟨T24, L24, k24, n24⟩, -, X24, ⟨_, hQ24, l24, y24, z24⟩, st24⟩ := Jvm.LawKit.callS X0 hx (y := ym13) hown (ow hZ hw 81 rfl) (ow hZ hw 82 rfl) (ow hZ hw 83 rfl) (ow hZ hw 84 rfl) (by decide) (backOf (W := 1) (rm17 l Z a0 hw [] cx (((xq.toUInt64 >>> ((32 : Int32) &&& 0x3f).toInt64.toUInt64).toInt64).toInt32) h0 n0 O0 ) hZ (ox hw 84 rfl) (ox hw 83 rfl) (by decide) (by decide)) (g := (mkF m 14 #[vJ xq, vS, vI (xq.toInt32)] [(.int (((xq.toUInt64 >>> ((32 : Int32) &&& 0x3f).toInt64.toUInt64).toInt64).toInt32)), (.int 32)])) rfl (by rw [hml]; rfl) (argsL := [(.int (((xq.toUInt64 >>> ((32 : Int32) &&& 0x3f).toInt64.toUInt64).toInt64).toInt32))]) (rest := [(.int 32)]) (lenOf pd_7 rfl) rfl own_le0 (hb hby d16_14) (fun _ _ => ⟨rfl, e0, (by decide : 0 + 0 ≤ _), (by decide : 0 + 0 ≤ _)⟩)
    dsimp only [Pt.U, Pt.locs, Pt.cells, Pt.slots] at X24 l24 y24 z24 st24 hQ24
    subst l24 y24 z24
    obtain ⟨r_24, rfl, Nq24, eq24⟩ := hQ24
    have N25 := Fr.app N0 Nq24
    have q26 := fun t (kt : Go p e below T24 (mkF m 25 #[vJ xq, vS, vI (xq.toInt32)] [(.int ((32 : Int32) + r_24))]) t) => q23 t (st24 t (by
      show Go _ _ _ _ (mkF m 17 #[vJ xq, vS, vI (xq.toInt32)] [(.int r_24), (.int 32)]) _
      refine XS.iadd X24.here hx rfl (hb hby d16_17) rfl ?_
      show Go _ _ _ _ (mkF m 18 _ [(.int ((32 : Int32) + r_24))]) _
      refine XS.goto X24.here hx rfl (pc0 := 18) (pc' := 25) rfl (hb hby d16_18) (by decide) (by decide) ?_
      exact kt))
    exact ⟨some (.int ((32 : Int32) + r_24)), T24, _, _, _, _, X24, by decide, by decide, nofun, q26, fun fs hr => retI X24 hx hret (hb hby d16_25) hr, by rw [eq24]; exact ⟨((32 : Int32) + r_24), rfl, N25, rfl⟩⟩
  · have q27 := fun t (kt : Go p e below s₁ (mkF m 22 #[vJ xq, vS, vI (xq.toInt32)] [(.int (xq.toInt32))]) t) => q21 t (by
      show Go _ _ _ _ (mkF m 4 #[vJ xq, vS, vI (xq.toInt32)] [(.int (xq.toInt32))]) _
      refine XS.ifYes X0.here hx rfl (pc0 := 4) (pc' := 21) rfl (hb hby d16_4) rfl ((if0 _ _).trans (feq hc22).2) (by decide) (by decide) ?_
      show Go _ _ _ _ (mkF m 21 _ []) _
      refine XS.iloadN X0.here hx rfl (hb hby d16_21) rfl ?_
      exact kt)
    obtain ⟨_, _, ⟨T28, L28, k28, n28⟩, -, X28, ⟨_, hQ28, l28, y28, z28⟩, st28⟩ := Jvm.LawKit.callS X0 hx (y := ym13) hown (ow hZ hw 81 rfl) (ow hZ hw 82 rfl) (ow hZ hw 83 rfl) (ow hZ hw 84 rfl) (by decide) (backOf (W := 0) (rm17 l Z a0 hw [] cx (xq.toInt32) h0 n0 O0 ) hZ (ox hw 84 rfl) (ox hw 83 rfl) (by decide) (by decide)) (g := (mkF m 22 #[vJ xq, vS, vI (xq.toInt32)] [(.int (xq.toInt32))])) rfl (by rw [hml]; rfl) (argsL := [(.int (xq.toInt32))]) (rest := []) (lenOf pd_7 rfl) rfl own_le0 (hb hby d16_22) (fun _ _ => ⟨rfl, e0, (by decide : 0 + 0 ≤ _), (by decide : 0 + 0 ≤ _)⟩)
    dsimp only [Pt.U, Pt.locs, Pt.cells, Pt.slots] at X28 l28 y28 z28 st28 hQ28
    subst l28 y28 z28
    obtain ⟨r_28, rfl, Nq28, eq28⟩ := hQ28
    have N29 := Fr.app N0 Nq28
    have q30 := fun t (kt : Go p e below T28 (mkF m 25 #[vJ xq, vS, vI (xq.toInt32)] [(.int r_28)]) t) => q27 t (st28 t kt)
    exact ⟨some (.int r_28), T28, _, _, _, _, X28, by decide, by decide, nofun, q30, fun fs hr => retI X28 hx hret (hb hby d16_25) hr, by rw [eq28]; exact ⟨r_28, rfl, N29, rfl⟩⟩
theorem ef_4_R (m : MethodId) (x0 : Addr) : entryFrame m #[(.ref x0)] 7 = mkF m 0 #[.val (.ref x0), .unset, .unset, .unset, .unset, .unset, .unset] [] := by first | (simp [entryFrame, mkF, argsToLocals, Value.category]; done) | rfl
theorem pn_4 : plainName "com/example/pointward/pointward/pointsto/SiteSet" = true := by first | (simp [plainName, overriddenIn]; done) | decide +kernel
theorem d4_0 : decode prog_17_method_6_code 0 = .ok (.iconst 0, 1) := by decide +kernel
theorem d4_1 : decode prog_17_method_6_code 1 = .ok (.istore_n 1, 1) := by decide +kernel
theorem d4_2 : decode prog_17_method_6_code 2 = .ok (.iconst 0, 1) := by decide +kernel
theorem d4_3 : decode prog_17_method_6_code 3 = .ok (.istore_n 2, 1) := by decide +kernel
theorem d4_4 : decode prog_17_method_6_code 4 = .ok (.iload_n 2, 1) := by decide +kernel
theorem d4_5 : decode prog_17_method_6_code 5 = .ok (.aload_n 0, 1) := by decide +kernel
theorem d4_6 : decode prog_17_method_6_code 6 = .ok (.getfield 23, 3) := by decide +kernel
theorem d4_9 : decode prog_17_method_6_code 9 = .ok (.if_icmp .ge 21, 3) := by decide +kernel
theorem d4_30 : decode prog_17_method_6_code 30 = .ok (.iload_n 1, 1) := by decide +kernel
theorem d4_31 : decode prog_17_method_6_code 31 = .ok (.newarray .int, 2) := by decide +kernel
theorem d4_33 : decode prog_17_method_6_code 33 = .ok (.astore_n 2, 1) := by decide +kernel
theorem d4_34 : decode prog_17_method_6_code 34 = .ok (.iconst 0, 1) := by decide +kernel
theorem d4_35 : decode prog_17_method_6_code 35 = .ok (.istore_n 3, 1) := by decide +kernel
theorem d4_36 : decode prog_17_method_6_code 36 = .ok (.iconst 0, 1) := by decide +kernel
theorem d4_37 : decode prog_17_method_6_code 37 = .ok (.istore 4, 2) := by decide +kernel
theorem d4_39 : decode prog_17_method_6_code 39 = .ok (.iload 4, 2) := by decide +kernel
theorem d4_41 : decode prog_17_method_6_code 41 = .ok (.aload_n 0, 1) := by decide +kernel
theorem d4_42 : decode prog_17_method_6_code 42 = .ok (.getfield 23, 3) := by decide +kernel
theorem d4_45 : decode prog_17_method_6_code 45 = .ok (.if_icmp .ge 59, 3) := by decide +kernel
theorem d4_104 : decode prog_17_method_6_code 104 = .ok (.aload_n 2, 1) := by decide +kernel
theorem d4_105 : decode prog_17_method_6_code 105 = .ok (.areturn, 1) := by decide +kernel
def Q_rm4_0 (Z : State) (a1 : Addr) (cw : Nat → Nat) (h0 : Heap) (n0 : Nat) (v : Option Value) (h : Heap) (L : List Loc) : Prop := ∃ (r : Addr) (kr : ClassId), v = some (.ref r) ∧ Fr n0 L ∧ Keep h0 h [] ∧ h0.size ≤ r ∧ Arv Z h r kr .int (0 : Int32) [] (.int 0)
theorem rm4_0 (l : Launch) (Z : State) (a0 : Array Value) (hw : ∀ d ∈ tables_1, d.before a0 Z = true) (ws : List Jvm.Cond) {cw : Nat → Nat} (cx : Cx Z cw) (a1 : Addr) (h0 : Heap) (n0 : Nat) (O0 : Old Z n0 h0) (G0 : Fld Z h0 a1 sk0 "blocks" "[I" (.ref (cw 0))) (G1 : Fld Z h0 a1 sk0 "words" "[J" (.ref (cw 1))) (G2 : Fld Z h0 a1 sk0 "used" "I" (.int 0)) :
    OwnMet l ym15 (Jvm.Cond.code ym15 prog_17_method_6_code 7 (some (.array .int)) :: ws) (own_R 0 1 0 0) #[(.ref a1)] Z h0 (Q_rm4_0 Z a1 cw h0 n0) := by
  refine own_body (plainFor_of_name pn_4) hisR fun p e s m below meth c s₁ hx hby hml hown hnm hret hZ X0 e0 => ?_
  have N0 := Fr.nil n0
  have K0 : Keep h0 h0 [] := Keep.refl _ _
  have pre0 : ∀ t, Go p e below s₁ (mkF m 0 #[vR a1, vU, vU, vU, vU, vU, vU] []) t → Go p e below s₁ (entryFrame m #[(.ref a1)] 7) t := fun t k => castTop (ef_4_R m a1) k
  have q21 := fun t (kt : Go p e below s₁ (mkF m 6 #[vR a1, vI 0, vI 0, vU, vU, vU, vU] [(.ref a1), (.int 0)]) t) => pre0 t (by
    show Go _ _ _ _ (mkF m 0 #[vR a1, vU, vU, vU, vU, vU, vU] []) _
    refine XS.iconst X0.here hx rfl (hb hby d4_0) ?_
    show Go _ _ _ _ (mkF m 1 _ [(.int 0)]) _
    refine XS.istoreN X0.here hx rfl (hb hby d4_1) rfl (l' := #[vR a1, vI 0, vU, vU, vU, vU, vU]) rfl ?_
    show Go _ _ _ _ (mkF m 2 #[vR a1, vI 0, vU, vU, vU, vU, vU] []) _
    refine XS.iconst X0.here hx rfl (hb hby d4_2) ?_
    show Go _ _ _ _ (mkF m 3 _ [(.int 0)]) _
    refine XS.istoreN X0.here hx rfl (hb hby d4_3) rfl (l' := #[vR a1, vI 0, vI 0, vU, vU, vU, vU]) rfl ?_
    show Go _ _ _ _ (mkF m 4 #[vR a1, vI 0, vI 0, vU, vU, vU, vU] []) _
    refine XS.iloadN X0.here hx rfl (hb hby d4_4) rfl ?_
    show Go _ _ _ _ (mkF m 5 _ [(.int 0)]) _
    refine XS.aloadN X0.here hx rfl (hb hby d4_5) rfl rfl ?_
    exact kt)
  obtain ⟨T22, X22, e22, st22⟩ := getF X0 hx hZ hown (host := "") (Or.inl (ox hw 22 rfl)) Via.refl e0 G2 (g := (mkF m 6 #[vR a1, vI 0, vI 0, vU, vU, vU, vU] [(.ref a1), (.int 0)])) rfl rfl (hb hby d4_6)
  have q23 := fun t (kt : Go p e below T22 (mkF m 31 #[vR a1, vI 0, vI 0, vU, vU, vU, vU] [(.int 0)]) t) => q21 t (st22 t (by
    show Go _ _ _ _ (mkF m 9 #[vR a1, vI 0, vI 0, vU, vU, vU, vU] [(.int 0), (.int 0)]) _
    refine XS.icmpYes X22.here hx rfl (pc0 := 9) (pc' := 30) rfl (hb hby d4_9) rfl (flt (by decide : ¬ ((0 : Int32) < (0 : Int32)))).2.1 (by decide) (by decide) ?_
    show Go _ _ _ _ (mkF m 30 _ []) _
    refine XS.iloadN X22.here hx rfl (hb hby d4_30) rfl ?_
    exact kt))
  obtain ⟨T24, h24, k24, X24, e24, E24, A24, st24⟩ := newP X22 hx hZ (ox hw 29 rfl) e22 (g := (mkF m 31 #[vR a1, vI 0, vI 0, vU, vU, vU, vU] [(.int 0)])) rfl (hb hby d4_31) rfl (by decide) (cap := 0) (by decide) (by decide) (by decide) (by decide)
  obtain ⟨b24, g24⟩ : ∃ z, z = h0.size := ⟨_, rfl⟩
  rw [← g24] at A24 st24
  have gg25 : n0 ≤ b24 := Nat.le_trans (O0.1 ▸ O0.2.1) (Nat.le_of_eq g24.symm)
  have sz26 : h0.size ≤ b24 := Nat.le_trans K0.1 (Nat.le_of_eq g24.symm)
  have O27 := O0.ext E24
  have K28 := K0.ext E24
  have V24 : Arv Z h24 b24 k24 .int (0 : Int32) [] (.int 0) := (Arv.new A24 (by decide))
  have f29 := (G2.ext E24)
  have q30 := fun t (kt : Go p e below T24 (mkF m 42 #[vR a1, vI 0, vR b24, vI 0, vI 0, vU, vU] [(.ref a1), (.int 0)]) t) => q23 t (st24 t (by
    show Go _ _ _ _ (mkF m 33 #[vR a1, vI 0, vI 0, vU, vU, vU, vU] [(.ref b24)]) _
    refine XS.astoreN X24.here hx rfl (hb hby d4_33) rfl rfl (l' := #[vR a1, vI 0, vR b24, vU, vU, vU, vU]) rfl ?_
    show Go _ _ _ _ (mkF m 34 #[vR a1, vI 0, vR b24, vU, vU, vU, vU] []) _
    refine XS.iconst X24.here hx rfl (hb hby d4_34) ?_
    show Go _ _ _ _ (mkF m 35 _ [(.int 0)]) _
    refine XS.istoreN X24.here hx rfl (hb hby d4_35) rfl (l' := #[vR a1, vI 0, vR b24, vI 0, vU, vU, vU]) rfl ?_
    show Go _ _ _ _ (mkF m 36 #[vR a1, vI 0, vR b24, vI 0, vU, vU, vU] []) _
    refine XS.iconst X24.here hx rfl (hb hby d4_36) ?_
    show Go _ _ _ _ (mkF m 37 _ [(.int 0)]) _
    refine XS.istore X24.here hx rfl (hb hby d4_37) rfl (l' := #[vR a1, vI 0, vR b24, vI 0, vI 0, vU, vU]) rfl ?_
    show Go _ _ _ _ (mkF m 39 #[vR a1, vI 0, vR b24, vI 0, vI 0, vU, vU] []) _
    refine XS.iload X24.here hx rfl (hb hby d4_39) rfl ?_
    show Go _ _ _ _ (mkF m 41 _ [(.int 0)]) _
    refine XS.aloadN X24.here hx rfl (hb hby d4_41) rfl rfl ?_
    exact kt))
  obtain ⟨T31, X31, e31, st31⟩ := getF X24 hx hZ hown (host := "") (Or.inl (ox hw 22 rfl)) Via.refl e24 f29 (g := (mkF m 42 #[vR a1, vI 0, vR b24, vI 0, vI 0, vU, vU] [(.ref a1), (.int 0)])) rfl rfl (hb hby d4_42)
  have q32 := fun t (kt : Go p e below T31 (mkF m 105 #[vR a1, vI 0, vR b24, vI 0, vI 0, vU, vU] [(.ref b24)]) t) => q30 t (st31 t (by
    show Go _ _ _ _ (mkF m 45 #[vR a1, vI 0, vR b24, vI 0, vI 0, vU, vU] [(.int 0), (.int 0)]) _
    refine XS.icmpYes X31.here hx rfl (pc0 := 45) (pc' := 104) rfl (hb hby d4_45) rfl (flt (by decide : ¬ ((0 : Int32) < (0 : Int32)))).2.1 (by decide) (by decide) ?_
    show Go _ _ _ _ (mkF m 104 _ []) _
    refine XS.aloadN X31.here hx rfl (hb hby d4_104) rfl rfl ?_
    exact kt))
  exact ⟨some (.ref b24), T31, _, _, _, _, X31, by decide, by decide, nofun, q32, fun fs hr => retOut X31 hx hret rfl (o4 ⟨rfl, rfl, rfl⟩) (hb hby d4_105) hr, by rw [e31]; exact ⟨b24, k24, rfl, N0, K28, sz26, V24⟩⟩
theorem d4_12 : decode prog_17_method_6_code 12 = .ok (.iload_n 1, 1) := by decide +kernel
theorem d4_13 : decode prog_17_method_6_code 13 = .ok (.aload_n 0, 1) := by decide +kernel
theorem d4_14 : decode prog_17_method_6_code 14 = .ok (.getfield 20, 3) := by decide +kernel
theorem d4_17 : decode prog_17_method_6_code 17 = .ok (.iload_n 2, 1) := by decide +kernel
theorem d4_18 : decode prog_17_method_6_code 18 = .ok (.laload, 1) := by decide +kernel
theorem d4_19 : decode prog_17_method_6_code 19 = .ok (.invokestatic 47, 3) := by decide +kernel
theorem pd_8 : parseMethodDescriptor "(J)I" = some ⟨[.long], some .int⟩ := by decide +kernel
theorem d4_22 : decode prog_17_method_6_code 22 = .ok (.iadd, 1) := by decide +kernel
theorem d4_23 : decode prog_17_method_6_code 23 = .ok (.istore_n 1, 1) := by decide +kernel
theorem d4_24 : decode prog_17_method_6_code 24 = .ok (.iinc 2 1, 3) := by decide +kernel
theorem d4_27 : decode prog_17_method_6_code 27 = .ok (.goto (-23), 3) := by decide +kernel
theorem d4_48 : decode prog_17_method_6_code 48 = .ok (.aload_n 0, 1) := by decide +kernel
theorem d4_49 : decode prog_17_method_6_code 49 = .ok (.getfield 20, 3) := by decide +kernel
theorem d4_52 : decode prog_17_method_6_code 52 = .ok (.iload 4, 2) := by decide +kernel
theorem d4_54 : decode prog_17_method_6_code 54 = .ok (.laload, 1) := by decide +kernel
theorem d4_55 : decode prog_17_method_6_code 55 = .ok (.lstore 5, 2) := by decide +kernel
theorem d4_57 : decode prog_17_method_6_code 57 = .ok (.lload 5, 2) := by decide +kernel
theorem d4_59 : decode prog_17_method_6_code 59 = .ok (.lconst 0, 1) := by decide +kernel
theorem d4_60 : decode prog_17_method_6_code 60 = .ok (.lcmp, 1) := by decide +kernel
theorem d4_61 : decode prog_17_method_6_code 61 = .ok (.ifCond .eq 37, 3) := by decide +kernel
theorem d4_64 : decode prog_17_method_6_code 64 = .ok (.aload_n 2, 1) := by decide +kernel
theorem d4_65 : decode prog_17_method_6_code 65 = .ok (.iload_n 3, 1) := by decide +kernel
theorem d4_66 : decode prog_17_method_6_code 66 = .ok (.iinc 3 1, 3) := by decide +kernel
theorem d4_69 : decode prog_17_method_6_code 69 = .ok (.aload_n 0, 1) := by decide +kernel
theorem d4_70 : decode prog_17_method_6_code 70 = .ok (.getfield 13, 3) := by decide +kernel
theorem d4_73 : decode prog_17_method_6_code 73 = .ok (.iload 4, 2) := by decide +kernel
theorem d4_75 : decode prog_17_method_6_code 75 = .ok (.iaload, 1) := by decide +kernel
theorem d4_76 : decode prog_17_method_6_code 76 = .ok (.bipush 6, 2) := by decide +kernel
theorem d4_78 : decode prog_17_method_6_code 78 = .ok (.ishl, 1) := by decide +kernel
theorem d4_79 : decode prog_17_method_6_code 79 = .ok (.lload 5, 2) := by decide +kernel
theorem d4_81 : decode prog_17_method_6_code 81 = .ok (.invokestatic 53, 3) := by decide +kernel
theorem d4_84 : decode prog_17_method_6_code 84 = .ok (.iadd, 1) := by decide +kernel
theorem d4_85 : decode prog_17_method_6_code 85 = .ok (.iastore, 1) := by decide +kernel
theorem d4_86 : decode prog_17_method_6_code 86 = .ok (.lload 5, 2) := by decide +kernel
theorem d4_88 : decode prog_17_method_6_code 88 = .ok (.lload 5, 2) := by decide +kernel
theorem d4_90 : decode prog_17_method_6_code 90 = .ok (.lconst 1, 1) := by decide +kernel
theorem d4_91 : decode prog_17_method_6_code 91 = .ok (.lsub, 1) := by decide +kernel
theorem d4_92 : decode prog_17_method_6_code 92 = .ok (.land, 1) := by decide +kernel
theorem d4_93 : decode prog_17_method_6_code 93 = .ok (.lstore 5, 2) := by decide +kernel
theorem d4_95 : decode prog_17_method_6_code 95 = .ok (.goto (-38), 3) := by decide +kernel
theorem d4_98 : decode prog_17_method_6_code 98 = .ok (.iinc 4 1, 3) := by decide +kernel
theorem d4_101 : decode prog_17_method_6_code 101 = .ok (.goto (-62), 3) := by decide +kernel
def Q_rm4_1 (Z : State) (a1 : Addr) (b : Addr) (ta : Addr) (kb : ClassId) (kt : ClassId) (x0 : Int32) (x1 : Int32) (w0 : Int64) (w1 : Int64) (cw : Nat → Nat) (h0 : Heap) (n0 : Nat) (v : Option Value) (h : Heap) (L : List Loc) : Prop := ∃ (r : Addr) (kr : ClassId) (zr : Int32) (vr : List Value), v = some (.ref r) ∧ Fr n0 L ∧ Keep h0 h [] ∧ h0.size ≤ r ∧ Arv Z h r kr .int zr vr (.int 0) ∧ (¬ (zr = (0 : Int32)))
theorem rm4_1 (l : Launch) (Z : State) (a0 : Array Value) (hw : ∀ d ∈ tables_1, d.before a0 Z = true) (ws : List Jvm.Cond) {cw : Nat → Nat} (cx : Cx Z cw) (a1 : Addr) (b : Addr) (ta : Addr) (kb : ClassId) (kt : ClassId) (x0 : Int32) (x1 : Int32) (w0 : Int64) (w1 : Int64) (h0 : Heap) (n0 : Nat) (O0 : Old Z n0 h0) (G0 : Fld Z h0 a1 sk0 "blocks" "[I" (.ref b)) (G1 : Fld Z h0 a1 sk0 "words" "[J" (.ref ta)) (G2 : Fld Z h0 a1 sk0 "used" "I" (.int 1)) (G3 : Arv Z h0 b kb .int (2 : Int32) [(.int x0), (.int x1)] (.int 0)) (G4 : Arv Z h0 ta kt .long (2 : Int32) [(.long w0), (.long w1)] (.long (0 : Int64))) (hW0 : own_W 3 w0) :
    OwnMet l ym15 (Jvm.Cond.code ym15 prog_17_method_6_code 7 (some (.array .int)) :: ws) (own_R 2 1 3 31) #[(.ref a1)] Z h0 (Q_rm4_1 Z a1 b ta kb kt x0 x1 w0 w1 cw h0 n0) := by
  refine own_body (plainFor_of_name pn_4) hisR fun p e s m below meth c s₁ hx hby hml hown hnm hret hZ X0 e0 => ?_
  have N0 := Fr.nil n0
  have K0 : Keep h0 h0 [] := Keep.refl _ _
  have pre0 : ∀ t, Go p e below s₁ (mkF m 0 #[vR a1, vU, vU, vU, vU, vU, vU] []) t → Go p e below s₁ (entryFrame m #[(.ref a1)] 7) t := fun t k => castTop (ef_4_R m a1) k
  rcases own_T3 hW0 with ⟨t0_0, t0_1, t0_2⟩ | ⟨t0_0, t0_1, t0_2, t0_3⟩ | ⟨t0_0, t0_1, t0_2, t0_3, t0_4⟩
  · skip
    have q21 := fun t (kt : Go p e below s₁ (mkF m 6 #[vR a1, vI 0, vI 0, vU, vU, vU, vU] [(.ref a1), (.int 0)]) t) => pre0 t (by
      show Go _ _ _ _ (mkF m 0 #[vR a1, vU, vU, vU, vU, vU, vU] []) _
      refine XS.iconst X0.here hx rfl (hb hby d4_0) ?_
      show Go _ _ _ _ (mkF m 1 _ [(.int 0)]) _
      refine XS.istoreN X0.here hx rfl (hb hby d4_1) rfl (l' := #[vR a1, vI 0, vU, vU, vU, vU, vU]) rfl ?_
      show Go _ _ _ _ (mkF m 2 #[vR a1, vI 0, vU, vU, vU, vU, vU] []) _
      refine XS.iconst X0.here hx rfl (hb hby d4_2) ?_
      show Go _ _ _ _ (mkF m 3 _ [(.int 0)]) _
      refine XS.istoreN X0.here hx rfl (hb hby d4_3) rfl (l' := #[vR a1, vI 0, vI 0, vU, vU, vU, vU]) rfl ?_
      show Go _ _ _ _ (mkF m 4 #[vR a1, vI 0, vI 0, vU, vU, vU, vU] []) _
      refine XS.iloadN X0.here hx rfl (hb hby d4_4) rfl ?_
      show Go _ _ _ _ (mkF m 5 _ [(.int 0)]) _
      refine XS.aloadN X0.here hx rfl (hb hby d4_5) rfl rfl ?_
      exact kt)
    obtain ⟨T22, X22, e22, st22⟩ := getF X0 hx hZ hown (host := "") (Or.inl (ox hw 22 rfl)) Via.refl e0 G2 (g := (mkF m 6 #[vR a1, vI 0, vI 0, vU, vU, vU, vU] [(.ref a1), (.int 0)])) rfl rfl (hb hby d4_6)
    have q23 := fun t (kt : Go p e below T22 (mkF m 14 #[vR a1, vI 0, vI 0, vU, vU, vU, vU] [(.ref a1), (.int 0)]) t) => q21 t (st22 t (by
      show Go _ _ _ _ (mkF m 9 #[vR a1, vI 0, vI 0, vU, vU, vU, vU] [(.int 1), (.int 0)]) _
      refine XS.icmpNo X22.here hx rfl (hb hby d4_9) rfl (tlt (by decide : (0 : Int32) < (1 : Int32))).2.1 ?_
      show Go _ _ _ _ (mkF m 12 _ []) _
      refine XS.iloadN X22.here hx rfl (hb hby d4_12) rfl ?_
      show Go _ _ _ _ (mkF m 13 _ [(.int 0)]) _
      refine XS.aloadN X22.here hx rfl (hb hby d4_13) rfl rfl ?_
      exact kt))
    obtain ⟨T24, X24, e24, st24⟩ := getF X22 hx hZ hown (host := "") (Or.inl (ox hw 15 rfl)) Via.refl e22 G1 (g := (mkF m 14 #[vR a1, vI 0, vI 0, vU, vU, vU, vU] [(.ref a1), (.int 0)])) rfl rfl (hb hby d4_14)
    have q26 := fun t (kt : Go p e below T24 (mkF m 18 #[vR a1, vI 0, vI 0, vU, vU, vU, vU] [(.int 0), (.ref ta), (.int 0)]) t) => q23 t (st24 t (by
      show Go _ _ _ _ (mkF m 17 #[vR a1, vI 0, vI 0, vU, vU, vU, vU] [(.ref ta), (.int 0)]) _
      refine XS.iloadN X24.here hx rfl (hb hby d4_17) rfl ?_
      exact kt))
    obtain ⟨c25, Ar25, -, S25, N25, H25, -⟩ := id G4
    have q27 := fun t (kt : Go p e below T24 (mkF m 19 #[vR a1, vI 0, vI 0, vU, vU, vU, vU] [(.long w0), (.int 0)]) t) => q26 t (by
      show Go _ _ _ _ (mkF m 18 #[vR a1, vI 0, vI 0, vU, vU, vU, vU] [(.int 0), (.ref ta), (.int 0)]) _
      refine X24.laload hx (j := (0 : Int32)) (v := (.long w0)) (by rw [e24]; exact Ar25.1) (State.isArrayOf_alike hZ.alike Ar25.2.1) Ar25.2.2 (inb_of S25 ⟨by decide, by decide⟩) (Has.at H25 (inb_of S25 ⟨by decide, by decide⟩) rfl) (g := (mkF m 18 #[vR a1, vI 0, vI 0, vU, vU, vU, vU] [(.int 0), (.ref ta), (.int 0)])) rfl rfl (hb hby d4_18) _ ?_
      exact kt)
    obtain ⟨_, _, ⟨T28, L28, k28, n28⟩, -, X28, ⟨_, hQ28, l28, y28, z28⟩, st28⟩ := Jvm.LawKit.callS X24 hx (y := ym12) hown (ow hZ hw 71 rfl) (ow hZ hw 72 rfl) (ow hZ hw 73 rfl) (ow hZ hw 74 rfl) (by decide) (backOf (W := 1) (rm15 l Z a0 hw [] cx w0 h0 n0 O0 ) hZ (ox hw 74 rfl) (ox hw 73 rfl) (by decide) (by decide)) (g := (mkF m 19 #[vR a1, vI 0, vI 0, vU, vU, vU, vU] [(.long w0), (.int 0)])) rfl (by rw [hml]; rfl) (argsL := [(.long w0)]) (rest := [(.int 0)]) (lenOf pd_8 rfl) rfl own_le0 (hb hby d4_19) (fun _ _ => ⟨rfl, e24, (by decide : 0 + 0 ≤ _), (by decide : 0 + 0 ≤ _)⟩)
    dsimp only [Pt.U, Pt.locs, Pt.cells, Pt.slots] at X28 l28 y28 z28 st28 hQ28
    subst l28 y28 z28
    obtain ⟨rfl, Nq28, eq28⟩ := hQ28
    have N29 := Fr.app N0 Nq28
    have q30 := fun t (kt : Go p e below T28 (mkF m 22 #[vR a1, vI 0, vI 0, vU, vU, vU, vU] [(.int (own_bc w0)), (.int 0)]) t) => q27 t (st28 t kt)
    have q31 := fun t (kt : Go p e below T28 (mkF m 22 #[vR a1, vI 0, vI 0, vU, vU, vU, vU] [(.int 1), (.int 0)]) t) => q30 t (by rw [t0_2]; exact kt)
    have q32 := fun t (kt : Go p e below T28 (mkF m 6 #[vR a1, vI 1, vI 1, vU, vU, vU, vU] [(.ref a1), (.int 1)]) t) => q31 t (by
      show Go _ _ _ _ (mkF m 22 #[vR a1, vI 0, vI 0, vU, vU, vU, vU] [(.int 1), (.int 0)]) _
      refine XS.iadd X28.here hx rfl (hb hby d4_22) rfl ?_
      show Go _ _ _ _ (mkF m 23 _ [(.int 1)]) _
      refine XS.istoreN X28.here hx rfl (hb hby d4_23) rfl (l' := #[vR a1, vI 1, vI 0, vU, vU, vU, vU]) rfl ?_
      show Go _ _ _ _ (mkF m 24 #[vR a1, vI 1, vI 0, vU, vU, vU, vU] []) _
      refine XS.iinc X28.here hx rfl (hb hby d4_24) rfl (l' := #[vR a1, vI 1, vI 1, vU, vU, vU, vU]) rfl ?_
      show Go _ _ _ _ (mkF m 27 #[vR a1, vI 1, vI 1, vU, vU, vU, vU] []) _
      refine XS.goto X28.here hx rfl (pc0 := 27) (pc' := 4) rfl (hb hby d4_27) (by decide) (by decide) ?_
      show Go _ _ _ _ (mkF m 4 _ []) _
      refine XS.iloadN X28.here hx rfl (hb hby d4_4) rfl ?_
      show Go _ _ _ _ (mkF m 5 _ [(.int 1)]) _
      refine XS.aloadN X28.here hx rfl (hb hby d4_5) rfl rfl ?_
      exact kt)
    obtain ⟨T33, X33, e33, st33⟩ := getF X28 hx hZ hown (host := "") (Or.inl (ox hw 22 rfl)) Via.refl eq28 G2 (g := (mkF m 6 #[vR a1, vI 1, vI 1, vU, vU, vU, vU] [(.ref a1), (.int 1)])) rfl rfl (hb hby d4_6)
    have q34 := fun t (kt : Go p e below T33 (mkF m 31 #[vR a1, vI 1, vI 1, vU, vU, vU, vU] [(.int 1)]) t) => q32 t (st33 t (by
      show Go _ _ _ _ (mkF m 9 #[vR a1, vI 1, vI 1, vU, vU, vU, vU] [(.int 1), (.int 1)]) _
      refine XS.icmpYes X33.here hx rfl (pc0 := 9) (pc' := 30) rfl (hb hby d4_9) rfl (flt (by decide : ¬ ((1 : Int32) < (1 : Int32)))).2.1 (by decide) (by decide) ?_
      show Go _ _ _ _ (mkF m 30 _ []) _
      refine XS.iloadN X33.here hx rfl (hb hby d4_30) rfl ?_
      exact kt))
    obtain ⟨T35, h35, k35, X35, e35, E35, A35, st35⟩ := newP X33 hx hZ (ox hw 29 rfl) e33 (g := (mkF m 31 #[vR a1, vI 1, vI 1, vU, vU, vU, vU] [(.int 1)])) rfl (hb hby d4_31) rfl (by decide) (cap := 1) (by decide) (by decide) (by decide) (by decide)
    obtain ⟨b35, g35⟩ : ∃ z, z = h0.size := ⟨_, rfl⟩
    rw [← g35] at A35 st35
    have gg36 : n0 ≤ b35 := Nat.le_trans (O0.1 ▸ O0.2.1) (Nat.le_of_eq g35.symm)
    have sz37 : h0.size ≤ b35 := Nat.le_trans K0.1 (Nat.le_of_eq g35.symm)
    have O38 := O0.ext E35
    have K39 := K0.ext E35
    have V35 : Arv Z h35 b35 k35 .int (1 : Int32) [(.int 0)] (.int 0) := (Arv.new A35 (by decide)).pad (pad_rep [] (.int 0) 1)
    have f40 := (G2.ext E35)
    have q41 := fun t (kt : Go p e below T35 (mkF m 42 #[vR a1, vI 1, vR b35, vI 0, vI 0, vU, vU] [(.ref a1), (.int 0)]) t) => q34 t (st35 t (by
      show Go _ _ _ _ (mkF m 33 #[vR a1, vI 1, vI 1, vU, vU, vU, vU] [(.ref b35)]) _
      refine XS.astoreN X35.here hx rfl (hb hby d4_33) rfl rfl (l' := #[vR a1, vI 1, vR b35, vU, vU, vU, vU]) rfl ?_
      show Go _ _ _ _ (mkF m 34 #[vR a1, vI 1, vR b35, vU, vU, vU, vU] []) _
      refine XS.iconst X35.here hx rfl (hb hby d4_34) ?_
      show Go _ _ _ _ (mkF m 35 _ [(.int 0)]) _
      refine XS.istoreN X35.here hx rfl (hb hby d4_35) rfl (l' := #[vR a1, vI 1, vR b35, vI 0, vU, vU, vU]) rfl ?_
      show Go _ _ _ _ (mkF m 36 #[vR a1, vI 1, vR b35, vI 0, vU, vU, vU] []) _
      refine XS.iconst X35.here hx rfl (hb hby d4_36) ?_
      show Go _ _ _ _ (mkF m 37 _ [(.int 0)]) _
      refine XS.istore X35.here hx rfl (hb hby d4_37) rfl (l' := #[vR a1, vI 1, vR b35, vI 0, vI 0, vU, vU]) rfl ?_
      show Go _ _ _ _ (mkF m 39 #[vR a1, vI 1, vR b35, vI 0, vI 0, vU, vU] []) _
      refine XS.iload X35.here hx rfl (hb hby d4_39) rfl ?_
      show Go _ _ _ _ (mkF m 41 _ [(.int 0)]) _
      refine XS.aloadN X35.here hx rfl (hb hby d4_41) rfl rfl ?_
      exact kt))
    obtain ⟨T42, X42, e42, st42⟩ := getF X35 hx hZ hown (host := "") (Or.inl (ox hw 22 rfl)) Via.refl e35 f40 (g := (mkF m 42 #[vR a1, vI 1, vR b35, vI 0, vI 0, vU, vU] [(.ref a1), (.int 0)])) rfl rfl (hb hby d4_42)
    have f43 := (G1.ext E35)
    have q44 := fun t (kt : Go p e below T42 (mkF m 49 #[vR a1, vI 1, vR b35, vI 0, vI 0, vU, vU] [(.ref a1)]) t) => q41 t (st42 t (by
      show Go _ _ _ _ (mkF m 45 #[vR a1, vI 1, vR b35, vI 0, vI 0, vU, vU] [(.int 1), (.int 0)]) _
      refine XS.icmpNo X42.here hx rfl (hb hby d4_45) rfl (tlt (by decide : (0 : Int32) < (1 : Int32))).2.1 ?_
      show Go _ _ _ _ (mkF m 48 _ []) _
      refine XS.aloadN X42.here hx rfl (hb hby d4_48) rfl rfl ?_
      exact kt))
    obtain ⟨T45, X45, e45, st45⟩ := getF X42 hx hZ hown (host := "") (Or.inl (ox hw 15 rfl)) Via.refl e42 f43 (g := (mkF m 49 #[vR a1, vI 1, vR b35, vI 0, vI 0, vU, vU] [(.ref a1)])) rfl rfl (hb hby d4_49)
    have f46 := (G4.ext E35)
    have q48 := fun t (kt : Go p e below T45 (mkF m 54 #[vR a1, vI 1, vR b35, vI 0, vI 0, vU, vU] [(.int 0), (.ref ta)]) t) => q44 t (st45 t (by
      show Go _ _ _ _ (mkF m 52 #[vR a1, vI 1, vR b35, vI 0, vI 0, vU, vU] [(.ref ta)]) _
      refine XS.iload X45.here hx rfl (hb hby d4_52) rfl ?_
      exact kt))
    obtain ⟨c47, Ar47, -, S47, N47, H47, -⟩ := id f46
    have f49 := (G0.ext E35)
    have q50 := fun t (kt : Go p e below T45 (mkF m 70 #[vR a1, vI 1, vR b35, vI 1, vI 0, vJ w0, vS] [(.ref a1), (.int 0), (.ref b35)]) t) => q48 t (by
      show Go _ _ _ _ (mkF m 54 #[vR a1, vI 1, vR b35, vI 0, vI 0, vU, vU] [(.int 0), (.ref ta)]) _
      refine X45.laload hx (j := (0 : Int32)) (v := (.long w0)) (by rw [e45]; exact Ar47.1) (State.isArrayOf_alike hZ.alike Ar47.2.1) Ar47.2.2 (inb_of S47 ⟨by decide, by decide⟩) (Has.at H47 (inb_of S47 ⟨by decide, by decide⟩) rfl) (g := (mkF m 54 #[vR a1, vI 1, vR b35, vI 0, vI 0, vU, vU] [(.int 0), (.ref ta)])) rfl rfl (hb hby d4_54) _ ?_
      show Go _ _ _ _ (mkF m 55 _ [(.long w0)]) _
      refine XS.lstore X45.here hx rfl (hb hby d4_55) rfl (l' := #[vR a1, vI 1, vR b35, vI 0, vI 0, vJ w0, vS]) rfl ?_
      show Go _ _ _ _ (mkF m 57 #[vR a1, vI 1, vR b35, vI 0, vI 0, vJ w0, vS] []) _
      refine XS.lload X45.here hx rfl (hb hby d4_57) rfl ?_
      show Go _ _ _ _ (mkF m 59 _ [(.long w0)]) _
      refine XS.lconst X45.here hx rfl (hb hby d4_59) ?_
      show Go _ _ _ _ (mkF m 60 _ [(.long (0 : Int64)), (.long w0)]) _
      refine XS.lcmp X45.here hx rfl (hb hby d4_60) rfl ?_
      show Go _ _ _ _ (mkF m 61 _ [(.int (lcmpW w0 (0 : Int64)))]) _
      refine XS.ifNo X45.here hx rfl (hb hby d4_61) rfl ((if0 _ _).trans (feq (fun z => t0_0 ((lw_eq _ _).mp z))).1) ?_
      show Go _ _ _ _ (mkF m 64 _ []) _
      refine XS.aloadN X45.here hx rfl (hb hby d4_64) rfl rfl ?_
      show Go _ _ _ _ (mkF m 65 _ [(.ref b35)]) _
      refine XS.iloadN X45.here hx rfl (hb hby d4_65) rfl ?_
      show Go _ _ _ _ (mkF m 66 _ [(.int 0), (.ref b35)]) _
      refine XS.iinc X45.here hx rfl (hb hby d4_66) rfl (l' := #[vR a1, vI 1, vR b35, vI 1, vI 0, vJ w0, vS]) rfl ?_
      show Go _ _ _ _ (mkF m 69 #[vR a1, vI 1, vR b35, vI 1, vI 0, vJ w0, vS] [(.int 0), (.ref b35)]) _
      refine XS.aloadN X45.here hx rfl (hb hby d4_69) rfl rfl ?_
      exact kt)
    obtain ⟨T51, X51, e51, st51⟩ := getF X45 hx hZ hown (host := "") (Or.inl (ox hw 11 rfl)) Via.refl e45 f49 (g := (mkF m 70 #[vR a1, vI 1, vR b35, vI 1, vI 0, vJ w0, vS] [(.ref a1), (.int 0), (.ref b35)])) rfl rfl (hb hby d4_70)
    have f52 := (G3.ext E35)
    have q54 := fun t (kt : Go p e below T51 (mkF m 75 #[vR a1, vI 1, vR b35, vI 1, vI 0, vJ w0, vS] [(.int 0), (.ref b), (.int 0), (.ref b35)]) t) => q50 t (st51 t (by
      show Go _ _ _ _ (mkF m 73 #[vR a1, vI 1, vR b35, vI 1, vI 0, vJ w0, vS] [(.ref b), (.int 0), (.ref b35)]) _
      refine XS.iload X51.here hx rfl (hb hby d4_73) rfl ?_
      exact kt))
    obtain ⟨c53, Ar53, -, S53, N53, H53, -⟩ := id f52
    have q55 := fun t (kt : Go p e below T51 (mkF m 81 #[vR a1, vI 1, vR b35, vI 1, vI 0, vJ w0, vS] [(.long w0), (.int (x0 <<< ((6 : Int32) &&& 31))), (.int 0), (.ref b35)]) t) => q54 t (by
      show Go _ _ _ _ (mkF m 75 #[vR a1, vI 1, vR b35, vI 1, vI 0, vJ w0, vS] [(.int 0), (.ref b), (.int 0), (.ref b35)]) _
      refine X51.iaload hx (j := (0 : Int32)) (v := (.int x0)) (by rw [e51]; exact Ar53.1) (State.isArrayOf_alike hZ.alike Ar53.2.1) Ar53.2.2 (inb_of S53 ⟨by decide, by decide⟩) (Has.at H53 (inb_of S53 ⟨by decide, by decide⟩) rfl) (g := (mkF m 75 #[vR a1, vI 1, vR b35, vI 1, vI 0, vJ w0, vS] [(.int 0), (.ref b), (.int 0), (.ref b35)])) rfl rfl (hb hby d4_75) _ ?_
      show Go _ _ _ _ (mkF m 76 _ [(.int x0), (.int 0), (.ref b35)]) _
      refine XS.bipush X51.here hx rfl (hb hby d4_76) ?_
      show Go _ _ _ _ (mkF m 78 _ [(.int 6), (.int x0), (.int 0), (.ref b35)]) _
      refine XS.ishl X51.here hx rfl (hb hby d4_78) rfl ?_
      show Go _ _ _ _ (mkF m 79 _ [(.int (x0 <<< ((6 : Int32) &&& 31))), (.int 0), (.ref b35)]) _
      refine XS.lload X51.here hx rfl (hb hby d4_79) rfl ?_
      exact kt)
    obtain ⟨_, _, ⟨T56, L56, k56, n56⟩, -, X56, ⟨_, hQ56, l56, y56, z56⟩, st56⟩ := Jvm.LawKit.callS X51 hx (y := ym14) hown (ow hZ hw 78 rfl) (ow hZ hw 79 rfl) (ow hZ hw 73 rfl) (ow hZ hw 80 rfl) (by decide) (backOf (W := 3) (rm16 l Z a0 hw [] cx w0 h35 n0 O38 ) hZ (ox hw 80 rfl) (ox hw 73 rfl) (by decide) (by decide)) (g := (mkF m 81 #[vR a1, vI 1, vR b35, vI 1, vI 0, vJ w0, vS] [(.long w0), (.int (x0 <<< ((6 : Int32) &&& 31))), (.int 0), (.ref b35)])) rfl (by rw [hml]; rfl) (argsL := [(.long w0)]) (rest := [(.int (x0 <<< ((6 : Int32) &&& 31))), (.int 0), (.ref b35)]) (lenOf pd_8 rfl) rfl own_le0 (hb hby d4_81) (fun _ _ => ⟨rfl, e51, (by decide : 1 + 0 ≤ _), (by decide : 1 + 0 ≤ _)⟩)
    dsimp only [Pt.U, Pt.locs, Pt.cells, Pt.slots] at X56 l56 y56 z56 st56 hQ56
    subst l56 y56 z56
    obtain ⟨r_56, rfl, Nq56, eq56⟩ := hQ56
    have N57 := Fr.app N29 Nq56
    have q59 := fun t (kt : Go p e below T56 (mkF m 85 #[vR a1, vI 1, vR b35, vI 1, vI 0, vJ w0, vS] [(.int ((x0 <<< ((6 : Int32) &&& 31)) + r_56)), (.int 0), (.ref b35)]) t) => q55 t (st56 t (by
      show Go _ _ _ _ (mkF m 84 #[vR a1, vI 1, vR b35, vI 1, vI 0, vJ w0, vS] [(.int r_56), (.int (x0 <<< ((6 : Int32) &&& 31))), (.int 0), (.ref b35)]) _
      refine XS.iadd X56.here hx rfl (hb hby d4_84) rfl ?_
      exact kt))
    obtain ⟨c58, Ar58, q58, S58, N58, H58, G58⟩ := id V35
    have hi58 : ¬ ((0 : Int32) < 0 ∨ c58.slots.size ≤ ((0 : Int32)).toNatClampNeg) := inb_of S58 ⟨by decide, by decide⟩
    obtain ⟨T60, h60, X60, e60, W60, st60⟩ := stI X56 hx hZ eq56 Ar58 (j := (0 : Int32)) hi58 (g := (mkF m 85 #[vR a1, vI 1, vR b35, vI 1, vI 0, vJ w0, vS] [(.int ((x0 <<< ((6 : Int32) &&& 31)) + r_56)), (.int 0), (.ref b35)])) rfl rfl (hb hby d4_85)
    have V60 : Arv Z h60 b35 k35 .int (1 : Int32) [(.int ((x0 <<< ((6 : Int32) &&& 31)) + r_56))] (.int 0) := Arv.set Ar58 q58 S58 N58 H58 G58 rfl W60 0 rfl (Nat.le_of_ble_eq_true rfl)
    have N61 := Fr.snoc X60 N57 gg36
    have O62 := O38.wr W60 gg36
    have K63 := K39.wr W60 (Or.inr sz37)
    have q64 := fun t (kt : Go p e below T60 (mkF m 93 #[vR a1, vI 1, vR b35, vI 1, vI 0, vJ w0, vS] [(.long (w0 &&& (w0 - (1 : Int64))))]) t) => q59 t (st60 t (by
      show Go _ _ _ _ (mkF m 86 #[vR a1, vI 1, vR b35, vI 1, vI 0, vJ w0, vS] []) _
      refine XS.lload X60.here hx rfl (hb hby d4_86) rfl ?_
      show Go _ _ _ _ (mkF m 88 _ [(.long w0)]) _
      refine XS.lload X60.here hx rfl (hb hby d4_88) rfl ?_
      show Go _ _ _ _ (mkF m 90 _ [(.long w0), (.long w0)]) _
      refine XS.lconst X60.here hx rfl (hb hby d4_90) ?_
      show Go _ _ _ _ (mkF m 91 _ [(.long (1 : Int64)), (.long w0), (.long w0)]) _
      refine XS.lsub X60.here hx rfl (hb hby d4_91) rfl ?_
      show Go _ _ _ _ (mkF m 92 _ [(.long (w0 - (1 : Int64))), (.long w0)]) _
      refine XS.land X60.here hx rfl (hb hby d4_92) rfl ?_
      exact kt))
    have q65 := fun t (kt : Go p e below T60 (mkF m 93 #[vR a1, vI 1, vR b35, vI 1, vI 0, vJ w0, vS] [(.long (own_dr w0))]) t) => q64 t (by rw [(show (w0 &&& (w0 - (1 : Int64))) = own_dr w0 from rfl)]; exact kt)
    have ne66 : a1 ≠ b35 := (Nat.ne_of_lt (Nat.lt_of_lt_of_le G0.lt (Nat.le_of_eq g35.symm)))
    have f67 := (f40.other W60 (Or.inl ne66))
    have q68 := fun t (kt : Go p e below T60 (mkF m 42 #[vR a1, vI 1, vR b35, vI 1, vI 1, vJ (own_dr w0), vS] [(.ref a1), (.int 1)]) t) => q65 t (by
      show Go _ _ _ _ (mkF m 93 #[vR a1, vI 1, vR b35, vI 1, vI 0, vJ w0, vS] [(.long (own_dr w0))]) _
      refine XS.lstore X60.here hx rfl (hb hby d4_93) rfl (l' := #[vR a1, vI 1, vR b35, vI 1, vI 0, vJ (own_dr w0), vS]) rfl ?_
      show Go _ _ _ _ (mkF m 95 #[vR a1, vI 1, vR b35, vI 1, vI 0, vJ (own_dr w0), vS] []) _
      refine XS.goto X60.here hx rfl (pc0 := 95) (pc' := 57) rfl (hb hby d4_95) (by decide) (by decide) ?_
      show Go _ _ _ _ (mkF m 57 _ []) _
      refine XS.lload X60.here hx rfl (hb hby d4_57) rfl ?_
      show Go _ _ _ _ (mkF m 59 _ [(.long (own_dr w0))]) _
      refine XS.lconst X60.here hx rfl (hb hby d4_59) ?_
      show Go _ _ _ _ (mkF m 60 _ [(.long (0 : Int64)), (.long (own_dr w0))]) _
      refine XS.lcmp X60.here hx rfl (hb hby d4_60) rfl ?_
      show Go _ _ _ _ (mkF m 61 _ [(.int (lcmpW (own_dr w0) (0 : Int64)))]) _
      refine XS.ifYes X60.here hx rfl (pc0 := 61) (pc' := 98) rfl (hb hby d4_61) rfl ((if0 _ _).trans (teq ((lw_eq _ _).mpr t0_1)).1) (by decide) (by decide) ?_
      show Go _ _ _ _ (mkF m 98 _ []) _
      refine XS.iinc X60.here hx rfl (hb hby d4_98) rfl (l' := #[vR a1, vI 1, vR b35, vI 1, vI 1, vJ (own_dr w0), vS]) rfl ?_
      show Go _ _ _ _ (mkF m 101 #[vR a1, vI 1, vR b35, vI 1, vI 1, vJ (own_dr w0), vS] []) _
      refine XS.goto X60.here hx rfl (pc0 := 101) (pc' := 39) rfl (hb hby d4_101) (by decide) (by decide) ?_
      show Go _ _ _ _ (mkF m 39 _ []) _
      refine XS.iload X60.here hx rfl (hb hby d4_39) rfl ?_
      show Go _ _ _ _ (mkF m 41 _ [(.int 1)]) _
      refine XS.aloadN X60.here hx rfl (hb hby d4_41) rfl rfl ?_
      exact kt)
    obtain ⟨T69, X69, e69, st69⟩ := getF X60 hx hZ hown (host := "") (Or.inl (ox hw 22 rfl)) Via.refl e60 f67 (g := (mkF m 42 #[vR a1, vI 1, vR b35, vI 1, vI 1, vJ (own_dr w0), vS] [(.ref a1), (.int 1)])) rfl rfl (hb hby d4_42)
    have q70 := fun t (kt : Go p e below T69 (mkF m 105 #[vR a1, vI 1, vR b35, vI 1, vI 1, vJ (own_dr w0), vS] [(.ref b35)]) t) => q68 t (st69 t (by
      show Go _ _ _ _ (mkF m 45 #[vR a1, vI 1, vR b35, vI 1, vI 1, vJ (own_dr w0), vS] [(.int 1), (.int 1)]) _
      refine XS.icmpYes X69.here hx rfl (pc0 := 45) (pc' := 104) rfl (hb hby d4_45) rfl (flt (by decide : ¬ ((1 : Int32) < (1 : Int32)))).2.1 (by decide) (by decide) ?_
      show Go _ _ _ _ (mkF m 104 _ []) _
      refine XS.aloadN X69.here hx rfl (hb hby d4_104) rfl rfl ?_
      exact kt))
    exact ⟨some (.ref b35), T69, _, _, _, _, X69, by decide, by decide, nofun, q70, fun fs hr => retOut X69 hx hret rfl (o4 ⟨rfl, rfl, rfl⟩) (hb hby d4_105) hr, by rw [e69]; exact ⟨b35, k35, (1 : Int32), [(.int ((x0 <<< ((6 : Int32) &&& 31)) + r_56))], rfl, N61, K63, sz37, V60, (by decide)⟩⟩
  · skip
    have q71 := fun t (kt : Go p e below s₁ (mkF m 6 #[vR a1, vI 0, vI 0, vU, vU, vU, vU] [(.ref a1), (.int 0)]) t) => pre0 t (by
      show Go _ _ _ _ (mkF m 0 #[vR a1, vU, vU, vU, vU, vU, vU] []) _
      refine XS.iconst X0.here hx rfl (hb hby d4_0) ?_
      show Go _ _ _ _ (mkF m 1 _ [(.int 0)]) _
      refine XS.istoreN X0.here hx rfl (hb hby d4_1) rfl (l' := #[vR a1, vI 0, vU, vU, vU, vU, vU]) rfl ?_
      show Go _ _ _ _ (mkF m 2 #[vR a1, vI 0, vU, vU, vU, vU, vU] []) _
      refine XS.iconst X0.here hx rfl (hb hby d4_2) ?_
      show Go _ _ _ _ (mkF m 3 _ [(.int 0)]) _
      refine XS.istoreN X0.here hx rfl (hb hby d4_3) rfl (l' := #[vR a1, vI 0, vI 0, vU, vU, vU, vU]) rfl ?_
      show Go _ _ _ _ (mkF m 4 #[vR a1, vI 0, vI 0, vU, vU, vU, vU] []) _
      refine XS.iloadN X0.here hx rfl (hb hby d4_4) rfl ?_
      show Go _ _ _ _ (mkF m 5 _ [(.int 0)]) _
      refine XS.aloadN X0.here hx rfl (hb hby d4_5) rfl rfl ?_
      exact kt)
    obtain ⟨T72, X72, e72, st72⟩ := getF X0 hx hZ hown (host := "") (Or.inl (ox hw 22 rfl)) Via.refl e0 G2 (g := (mkF m 6 #[vR a1, vI 0, vI 0, vU, vU, vU, vU] [(.ref a1), (.int 0)])) rfl rfl (hb hby d4_6)
    have q73 := fun t (kt : Go p e below T72 (mkF m 14 #[vR a1, vI 0, vI 0, vU, vU, vU, vU] [(.ref a1), (.int 0)]) t) => q71 t (st72 t (by
      show Go _ _ _ _ (mkF m 9 #[vR a1, vI 0, vI 0, vU, vU, vU, vU] [(.int 1), (.int 0)]) _
      refine XS.icmpNo X72.here hx rfl (hb hby d4_9) rfl (tlt (by decide : (0 : Int32) < (1 : Int32))).2.1 ?_
      show Go _ _ _ _ (mkF m 12 _ []) _
      refine XS.iloadN X72.here hx rfl (hb hby d4_12) rfl ?_
      show Go _ _ _ _ (mkF m 13 _ [(.int 0)]) _
      refine XS.aloadN X72.here hx rfl (hb hby d4_13) rfl rfl ?_
      exact kt))
    obtain ⟨T74, X74, e74, st74⟩ := getF X72 hx hZ hown (host := "") (Or.inl (ox hw 15 rfl)) Via.refl e72 G1 (g := (mkF m 14 #[vR a1, vI 0, vI 0, vU, vU, vU, vU] [(.ref a1), (.int 0)])) rfl rfl (hb hby d4_14)
    have q76 := fun t (kt : Go p e below T74 (mkF m 18 #[vR a1, vI 0, vI 0, vU, vU, vU, vU] [(.int 0), (.ref ta), (.int 0)]) t) => q73 t (st74 t (by
      show Go _ _ _ _ (mkF m 17 #[vR a1, vI 0, vI 0, vU, vU, vU, vU] [(.ref ta), (.int 0)]) _
      refine XS.iloadN X74.here hx rfl (hb hby d4_17) rfl ?_
      exact kt))
    obtain ⟨c75, Ar75, -, S75, N75, H75, -⟩ := id G4
    have q77 := fun t (kt : Go p e below T74 (mkF m 19 #[vR a1, vI 0, vI 0, vU, vU, vU, vU] [(.long w0), (.int 0)]) t) => q76 t (by
      show Go _ _ _ _ (mkF m 18 #[vR a1, vI 0, vI 0, vU, vU, vU, vU] [(.int 0), (.ref ta), (.int 0)]) _
      refine X74.laload hx (j := (0 : Int32)) (v := (.long w0)) (by rw [e74]; exact Ar75.1) (State.isArrayOf_alike hZ.alike Ar75.2.1) Ar75.2.2 (inb_of S75 ⟨by decide, by decide⟩) (Has.at H75 (inb_of S75 ⟨by decide, by decide⟩) rfl) (g := (mkF m 18 #[vR a1, vI 0, vI 0, vU, vU, vU, vU] [(.int 0), (.ref ta), (.int 0)])) rfl rfl (hb hby d4_18) _ ?_
      exact kt)
    obtain ⟨_, _, ⟨T78, L78, k78, n78⟩, -, X78, ⟨_, hQ78, l78, y78, z78⟩, st78⟩ := Jvm.LawKit.callS X74 hx (y := ym12) hown (ow hZ hw 71 rfl) (ow hZ hw 72 rfl) (ow hZ hw 73 rfl) (ow hZ hw 74 rfl) (by decide) (backOf (W := 1) (rm15 l Z a0 hw [] cx w0 h0 n0 O0 ) hZ (ox hw 74 rfl) (ox hw 73 rfl) (by decide) (by decide)) (g := (mkF m 19 #[vR a1, vI 0, vI 0, vU, vU, vU, vU] [(.long w0), (.int 0)])) rfl (by rw [hml]; rfl) (argsL := [(.long w0)]) (rest := [(.int 0)]) (lenOf pd_8 rfl) rfl own_le0 (hb hby d4_19) (fun _ _ => ⟨rfl, e74, (by decide : 0 + 0 ≤ _), (by decide : 0 + 0 ≤ _)⟩)
    dsimp only [Pt.U, Pt.locs, Pt.cells, Pt.slots] at X78 l78 y78 z78 st78 hQ78
    subst l78 y78 z78
    obtain ⟨rfl, Nq78, eq78⟩ := hQ78
    have N79 := Fr.app N0 Nq78
    have q80 := fun t (kt : Go p e below T78 (mkF m 22 #[vR a1, vI 0, vI 0, vU, vU, vU, vU] [(.int (own_bc w0)), (.int 0)]) t) => q77 t (st78 t kt)
    have q81 := fun t (kt : Go p e below T78 (mkF m 22 #[vR a1, vI 0, vI 0, vU, vU, vU, vU] [(.int 2), (.int 0)]) t) => q80 t (by rw [t0_3]; exact kt)
    have q82 := fun t (kt : Go p e below T78 (mkF m 6 #[vR a1, vI 2, vI 1, vU, vU, vU, vU] [(.ref a1), (.int 1)]) t) => q81 t (by
      show Go _ _ _ _ (mkF m 22 #[vR a1, vI 0, vI 0, vU, vU, vU, vU] [(.int 2), (.int 0)]) _
      refine XS.iadd X78.here hx rfl (hb hby d4_22) rfl ?_
      show Go _ _ _ _ (mkF m 23 _ [(.int 2)]) _
      refine XS.istoreN X78.here hx rfl (hb hby d4_23) rfl (l' := #[vR a1, vI 2, vI 0, vU, vU, vU, vU]) rfl ?_
      show Go _ _ _ _ (mkF m 24 #[vR a1, vI 2, vI 0, vU, vU, vU, vU] []) _
      refine XS.iinc X78.here hx rfl (hb hby d4_24) rfl (l' := #[vR a1, vI 2, vI 1, vU, vU, vU, vU]) rfl ?_
      show Go _ _ _ _ (mkF m 27 #[vR a1, vI 2, vI 1, vU, vU, vU, vU] []) _
      refine XS.goto X78.here hx rfl (pc0 := 27) (pc' := 4) rfl (hb hby d4_27) (by decide) (by decide) ?_
      show Go _ _ _ _ (mkF m 4 _ []) _
      refine XS.iloadN X78.here hx rfl (hb hby d4_4) rfl ?_
      show Go _ _ _ _ (mkF m 5 _ [(.int 1)]) _
      refine XS.aloadN X78.here hx rfl (hb hby d4_5) rfl rfl ?_
      exact kt)
    obtain ⟨T83, X83, e83, st83⟩ := getF X78 hx hZ hown (host := "") (Or.inl (ox hw 22 rfl)) Via.refl eq78 G2 (g := (mkF m 6 #[vR a1, vI 2, vI 1, vU, vU, vU, vU] [(.ref a1), (.int 1)])) rfl rfl (hb hby d4_6)
    have q84 := fun t (kt : Go p e below T83 (mkF m 31 #[vR a1, vI 2, vI 1, vU, vU, vU, vU] [(.int 2)]) t) => q82 t (st83 t (by
      show Go _ _ _ _ (mkF m 9 #[vR a1, vI 2, vI 1, vU, vU, vU, vU] [(.int 1), (.int 1)]) _
      refine XS.icmpYes X83.here hx rfl (pc0 := 9) (pc' := 30) rfl (hb hby d4_9) rfl (flt (by decide : ¬ ((1 : Int32) < (1 : Int32)))).2.1 (by decide) (by decide) ?_
      show Go _ _ _ _ (mkF m 30 _ []) _
      refine XS.iloadN X83.here hx rfl (hb hby d4_30) rfl ?_
      exact kt))
    obtain ⟨T85, h85, k85, X85, e85, E85, A85, st85⟩ := newP X83 hx hZ (ox hw 29 rfl) e83 (g := (mkF m 31 #[vR a1, vI 2, vI 1, vU, vU, vU, vU] [(.int 2)])) rfl (hb hby d4_31) rfl (by decide) (cap := 2) (by decide) (by decide) (by decide) (by decide)
    obtain ⟨b85, g85⟩ : ∃ z, z = h0.size := ⟨_, rfl⟩
    rw [← g85] at A85 st85
    have gg86 : n0 ≤ b85 := Nat.le_trans (O0.1 ▸ O0.2.1) (Nat.le_of_eq g85.symm)
    have sz87 : h0.size ≤ b85 := Nat.le_trans K0.1 (Nat.le_of_eq g85.symm)
    have O88 := O0.ext E85
    have K89 := K0.ext E85
    have V85 : Arv Z h85 b85 k85 .int (2 : Int32) [(.int 0), (.int 0)] (.int 0) := (Arv.new A85 (by decide)).pad (pad_rep [] (.int 0) 2)
    have f90 := (G2.ext E85)
    have q91 := fun t (kt : Go p e below T85 (mkF m 42 #[vR a1, vI 2, vR b85, vI 0, vI 0, vU, vU] [(.ref a1), (.int 0)]) t) => q84 t (st85 t (by
      show Go _ _ _ _ (mkF m 33 #[vR a1, vI 2, vI 1, vU, vU, vU, vU] [(.ref b85)]) _
      refine XS.astoreN X85.here hx rfl (hb hby d4_33) rfl rfl (l' := #[vR a1, vI 2, vR b85, vU, vU, vU, vU]) rfl ?_
      show Go _ _ _ _ (mkF m 34 #[vR a1, vI 2, vR b85, vU, vU, vU, vU] []) _
      refine XS.iconst X85.here hx rfl (hb hby d4_34) ?_
      show Go _ _ _ _ (mkF m 35 _ [(.int 0)]) _
      refine XS.istoreN X85.here hx rfl (hb hby d4_35) rfl (l' := #[vR a1, vI 2, vR b85, vI 0, vU, vU, vU]) rfl ?_
      show Go _ _ _ _ (mkF m 36 #[vR a1, vI 2, vR b85, vI 0, vU, vU, vU] []) _
      refine XS.iconst X85.here hx rfl (hb hby d4_36) ?_
      show Go _ _ _ _ (mkF m 37 _ [(.int 0)]) _
      refine XS.istore X85.here hx rfl (hb hby d4_37) rfl (l' := #[vR a1, vI 2, vR b85, vI 0, vI 0, vU, vU]) rfl ?_
      show Go _ _ _ _ (mkF m 39 #[vR a1, vI 2, vR b85, vI 0, vI 0, vU, vU] []) _
      refine XS.iload X85.here hx rfl (hb hby d4_39) rfl ?_
      show Go _ _ _ _ (mkF m 41 _ [(.int 0)]) _
      refine XS.aloadN X85.here hx rfl (hb hby d4_41) rfl rfl ?_
      exact kt))
    obtain ⟨T92, X92, e92, st92⟩ := getF X85 hx hZ hown (host := "") (Or.inl (ox hw 22 rfl)) Via.refl e85 f90 (g := (mkF m 42 #[vR a1, vI 2, vR b85, vI 0, vI 0, vU, vU] [(.ref a1), (.int 0)])) rfl rfl (hb hby d4_42)
    have f93 := (G1.ext E85)
    have q94 := fun t (kt : Go p e below T92 (mkF m 49 #[vR a1, vI 2, vR b85, vI 0, vI 0, vU, vU] [(.ref a1)]) t) => q91 t (st92 t (by
      show Go _ _ _ _ (mkF m 45 #[vR a1, vI 2, vR b85, vI 0, vI 0, vU, vU] [(.int 1), (.int 0)]) _
      refine XS.icmpNo X92.here hx rfl (hb hby d4_45) rfl (tlt (by decide : (0 : Int32) < (1 : Int32))).2.1 ?_
      show Go _ _ _ _ (mkF m 48 _ []) _
      refine XS.aloadN X92.here hx rfl (hb hby d4_48) rfl rfl ?_
      exact kt))
    obtain ⟨T95, X95, e95, st95⟩ := getF X92 hx hZ hown (host := "") (Or.inl (ox hw 15 rfl)) Via.refl e92 f93 (g := (mkF m 49 #[vR a1, vI 2, vR b85, vI 0, vI 0, vU, vU] [(.ref a1)])) rfl rfl (hb hby d4_49)
    have f96 := (G4.ext E85)
    have q98 := fun t (kt : Go p e below T95 (mkF m 54 #[vR a1, vI 2, vR b85, vI 0, vI 0, vU, vU] [(.int 0), (.ref ta)]) t) => q94 t (st95 t (by
      show Go _ _ _ _ (mkF m 52 #[vR a1, vI 2, vR b85, vI 0, vI 0, vU, vU] [(.ref ta)]) _
      refine XS.iload X95.here hx rfl (hb hby d4_52) rfl ?_
      exact kt))
    obtain ⟨c97, Ar97, -, S97, N97, H97, -⟩ := id f96
    have f99 := (G0.ext E85)
    have q100 := fun t (kt : Go p e below T95 (mkF m 70 #[vR a1, vI 2, vR b85, vI 1, vI 0, vJ w0, vS] [(.ref a1), (.int 0), (.ref b85)]) t) => q98 t (by
      show Go _ _ _ _ (mkF m 54 #[vR a1, vI 2, vR b85, vI 0, vI 0, vU, vU] [(.int 0), (.ref ta)]) _
      refine X95.laload hx (j := (0 : Int32)) (v := (.long w0)) (by rw [e95]; exact Ar97.1) (State.isArrayOf_alike hZ.alike Ar97.2.1) Ar97.2.2 (inb_of S97 ⟨by decide, by decide⟩) (Has.at H97 (inb_of S97 ⟨by decide, by decide⟩) rfl) (g := (mkF m 54 #[vR a1, vI 2, vR b85, vI 0, vI 0, vU, vU] [(.int 0), (.ref ta)])) rfl rfl (hb hby d4_54) _ ?_
      show Go _ _ _ _ (mkF m 55 _ [(.long w0)]) _
      refine XS.lstore X95.here hx rfl (hb hby d4_55) rfl (l' := #[vR a1, vI 2, vR b85, vI 0, vI 0, vJ w0, vS]) rfl ?_
      show Go _ _ _ _ (mkF m 57 #[vR a1, vI 2, vR b85, vI 0, vI 0, vJ w0, vS] []) _
      refine XS.lload X95.here hx rfl (hb hby d4_57) rfl ?_
      show Go _ _ _ _ (mkF m 59 _ [(.long w0)]) _
      refine XS.lconst X95.here hx rfl (hb hby d4_59) ?_
      show Go _ _ _ _ (mkF m 60 _ [(.long (0 : Int64)), (.long w0)]) _
      refine XS.lcmp X95.here hx rfl (hb hby d4_60) rfl ?_
      show Go _ _ _ _ (mkF m 61 _ [(.int (lcmpW w0 (0 : Int64)))]) _
      refine XS.ifNo X95.here hx rfl (hb hby d4_61) rfl ((if0 _ _).trans (feq (fun z => t0_0 ((lw_eq _ _).mp z))).1) ?_
      show Go _ _ _ _ (mkF m 64 _ []) _
      refine XS.aloadN X95.here hx rfl (hb hby d4_64) rfl rfl ?_
      show Go _ _ _ _ (mkF m 65 _ [(.ref b85)]) _
      refine XS.iloadN X95.here hx rfl (hb hby d4_65) rfl ?_
      show Go _ _ _ _ (mkF m 66 _ [(.int 0), (.ref b85)]) _
      refine XS.iinc X95.here hx rfl (hb hby d4_66) rfl (l' := #[vR a1, vI 2, vR b85, vI 1, vI 0, vJ w0, vS]) rfl ?_
      show Go _ _ _ _ (mkF m 69 #[vR a1, vI 2, vR b85, vI 1, vI 0, vJ w0, vS] [(.int 0), (.ref b85)]) _
      refine XS.aloadN X95.here hx rfl (hb hby d4_69) rfl rfl ?_
      exact kt)
    obtain ⟨T101, X101, e101, st101⟩ := getF X95 hx hZ hown (host := "") (Or.inl (ox hw 11 rfl)) Via.refl e95 f99 (g := (mkF m 70 #[vR a1, vI 2, vR b85, vI 1, vI 0, vJ w0, vS] [(.ref a1), (.int 0), (.ref b85)])) rfl rfl (hb hby d4_70)
    have f102 := (G3.ext E85)
    have q104 := fun t (kt : Go p e below T101 (mkF m 75 #[vR a1, vI 2, vR b85, vI 1, vI 0, vJ w0, vS] [(.int 0), (.ref b), (.int 0), (.ref b85)]) t) => q100 t (st101 t (by
      show Go _ _ _ _ (mkF m 73 #[vR a1, vI 2, vR b85, vI 1, vI 0, vJ w0, vS] [(.ref b), (.int 0), (.ref b85)]) _
      refine XS.iload X101.here hx rfl (hb hby d4_73) rfl ?_
      exact kt))
    obtain ⟨c103, Ar103, -, S103, N103, H103, -⟩ := id f102
    have q105 := fun t (kt : Go p e below T101 (mkF m 81 #[vR a1, vI 2, vR b85, vI 1, vI 0, vJ w0, vS] [(.long w0), (.int (x0 <<< ((6 : Int32) &&& 31))), (.int 0), (.ref b85)]) t) => q104 t (by
      show Go _ _ _ _ (mkF m 75 #[vR a1, vI 2, vR b85, vI 1, vI 0, vJ w0, vS] [(.int 0), (.ref b), (.int 0), (.ref b85)]) _
      refine X101.iaload hx (j := (0 : Int32)) (v := (.int x0)) (by rw [e101]; exact Ar103.1) (State.isArrayOf_alike hZ.alike Ar103.2.1) Ar103.2.2 (inb_of S103 ⟨by decide, by decide⟩) (Has.at H103 (inb_of S103 ⟨by decide, by decide⟩) rfl) (g := (mkF m 75 #[vR a1, vI 2, vR b85, vI 1, vI 0, vJ w0, vS] [(.int 0), (.ref b), (.int 0), (.ref b85)])) rfl rfl (hb hby d4_75) _ ?_
      show Go _ _ _ _ (mkF m 76 _ [(.int x0), (.int 0), (.ref b85)]) _
      refine XS.bipush X101.here hx rfl (hb hby d4_76) ?_
      show Go _ _ _ _ (mkF m 78 _ [(.int 6), (.int x0), (.int 0), (.ref b85)]) _
      refine XS.ishl X101.here hx rfl (hb hby d4_78) rfl ?_
      show Go _ _ _ _ (mkF m 79 _ [(.int (x0 <<< ((6 : Int32) &&& 31))), (.int 0), (.ref b85)]) _
      refine XS.lload X101.here hx rfl (hb hby d4_79) rfl ?_
      exact kt)
    obtain ⟨_, _, ⟨T106, L106, k106, n106⟩, -, X106, ⟨_, hQ106, l106, y106, z106⟩, st106⟩ := Jvm.LawKit.callS X101 hx (y := ym14) hown (ow hZ hw 78 rfl) (ow hZ hw 79 rfl) (ow hZ hw 73 rfl) (ow hZ hw 80 rfl) (by decide) (backOf (W := 3) (rm16 l Z a0 hw [] cx w0 h85 n0 O88 ) hZ (ox hw 80 rfl) (ox hw 73 rfl) (by decide) (by decide)) (g := (mkF m 81 #[vR a1, vI 2, vR b85, vI 1, vI 0, vJ w0, vS] [(.long w0), (.int (x0 <<< ((6 : Int32) &&& 31))), (.int 0), (.ref b85)])) rfl (by rw [hml]; rfl) (argsL := [(.long w0)]) (rest := [(.int (x0 <<< ((6 : Int32) &&& 31))), (.int 0), (.ref b85)]) (lenOf pd_8 rfl) rfl own_le0 (hb hby d4_81) (fun _ _ => ⟨rfl, e101, (by decide : 1 + 0 ≤ _), (by decide : 2 + 0 ≤ _)⟩)
    dsimp only [Pt.U, Pt.locs, Pt.cells, Pt.slots] at X106 l106 y106 z106 st106 hQ106
    subst l106 y106 z106
    obtain ⟨r_106, rfl, Nq106, eq106⟩ := hQ106
    have N107 := Fr.app N79 Nq106
    have q109 := fun t (kt : Go p e below T106 (mkF m 85 #[vR a1, vI 2, vR b85, vI 1, vI 0, vJ w0, vS] [(.int ((x0 <<< ((6 : Int32) &&& 31)) + r_106)), (.int 0), (.ref b85)]) t) => q105 t (st106 t (by
      show Go _ _ _ _ (mkF m 84 #[vR a1, vI 2, vR b85, vI 1, vI 0, vJ w0, vS] [(.int r_106), (.int (x0 <<< ((6 : Int32) &&& 31))), (.int 0), (.ref b85)]) _
      refine XS.iadd X106.here hx rfl (hb hby d4_84) rfl ?_
      exact kt))
    obtain ⟨c108, Ar108, q108, S108, N108, H108, G108⟩ := id V85
    have hi108 : ¬ ((0 : Int32) < 0 ∨ c108.slots.size ≤ ((0 : Int32)).toNatClampNeg) := inb_of S108 ⟨by decide, by decide⟩
    obtain ⟨T110, h110, X110, e110, W110, st110⟩ := stI X106 hx hZ eq106 Ar108 (j := (0 : Int32)) hi108 (g := (mkF m 85 #[vR a1, vI 2, vR b85, vI 1, vI 0, vJ w0, vS] [(.int ((x0 <<< ((6 : Int32) &&& 31)) + r_106)), (.int 0), (.ref b85)])) rfl rfl (hb hby d4_85)
    have V110 : Arv Z h110 b85 k85 .int (2 : Int32) [(.int ((x0 <<< ((6 : Int32) &&& 31)) + r_106)), (.int 0)] (.int 0) := Arv.set Ar108 q108 S108 N108 H108 G108 rfl W110 0 rfl (Nat.le_of_ble_eq_true rfl)
    have N111 := Fr.snoc X110 N107 gg86
    have O112 := O88.wr W110 gg86
    have K113 := K89.wr W110 (Or.inr sz87)
    have q114 := fun t (kt : Go p e below T110 (mkF m 93 #[vR a1, vI 2, vR b85, vI 1, vI 0, vJ w0, vS] [(.long (w0 &&& (w0 - (1 : Int64))))]) t) => q109 t (st110 t (by
      show Go _ _ _ _ (mkF m 86 #[vR a1, vI 2, vR b85, vI 1, vI 0, vJ w0, vS] []) _
      refine XS.lload X110.here hx rfl (hb hby d4_86) rfl ?_
      show Go _ _ _ _ (mkF m 88 _ [(.long w0)]) _
      refine XS.lload X110.here hx rfl (hb hby d4_88) rfl ?_
      show Go _ _ _ _ (mkF m 90 _ [(.long w0), (.long w0)]) _
      refine XS.lconst X110.here hx rfl (hb hby d4_90) ?_
      show Go _ _ _ _ (mkF m 91 _ [(.long (1 : Int64)), (.long w0), (.long w0)]) _
      refine XS.lsub X110.here hx rfl (hb hby d4_91) rfl ?_
      show Go _ _ _ _ (mkF m 92 _ [(.long (w0 - (1 : Int64))), (.long w0)]) _
      refine XS.land X110.here hx rfl (hb hby d4_92) rfl ?_
      exact kt))
    have q115 := fun t (kt : Go p e below T110 (mkF m 93 #[vR a1, vI 2, vR b85, vI 1, vI 0, vJ w0, vS] [(.long (own_dr w0))]) t) => q114 t (by rw [(show (w0 &&& (w0 - (1 : Int64))) = own_dr w0 from rfl)]; exact kt)
    have ne116 : a1 ≠ b85 := (Nat.ne_of_lt (Nat.lt_of_lt_of_le G0.lt (Nat.le_of_eq g85.symm)))
    have f117 := (f99.other W110 (Or.inl ne116))
    have q118 := fun t (kt : Go p e below T110 (mkF m 70 #[vR a1, vI 2, vR b85, vI 2, vI 0, vJ (own_dr w0), vS] [(.ref a1), (.int 1), (.ref b85)]) t) => q115 t (by
      show Go _ _ _ _ (mkF m 93 #[vR a1, vI 2, vR b85, vI 1, vI 0, vJ w0, vS] [(.long (own_dr w0))]) _
      refine XS.lstore X110.here hx rfl (hb hby d4_93) rfl (l' := #[vR a1, vI 2, vR b85, vI 1, vI 0, vJ (own_dr w0), vS]) rfl ?_
      show Go _ _ _ _ (mkF m 95 #[vR a1, vI 2, vR b85, vI 1, vI 0, vJ (own_dr w0), vS] []) _
      refine XS.goto X110.here hx rfl (pc0 := 95) (pc' := 57) rfl (hb hby d4_95) (by decide) (by decide) ?_
      show Go _ _ _ _ (mkF m 57 _ []) _
      refine XS.lload X110.here hx rfl (hb hby d4_57) rfl ?_
      show Go _ _ _ _ (mkF m 59 _ [(.long (own_dr w0))]) _
      refine XS.lconst X110.here hx rfl (hb hby d4_59) ?_
      show Go _ _ _ _ (mkF m 60 _ [(.long (0 : Int64)), (.long (own_dr w0))]) _
      refine XS.lcmp X110.here hx rfl (hb hby d4_60) rfl ?_
      show Go _ _ _ _ (mkF m 61 _ [(.int (lcmpW (own_dr w0) (0 : Int64)))]) _
      refine XS.ifNo X110.here hx rfl (hb hby d4_61) rfl ((if0 _ _).trans (feq (fun z => t0_1 ((lw_eq _ _).mp z))).1) ?_
      show Go _ _ _ _ (mkF m 64 _ []) _
      refine XS.aloadN X110.here hx rfl (hb hby d4_64) rfl rfl ?_
      show Go _ _ _ _ (mkF m 65 _ [(.ref b85)]) _
      refine XS.iloadN X110.here hx rfl (hb hby d4_65) rfl ?_
      show Go _ _ _ _ (mkF m 66 _ [(.int 1), (.ref b85)]) _
      refine XS.iinc X110.here hx rfl (hb hby d4_66) rfl (l' := #[vR a1, vI 2, vR b85, vI 2, vI 0, vJ (own_dr w0), vS]) rfl ?_
      show Go _ _ _ _ (mkF m 69 #[vR a1, vI 2, vR b85, vI 2, vI 0, vJ (own_dr w0), vS] [(.int 1), (.ref b85)]) _
      refine XS.aloadN X110.here hx rfl (hb hby d4_69) rfl rfl ?_
      exact kt)
    obtain ⟨T119, X119, e119, st119⟩ := getF X110 hx hZ hown (host := "") (Or.inl (ox hw 11 rfl)) Via.refl e110 f117 (g := (mkF m 70 #[vR a1, vI 2, vR b85, vI 2, vI 0, vJ (own_dr w0), vS] [(.ref a1), (.int 1), (.ref b85)])) rfl rfl (hb hby d4_70)
    have ne120 : b ≠ b85 := (Nat.ne_of_lt (Nat.lt_of_lt_of_le G3.lt (Nat.le_of_eq g85.symm)))
    have f121 := (f102.other W110 ne120)
    have q123 := fun t (kt : Go p e below T119 (mkF m 75 #[vR a1, vI 2, vR b85, vI 2, vI 0, vJ (own_dr w0), vS] [(.int 0), (.ref b), (.int 1), (.ref b85)]) t) => q118 t (st119 t (by
      show Go _ _ _ _ (mkF m 73 #[vR a1, vI 2, vR b85, vI 2, vI 0, vJ (own_dr w0), vS] [(.ref b), (.int 1), (.ref b85)]) _
      refine XS.iload X119.here hx rfl (hb hby d4_73) rfl ?_
      exact kt))
    obtain ⟨c122, Ar122, -, S122, N122, H122, -⟩ := id f121
    have q124 := fun t (kt : Go p e below T119 (mkF m 81 #[vR a1, vI 2, vR b85, vI 2, vI 0, vJ (own_dr w0), vS] [(.long (own_dr w0)), (.int (x0 <<< ((6 : Int32) &&& 31))), (.int 1), (.ref b85)]) t) => q123 t (by
      show Go _ _ _ _ (mkF m 75 #[vR a1, vI 2, vR b85, vI 2, vI 0, vJ (own_dr w0), vS] [(.int 0), (.ref b), (.int 1), (.ref b85)]) _
      refine X119.iaload hx (j := (0 : Int32)) (v := (.int x0)) (by rw [e119]; exact Ar122.1) (State.isArrayOf_alike hZ.alike Ar122.2.1) Ar122.2.2 (inb_of S122 ⟨by decide, by decide⟩) (Has.at H122 (inb_of S122 ⟨by decide, by decide⟩) rfl) (g := (mkF m 75 #[vR a1, vI 2, vR b85, vI 2, vI 0, vJ (own_dr w0), vS] [(.int 0), (.ref b), (.int 1), (.ref b85)])) rfl rfl (hb hby d4_75) _ ?_
      show Go _ _ _ _ (mkF m 76 _ [(.int x0), (.int 1), (.ref b85)]) _
      refine XS.bipush X119.here hx rfl (hb hby d4_76) ?_
      show Go _ _ _ _ (mkF m 78 _ [(.int 6), (.int x0), (.int 1), (.ref b85)]) _
      refine XS.ishl X119.here hx rfl (hb hby d4_78) rfl ?_
      show Go _ _ _ _ (mkF m 79 _ [(.int (x0 <<< ((6 : Int32) &&& 31))), (.int 1), (.ref b85)]) _
      refine XS.lload X119.here hx rfl (hb hby d4_79) rfl ?_
      exact kt)
    obtain ⟨_, _, ⟨T125, L125, k125, n125⟩, -, X125, ⟨_, hQ125, l125, y125, z125⟩, st125⟩ := Jvm.LawKit.callS X119 hx (y := ym14) hown (ow hZ hw 78 rfl) (ow hZ hw 79 rfl) (ow hZ hw 73 rfl) (ow hZ hw 80 rfl) (by decide) (backOf (W := 3) (rm16 l Z a0 hw [] cx (own_dr w0) h110 n0 O112 ) hZ (ox hw 80 rfl) (ox hw 73 rfl) (by decide) (by decide)) (g := (mkF m 81 #[vR a1, vI 2, vR b85, vI 2, vI 0, vJ (own_dr w0), vS] [(.long (own_dr w0)), (.int (x0 <<< ((6 : Int32) &&& 31))), (.int 1), (.ref b85)])) rfl (by rw [hml]; rfl) (argsL := [(.long (own_dr w0))]) (rest := [(.int (x0 <<< ((6 : Int32) &&& 31))), (.int 1), (.ref b85)]) (lenOf pd_8 rfl) rfl own_le0 (hb hby d4_81) (fun _ _ => ⟨rfl, e119, (by decide : 1 + 0 ≤ _), (by decide : 2 + 0 ≤ _)⟩)
    dsimp only [Pt.U, Pt.locs, Pt.cells, Pt.slots] at X125 l125 y125 z125 st125 hQ125
    subst l125 y125 z125
    obtain ⟨r_125, rfl, Nq125, eq125⟩ := hQ125
    have N126 := Fr.app N111 Nq125
    have q128 := fun t (kt : Go p e below T125 (mkF m 85 #[vR a1, vI 2, vR b85, vI 2, vI 0, vJ (own_dr w0), vS] [(.int ((x0 <<< ((6 : Int32) &&& 31)) + r_125)), (.int 1), (.ref b85)]) t) => q124 t (st125 t (by
      show Go _ _ _ _ (mkF m 84 #[vR a1, vI 2, vR b85, vI 2, vI 0, vJ (own_dr w0), vS] [(.int r_125), (.int (x0 <<< ((6 : Int32) &&& 31))), (.int 1), (.ref b85)]) _
      refine XS.iadd X125.here hx rfl (hb hby d4_84) rfl ?_
      exact kt))
    obtain ⟨c127, Ar127, q127, S127, N127, H127, G127⟩ := id V110
    have hi127 : ¬ ((1 : Int32) < 0 ∨ c127.slots.size ≤ ((1 : Int32)).toNatClampNeg) := inb_of S127 ⟨by decide, by decide⟩
    obtain ⟨T129, h129, X129, e129, W129, st129⟩ := stI X125 hx hZ eq125 Ar127 (j := (1 : Int32)) hi127 (g := (mkF m 85 #[vR a1, vI 2, vR b85, vI 2, vI 0, vJ (own_dr w0), vS] [(.int ((x0 <<< ((6 : Int32) &&& 31)) + r_125)), (.int 1), (.ref b85)])) rfl rfl (hb hby d4_85)
    have V129 : Arv Z h129 b85 k85 .int (2 : Int32) [(.int ((x0 <<< ((6 : Int32) &&& 31)) + r_106)), (.int ((x0 <<< ((6 : Int32) &&& 31)) + r_125))] (.int 0) := Arv.set Ar127 q127 S127 N127 H127 G127 rfl W129 1 rfl (Nat.le_of_ble_eq_true rfl)
    have N130 := Fr.snoc X129 N126 gg86
    have O131 := O112.wr W129 gg86
    have K132 := K113.wr W129 (Or.inr sz87)
    have q133 := fun t (kt : Go p e below T129 (mkF m 93 #[vR a1, vI 2, vR b85, vI 2, vI 0, vJ (own_dr w0), vS] [(.long ((own_dr w0) &&& ((own_dr w0) - (1 : Int64))))]) t) => q128 t (st129 t (by
      show Go _ _ _ _ (mkF m 86 #[vR a1, vI 2, vR b85, vI 2, vI 0, vJ (own_dr w0), vS] []) _
      refine XS.lload X129.here hx rfl (hb hby d4_86) rfl ?_
      show Go _ _ _ _ (mkF m 88 _ [(.long (own_dr w0))]) _
      refine XS.lload X129.here hx rfl (hb hby d4_88) rfl ?_
      show Go _ _ _ _ (mkF m 90 _ [(.long (own_dr w0)), (.long (own_dr w0))]) _
      refine XS.lconst X129.here hx rfl (hb hby d4_90) ?_
      show Go _ _ _ _ (mkF m 91 _ [(.long (1 : Int64)), (.long (own_dr w0)), (.long (own_dr w0))]) _
      refine XS.lsub X129.here hx rfl (hb hby d4_91) rfl ?_
      show Go _ _ _ _ (mkF m 92 _ [(.long ((own_dr w0) - (1 : Int64))), (.long (own_dr w0))]) _
      refine XS.land X129.here hx rfl (hb hby d4_92) rfl ?_
      exact kt))
    have q134 := fun t (kt : Go p e below T129 (mkF m 93 #[vR a1, vI 2, vR b85, vI 2, vI 0, vJ (own_dr w0), vS] [(.long (own_dr (own_dr w0)))]) t) => q133 t (by rw [(show ((own_dr w0) &&& ((own_dr w0) - (1 : Int64))) = own_dr (own_dr w0) from rfl)]; exact kt)
    have f135 := ((f90.other W110 (Or.inl ne116)).other W129 (Or.inl ne116))
    have q136 := fun t (kt : Go p e below T129 (mkF m 42 #[vR a1, vI 2, vR b85, vI 2, vI 1, vJ (own_dr (own_dr w0)), vS] [(.ref a1), (.int 1)]) t) => q134 t (by
      show Go _ _ _ _ (mkF m 93 #[vR a1, vI 2, vR b85, vI 2, vI 0, vJ (own_dr w0), vS] [(.long (own_dr (own_dr w0)))]) _
      refine XS.lstore X129.here hx rfl (hb hby d4_93) rfl (l' := #[vR a1, vI 2, vR b85, vI 2, vI 0, vJ (own_dr (own_dr w0)), vS]) rfl ?_
      show Go _ _ _ _ (mkF m 95 #[vR a1, vI 2, vR b85, vI 2, vI 0, vJ (own_dr (own_dr w0)), vS] []) _
      refine XS.goto X129.here hx rfl (pc0 := 95) (pc' := 57) rfl (hb hby d4_95) (by decide) (by decide) ?_
      show Go _ _ _ _ (mkF m 57 _ []) _
      refine XS.lload X129.here hx rfl (hb hby d4_57) rfl ?_
      show Go _ _ _ _ (mkF m 59 _ [(.long (own_dr (own_dr w0)))]) _
      refine XS.lconst X129.here hx rfl (hb hby d4_59) ?_
      show Go _ _ _ _ (mkF m 60 _ [(.long (0 : Int64)), (.long (own_dr (own_dr w0)))]) _
      refine XS.lcmp X129.here hx rfl (hb hby d4_60) rfl ?_
      show Go _ _ _ _ (mkF m 61 _ [(.int (lcmpW (own_dr (own_dr w0)) (0 : Int64)))]) _
      refine XS.ifYes X129.here hx rfl (pc0 := 61) (pc' := 98) rfl (hb hby d4_61) rfl ((if0 _ _).trans (teq ((lw_eq _ _).mpr t0_2)).1) (by decide) (by decide) ?_
      show Go _ _ _ _ (mkF m 98 _ []) _
      refine XS.iinc X129.here hx rfl (hb hby d4_98) rfl (l' := #[vR a1, vI 2, vR b85, vI 2, vI 1, vJ (own_dr (own_dr w0)), vS]) rfl ?_
      show Go _ _ _ _ (mkF m 101 #[vR a1, vI 2, vR b85, vI 2, vI 1, vJ (own_dr (own_dr w0)), vS] []) _
      refine XS.goto X129.here hx rfl (pc0 := 101) (pc' := 39) rfl (hb hby d4_101) (by decide) (by decide) ?_
      show Go _ _ _ _ (mkF m 39 _ []) _
      refine XS.iload X129.here hx rfl (hb hby d4_39) rfl ?_
      show Go _ _ _ _ (mkF m 41 _ [(.int 1)]) _
      refine XS.aloadN X129.here hx rfl (hb hby d4_41) rfl rfl ?_
      exact kt)
    obtain ⟨T137, X137, e137, st137⟩ := getF X129 hx hZ hown (host := "") (Or.inl (ox hw 22 rfl)) Via.refl e129 f135 (g := (mkF m 42 #[vR a1, vI 2, vR b85, vI 2, vI 1, vJ (own_dr (own_dr w0)), vS] [(.ref a1), (.int 1)])) rfl rfl (hb hby d4_42)
    have q138 := fun t (kt : Go p e below T137 (mkF m 105 #[vR a1, vI 2, vR b85, vI 2, vI 1, vJ (own_dr (own_dr w0)), vS] [(.ref b85)]) t) => q136 t (st137 t (by
      show Go _ _ _ _ (mkF m 45 #[vR a1, vI 2, vR b85, vI 2, vI 1, vJ (own_dr (own_dr w0)), vS] [(.int 1), (.int 1)]) _
      refine XS.icmpYes X137.here hx rfl (pc0 := 45) (pc' := 104) rfl (hb hby d4_45) rfl (flt (by decide : ¬ ((1 : Int32) < (1 : Int32)))).2.1 (by decide) (by decide) ?_
      show Go _ _ _ _ (mkF m 104 _ []) _
      refine XS.aloadN X137.here hx rfl (hb hby d4_104) rfl rfl ?_
      exact kt))
    exact ⟨some (.ref b85), T137, _, _, _, _, X137, by decide, by decide, nofun, q138, fun fs hr => retOut X137 hx hret rfl (o4 ⟨rfl, rfl, rfl⟩) (hb hby d4_105) hr, by rw [e137]; exact ⟨b85, k85, (2 : Int32), [(.int ((x0 <<< ((6 : Int32) &&& 31)) + r_106)), (.int ((x0 <<< ((6 : Int32) &&& 31)) + r_125))], rfl, N130, K132, sz87, V129, (by decide)⟩⟩
  · skip
    have q139 := fun t (kt : Go p e below s₁ (mkF m 6 #[vR a1, vI 0, vI 0, vU, vU, vU, vU] [(.ref a1), (.int 0)]) t) => pre0 t (by
      show Go _ _ _ _ (mkF m 0 #[vR a1, vU, vU, vU, vU, vU, vU] []) _
      refine XS.iconst X0.here hx rfl (hb hby d4_0) ?_
      show Go _ _ _ _ (mkF m 1 _ [(.int 0)]) _
      refine XS.istoreN X0.here hx rfl (hb hby d4_1) rfl (l' := #[vR a1, vI 0, vU, vU, vU, vU, vU]) rfl ?_
      show Go _ _ _ _ (mkF m 2 #[vR a1, vI 0, vU, vU, vU, vU, vU] []) _
      refine XS.iconst X0.here hx rfl (hb hby d4_2) ?_
      show Go _ _ _ _ (mkF m 3 _ [(.int 0)]) _
      refine XS.istoreN X0.here hx rfl (hb hby d4_3) rfl (l' := #[vR a1, vI 0, vI 0, vU, vU, vU, vU]) rfl ?_
      show Go _ _ _ _ (mkF m 4 #[vR a1, vI 0, vI 0, vU, vU, vU, vU] []) _
      refine XS.iloadN X0.here hx rfl (hb hby d4_4) rfl ?_
      show Go _ _ _ _ (mkF m 5 _ [(.int 0)]) _
      refine XS.aloadN X0.here hx rfl (hb hby d4_5) rfl rfl ?_
      exact kt)
    obtain ⟨T140, X140, e140, st140⟩ := getF X0 hx hZ hown (host := "") (Or.inl (ox hw 22 rfl)) Via.refl e0 G2 (g := (mkF m 6 #[vR a1, vI 0, vI 0, vU, vU, vU, vU] [(.ref a1), (.int 0)])) rfl rfl (hb hby d4_6)
    have q141 := fun t (kt : Go p e below T140 (mkF m 14 #[vR a1, vI 0, vI 0, vU, vU, vU, vU] [(.ref a1), (.int 0)]) t) => q139 t (st140 t (by
      show Go _ _ _ _ (mkF m 9 #[vR a1, vI 0, vI 0, vU, vU, vU, vU] [(.int 1), (.int 0)]) _
      refine XS.icmpNo X140.here hx rfl (hb hby d4_9) rfl (tlt (by decide : (0 : Int32) < (1 : Int32))).2.1 ?_
      show Go _ _ _ _ (mkF m 12 _ []) _
      refine XS.iloadN X140.here hx rfl (hb hby d4_12) rfl ?_
      show Go _ _ _ _ (mkF m 13 _ [(.int 0)]) _
      refine XS.aloadN X140.here hx rfl (hb hby d4_13) rfl rfl ?_
      exact kt))
    obtain ⟨T142, X142, e142, st142⟩ := getF X140 hx hZ hown (host := "") (Or.inl (ox hw 15 rfl)) Via.refl e140 G1 (g := (mkF m 14 #[vR a1, vI 0, vI 0, vU, vU, vU, vU] [(.ref a1), (.int 0)])) rfl rfl (hb hby d4_14)
    have q144 := fun t (kt : Go p e below T142 (mkF m 18 #[vR a1, vI 0, vI 0, vU, vU, vU, vU] [(.int 0), (.ref ta), (.int 0)]) t) => q141 t (st142 t (by
      show Go _ _ _ _ (mkF m 17 #[vR a1, vI 0, vI 0, vU, vU, vU, vU] [(.ref ta), (.int 0)]) _
      refine XS.iloadN X142.here hx rfl (hb hby d4_17) rfl ?_
      exact kt))
    obtain ⟨c143, Ar143, -, S143, N143, H143, -⟩ := id G4
    have q145 := fun t (kt : Go p e below T142 (mkF m 19 #[vR a1, vI 0, vI 0, vU, vU, vU, vU] [(.long w0), (.int 0)]) t) => q144 t (by
      show Go _ _ _ _ (mkF m 18 #[vR a1, vI 0, vI 0, vU, vU, vU, vU] [(.int 0), (.ref ta), (.int 0)]) _
      refine X142.laload hx (j := (0 : Int32)) (v := (.long w0)) (by rw [e142]; exact Ar143.1) (State.isArrayOf_alike hZ.alike Ar143.2.1) Ar143.2.2 (inb_of S143 ⟨by decide, by decide⟩) (Has.at H143 (inb_of S143 ⟨by decide, by decide⟩) rfl) (g := (mkF m 18 #[vR a1, vI 0, vI 0, vU, vU, vU, vU] [(.int 0), (.ref ta), (.int 0)])) rfl rfl (hb hby d4_18) _ ?_
      exact kt)
    obtain ⟨_, _, ⟨T146, L146, k146, n146⟩, -, X146, ⟨_, hQ146, l146, y146, z146⟩, st146⟩ := Jvm.LawKit.callS X142 hx (y := ym12) hown (ow hZ hw 71 rfl) (ow hZ hw 72 rfl) (ow hZ hw 73 rfl) (ow hZ hw 74 rfl) (by decide) (backOf (W := 1) (rm15 l Z a0 hw [] cx w0 h0 n0 O0 ) hZ (ox hw 74 rfl) (ox hw 73 rfl) (by decide) (by decide)) (g := (mkF m 19 #[vR a1, vI 0, vI 0, vU, vU, vU, vU] [(.long w0), (.int 0)])) rfl (by rw [hml]; rfl) (argsL := [(.long w0)]) (rest := [(.int 0)]) (lenOf pd_8 rfl) rfl own_le0 (hb hby d4_19) (fun _ _ => ⟨rfl, e142, (by decide : 0 + 0 ≤ _), (by decide : 0 + 0 ≤ _)⟩)
    dsimp only [Pt.U, Pt.locs, Pt.cells, Pt.slots] at X146 l146 y146 z146 st146 hQ146
    subst l146 y146 z146
    obtain ⟨rfl, Nq146, eq146⟩ := hQ146
    have N147 := Fr.app N0 Nq146
    have q148 := fun t (kt : Go p e below T146 (mkF m 22 #[vR a1, vI 0, vI 0, vU, vU, vU, vU] [(.int (own_bc w0)), (.int 0)]) t) => q145 t (st146 t kt)
    have q149 := fun t (kt : Go p e below T146 (mkF m 22 #[vR a1, vI 0, vI 0, vU, vU, vU, vU] [(.int 3), (.int 0)]) t) => q148 t (by rw [t0_4]; exact kt)
    have q150 := fun t (kt : Go p e below T146 (mkF m 6 #[vR a1, vI 3, vI 1, vU, vU, vU, vU] [(.ref a1), (.int 1)]) t) => q149 t (by
      show Go _ _ _ _ (mkF m 22 #[vR a1, vI 0, vI 0, vU, vU, vU, vU] [(.int 3), (.int 0)]) _
      refine XS.iadd X146.here hx rfl (hb hby d4_22) rfl ?_
      show Go _ _ _ _ (mkF m 23 _ [(.int 3)]) _
      refine XS.istoreN X146.here hx rfl (hb hby d4_23) rfl (l' := #[vR a1, vI 3, vI 0, vU, vU, vU, vU]) rfl ?_
      show Go _ _ _ _ (mkF m 24 #[vR a1, vI 3, vI 0, vU, vU, vU, vU] []) _
      refine XS.iinc X146.here hx rfl (hb hby d4_24) rfl (l' := #[vR a1, vI 3, vI 1, vU, vU, vU, vU]) rfl ?_
      show Go _ _ _ _ (mkF m 27 #[vR a1, vI 3, vI 1, vU, vU, vU, vU] []) _
      refine XS.goto X146.here hx rfl (pc0 := 27) (pc' := 4) rfl (hb hby d4_27) (by decide) (by decide) ?_
      show Go _ _ _ _ (mkF m 4 _ []) _
      refine XS.iloadN X146.here hx rfl (hb hby d4_4) rfl ?_
      show Go _ _ _ _ (mkF m 5 _ [(.int 1)]) _
      refine XS.aloadN X146.here hx rfl (hb hby d4_5) rfl rfl ?_
      exact kt)
    obtain ⟨T151, X151, e151, st151⟩ := getF X146 hx hZ hown (host := "") (Or.inl (ox hw 22 rfl)) Via.refl eq146 G2 (g := (mkF m 6 #[vR a1, vI 3, vI 1, vU, vU, vU, vU] [(.ref a1), (.int 1)])) rfl rfl (hb hby d4_6)
    have q152 := fun t (kt : Go p e below T151 (mkF m 31 #[vR a1, vI 3, vI 1, vU, vU, vU, vU] [(.int 3)]) t) => q150 t (st151 t (by
      show Go _ _ _ _ (mkF m 9 #[vR a1, vI 3, vI 1, vU, vU, vU, vU] [(.int 1), (.int 1)]) _
      refine XS.icmpYes X151.here hx rfl (pc0 := 9) (pc' := 30) rfl (hb hby d4_9) rfl (flt (by decide : ¬ ((1 : Int32) < (1 : Int32)))).2.1 (by decide) (by decide) ?_
      show Go _ _ _ _ (mkF m 30 _ []) _
      refine XS.iloadN X151.here hx rfl (hb hby d4_30) rfl ?_
      exact kt))
    obtain ⟨T153, h153, k153, X153, e153, E153, A153, st153⟩ := newP X151 hx hZ (ox hw 29 rfl) e151 (g := (mkF m 31 #[vR a1, vI 3, vI 1, vU, vU, vU, vU] [(.int 3)])) rfl (hb hby d4_31) rfl (by decide) (cap := 3) (by decide) (by decide) (by decide) (by decide)
    obtain ⟨b153, g153⟩ : ∃ z, z = h0.size := ⟨_, rfl⟩
    rw [← g153] at A153 st153
    have gg154 : n0 ≤ b153 := Nat.le_trans (O0.1 ▸ O0.2.1) (Nat.le_of_eq g153.symm)
    have sz155 : h0.size ≤ b153 := Nat.le_trans K0.1 (Nat.le_of_eq g153.symm)
    have O156 := O0.ext E153
    have K157 := K0.ext E153
    have V153 : Arv Z h153 b153 k153 .int (3 : Int32) [(.int 0), (.int 0), (.int 0)] (.int 0) := (Arv.new A153 (by decide)).pad (pad_rep [] (.int 0) 3)
    have f158 := (G2.ext E153)
    have q159 := fun t (kt : Go p e below T153 (mkF m 42 #[vR a1, vI 3, vR b153, vI 0, vI 0, vU, vU] [(.ref a1), (.int 0)]) t) => q152 t (st153 t (by
      show Go _ _ _ _ (mkF m 33 #[vR a1, vI 3, vI 1, vU, vU, vU, vU] [(.ref b153)]) _
      refine XS.astoreN X153.here hx rfl (hb hby d4_33) rfl rfl (l' := #[vR a1, vI 3, vR b153, vU, vU, vU, vU]) rfl ?_
      show Go _ _ _ _ (mkF m 34 #[vR a1, vI 3, vR b153, vU, vU, vU, vU] []) _
      refine XS.iconst X153.here hx rfl (hb hby d4_34) ?_
      show Go _ _ _ _ (mkF m 35 _ [(.int 0)]) _
      refine XS.istoreN X153.here hx rfl (hb hby d4_35) rfl (l' := #[vR a1, vI 3, vR b153, vI 0, vU, vU, vU]) rfl ?_
      show Go _ _ _ _ (mkF m 36 #[vR a1, vI 3, vR b153, vI 0, vU, vU, vU] []) _
      refine XS.iconst X153.here hx rfl (hb hby d4_36) ?_
      show Go _ _ _ _ (mkF m 37 _ [(.int 0)]) _
      refine XS.istore X153.here hx rfl (hb hby d4_37) rfl (l' := #[vR a1, vI 3, vR b153, vI 0, vI 0, vU, vU]) rfl ?_
      show Go _ _ _ _ (mkF m 39 #[vR a1, vI 3, vR b153, vI 0, vI 0, vU, vU] []) _
      refine XS.iload X153.here hx rfl (hb hby d4_39) rfl ?_
      show Go _ _ _ _ (mkF m 41 _ [(.int 0)]) _
      refine XS.aloadN X153.here hx rfl (hb hby d4_41) rfl rfl ?_
      exact kt))
    obtain ⟨T160, X160, e160, st160⟩ := getF X153 hx hZ hown (host := "") (Or.inl (ox hw 22 rfl)) Via.refl e153 f158 (g := (mkF m 42 #[vR a1, vI 3, vR b153, vI 0, vI 0, vU, vU] [(.ref a1), (.int 0)])) rfl rfl (hb hby d4_42)
    have f161 := (G1.ext E153)
    have q162 := fun t (kt : Go p e below T160 (mkF m 49 #[vR a1, vI 3, vR b153, vI 0, vI 0, vU, vU] [(.ref a1)]) t) => q159 t (st160 t (by
      show Go _ _ _ _ (mkF m 45 #[vR a1, vI 3, vR b153, vI 0, vI 0, vU, vU] [(.int 1), (.int 0)]) _
      refine XS.icmpNo X160.here hx rfl (hb hby d4_45) rfl (tlt (by decide : (0 : Int32) < (1 : Int32))).2.1 ?_
      show Go _ _ _ _ (mkF m 48 _ []) _
      refine XS.aloadN X160.here hx rfl (hb hby d4_48) rfl rfl ?_
      exact kt))
    obtain ⟨T163, X163, e163, st163⟩ := getF X160 hx hZ hown (host := "") (Or.inl (ox hw 15 rfl)) Via.refl e160 f161 (g := (mkF m 49 #[vR a1, vI 3, vR b153, vI 0, vI 0, vU, vU] [(.ref a1)])) rfl rfl (hb hby d4_49)
    have f164 := (G4.ext E153)
    have q166 := fun t (kt : Go p e below T163 (mkF m 54 #[vR a1, vI 3, vR b153, vI 0, vI 0, vU, vU] [(.int 0), (.ref ta)]) t) => q162 t (st163 t (by
      show Go _ _ _ _ (mkF m 52 #[vR a1, vI 3, vR b153, vI 0, vI 0, vU, vU] [(.ref ta)]) _
      refine XS.iload X163.here hx rfl (hb hby d4_52) rfl ?_
      exact kt))
    obtain ⟨c165, Ar165, -, S165, N165, H165, -⟩ := id f164
    have f167 := (G0.ext E153)
    have q168 := fun t (kt : Go p e below T163 (mkF m 70 #[vR a1, vI 3, vR b153, vI 1, vI 0, vJ w0, vS] [(.ref a1), (.int 0), (.ref b153)]) t) => q166 t (by
      show Go _ _ _ _ (mkF m 54 #[vR a1, vI 3, vR b153, vI 0, vI 0, vU, vU] [(.int 0), (.ref ta)]) _
      refine X163.laload hx (j := (0 : Int32)) (v := (.long w0)) (by rw [e163]; exact Ar165.1) (State.isArrayOf_alike hZ.alike Ar165.2.1) Ar165.2.2 (inb_of S165 ⟨by decide, by decide⟩) (Has.at H165 (inb_of S165 ⟨by decide, by decide⟩) rfl) (g := (mkF m 54 #[vR a1, vI 3, vR b153, vI 0, vI 0, vU, vU] [(.int 0), (.ref ta)])) rfl rfl (hb hby d4_54) _ ?_
      show Go _ _ _ _ (mkF m 55 _ [(.long w0)]) _
      refine XS.lstore X163.here hx rfl (hb hby d4_55) rfl (l' := #[vR a1, vI 3, vR b153, vI 0, vI 0, vJ w0, vS]) rfl ?_
      show Go _ _ _ _ (mkF m 57 #[vR a1, vI 3, vR b153, vI 0, vI 0, vJ w0, vS] []) _
      refine XS.lload X163.here hx rfl (hb hby d4_57) rfl ?_
      show Go _ _ _ _ (mkF m 59 _ [(.long w0)]) _
      refine XS.lconst X163.here hx rfl (hb hby d4_59) ?_
      show Go _ _ _ _ (mkF m 60 _ [(.long (0 : Int64)), (.long w0)]) _
      refine XS.lcmp X163.here hx rfl (hb hby d4_60) rfl ?_
      show Go _ _ _ _ (mkF m 61 _ [(.int (lcmpW w0 (0 : Int64)))]) _
      refine XS.ifNo X163.here hx rfl (hb hby d4_61) rfl ((if0 _ _).trans (feq (fun z => t0_0 ((lw_eq _ _).mp z))).1) ?_
      show Go _ _ _ _ (mkF m 64 _ []) _
      refine XS.aloadN X163.here hx rfl (hb hby d4_64) rfl rfl ?_
      show Go _ _ _ _ (mkF m 65 _ [(.ref b153)]) _
      refine XS.iloadN X163.here hx rfl (hb hby d4_65) rfl ?_
      show Go _ _ _ _ (mkF m 66 _ [(.int 0), (.ref b153)]) _
      refine XS.iinc X163.here hx rfl (hb hby d4_66) rfl (l' := #[vR a1, vI 3, vR b153, vI 1, vI 0, vJ w0, vS]) rfl ?_
      show Go _ _ _ _ (mkF m 69 #[vR a1, vI 3, vR b153, vI 1, vI 0, vJ w0, vS] [(.int 0), (.ref b153)]) _
      refine XS.aloadN X163.here hx rfl (hb hby d4_69) rfl rfl ?_
      exact kt)
    obtain ⟨T169, X169, e169, st169⟩ := getF X163 hx hZ hown (host := "") (Or.inl (ox hw 11 rfl)) Via.refl e163 f167 (g := (mkF m 70 #[vR a1, vI 3, vR b153, vI 1, vI 0, vJ w0, vS] [(.ref a1), (.int 0), (.ref b153)])) rfl rfl (hb hby d4_70)
    have f170 := (G3.ext E153)
    have q172 := fun t (kt : Go p e below T169 (mkF m 75 #[vR a1, vI 3, vR b153, vI 1, vI 0, vJ w0, vS] [(.int 0), (.ref b), (.int 0), (.ref b153)]) t) => q168 t (st169 t (by
      show Go _ _ _ _ (mkF m 73 #[vR a1, vI 3, vR b153, vI 1, vI 0, vJ w0, vS] [(.ref b), (.int 0), (.ref b153)]) _
      refine XS.iload X169.here hx rfl (hb hby d4_73) rfl ?_
      exact kt))
    obtain ⟨c171, Ar171, -, S171, N171, H171, -⟩ := id f170
    have q173 := fun t (kt : Go p e below T169 (mkF m 81 #[vR a1, vI 3, vR b153, vI 1, vI 0, vJ w0, vS] [(.long w0), (.int (x0 <<< ((6 : Int32) &&& 31))), (.int 0), (.ref b153)]) t) => q172 t (by
      show Go _ _ _ _ (mkF m 75 #[vR a1, vI 3, vR b153, vI 1, vI 0, vJ w0, vS] [(.int 0), (.ref b), (.int 0), (.ref b153)]) _
      refine X169.iaload hx (j := (0 : Int32)) (v := (.int x0)) (by rw [e169]; exact Ar171.1) (State.isArrayOf_alike hZ.alike Ar171.2.1) Ar171.2.2 (inb_of S171 ⟨by decide, by decide⟩) (Has.at H171 (inb_of S171 ⟨by decide, by decide⟩) rfl) (g := (mkF m 75 #[vR a1, vI 3, vR b153, vI 1, vI 0, vJ w0, vS] [(.int 0), (.ref b), (.int 0), (.ref b153)])) rfl rfl (hb hby d4_75) _ ?_
      show Go _ _ _ _ (mkF m 76 _ [(.int x0), (.int 0), (.ref b153)]) _
      refine XS.bipush X169.here hx rfl (hb hby d4_76) ?_
      show Go _ _ _ _ (mkF m 78 _ [(.int 6), (.int x0), (.int 0), (.ref b153)]) _
      refine XS.ishl X169.here hx rfl (hb hby d4_78) rfl ?_
      show Go _ _ _ _ (mkF m 79 _ [(.int (x0 <<< ((6 : Int32) &&& 31))), (.int 0), (.ref b153)]) _
      refine XS.lload X169.here hx rfl (hb hby d4_79) rfl ?_
      exact kt)
    obtain ⟨_, _, ⟨T174, L174, k174, n174⟩, -, X174, ⟨_, hQ174, l174, y174, z174⟩, st174⟩ := Jvm.LawKit.callS X169 hx (y := ym14) hown (ow hZ hw 78 rfl) (ow hZ hw 79 rfl) (ow hZ hw 73 rfl) (ow hZ hw 80 rfl) (by decide) (backOf (W := 3) (rm16 l Z a0 hw [] cx w0 h153 n0 O156 ) hZ (ox hw 80 rfl) (ox hw 73 rfl) (by decide) (by decide)) (g := (mkF m 81 #[vR a1, vI 3, vR b153, vI 1, vI 0, vJ w0, vS] [(.long w0), (.int (x0 <<< ((6 : Int32) &&& 31))), (.int 0), (.ref b153)])) rfl (by rw [hml]; rfl) (argsL := [(.long w0)]) (rest := [(.int (x0 <<< ((6 : Int32) &&& 31))), (.int 0), (.ref b153)]) (lenOf pd_8 rfl) rfl own_le0 (hb hby d4_81) (fun _ _ => ⟨rfl, e169, (by decide : 1 + 0 ≤ _), (by decide : 3 + 0 ≤ _)⟩)
    dsimp only [Pt.U, Pt.locs, Pt.cells, Pt.slots] at X174 l174 y174 z174 st174 hQ174
    subst l174 y174 z174
    obtain ⟨r_174, rfl, Nq174, eq174⟩ := hQ174
    have N175 := Fr.app N147 Nq174
    have q177 := fun t (kt : Go p e below T174 (mkF m 85 #[vR a1, vI 3, vR b153, vI 1, vI 0, vJ w0, vS] [(.int ((x0 <<< ((6 : Int32) &&& 31)) + r_174)), (.int 0), (.ref b153)]) t) => q173 t (st174 t (by
      show Go _ _ _ _ (mkF m 84 #[vR a1, vI 3, vR b153, vI 1, vI 0, vJ w0, vS] [(.int r_174), (.int (x0 <<< ((6 : Int32) &&& 31))), (.int 0), (.ref b153)]) _
      refine XS.iadd X174.here hx rfl (hb hby d4_84) rfl ?_
      exact kt))
    obtain ⟨c176, Ar176, q176, S176, N176, H176, G176⟩ := id V153
    have hi176 : ¬ ((0 : Int32) < 0 ∨ c176.slots.size ≤ ((0 : Int32)).toNatClampNeg) := inb_of S176 ⟨by decide, by decide⟩
    obtain ⟨T178, h178, X178, e178, W178, st178⟩ := stI X174 hx hZ eq174 Ar176 (j := (0 : Int32)) hi176 (g := (mkF m 85 #[vR a1, vI 3, vR b153, vI 1, vI 0, vJ w0, vS] [(.int ((x0 <<< ((6 : Int32) &&& 31)) + r_174)), (.int 0), (.ref b153)])) rfl rfl (hb hby d4_85)
    have V178 : Arv Z h178 b153 k153 .int (3 : Int32) [(.int ((x0 <<< ((6 : Int32) &&& 31)) + r_174)), (.int 0), (.int 0)] (.int 0) := Arv.set Ar176 q176 S176 N176 H176 G176 rfl W178 0 rfl (Nat.le_of_ble_eq_true rfl)
    have N179 := Fr.snoc X178 N175 gg154
    have O180 := O156.wr W178 gg154
    have K181 := K157.wr W178 (Or.inr sz155)
    have q182 := fun t (kt : Go p e below T178 (mkF m 93 #[vR a1, vI 3, vR b153, vI 1, vI 0, vJ w0, vS] [(.long (w0 &&& (w0 - (1 : Int64))))]) t) => q177 t (st178 t (by
      show Go _ _ _ _ (mkF m 86 #[vR a1, vI 3, vR b153, vI 1, vI 0, vJ w0, vS] []) _
      refine XS.lload X178.here hx rfl (hb hby d4_86) rfl ?_
      show Go _ _ _ _ (mkF m 88 _ [(.long w0)]) _
      refine XS.lload X178.here hx rfl (hb hby d4_88) rfl ?_
      show Go _ _ _ _ (mkF m 90 _ [(.long w0), (.long w0)]) _
      refine XS.lconst X178.here hx rfl (hb hby d4_90) ?_
      show Go _ _ _ _ (mkF m 91 _ [(.long (1 : Int64)), (.long w0), (.long w0)]) _
      refine XS.lsub X178.here hx rfl (hb hby d4_91) rfl ?_
      show Go _ _ _ _ (mkF m 92 _ [(.long (w0 - (1 : Int64))), (.long w0)]) _
      refine XS.land X178.here hx rfl (hb hby d4_92) rfl ?_
      exact kt))
    have q183 := fun t (kt : Go p e below T178 (mkF m 93 #[vR a1, vI 3, vR b153, vI 1, vI 0, vJ w0, vS] [(.long (own_dr w0))]) t) => q182 t (by rw [(show (w0 &&& (w0 - (1 : Int64))) = own_dr w0 from rfl)]; exact kt)
    have ne184 : a1 ≠ b153 := (Nat.ne_of_lt (Nat.lt_of_lt_of_le G0.lt (Nat.le_of_eq g153.symm)))
    have f185 := (f167.other W178 (Or.inl ne184))
    have q186 := fun t (kt : Go p e below T178 (mkF m 70 #[vR a1, vI 3, vR b153, vI 2, vI 0, vJ (own_dr w0), vS] [(.ref a1), (.int 1), (.ref b153)]) t) => q183 t (by
      show Go _ _ _ _ (mkF m 93 #[vR a1, vI 3, vR b153, vI 1, vI 0, vJ w0, vS] [(.long (own_dr w0))]) _
      refine XS.lstore X178.here hx rfl (hb hby d4_93) rfl (l' := #[vR a1, vI 3, vR b153, vI 1, vI 0, vJ (own_dr w0), vS]) rfl ?_
      show Go _ _ _ _ (mkF m 95 #[vR a1, vI 3, vR b153, vI 1, vI 0, vJ (own_dr w0), vS] []) _
      refine XS.goto X178.here hx rfl (pc0 := 95) (pc' := 57) rfl (hb hby d4_95) (by decide) (by decide) ?_
      show Go _ _ _ _ (mkF m 57 _ []) _
      refine XS.lload X178.here hx rfl (hb hby d4_57) rfl ?_
      show Go _ _ _ _ (mkF m 59 _ [(.long (own_dr w0))]) _
      refine XS.lconst X178.here hx rfl (hb hby d4_59) ?_
      show Go _ _ _ _ (mkF m 60 _ [(.long (0 : Int64)), (.long (own_dr w0))]) _
      refine XS.lcmp X178.here hx rfl (hb hby d4_60) rfl ?_
      show Go _ _ _ _ (mkF m 61 _ [(.int (lcmpW (own_dr w0) (0 : Int64)))]) _
      refine XS.ifNo X178.here hx rfl (hb hby d4_61) rfl ((if0 _ _).trans (feq (fun z => t0_1 ((lw_eq _ _).mp z))).1) ?_
      show Go _ _ _ _ (mkF m 64 _ []) _
      refine XS.aloadN X178.here hx rfl (hb hby d4_64) rfl rfl ?_
      show Go _ _ _ _ (mkF m 65 _ [(.ref b153)]) _
      refine XS.iloadN X178.here hx rfl (hb hby d4_65) rfl ?_
      show Go _ _ _ _ (mkF m 66 _ [(.int 1), (.ref b153)]) _
      refine XS.iinc X178.here hx rfl (hb hby d4_66) rfl (l' := #[vR a1, vI 3, vR b153, vI 2, vI 0, vJ (own_dr w0), vS]) rfl ?_
      show Go _ _ _ _ (mkF m 69 #[vR a1, vI 3, vR b153, vI 2, vI 0, vJ (own_dr w0), vS] [(.int 1), (.ref b153)]) _
      refine XS.aloadN X178.here hx rfl (hb hby d4_69) rfl rfl ?_
      exact kt)
    obtain ⟨T187, X187, e187, st187⟩ := getF X178 hx hZ hown (host := "") (Or.inl (ox hw 11 rfl)) Via.refl e178 f185 (g := (mkF m 70 #[vR a1, vI 3, vR b153, vI 2, vI 0, vJ (own_dr w0), vS] [(.ref a1), (.int 1), (.ref b153)])) rfl rfl (hb hby d4_70)
    have ne188 : b ≠ b153 := (Nat.ne_of_lt (Nat.lt_of_lt_of_le G3.lt (Nat.le_of_eq g153.symm)))
    have f189 := (f170.other W178 ne188)
    have q191 := fun t (kt : Go p e below T187 (mkF m 75 #[vR a1, vI 3, vR b153, vI 2, vI 0, vJ (own_dr w0), vS] [(.int 0), (.ref b), (.int 1), (.ref b153)]) t) => q186 t (st187 t (by
      show Go _ _ _ _ (mkF m 73 #[vR a1, vI 3, vR b153, vI 2, vI 0, vJ (own_dr w0), vS] [(.ref b), (.int 1), (.ref b153)]) _
      refine XS.iload X187.here hx rfl (hb hby d4_73) rfl ?_
      exact kt))
    obtain ⟨c190, Ar190, -, S190, N190, H190, -⟩ := id f189
    have q192 := fun t (kt : Go p e below T187 (mkF m 81 #[vR a1, vI 3, vR b153, vI 2, vI 0, vJ (own_dr w0), vS] [(.long (own_dr w0)), (.int (x0 <<< ((6 : Int32) &&& 31))), (.int 1), (.ref b153)]) t) => q191 t (by
      show Go _ _ _ _ (mkF m 75 #[vR a1, vI 3, vR b153, vI 2, vI 0, vJ (own_dr w0), vS] [(.int 0), (.ref b), (.int 1), (.ref b153)]) _
      refine X187.iaload hx (j := (0 : Int32)) (v := (.int x0)) (by rw [e187]; exact Ar190.1) (State.isArrayOf_alike hZ.alike Ar190.2.1) Ar190.2.2 (inb_of S190 ⟨by decide, by decide⟩) (Has.at H190 (inb_of S190 ⟨by decide, by decide⟩) rfl) (g := (mkF m 75 #[vR a1, vI 3, vR b153, vI 2, vI 0, vJ (own_dr w0), vS] [(.int 0), (.ref b), (.int 1), (.ref b153)])) rfl rfl (hb hby d4_75) _ ?_
      show Go _ _ _ _ (mkF m 76 _ [(.int x0), (.int 1), (.ref b153)]) _
      refine XS.bipush X187.here hx rfl (hb hby d4_76) ?_
      show Go _ _ _ _ (mkF m 78 _ [(.int 6), (.int x0), (.int 1), (.ref b153)]) _
      refine XS.ishl X187.here hx rfl (hb hby d4_78) rfl ?_
      show Go _ _ _ _ (mkF m 79 _ [(.int (x0 <<< ((6 : Int32) &&& 31))), (.int 1), (.ref b153)]) _
      refine XS.lload X187.here hx rfl (hb hby d4_79) rfl ?_
      exact kt)
    obtain ⟨_, _, ⟨T193, L193, k193, n193⟩, -, X193, ⟨_, hQ193, l193, y193, z193⟩, st193⟩ := Jvm.LawKit.callS X187 hx (y := ym14) hown (ow hZ hw 78 rfl) (ow hZ hw 79 rfl) (ow hZ hw 73 rfl) (ow hZ hw 80 rfl) (by decide) (backOf (W := 3) (rm16 l Z a0 hw [] cx (own_dr w0) h178 n0 O180 ) hZ (ox hw 80 rfl) (ox hw 73 rfl) (by decide) (by decide)) (g := (mkF m 81 #[vR a1, vI 3, vR b153, vI 2, vI 0, vJ (own_dr w0), vS] [(.long (own_dr w0)), (.int (x0 <<< ((6 : Int32) &&& 31))), (.int 1), (.ref b153)])) rfl (by rw [hml]; rfl) (argsL := [(.long (own_dr w0))]) (rest := [(.int (x0 <<< ((6 : Int32) &&& 31))), (.int 1), (.ref b153)]) (lenOf pd_8 rfl) rfl own_le0 (hb hby d4_81) (fun _ _ => ⟨rfl, e187, (by decide : 1 + 0 ≤ _), (by decide : 3 + 0 ≤ _)⟩)
    dsimp only [Pt.U, Pt.locs, Pt.cells, Pt.slots] at X193 l193 y193 z193 st193 hQ193
    subst l193 y193 z193
    obtain ⟨r_193, rfl, Nq193, eq193⟩ := hQ193
    have N194 := Fr.app N179 Nq193
    have q196 := fun t (kt : Go p e below T193 (mkF m 85 #[vR a1, vI 3, vR b153, vI 2, vI 0, vJ (own_dr w0), vS] [(.int ((x0 <<< ((6 : Int32) &&& 31)) + r_193)), (.int 1), (.ref b153)]) t) => q192 t (st193 t (by
      show Go _ _ _ _ (mkF m 84 #[vR a1, vI 3, vR b153, vI 2, vI 0, vJ (own_dr w0), vS] [(.int r_193), (.int (x0 <<< ((6 : Int32) &&& 31))), (.int 1), (.ref b153)]) _
      refine XS.iadd X193.here hx rfl (hb hby d4_84) rfl ?_
      exact kt))
    obtain ⟨c195, Ar195, q195, S195, N195, H195, G195⟩ := id V178
    have hi195 : ¬ ((1 : Int32) < 0 ∨ c195.slots.size ≤ ((1 : Int32)).toNatClampNeg) := inb_of S195 ⟨by decide, by decide⟩
    obtain ⟨T197, h197, X197, e197, W197, st197⟩ := stI X193 hx hZ eq193 Ar195 (j := (1 : Int32)) hi195 (g := (mkF m 85 #[vR a1, vI 3, vR b153, vI 2, vI 0, vJ (own_dr w0), vS] [(.int ((x0 <<< ((6 : Int32) &&& 31)) + r_193)), (.int 1), (.ref b153)])) rfl rfl (hb hby d4_85)
    have V197 : Arv Z h197 b153 k153 .int (3 : Int32) [(.int ((x0 <<< ((6 : Int32) &&& 31)) + r_174)), (.int ((x0 <<< ((6 : Int32) &&& 31)) + r_193)), (.int 0)] (.int 0) := Arv.set Ar195 q195 S195 N195 H195 G195 rfl W197 1 rfl (Nat.le_of_ble_eq_true rfl)
    have N198 := Fr.snoc X197 N194 gg154
    have O199 := O180.wr W197 gg154
    have K200 := K181.wr W197 (Or.inr sz155)
    have q201 := fun t (kt : Go p e below T197 (mkF m 93 #[vR a1, vI 3, vR b153, vI 2, vI 0, vJ (own_dr w0), vS] [(.long ((own_dr w0) &&& ((own_dr w0) - (1 : Int64))))]) t) => q196 t (st197 t (by
      show Go _ _ _ _ (mkF m 86 #[vR a1, vI 3, vR b153, vI 2, vI 0, vJ (own_dr w0), vS] []) _
      refine XS.lload X197.here hx rfl (hb hby d4_86) rfl ?_
      show Go _ _ _ _ (mkF m 88 _ [(.long (own_dr w0))]) _
      refine XS.lload X197.here hx rfl (hb hby d4_88) rfl ?_
      show Go _ _ _ _ (mkF m 90 _ [(.long (own_dr w0)), (.long (own_dr w0))]) _
      refine XS.lconst X197.here hx rfl (hb hby d4_90) ?_
      show Go _ _ _ _ (mkF m 91 _ [(.long (1 : Int64)), (.long (own_dr w0)), (.long (own_dr w0))]) _
      refine XS.lsub X197.here hx rfl (hb hby d4_91) rfl ?_
      show Go _ _ _ _ (mkF m 92 _ [(.long ((own_dr w0) - (1 : Int64))), (.long (own_dr w0))]) _
      refine XS.land X197.here hx rfl (hb hby d4_92) rfl ?_
      exact kt))
    have q202 := fun t (kt : Go p e below T197 (mkF m 93 #[vR a1, vI 3, vR b153, vI 2, vI 0, vJ (own_dr w0), vS] [(.long (own_dr (own_dr w0)))]) t) => q201 t (by rw [(show ((own_dr w0) &&& ((own_dr w0) - (1 : Int64))) = own_dr (own_dr w0) from rfl)]; exact kt)
    have f203 := (f185.other W197 (Or.inl ne184))
    have q204 := fun t (kt : Go p e below T197 (mkF m 70 #[vR a1, vI 3, vR b153, vI 3, vI 0, vJ (own_dr (own_dr w0)), vS] [(.ref a1), (.int 2), (.ref b153)]) t) => q202 t (by
      show Go _ _ _ _ (mkF m 93 #[vR a1, vI 3, vR b153, vI 2, vI 0, vJ (own_dr w0), vS] [(.long (own_dr (own_dr w0)))]) _
      refine XS.lstore X197.here hx rfl (hb hby d4_93) rfl (l' := #[vR a1, vI 3, vR b153, vI 2, vI 0, vJ (own_dr (own_dr w0)), vS]) rfl ?_
      show Go _ _ _ _ (mkF m 95 #[vR a1, vI 3, vR b153, vI 2, vI 0, vJ (own_dr (own_dr w0)), vS] []) _
      refine XS.goto X197.here hx rfl (pc0 := 95) (pc' := 57) rfl (hb hby d4_95) (by decide) (by decide) ?_
      show Go _ _ _ _ (mkF m 57 _ []) _
      refine XS.lload X197.here hx rfl (hb hby d4_57) rfl ?_
      show Go _ _ _ _ (mkF m 59 _ [(.long (own_dr (own_dr w0)))]) _
      refine XS.lconst X197.here hx rfl (hb hby d4_59) ?_
      show Go _ _ _ _ (mkF m 60 _ [(.long (0 : Int64)), (.long (own_dr (own_dr w0)))]) _
      refine XS.lcmp X197.here hx rfl (hb hby d4_60) rfl ?_
      show Go _ _ _ _ (mkF m 61 _ [(.int (lcmpW (own_dr (own_dr w0)) (0 : Int64)))]) _
      refine XS.ifNo X197.here hx rfl (hb hby d4_61) rfl ((if0 _ _).trans (feq (fun z => t0_2 ((lw_eq _ _).mp z))).1) ?_
      show Go _ _ _ _ (mkF m 64 _ []) _
      refine XS.aloadN X197.here hx rfl (hb hby d4_64) rfl rfl ?_
      show Go _ _ _ _ (mkF m 65 _ [(.ref b153)]) _
      refine XS.iloadN X197.here hx rfl (hb hby d4_65) rfl ?_
      show Go _ _ _ _ (mkF m 66 _ [(.int 2), (.ref b153)]) _
      refine XS.iinc X197.here hx rfl (hb hby d4_66) rfl (l' := #[vR a1, vI 3, vR b153, vI 3, vI 0, vJ (own_dr (own_dr w0)), vS]) rfl ?_
      show Go _ _ _ _ (mkF m 69 #[vR a1, vI 3, vR b153, vI 3, vI 0, vJ (own_dr (own_dr w0)), vS] [(.int 2), (.ref b153)]) _
      refine XS.aloadN X197.here hx rfl (hb hby d4_69) rfl rfl ?_
      exact kt)
    obtain ⟨T205, X205, e205, st205⟩ := getF X197 hx hZ hown (host := "") (Or.inl (ox hw 11 rfl)) Via.refl e197 f203 (g := (mkF m 70 #[vR a1, vI 3, vR b153, vI 3, vI 0, vJ (own_dr (own_dr w0)), vS] [(.ref a1), (.int 2), (.ref b153)])) rfl rfl (hb hby d4_70)
    have f206 := (f189.other W197 ne188)
    have q208 := fun t (kt : Go p e below T205 (mkF m 75 #[vR a1, vI 3, vR b153, vI 3, vI 0, vJ (own_dr (own_dr w0)), vS] [(.int 0), (.ref b), (.int 2), (.ref b153)]) t) => q204 t (st205 t (by
      show Go _ _ _ _ (mkF m 73 #[vR a1, vI 3, vR b153, vI 3, vI 0, vJ (own_dr (own_dr w0)), vS] [(.ref b), (.int 2), (.ref b153)]) _
      refine XS.iload X205.here hx rfl (hb hby d4_73) rfl ?_
      exact kt))
    obtain ⟨c207, Ar207, -, S207, N207, H207, -⟩ := id f206
    have q209 := fun t (kt : Go p e below T205 (mkF m 81 #[vR a1, vI 3, vR b153, vI 3, vI 0, vJ (own_dr (own_dr w0)), vS] [(.long (own_dr (own_dr w0))), (.int (x0 <<< ((6 : Int32) &&& 31))), (.int 2), (.ref b153)]) t) => q208 t (by
      show Go _ _ _ _ (mkF m 75 #[vR a1, vI 3, vR b153, vI 3, vI 0, vJ (own_dr (own_dr w0)), vS] [(.int 0), (.ref b), (.int 2), (.ref b153)]) _
      refine X205.iaload hx (j := (0 : Int32)) (v := (.int x0)) (by rw [e205]; exact Ar207.1) (State.isArrayOf_alike hZ.alike Ar207.2.1) Ar207.2.2 (inb_of S207 ⟨by decide, by decide⟩) (Has.at H207 (inb_of S207 ⟨by decide, by decide⟩) rfl) (g := (mkF m 75 #[vR a1, vI 3, vR b153, vI 3, vI 0, vJ (own_dr (own_dr w0)), vS] [(.int 0), (.ref b), (.int 2), (.ref b153)])) rfl rfl (hb hby d4_75) _ ?_
      show Go _ _ _ _ (mkF m 76 _ [(.int x0), (.int 2), (.ref b153)]) _
      refine XS.bipush X205.here hx rfl (hb hby d4_76) ?_
      show Go _ _ _ _ (mkF m 78 _ [(.int 6), (.int x0), (.int 2), (.ref b153)]) _
      refine XS.ishl X205.here hx rfl (hb hby d4_78) rfl ?_
      show Go _ _ _ _ (mkF m 79 _ [(.int (x0 <<< ((6 : Int32) &&& 31))), (.int 2), (.ref b153)]) _
      refine XS.lload X205.here hx rfl (hb hby d4_79) rfl ?_
      exact kt)
    obtain ⟨_, _, ⟨T210, L210, k210, n210⟩, -, X210, ⟨_, hQ210, l210, y210, z210⟩, st210⟩ := Jvm.LawKit.callS X205 hx (y := ym14) hown (ow hZ hw 78 rfl) (ow hZ hw 79 rfl) (ow hZ hw 73 rfl) (ow hZ hw 80 rfl) (by decide) (backOf (W := 3) (rm16 l Z a0 hw [] cx (own_dr (own_dr w0)) h197 n0 O199 ) hZ (ox hw 80 rfl) (ox hw 73 rfl) (by decide) (by decide)) (g := (mkF m 81 #[vR a1, vI 3, vR b153, vI 3, vI 0, vJ (own_dr (own_dr w0)), vS] [(.long (own_dr (own_dr w0))), (.int (x0 <<< ((6 : Int32) &&& 31))), (.int 2), (.ref b153)])) rfl (by rw [hml]; rfl) (argsL := [(.long (own_dr (own_dr w0)))]) (rest := [(.int (x0 <<< ((6 : Int32) &&& 31))), (.int 2), (.ref b153)]) (lenOf pd_8 rfl) rfl own_le0 (hb hby d4_81) (fun _ _ => ⟨rfl, e205, (by decide : 1 + 0 ≤ _), (by decide : 3 + 0 ≤ _)⟩)
    dsimp only [Pt.U, Pt.locs, Pt.cells, Pt.slots] at X210 l210 y210 z210 st210 hQ210
    subst l210 y210 z210
    obtain ⟨r_210, rfl, Nq210, eq210⟩ := hQ210
    have N211 := Fr.app N198 Nq210
    have q213 := fun t (kt : Go p e below T210 (mkF m 85 #[vR a1, vI 3, vR b153, vI 3, vI 0, vJ (own_dr (own_dr w0)), vS] [(.int ((x0 <<< ((6 : Int32) &&& 31)) + r_210)), (.int 2), (.ref b153)]) t) => q209 t (st210 t (by
      show Go _ _ _ _ (mkF m 84 #[vR a1, vI 3, vR b153, vI 3, vI 0, vJ (own_dr (own_dr w0)), vS] [(.int r_210), (.int (x0 <<< ((6 : Int32) &&& 31))), (.int 2), (.ref b153)]) _
      refine XS.iadd X210.here hx rfl (hb hby d4_84) rfl ?_
      exact kt))
    obtain ⟨c212, Ar212, q212, S212, N212, H212, G212⟩ := id V197
    have hi212 : ¬ ((2 : Int32) < 0 ∨ c212.slots.size ≤ ((2 : Int32)).toNatClampNeg) := inb_of S212 ⟨by decide, by decide⟩
    obtain ⟨T214, h214, X214, e214, W214, st214⟩ := stI X210 hx hZ eq210 Ar212 (j := (2 : Int32)) hi212 (g := (mkF m 85 #[vR a1, vI 3, vR b153, vI 3, vI 0, vJ (own_dr (own_dr w0)), vS] [(.int ((x0 <<< ((6 : Int32) &&& 31)) + r_210)), (.int 2), (.ref b153)])) rfl rfl (hb hby d4_85)
    have V214 : Arv Z h214 b153 k153 .int (3 : Int32) [(.int ((x0 <<< ((6 : Int32) &&& 31)) + r_174)), (.int ((x0 <<< ((6 : Int32) &&& 31)) + r_193)), (.int ((x0 <<< ((6 : Int32) &&& 31)) + r_210))] (.int 0) := Arv.set Ar212 q212 S212 N212 H212 G212 rfl W214 2 rfl (Nat.le_of_ble_eq_true rfl)
    have N215 := Fr.snoc X214 N211 gg154
    have O216 := O199.wr W214 gg154
    have K217 := K200.wr W214 (Or.inr sz155)
    have q218 := fun t (kt : Go p e below T214 (mkF m 93 #[vR a1, vI 3, vR b153, vI 3, vI 0, vJ (own_dr (own_dr w0)), vS] [(.long ((own_dr (own_dr w0)) &&& ((own_dr (own_dr w0)) - (1 : Int64))))]) t) => q213 t (st214 t (by
      show Go _ _ _ _ (mkF m 86 #[vR a1, vI 3, vR b153, vI 3, vI 0, vJ (own_dr (own_dr w0)), vS] []) _
      refine XS.lload X214.here hx rfl (hb hby d4_86) rfl ?_
      show Go _ _ _ _ (mkF m 88 _ [(.long (own_dr (own_dr w0)))]) _
      refine XS.lload X214.here hx rfl (hb hby d4_88) rfl ?_
      show Go _ _ _ _ (mkF m 90 _ [(.long (own_dr (own_dr w0))), (.long (own_dr (own_dr w0)))]) _
      refine XS.lconst X214.here hx rfl (hb hby d4_90) ?_
      show Go _ _ _ _ (mkF m 91 _ [(.long (1 : Int64)), (.long (own_dr (own_dr w0))), (.long (own_dr (own_dr w0)))]) _
      refine XS.lsub X214.here hx rfl (hb hby d4_91) rfl ?_
      show Go _ _ _ _ (mkF m 92 _ [(.long ((own_dr (own_dr w0)) - (1 : Int64))), (.long (own_dr (own_dr w0)))]) _
      refine XS.land X214.here hx rfl (hb hby d4_92) rfl ?_
      exact kt))
    have q219 := fun t (kt : Go p e below T214 (mkF m 93 #[vR a1, vI 3, vR b153, vI 3, vI 0, vJ (own_dr (own_dr w0)), vS] [(.long (own_dr (own_dr (own_dr w0))))]) t) => q218 t (by rw [(show ((own_dr (own_dr w0)) &&& ((own_dr (own_dr w0)) - (1 : Int64))) = own_dr (own_dr (own_dr w0)) from rfl)]; exact kt)
    have f220 := (((f158.other W178 (Or.inl ne184)).other W197 (Or.inl ne184)).other W214 (Or.inl ne184))
    have q221 := fun t (kt : Go p e below T214 (mkF m 42 #[vR a1, vI 3, vR b153, vI 3, vI 1, vJ (own_dr (own_dr (own_dr w0))), vS] [(.ref a1), (.int 1)]) t) => q219 t (by
      show Go _ _ _ _ (mkF m 93 #[vR a1, vI 3, vR b153, vI 3, vI 0, vJ (own_dr (own_dr w0)), vS] [(.long (own_dr (own_dr (own_dr w0))))]) _
      refine XS.lstore X214.here hx rfl (hb hby d4_93) rfl (l' := #[vR a1, vI 3, vR b153, vI 3, vI 0, vJ (own_dr (own_dr (own_dr w0))), vS]) rfl ?_
      show Go _ _ _ _ (mkF m 95 #[vR a1, vI 3, vR b153, vI 3, vI 0, vJ (own_dr (own_dr (own_dr w0))), vS] []) _
      refine XS.goto X214.here hx rfl (pc0 := 95) (pc' := 57) rfl (hb hby d4_95) (by decide) (by decide) ?_
      show Go _ _ _ _ (mkF m 57 _ []) _
      refine XS.lload X214.here hx rfl (hb hby d4_57) rfl ?_
      show Go _ _ _ _ (mkF m 59 _ [(.long (own_dr (own_dr (own_dr w0))))]) _
      refine XS.lconst X214.here hx rfl (hb hby d4_59) ?_
      show Go _ _ _ _ (mkF m 60 _ [(.long (0 : Int64)), (.long (own_dr (own_dr (own_dr w0))))]) _
      refine XS.lcmp X214.here hx rfl (hb hby d4_60) rfl ?_
      show Go _ _ _ _ (mkF m 61 _ [(.int (lcmpW (own_dr (own_dr (own_dr w0))) (0 : Int64)))]) _
      refine XS.ifYes X214.here hx rfl (pc0 := 61) (pc' := 98) rfl (hb hby d4_61) rfl ((if0 _ _).trans (teq ((lw_eq _ _).mpr t0_3)).1) (by decide) (by decide) ?_
      show Go _ _ _ _ (mkF m 98 _ []) _
      refine XS.iinc X214.here hx rfl (hb hby d4_98) rfl (l' := #[vR a1, vI 3, vR b153, vI 3, vI 1, vJ (own_dr (own_dr (own_dr w0))), vS]) rfl ?_
      show Go _ _ _ _ (mkF m 101 #[vR a1, vI 3, vR b153, vI 3, vI 1, vJ (own_dr (own_dr (own_dr w0))), vS] []) _
      refine XS.goto X214.here hx rfl (pc0 := 101) (pc' := 39) rfl (hb hby d4_101) (by decide) (by decide) ?_
      show Go _ _ _ _ (mkF m 39 _ []) _
      refine XS.iload X214.here hx rfl (hb hby d4_39) rfl ?_
      show Go _ _ _ _ (mkF m 41 _ [(.int 1)]) _
      refine XS.aloadN X214.here hx rfl (hb hby d4_41) rfl rfl ?_
      exact kt)
    obtain ⟨T222, X222, e222, st222⟩ := getF X214 hx hZ hown (host := "") (Or.inl (ox hw 22 rfl)) Via.refl e214 f220 (g := (mkF m 42 #[vR a1, vI 3, vR b153, vI 3, vI 1, vJ (own_dr (own_dr (own_dr w0))), vS] [(.ref a1), (.int 1)])) rfl rfl (hb hby d4_42)
    have q223 := fun t (kt : Go p e below T222 (mkF m 105 #[vR a1, vI 3, vR b153, vI 3, vI 1, vJ (own_dr (own_dr (own_dr w0))), vS] [(.ref b153)]) t) => q221 t (st222 t (by
      show Go _ _ _ _ (mkF m 45 #[vR a1, vI 3, vR b153, vI 3, vI 1, vJ (own_dr (own_dr (own_dr w0))), vS] [(.int 1), (.int 1)]) _
      refine XS.icmpYes X222.here hx rfl (pc0 := 45) (pc' := 104) rfl (hb hby d4_45) rfl (flt (by decide : ¬ ((1 : Int32) < (1 : Int32)))).2.1 (by decide) (by decide) ?_
      show Go _ _ _ _ (mkF m 104 _ []) _
      refine XS.aloadN X222.here hx rfl (hb hby d4_104) rfl rfl ?_
      exact kt))
    exact ⟨some (.ref b153), T222, _, _, _, _, X222, by decide, by decide, nofun, q223, fun fs hr => retOut X222 hx hret rfl (o4 ⟨rfl, rfl, rfl⟩) (hb hby d4_105) hr, by rw [e222]; exact ⟨b153, k153, (3 : Int32), [(.int ((x0 <<< ((6 : Int32) &&& 31)) + r_174)), (.int ((x0 <<< ((6 : Int32) &&& 31)) + r_193)), (.int ((x0 <<< ((6 : Int32) &&& 31)) + r_210))], rfl, N215, K217, sz155, V214, (by decide)⟩⟩
def Q_rm4_2 (Z : State) (a1 : Addr) (b : Addr) (ta : Addr) (kb : ClassId) (kt : ClassId) (x0 : Int32) (x1 : Int32) (w0 : Int64) (w1 : Int64) (cw : Nat → Nat) (h0 : Heap) (n0 : Nat) (v : Option Value) (h : Heap) (L : List Loc) : Prop := ∃ (r : Addr) (kr : ClassId) (zr : Int32) (vr : List Value), v = some (.ref r) ∧ Fr n0 L ∧ Keep h0 h [] ∧ h0.size ≤ r ∧ Arv Z h r kr .int zr vr (.int 0) ∧ (¬ (zr = (0 : Int32)))
theorem rm4_2 (l : Launch) (Z : State) (a0 : Array Value) (hw : ∀ d ∈ tables_1, d.before a0 Z = true) (ws : List Jvm.Cond) {cw : Nat → Nat} (cx : Cx Z cw) (a1 : Addr) (b : Addr) (ta : Addr) (kb : ClassId) (kt : ClassId) (x0 : Int32) (x1 : Int32) (w0 : Int64) (w1 : Int64) (h0 : Heap) (n0 : Nat) (O0 : Old Z n0 h0) (G0 : Fld Z h0 a1 sk0 "blocks" "[I" (.ref b)) (G1 : Fld Z h0 a1 sk0 "words" "[J" (.ref ta)) (G2 : Fld Z h0 a1 sk0 "used" "I" (.int 2)) (G3 : Arv Z h0 b kb .int (2 : Int32) [(.int x0), (.int x1)] (.int 0)) (G4 : Arv Z h0 ta kt .long (2 : Int32) [(.long w0), (.long w1)] (.long (0 : Int64))) (hW0 : own_W 2 w0) (hW1 : own_W 2 w1) :
    OwnMet l ym15 (Jvm.Cond.code ym15 prog_17_method_6_code 7 (some (.array .int)) :: ws) (own_R 2 1 4 31) #[(.ref a1)] Z h0 (Q_rm4_2 Z a1 b ta kb kt x0 x1 w0 w1 cw h0 n0) := by
  refine own_body (plainFor_of_name pn_4) hisR fun p e s m below meth c s₁ hx hby hml hown hnm hret hZ X0 e0 => ?_
  have N0 := Fr.nil n0
  have K0 : Keep h0 h0 [] := Keep.refl _ _
  have pre0 : ∀ t, Go p e below s₁ (mkF m 0 #[vR a1, vU, vU, vU, vU, vU, vU] []) t → Go p e below s₁ (entryFrame m #[(.ref a1)] 7) t := fun t k => castTop (ef_4_R m a1) k
  rcases own_T2 hW0 with ⟨t0_0, t0_1, t0_2⟩ | ⟨t0_0, t0_1, t0_2, t0_3⟩
  · skip
    rcases own_T2 hW1 with ⟨t1_0, t1_1, t1_2⟩ | ⟨t1_0, t1_1, t1_2, t1_3⟩
    · skip
      have q21 := fun t (kt : Go p e below s₁ (mkF m 6 #[vR a1, vI 0, vI 0, vU, vU, vU, vU] [(.ref a1), (.int 0)]) t) => pre0 t (by
        show Go _ _ _ _ (mkF m 0 #[vR a1, vU, vU, vU, vU, vU, vU] []) _
        refine XS.iconst X0.here hx rfl (hb hby d4_0) ?_
        show Go _ _ _ _ (mkF m 1 _ [(.int 0)]) _
        refine XS.istoreN X0.here hx rfl (hb hby d4_1) rfl (l' := #[vR a1, vI 0, vU, vU, vU, vU, vU]) rfl ?_
        show Go _ _ _ _ (mkF m 2 #[vR a1, vI 0, vU, vU, vU, vU, vU] []) _
        refine XS.iconst X0.here hx rfl (hb hby d4_2) ?_
        show Go _ _ _ _ (mkF m 3 _ [(.int 0)]) _
        refine XS.istoreN X0.here hx rfl (hb hby d4_3) rfl (l' := #[vR a1, vI 0, vI 0, vU, vU, vU, vU]) rfl ?_
        show Go _ _ _ _ (mkF m 4 #[vR a1, vI 0, vI 0, vU, vU, vU, vU] []) _
        refine XS.iloadN X0.here hx rfl (hb hby d4_4) rfl ?_
        show Go _ _ _ _ (mkF m 5 _ [(.int 0)]) _
        refine XS.aloadN X0.here hx rfl (hb hby d4_5) rfl rfl ?_
        exact kt)
      obtain ⟨T22, X22, e22, st22⟩ := getF X0 hx hZ hown (host := "") (Or.inl (ox hw 22 rfl)) Via.refl e0 G2 (g := (mkF m 6 #[vR a1, vI 0, vI 0, vU, vU, vU, vU] [(.ref a1), (.int 0)])) rfl rfl (hb hby d4_6)
      have q23 := fun t (kt : Go p e below T22 (mkF m 14 #[vR a1, vI 0, vI 0, vU, vU, vU, vU] [(.ref a1), (.int 0)]) t) => q21 t (st22 t (by
        show Go _ _ _ _ (mkF m 9 #[vR a1, vI 0, vI 0, vU, vU, vU, vU] [(.int 2), (.int 0)]) _
        refine XS.icmpNo X22.here hx rfl (hb hby d4_9) rfl (tlt (by decide : (0 : Int32) < (2 : Int32))).2.1 ?_
        show Go _ _ _ _ (mkF m 12 _ []) _
        refine XS.iloadN X22.here hx rfl (hb hby d4_12) rfl ?_
        show Go _ _ _ _ (mkF m 13 _ [(.int 0)]) _
        refine XS.aloadN X22.here hx rfl (hb hby d4_13) rfl rfl ?_
        exact kt))
      obtain ⟨T24, X24, e24, st24⟩ := getF X22 hx hZ hown (host := "") (Or.inl (ox hw 15 rfl)) Via.refl e22 G1 (g := (mkF m 14 #[vR a1, vI 0, vI 0, vU, vU, vU, vU] [(.ref a1), (.int 0)])) rfl rfl (hb hby d4_14)
      have q26 := fun t (kt : Go p e below T24 (mkF m 18 #[vR a1, vI 0, vI 0, vU, vU, vU, vU] [(.int 0), (.ref ta), (.int 0)]) t) => q23 t (st24 t (by
        show Go _ _ _ _ (mkF m 17 #[vR a1, vI 0, vI 0, vU, vU, vU, vU] [(.ref ta), (.int 0)]) _
        refine XS.iloadN X24.here hx rfl (hb hby d4_17) rfl ?_
        exact kt))
      obtain ⟨c25, Ar25, -, S25, N25, H25, -⟩ := id G4
      have q27 := fun t (kt : Go p e below T24 (mkF m 19 #[vR a1, vI 0, vI 0, vU, vU, vU, vU] [(.long w0), (.int 0)]) t) => q26 t (by
        show Go _ _ _ _ (mkF m 18 #[vR a1, vI 0, vI 0, vU, vU, vU, vU] [(.int 0), (.ref ta), (.int 0)]) _
        refine X24.laload hx (j := (0 : Int32)) (v := (.long w0)) (by rw [e24]; exact Ar25.1) (State.isArrayOf_alike hZ.alike Ar25.2.1) Ar25.2.2 (inb_of S25 ⟨by decide, by decide⟩) (Has.at H25 (inb_of S25 ⟨by decide, by decide⟩) rfl) (g := (mkF m 18 #[vR a1, vI 0, vI 0, vU, vU, vU, vU] [(.int 0), (.ref ta), (.int 0)])) rfl rfl (hb hby d4_18) _ ?_
        exact kt)
      obtain ⟨_, _, ⟨T28, L28, k28, n28⟩, -, X28, ⟨_, hQ28, l28, y28, z28⟩, st28⟩ := Jvm.LawKit.callS X24 hx (y := ym12) hown (ow hZ hw 71 rfl) (ow hZ hw 72 rfl) (ow hZ hw 73 rfl) (ow hZ hw 74 rfl) (by decide) (backOf (W := 1) (rm15 l Z a0 hw [] cx w0 h0 n0 O0 ) hZ (ox hw 74 rfl) (ox hw 73 rfl) (by decide) (by decide)) (g := (mkF m 19 #[vR a1, vI 0, vI 0, vU, vU, vU, vU] [(.long w0), (.int 0)])) rfl (by rw [hml]; rfl) (argsL := [(.long w0)]) (rest := [(.int 0)]) (lenOf pd_8 rfl) rfl own_le0 (hb hby d4_19) (fun _ _ => ⟨rfl, e24, (by decide : 0 + 0 ≤ _), (by decide : 0 + 0 ≤ _)⟩)
      dsimp only [Pt.U, Pt.locs, Pt.cells, Pt.slots] at X28 l28 y28 z28 st28 hQ28
      subst l28 y28 z28
      obtain ⟨rfl, Nq28, eq28⟩ := hQ28
      have N29 := Fr.app N0 Nq28
      have q30 := fun t (kt : Go p e below T28 (mkF m 22 #[vR a1, vI 0, vI 0, vU, vU, vU, vU] [(.int (own_bc w0)), (.int 0)]) t) => q27 t (st28 t kt)
      have q31 := fun t (kt : Go p e below T28 (mkF m 22 #[vR a1, vI 0, vI 0, vU, vU, vU, vU] [(.int 1), (.int 0)]) t) => q30 t (by rw [t0_2]; exact kt)
      have q32 := fun t (kt : Go p e below T28 (mkF m 6 #[vR a1, vI 1, vI 1, vU, vU, vU, vU] [(.ref a1), (.int 1)]) t) => q31 t (by
        show Go _ _ _ _ (mkF m 22 #[vR a1, vI 0, vI 0, vU, vU, vU, vU] [(.int 1), (.int 0)]) _
        refine XS.iadd X28.here hx rfl (hb hby d4_22) rfl ?_
        show Go _ _ _ _ (mkF m 23 _ [(.int 1)]) _
        refine XS.istoreN X28.here hx rfl (hb hby d4_23) rfl (l' := #[vR a1, vI 1, vI 0, vU, vU, vU, vU]) rfl ?_
        show Go _ _ _ _ (mkF m 24 #[vR a1, vI 1, vI 0, vU, vU, vU, vU] []) _
        refine XS.iinc X28.here hx rfl (hb hby d4_24) rfl (l' := #[vR a1, vI 1, vI 1, vU, vU, vU, vU]) rfl ?_
        show Go _ _ _ _ (mkF m 27 #[vR a1, vI 1, vI 1, vU, vU, vU, vU] []) _
        refine XS.goto X28.here hx rfl (pc0 := 27) (pc' := 4) rfl (hb hby d4_27) (by decide) (by decide) ?_
        show Go _ _ _ _ (mkF m 4 _ []) _
        refine XS.iloadN X28.here hx rfl (hb hby d4_4) rfl ?_
        show Go _ _ _ _ (mkF m 5 _ [(.int 1)]) _
        refine XS.aloadN X28.here hx rfl (hb hby d4_5) rfl rfl ?_
        exact kt)
      obtain ⟨T33, X33, e33, st33⟩ := getF X28 hx hZ hown (host := "") (Or.inl (ox hw 22 rfl)) Via.refl eq28 G2 (g := (mkF m 6 #[vR a1, vI 1, vI 1, vU, vU, vU, vU] [(.ref a1), (.int 1)])) rfl rfl (hb hby d4_6)
      have q34 := fun t (kt : Go p e below T33 (mkF m 14 #[vR a1, vI 1, vI 1, vU, vU, vU, vU] [(.ref a1), (.int 1)]) t) => q32 t (st33 t (by
        show Go _ _ _ _ (mkF m 9 #[vR a1, vI 1, vI 1, vU, vU, vU, vU] [(.int 2), (.int 1)]) _
        refine XS.icmpNo X33.here hx rfl (hb hby d4_9) rfl (tlt (by decide : (1 : Int32) < (2 : Int32))).2.1 ?_
        show Go _ _ _ _ (mkF m 12 _ []) _
        refine XS.iloadN X33.here hx rfl (hb hby d4_12) rfl ?_
        show Go _ _ _ _ (mkF m 13 _ [(.int 1)]) _
        refine XS.aloadN X33.here hx rfl (hb hby d4_13) rfl rfl ?_
        exact kt))
      obtain ⟨T35, X35, e35, st35⟩ := getF X33 hx hZ hown (host := "") (Or.inl (ox hw 15 rfl)) Via.refl e33 G1 (g := (mkF m 14 #[vR a1, vI 1, vI 1, vU, vU, vU, vU] [(.ref a1), (.int 1)])) rfl rfl (hb hby d4_14)
      have q37 := fun t (kt : Go p e below T35 (mkF m 18 #[vR a1, vI 1, vI 1, vU, vU, vU, vU] [(.int 1), (.ref ta), (.int 1)]) t) => q34 t (st35 t (by
        show Go _ _ _ _ (mkF m 17 #[vR a1, vI 1, vI 1, vU, vU, vU, vU] [(.ref ta), (.int 1)]) _
        refine XS.iloadN X35.here hx rfl (hb hby d4_17) rfl ?_
        exact kt))
      obtain ⟨c36, Ar36, -, S36, N36, H36, -⟩ := id G4
      have q38 := fun t (kt : Go p e below T35 (mkF m 19 #[vR a1, vI 1, vI 1, vU, vU, vU, vU] [(.long w1), (.int 1)]) t) => q37 t (by
        show Go _ _ _ _ (mkF m 18 #[vR a1, vI 1, vI 1, vU, vU, vU, vU] [(.int 1), (.ref ta), (.int 1)]) _
        refine X35.laload hx (j := (1 : Int32)) (v := (.long w1)) (by rw [e35]; exact Ar36.1) (State.isArrayOf_alike hZ.alike Ar36.2.1) Ar36.2.2 (inb_of S36 ⟨by decide, by decide⟩) (Has.at H36 (inb_of S36 ⟨by decide, by decide⟩) rfl) (g := (mkF m 18 #[vR a1, vI 1, vI 1, vU, vU, vU, vU] [(.int 1), (.ref ta), (.int 1)])) rfl rfl (hb hby d4_18) _ ?_
        exact kt)
      obtain ⟨_, _, ⟨T39, L39, k39, n39⟩, -, X39, ⟨_, hQ39, l39, y39, z39⟩, st39⟩ := Jvm.LawKit.callS X35 hx (y := ym12) hown (ow hZ hw 71 rfl) (ow hZ hw 72 rfl) (ow hZ hw 73 rfl) (ow hZ hw 74 rfl) (by decide) (backOf (W := 1) (rm15 l Z a0 hw [] cx w1 h0 n0 O0 ) hZ (ox hw 74 rfl) (ox hw 73 rfl) (by decide) (by decide)) (g := (mkF m 19 #[vR a1, vI 1, vI 1, vU, vU, vU, vU] [(.long w1), (.int 1)])) rfl (by rw [hml]; rfl) (argsL := [(.long w1)]) (rest := [(.int 1)]) (lenOf pd_8 rfl) rfl own_le0 (hb hby d4_19) (fun _ _ => ⟨rfl, e35, (by decide : 0 + 0 ≤ _), (by decide : 0 + 0 ≤ _)⟩)
      dsimp only [Pt.U, Pt.locs, Pt.cells, Pt.slots] at X39 l39 y39 z39 st39 hQ39
      subst l39 y39 z39
      obtain ⟨rfl, Nq39, eq39⟩ := hQ39
      have N40 := Fr.app N29 Nq39
      have q41 := fun t (kt : Go p e below T39 (mkF m 22 #[vR a1, vI 1, vI 1, vU, vU, vU, vU] [(.int (own_bc w1)), (.int 1)]) t) => q38 t (st39 t kt)
      have q42 := fun t (kt : Go p e below T39 (mkF m 22 #[vR a1, vI 1, vI 1, vU, vU, vU, vU] [(.int 1), (.int 1)]) t) => q41 t (by rw [t1_2]; exact kt)
      have q43 := fun t (kt : Go p e below T39 (mkF m 6 #[vR a1, vI 2, vI 2, vU, vU, vU, vU] [(.ref a1), (.int 2)]) t) => q42 t (by
        show Go _ _ _ _ (mkF m 22 #[vR a1, vI 1, vI 1, vU, vU, vU, vU] [(.int 1), (.int 1)]) _
        refine XS.iadd X39.here hx rfl (hb hby d4_22) rfl ?_
        show Go _ _ _ _ (mkF m 23 _ [(.int 2)]) _
        refine XS.istoreN X39.here hx rfl (hb hby d4_23) rfl (l' := #[vR a1, vI 2, vI 1, vU, vU, vU, vU]) rfl ?_
        show Go _ _ _ _ (mkF m 24 #[vR a1, vI 2, vI 1, vU, vU, vU, vU] []) _
        refine XS.iinc X39.here hx rfl (hb hby d4_24) rfl (l' := #[vR a1, vI 2, vI 2, vU, vU, vU, vU]) rfl ?_
        show Go _ _ _ _ (mkF m 27 #[vR a1, vI 2, vI 2, vU, vU, vU, vU] []) _
        refine XS.goto X39.here hx rfl (pc0 := 27) (pc' := 4) rfl (hb hby d4_27) (by decide) (by decide) ?_
        show Go _ _ _ _ (mkF m 4 _ []) _
        refine XS.iloadN X39.here hx rfl (hb hby d4_4) rfl ?_
        show Go _ _ _ _ (mkF m 5 _ [(.int 2)]) _
        refine XS.aloadN X39.here hx rfl (hb hby d4_5) rfl rfl ?_
        exact kt)
      obtain ⟨T44, X44, e44, st44⟩ := getF X39 hx hZ hown (host := "") (Or.inl (ox hw 22 rfl)) Via.refl eq39 G2 (g := (mkF m 6 #[vR a1, vI 2, vI 2, vU, vU, vU, vU] [(.ref a1), (.int 2)])) rfl rfl (hb hby d4_6)
      have q45 := fun t (kt : Go p e below T44 (mkF m 31 #[vR a1, vI 2, vI 2, vU, vU, vU, vU] [(.int 2)]) t) => q43 t (st44 t (by
        show Go _ _ _ _ (mkF m 9 #[vR a1, vI 2, vI 2, vU, vU, vU, vU] [(.int 2), (.int 2)]) _
        refine XS.icmpYes X44.here hx rfl (pc0 := 9) (pc' := 30) rfl (hb hby d4_9) rfl (flt (by decide : ¬ ((2 : Int32) < (2 : Int32)))).2.1 (by decide) (by decide) ?_
        show Go _ _ _ _ (mkF m 30 _ []) _
        refine XS.iloadN X44.here hx rfl (hb hby d4_30) rfl ?_
        exact kt))
      obtain ⟨T46, h46, k46, X46, e46, E46, A46, st46⟩ := newP X44 hx hZ (ox hw 29 rfl) e44 (g := (mkF m 31 #[vR a1, vI 2, vI 2, vU, vU, vU, vU] [(.int 2)])) rfl (hb hby d4_31) rfl (by decide) (cap := 2) (by decide) (by decide) (by decide) (by decide)
      obtain ⟨b46, g46⟩ : ∃ z, z = h0.size := ⟨_, rfl⟩
      rw [← g46] at A46 st46
      have gg47 : n0 ≤ b46 := Nat.le_trans (O0.1 ▸ O0.2.1) (Nat.le_of_eq g46.symm)
      have sz48 : h0.size ≤ b46 := Nat.le_trans K0.1 (Nat.le_of_eq g46.symm)
      have O49 := O0.ext E46
      have K50 := K0.ext E46
      have V46 : Arv Z h46 b46 k46 .int (2 : Int32) [(.int 0), (.int 0)] (.int 0) := (Arv.new A46 (by decide)).pad (pad_rep [] (.int 0) 2)
      have f51 := (G2.ext E46)
      have q52 := fun t (kt : Go p e below T46 (mkF m 42 #[vR a1, vI 2, vR b46, vI 0, vI 0, vU, vU] [(.ref a1), (.int 0)]) t) => q45 t (st46 t (by
        show Go _ _ _ _ (mkF m 33 #[vR a1, vI 2, vI 2, vU, vU, vU, vU] [(.ref b46)]) _
        refine XS.astoreN X46.here hx rfl (hb hby d4_33) rfl rfl (l' := #[vR a1, vI 2, vR b46, vU, vU, vU, vU]) rfl ?_
        show Go _ _ _ _ (mkF m 34 #[vR a1, vI 2, vR b46, vU, vU, vU, vU] []) _
        refine XS.iconst X46.here hx rfl (hb hby d4_34) ?_
        show Go _ _ _ _ (mkF m 35 _ [(.int 0)]) _
        refine XS.istoreN X46.here hx rfl (hb hby d4_35) rfl (l' := #[vR a1, vI 2, vR b46, vI 0, vU, vU, vU]) rfl ?_
        show Go _ _ _ _ (mkF m 36 #[vR a1, vI 2, vR b46, vI 0, vU, vU, vU] []) _
        refine XS.iconst X46.here hx rfl (hb hby d4_36) ?_
        show Go _ _ _ _ (mkF m 37 _ [(.int 0)]) _
        refine XS.istore X46.here hx rfl (hb hby d4_37) rfl (l' := #[vR a1, vI 2, vR b46, vI 0, vI 0, vU, vU]) rfl ?_
        show Go _ _ _ _ (mkF m 39 #[vR a1, vI 2, vR b46, vI 0, vI 0, vU, vU] []) _
        refine XS.iload X46.here hx rfl (hb hby d4_39) rfl ?_
        show Go _ _ _ _ (mkF m 41 _ [(.int 0)]) _
        refine XS.aloadN X46.here hx rfl (hb hby d4_41) rfl rfl ?_
        exact kt))
      obtain ⟨T53, X53, e53, st53⟩ := getF X46 hx hZ hown (host := "") (Or.inl (ox hw 22 rfl)) Via.refl e46 f51 (g := (mkF m 42 #[vR a1, vI 2, vR b46, vI 0, vI 0, vU, vU] [(.ref a1), (.int 0)])) rfl rfl (hb hby d4_42)
      have f54 := (G1.ext E46)
      have q55 := fun t (kt : Go p e below T53 (mkF m 49 #[vR a1, vI 2, vR b46, vI 0, vI 0, vU, vU] [(.ref a1)]) t) => q52 t (st53 t (by
        show Go _ _ _ _ (mkF m 45 #[vR a1, vI 2, vR b46, vI 0, vI 0, vU, vU] [(.int 2), (.int 0)]) _
        refine XS.icmpNo X53.here hx rfl (hb hby d4_45) rfl (tlt (by decide : (0 : Int32) < (2 : Int32))).2.1 ?_
        show Go _ _ _ _ (mkF m 48 _ []) _
        refine XS.aloadN X53.here hx rfl (hb hby d4_48) rfl rfl ?_
        exact kt))
      obtain ⟨T56, X56, e56, st56⟩ := getF X53 hx hZ hown (host := "") (Or.inl (ox hw 15 rfl)) Via.refl e53 f54 (g := (mkF m 49 #[vR a1, vI 2, vR b46, vI 0, vI 0, vU, vU] [(.ref a1)])) rfl rfl (hb hby d4_49)
      have f57 := (G4.ext E46)
      have q59 := fun t (kt : Go p e below T56 (mkF m 54 #[vR a1, vI 2, vR b46, vI 0, vI 0, vU, vU] [(.int 0), (.ref ta)]) t) => q55 t (st56 t (by
        show Go _ _ _ _ (mkF m 52 #[vR a1, vI 2, vR b46, vI 0, vI 0, vU, vU] [(.ref ta)]) _
        refine XS.iload X56.here hx rfl (hb hby d4_52) rfl ?_
        exact kt))
      obtain ⟨c58, Ar58, -, S58, N58, H58, -⟩ := id f57
      have f60 := (G0.ext E46)
      have q61 := fun t (kt : Go p e below T56 (mkF m 70 #[vR a1, vI 2, vR b46, vI 1, vI 0, vJ w0, vS] [(.ref a1), (.int 0), (.ref b46)]) t) => q59 t (by
        show Go _ _ _ _ (mkF m 54 #[vR a1, vI 2, vR b46, vI 0, vI 0, vU, vU] [(.int 0), (.ref ta)]) _
        refine X56.laload hx (j := (0 : Int32)) (v := (.long w0)) (by rw [e56]; exact Ar58.1) (State.isArrayOf_alike hZ.alike Ar58.2.1) Ar58.2.2 (inb_of S58 ⟨by decide, by decide⟩) (Has.at H58 (inb_of S58 ⟨by decide, by decide⟩) rfl) (g := (mkF m 54 #[vR a1, vI 2, vR b46, vI 0, vI 0, vU, vU] [(.int 0), (.ref ta)])) rfl rfl (hb hby d4_54) _ ?_
        show Go _ _ _ _ (mkF m 55 _ [(.long w0)]) _
        refine XS.lstore X56.here hx rfl (hb hby d4_55) rfl (l' := #[vR a1, vI 2, vR b46, vI 0, vI 0, vJ w0, vS]) rfl ?_
        show Go _ _ _ _ (mkF m 57 #[vR a1, vI 2, vR b46, vI 0, vI 0, vJ w0, vS] []) _
        refine XS.lload X56.here hx rfl (hb hby d4_57) rfl ?_
        show Go _ _ _ _ (mkF m 59 _ [(.long w0)]) _
        refine XS.lconst X56.here hx rfl (hb hby d4_59) ?_
        show Go _ _ _ _ (mkF m 60 _ [(.long (0 : Int64)), (.long w0)]) _
        refine XS.lcmp X56.here hx rfl (hb hby d4_60) rfl ?_
        show Go _ _ _ _ (mkF m 61 _ [(.int (lcmpW w0 (0 : Int64)))]) _
        refine XS.ifNo X56.here hx rfl (hb hby d4_61) rfl ((if0 _ _).trans (feq (fun z => t0_0 ((lw_eq _ _).mp z))).1) ?_
        show Go _ _ _ _ (mkF m 64 _ []) _
        refine XS.aloadN X56.here hx rfl (hb hby d4_64) rfl rfl ?_
        show Go _ _ _ _ (mkF m 65 _ [(.ref b46)]) _
        refine XS.iloadN X56.here hx rfl (hb hby d4_65) rfl ?_
        show Go _ _ _ _ (mkF m 66 _ [(.int 0), (.ref b46)]) _
        refine XS.iinc X56.here hx rfl (hb hby d4_66) rfl (l' := #[vR a1, vI 2, vR b46, vI 1, vI 0, vJ w0, vS]) rfl ?_
        show Go _ _ _ _ (mkF m 69 #[vR a1, vI 2, vR b46, vI 1, vI 0, vJ w0, vS] [(.int 0), (.ref b46)]) _
        refine XS.aloadN X56.here hx rfl (hb hby d4_69) rfl rfl ?_
        exact kt)
      obtain ⟨T62, X62, e62, st62⟩ := getF X56 hx hZ hown (host := "") (Or.inl (ox hw 11 rfl)) Via.refl e56 f60 (g := (mkF m 70 #[vR a1, vI 2, vR b46, vI 1, vI 0, vJ w0, vS] [(.ref a1), (.int 0), (.ref b46)])) rfl rfl (hb hby d4_70)
      have f63 := (G3.ext E46)
      have q65 := fun t (kt : Go p e below T62 (mkF m 75 #[vR a1, vI 2, vR b46, vI 1, vI 0, vJ w0, vS] [(.int 0), (.ref b), (.int 0), (.ref b46)]) t) => q61 t (st62 t (by
        show Go _ _ _ _ (mkF m 73 #[vR a1, vI 2, vR b46, vI 1, vI 0, vJ w0, vS] [(.ref b), (.int 0), (.ref b46)]) _
        refine XS.iload X62.here hx rfl (hb hby d4_73) rfl ?_
        exact kt))
      obtain ⟨c64, Ar64, -, S64, N64, H64, -⟩ := id f63
      have q66 := fun t (kt : Go p e below T62 (mkF m 81 #[vR a1, vI 2, vR b46, vI 1, vI 0, vJ w0, vS] [(.long w0), (.int (x0 <<< ((6 : Int32) &&& 31))), (.int 0), (.ref b46)]) t) => q65 t (by
        show Go _ _ _ _ (mkF m 75 #[vR a1, vI 2, vR b46, vI 1, vI 0, vJ w0, vS] [(.int 0), (.ref b), (.int 0), (.ref b46)]) _
        refine X62.iaload hx (j := (0 : Int32)) (v := (.int x0)) (by rw [e62]; exact Ar64.1) (State.isArrayOf_alike hZ.alike Ar64.2.1) Ar64.2.2 (inb_of S64 ⟨by decide, by decide⟩) (Has.at H64 (inb_of S64 ⟨by decide, by decide⟩) rfl) (g := (mkF m 75 #[vR a1, vI 2, vR b46, vI 1, vI 0, vJ w0, vS] [(.int 0), (.ref b), (.int 0), (.ref b46)])) rfl rfl (hb hby d4_75) _ ?_
        show Go _ _ _ _ (mkF m 76 _ [(.int x0), (.int 0), (.ref b46)]) _
        refine XS.bipush X62.here hx rfl (hb hby d4_76) ?_
        show Go _ _ _ _ (mkF m 78 _ [(.int 6), (.int x0), (.int 0), (.ref b46)]) _
        refine XS.ishl X62.here hx rfl (hb hby d4_78) rfl ?_
        show Go _ _ _ _ (mkF m 79 _ [(.int (x0 <<< ((6 : Int32) &&& 31))), (.int 0), (.ref b46)]) _
        refine XS.lload X62.here hx rfl (hb hby d4_79) rfl ?_
        exact kt)
      obtain ⟨_, _, ⟨T67, L67, k67, n67⟩, -, X67, ⟨_, hQ67, l67, y67, z67⟩, st67⟩ := Jvm.LawKit.callS X62 hx (y := ym14) hown (ow hZ hw 78 rfl) (ow hZ hw 79 rfl) (ow hZ hw 73 rfl) (ow hZ hw 80 rfl) (by decide) (backOf (W := 3) (rm16 l Z a0 hw [] cx w0 h46 n0 O49 ) hZ (ox hw 80 rfl) (ox hw 73 rfl) (by decide) (by decide)) (g := (mkF m 81 #[vR a1, vI 2, vR b46, vI 1, vI 0, vJ w0, vS] [(.long w0), (.int (x0 <<< ((6 : Int32) &&& 31))), (.int 0), (.ref b46)])) rfl (by rw [hml]; rfl) (argsL := [(.long w0)]) (rest := [(.int (x0 <<< ((6 : Int32) &&& 31))), (.int 0), (.ref b46)]) (lenOf pd_8 rfl) rfl own_le0 (hb hby d4_81) (fun _ _ => ⟨rfl, e62, (by decide : 1 + 0 ≤ _), (by decide : 2 + 0 ≤ _)⟩)
      dsimp only [Pt.U, Pt.locs, Pt.cells, Pt.slots] at X67 l67 y67 z67 st67 hQ67
      subst l67 y67 z67
      obtain ⟨r_67, rfl, Nq67, eq67⟩ := hQ67
      have N68 := Fr.app N40 Nq67
      have q70 := fun t (kt : Go p e below T67 (mkF m 85 #[vR a1, vI 2, vR b46, vI 1, vI 0, vJ w0, vS] [(.int ((x0 <<< ((6 : Int32) &&& 31)) + r_67)), (.int 0), (.ref b46)]) t) => q66 t (st67 t (by
        show Go _ _ _ _ (mkF m 84 #[vR a1, vI 2, vR b46, vI 1, vI 0, vJ w0, vS] [(.int r_67), (.int (x0 <<< ((6 : Int32) &&& 31))), (.int 0), (.ref b46)]) _
        refine XS.iadd X67.here hx rfl (hb hby d4_84) rfl ?_
        exact kt))
      obtain ⟨c69, Ar69, q69, S69, N69, H69, G69⟩ := id V46
      have hi69 : ¬ ((0 : Int32) < 0 ∨ c69.slots.size ≤ ((0 : Int32)).toNatClampNeg) := inb_of S69 ⟨by decide, by decide⟩
      obtain ⟨T71, h71, X71, e71, W71, st71⟩ := stI X67 hx hZ eq67 Ar69 (j := (0 : Int32)) hi69 (g := (mkF m 85 #[vR a1, vI 2, vR b46, vI 1, vI 0, vJ w0, vS] [(.int ((x0 <<< ((6 : Int32) &&& 31)) + r_67)), (.int 0), (.ref b46)])) rfl rfl (hb hby d4_85)
      have V71 : Arv Z h71 b46 k46 .int (2 : Int32) [(.int ((x0 <<< ((6 : Int32) &&& 31)) + r_67)), (.int 0)] (.int 0) := Arv.set Ar69 q69 S69 N69 H69 G69 rfl W71 0 rfl (Nat.le_of_ble_eq_true rfl)
      have N72 := Fr.snoc X71 N68 gg47
      have O73 := O49.wr W71 gg47
      have K74 := K50.wr W71 (Or.inr sz48)
      have q75 := fun t (kt : Go p e below T71 (mkF m 93 #[vR a1, vI 2, vR b46, vI 1, vI 0, vJ w0, vS] [(.long (w0 &&& (w0 - (1 : Int64))))]) t) => q70 t (st71 t (by
        show Go _ _ _ _ (mkF m 86 #[vR a1, vI 2, vR b46, vI 1, vI 0, vJ w0, vS] []) _
        refine XS.lload X71.here hx rfl (hb hby d4_86) rfl ?_
        show Go _ _ _ _ (mkF m 88 _ [(.long w0)]) _
        refine XS.lload X71.here hx rfl (hb hby d4_88) rfl ?_
        show Go _ _ _ _ (mkF m 90 _ [(.long w0), (.long w0)]) _
        refine XS.lconst X71.here hx rfl (hb hby d4_90) ?_
        show Go _ _ _ _ (mkF m 91 _ [(.long (1 : Int64)), (.long w0), (.long w0)]) _
        refine XS.lsub X71.here hx rfl (hb hby d4_91) rfl ?_
        show Go _ _ _ _ (mkF m 92 _ [(.long (w0 - (1 : Int64))), (.long w0)]) _
        refine XS.land X71.here hx rfl (hb hby d4_92) rfl ?_
        exact kt))
      have q76 := fun t (kt : Go p e below T71 (mkF m 93 #[vR a1, vI 2, vR b46, vI 1, vI 0, vJ w0, vS] [(.long (own_dr w0))]) t) => q75 t (by rw [(show (w0 &&& (w0 - (1 : Int64))) = own_dr w0 from rfl)]; exact kt)
      have ne77 : a1 ≠ b46 := (Nat.ne_of_lt (Nat.lt_of_lt_of_le G0.lt (Nat.le_of_eq g46.symm)))
      have f78 := (f51.other W71 (Or.inl ne77))
      have q79 := fun t (kt : Go p e below T71 (mkF m 42 #[vR a1, vI 2, vR b46, vI 1, vI 1, vJ (own_dr w0), vS] [(.ref a1), (.int 1)]) t) => q76 t (by
        show Go _ _ _ _ (mkF m 93 #[vR a1, vI 2, vR b46, vI 1, vI 0, vJ w0, vS] [(.long (own_dr w0))]) _
        refine XS.lstore X71.here hx rfl (hb hby d4_93) rfl (l' := #[vR a1, vI 2, vR b46, vI 1, vI 0, vJ (own_dr w0), vS]) rfl ?_
        show Go _ _ _ _ (mkF m 95 #[vR a1, vI 2, vR b46, vI 1, vI 0, vJ (own_dr w0), vS] []) _
        refine XS.goto X71.here hx rfl (pc0 := 95) (pc' := 57) rfl (hb hby d4_95) (by decide) (by decide) ?_
        show Go _ _ _ _ (mkF m 57 _ []) _
        refine XS.lload X71.here hx rfl (hb hby d4_57) rfl ?_
        show Go _ _ _ _ (mkF m 59 _ [(.long (own_dr w0))]) _
        refine XS.lconst X71.here hx rfl (hb hby d4_59) ?_
        show Go _ _ _ _ (mkF m 60 _ [(.long (0 : Int64)), (.long (own_dr w0))]) _
        refine XS.lcmp X71.here hx rfl (hb hby d4_60) rfl ?_
        show Go _ _ _ _ (mkF m 61 _ [(.int (lcmpW (own_dr w0) (0 : Int64)))]) _
        refine XS.ifYes X71.here hx rfl (pc0 := 61) (pc' := 98) rfl (hb hby d4_61) rfl ((if0 _ _).trans (teq ((lw_eq _ _).mpr t0_1)).1) (by decide) (by decide) ?_
        show Go _ _ _ _ (mkF m 98 _ []) _
        refine XS.iinc X71.here hx rfl (hb hby d4_98) rfl (l' := #[vR a1, vI 2, vR b46, vI 1, vI 1, vJ (own_dr w0), vS]) rfl ?_
        show Go _ _ _ _ (mkF m 101 #[vR a1, vI 2, vR b46, vI 1, vI 1, vJ (own_dr w0), vS] []) _
        refine XS.goto X71.here hx rfl (pc0 := 101) (pc' := 39) rfl (hb hby d4_101) (by decide) (by decide) ?_
        show Go _ _ _ _ (mkF m 39 _ []) _
        refine XS.iload X71.here hx rfl (hb hby d4_39) rfl ?_
        show Go _ _ _ _ (mkF m 41 _ [(.int 1)]) _
        refine XS.aloadN X71.here hx rfl (hb hby d4_41) rfl rfl ?_
        exact kt)
      obtain ⟨T80, X80, e80, st80⟩ := getF X71 hx hZ hown (host := "") (Or.inl (ox hw 22 rfl)) Via.refl e71 f78 (g := (mkF m 42 #[vR a1, vI 2, vR b46, vI 1, vI 1, vJ (own_dr w0), vS] [(.ref a1), (.int 1)])) rfl rfl (hb hby d4_42)
      have f81 := (f54.other W71 (Or.inl ne77))
      have q82 := fun t (kt : Go p e below T80 (mkF m 49 #[vR a1, vI 2, vR b46, vI 1, vI 1, vJ (own_dr w0), vS] [(.ref a1)]) t) => q79 t (st80 t (by
        show Go _ _ _ _ (mkF m 45 #[vR a1, vI 2, vR b46, vI 1, vI 1, vJ (own_dr w0), vS] [(.int 2), (.int 1)]) _
        refine XS.icmpNo X80.here hx rfl (hb hby d4_45) rfl (tlt (by decide : (1 : Int32) < (2 : Int32))).2.1 ?_
        show Go _ _ _ _ (mkF m 48 _ []) _
        refine XS.aloadN X80.here hx rfl (hb hby d4_48) rfl rfl ?_
        exact kt))
      obtain ⟨T83, X83, e83, st83⟩ := getF X80 hx hZ hown (host := "") (Or.inl (ox hw 15 rfl)) Via.refl e80 f81 (g := (mkF m 49 #[vR a1, vI 2, vR b46, vI 1, vI 1, vJ (own_dr w0), vS] [(.ref a1)])) rfl rfl (hb hby d4_49)
      have ne84 : ta ≠ b46 := (Nat.ne_of_lt (Nat.lt_of_lt_of_le G4.lt (Nat.le_of_eq g46.symm)))
      have f85 := (f57.other W71 ne84)
      have q87 := fun t (kt : Go p e below T83 (mkF m 54 #[vR a1, vI 2, vR b46, vI 1, vI 1, vJ (own_dr w0), vS] [(.int 1), (.ref ta)]) t) => q82 t (st83 t (by
        show Go _ _ _ _ (mkF m 52 #[vR a1, vI 2, vR b46, vI 1, vI 1, vJ (own_dr w0), vS] [(.ref ta)]) _
        refine XS.iload X83.here hx rfl (hb hby d4_52) rfl ?_
        exact kt))
      obtain ⟨c86, Ar86, -, S86, N86, H86, -⟩ := id f85
      have f88 := (f60.other W71 (Or.inl ne77))
      have q89 := fun t (kt : Go p e below T83 (mkF m 70 #[vR a1, vI 2, vR b46, vI 2, vI 1, vJ w1, vS] [(.ref a1), (.int 1), (.ref b46)]) t) => q87 t (by
        show Go _ _ _ _ (mkF m 54 #[vR a1, vI 2, vR b46, vI 1, vI 1, vJ (own_dr w0), vS] [(.int 1), (.ref ta)]) _
        refine X83.laload hx (j := (1 : Int32)) (v := (.long w1)) (by rw [e83]; exact Ar86.1) (State.isArrayOf_alike hZ.alike Ar86.2.1) Ar86.2.2 (inb_of S86 ⟨by decide, by decide⟩) (Has.at H86 (inb_of S86 ⟨by decide, by decide⟩) rfl) (g := (mkF m 54 #[vR a1, vI 2, vR b46, vI 1, vI 1, vJ (own_dr w0), vS] [(.int 1), (.ref ta)])) rfl rfl (hb hby d4_54) _ ?_
        show Go _ _ _ _ (mkF m 55 _ [(.long w1)]) _
        refine XS.lstore X83.here hx rfl (hb hby d4_55) rfl (l' := #[vR a1, vI 2, vR b46, vI 1, vI 1, vJ w1, vS]) rfl ?_
        show Go _ _ _ _ (mkF m 57 #[vR a1, vI 2, vR b46, vI 1, vI 1, vJ w1, vS] []) _
        refine XS.lload X83.here hx rfl (hb hby d4_57) rfl ?_
        show Go _ _ _ _ (mkF m 59 _ [(.long w1)]) _
        refine XS.lconst X83.here hx rfl (hb hby d4_59) ?_
        show Go _ _ _ _ (mkF m 60 _ [(.long (0 : Int64)), (.long w1)]) _
        refine XS.lcmp X83.here hx rfl (hb hby d4_60) rfl ?_
        show Go _ _ _ _ (mkF m 61 _ [(.int (lcmpW w1 (0 : Int64)))]) _
        refine XS.ifNo X83.here hx rfl (hb hby d4_61) rfl ((if0 _ _).trans (feq (fun z => t1_0 ((lw_eq _ _).mp z))).1) ?_
        show Go _ _ _ _ (mkF m 64 _ []) _
        refine XS.aloadN X83.here hx rfl (hb hby d4_64) rfl rfl ?_
        show Go _ _ _ _ (mkF m 65 _ [(.ref b46)]) _
        refine XS.iloadN X83.here hx rfl (hb hby d4_65) rfl ?_
        show Go _ _ _ _ (mkF m 66 _ [(.int 1), (.ref b46)]) _
        refine XS.iinc X83.here hx rfl (hb hby d4_66) rfl (l' := #[vR a1, vI 2, vR b46, vI 2, vI 1, vJ w1, vS]) rfl ?_
        show Go _ _ _ _ (mkF m 69 #[vR a1, vI 2, vR b46, vI 2, vI 1, vJ w1, vS] [(.int 1), (.ref b46)]) _
        refine XS.aloadN X83.here hx rfl (hb hby d4_69) rfl rfl ?_
        exact kt)
      obtain ⟨T90, X90, e90, st90⟩ := getF X83 hx hZ hown (host := "") (Or.inl (ox hw 11 rfl)) Via.refl e83 f88 (g := (mkF m 70 #[vR a1, vI 2, vR b46, vI 2, vI 1, vJ w1, vS] [(.ref a1), (.int 1), (.ref b46)])) rfl rfl (hb hby d4_70)
      have ne91 : b ≠ b46 := (Nat.ne_of_lt (Nat.lt_of_lt_of_le G3.lt (Nat.le_of_eq g46.symm)))
      have f92 := (f63.other W71 ne91)
      have q94 := fun t (kt : Go p e below T90 (mkF m 75 #[vR a1, vI 2, vR b46, vI 2, vI 1, vJ w1, vS] [(.int 1), (.ref b), (.int 1), (.ref b46)]) t) => q89 t (st90 t (by
        show Go _ _ _ _ (mkF m 73 #[vR a1, vI 2, vR b46, vI 2, vI 1, vJ w1, vS] [(.ref b), (.int 1), (.ref b46)]) _
        refine XS.iload X90.here hx rfl (hb hby d4_73) rfl ?_
        exact kt))
      obtain ⟨c93, Ar93, -, S93, N93, H93, -⟩ := id f92
      have q95 := fun t (kt : Go p e below T90 (mkF m 81 #[vR a1, vI 2, vR b46, vI 2, vI 1, vJ w1, vS] [(.long w1), (.int (x1 <<< ((6 : Int32) &&& 31))), (.int 1), (.ref b46)]) t) => q94 t (by
        show Go _ _ _ _ (mkF m 75 #[vR a1, vI 2, vR b46, vI 2, vI 1, vJ w1, vS] [(.int 1), (.ref b), (.int 1), (.ref b46)]) _
        refine X90.iaload hx (j := (1 : Int32)) (v := (.int x1)) (by rw [e90]; exact Ar93.1) (State.isArrayOf_alike hZ.alike Ar93.2.1) Ar93.2.2 (inb_of S93 ⟨by decide, by decide⟩) (Has.at H93 (inb_of S93 ⟨by decide, by decide⟩) rfl) (g := (mkF m 75 #[vR a1, vI 2, vR b46, vI 2, vI 1, vJ w1, vS] [(.int 1), (.ref b), (.int 1), (.ref b46)])) rfl rfl (hb hby d4_75) _ ?_
        show Go _ _ _ _ (mkF m 76 _ [(.int x1), (.int 1), (.ref b46)]) _
        refine XS.bipush X90.here hx rfl (hb hby d4_76) ?_
        show Go _ _ _ _ (mkF m 78 _ [(.int 6), (.int x1), (.int 1), (.ref b46)]) _
        refine XS.ishl X90.here hx rfl (hb hby d4_78) rfl ?_
        show Go _ _ _ _ (mkF m 79 _ [(.int (x1 <<< ((6 : Int32) &&& 31))), (.int 1), (.ref b46)]) _
        refine XS.lload X90.here hx rfl (hb hby d4_79) rfl ?_
        exact kt)
      obtain ⟨_, _, ⟨T96, L96, k96, n96⟩, -, X96, ⟨_, hQ96, l96, y96, z96⟩, st96⟩ := Jvm.LawKit.callS X90 hx (y := ym14) hown (ow hZ hw 78 rfl) (ow hZ hw 79 rfl) (ow hZ hw 73 rfl) (ow hZ hw 80 rfl) (by decide) (backOf (W := 3) (rm16 l Z a0 hw [] cx w1 h71 n0 O73 ) hZ (ox hw 80 rfl) (ox hw 73 rfl) (by decide) (by decide)) (g := (mkF m 81 #[vR a1, vI 2, vR b46, vI 2, vI 1, vJ w1, vS] [(.long w1), (.int (x1 <<< ((6 : Int32) &&& 31))), (.int 1), (.ref b46)])) rfl (by rw [hml]; rfl) (argsL := [(.long w1)]) (rest := [(.int (x1 <<< ((6 : Int32) &&& 31))), (.int 1), (.ref b46)]) (lenOf pd_8 rfl) rfl own_le0 (hb hby d4_81) (fun _ _ => ⟨rfl, e90, (by decide : 1 + 0 ≤ _), (by decide : 2 + 0 ≤ _)⟩)
      dsimp only [Pt.U, Pt.locs, Pt.cells, Pt.slots] at X96 l96 y96 z96 st96 hQ96
      subst l96 y96 z96
      obtain ⟨r_96, rfl, Nq96, eq96⟩ := hQ96
      have N97 := Fr.app N72 Nq96
      have q99 := fun t (kt : Go p e below T96 (mkF m 85 #[vR a1, vI 2, vR b46, vI 2, vI 1, vJ w1, vS] [(.int ((x1 <<< ((6 : Int32) &&& 31)) + r_96)), (.int 1), (.ref b46)]) t) => q95 t (st96 t (by
        show Go _ _ _ _ (mkF m 84 #[vR a1, vI 2, vR b46, vI 2, vI 1, vJ w1, vS] [(.int r_96), (.int (x1 <<< ((6 : Int32) &&& 31))), (.int 1), (.ref b46)]) _
        refine XS.iadd X96.here hx rfl (hb hby d4_84) rfl ?_
        exact kt))
      obtain ⟨c98, Ar98, q98, S98, N98, H98, G98⟩ := id V71
      have hi98 : ¬ ((1 : Int32) < 0 ∨ c98.slots.size ≤ ((1 : Int32)).toNatClampNeg) := inb_of S98 ⟨by decide, by decide⟩
      obtain ⟨T100, h100, X100, e100, W100, st100⟩ := stI X96 hx hZ eq96 Ar98 (j := (1 : Int32)) hi98 (g := (mkF m 85 #[vR a1, vI 2, vR b46, vI 2, vI 1, vJ w1, vS] [(.int ((x1 <<< ((6 : Int32) &&& 31)) + r_96)), (.int 1), (.ref b46)])) rfl rfl (hb hby d4_85)
      have V100 : Arv Z h100 b46 k46 .int (2 : Int32) [(.int ((x0 <<< ((6 : Int32) &&& 31)) + r_67)), (.int ((x1 <<< ((6 : Int32) &&& 31)) + r_96))] (.int 0) := Arv.set Ar98 q98 S98 N98 H98 G98 rfl W100 1 rfl (Nat.le_of_ble_eq_true rfl)
      have N101 := Fr.snoc X100 N97 gg47
      have O102 := O73.wr W100 gg47
      have K103 := K74.wr W100 (Or.inr sz48)
      have q104 := fun t (kt : Go p e below T100 (mkF m 93 #[vR a1, vI 2, vR b46, vI 2, vI 1, vJ w1, vS] [(.long (w1 &&& (w1 - (1 : Int64))))]) t) => q99 t (st100 t (by
        show Go _ _ _ _ (mkF m 86 #[vR a1, vI 2, vR b46, vI 2, vI 1, vJ w1, vS] []) _
        refine XS.lload X100.here hx rfl (hb hby d4_86) rfl ?_
        show Go _ _ _ _ (mkF m 88 _ [(.long w1)]) _
        refine XS.lload X100.here hx rfl (hb hby d4_88) rfl ?_
        show Go _ _ _ _ (mkF m 90 _ [(.long w1), (.long w1)]) _
        refine XS.lconst X100.here hx rfl (hb hby d4_90) ?_
        show Go _ _ _ _ (mkF m 91 _ [(.long (1 : Int64)), (.long w1), (.long w1)]) _
        refine XS.lsub X100.here hx rfl (hb hby d4_91) rfl ?_
        show Go _ _ _ _ (mkF m 92 _ [(.long (w1 - (1 : Int64))), (.long w1)]) _
        refine XS.land X100.here hx rfl (hb hby d4_92) rfl ?_
        exact kt))
      have q105 := fun t (kt : Go p e below T100 (mkF m 93 #[vR a1, vI 2, vR b46, vI 2, vI 1, vJ w1, vS] [(.long (own_dr w1))]) t) => q104 t (by rw [(show (w1 &&& (w1 - (1 : Int64))) = own_dr w1 from rfl)]; exact kt)
      have f106 := (f78.other W100 (Or.inl ne77))
      have q107 := fun t (kt : Go p e below T100 (mkF m 42 #[vR a1, vI 2, vR b46, vI 2, vI 2, vJ (own_dr w1), vS] [(.ref a1), (.int 2)]) t) => q105 t (by
        show Go _ _ _ _ (mkF m 93 #[vR a1, vI 2, vR b46, vI 2, vI 1, vJ w1, vS] [(.long (own_dr w1))]) _
        refine XS.lstore X100.here hx rfl (hb hby d4_93) rfl (l' := #[vR a1, vI 2, vR b46, vI 2, vI 1, vJ (own_dr w1), vS]) rfl ?_
        show Go _ _ _ _ (mkF m 95 #[vR a1, vI 2, vR b46, vI 2, vI 1, vJ (own_dr w1), vS] []) _
        refine XS.goto X100.here hx rfl (pc0 := 95) (pc' := 57) rfl (hb hby d4_95) (by decide) (by decide) ?_
        show Go _ _ _ _ (mkF m 57 _ []) _
        refine XS.lload X100.here hx rfl (hb hby d4_57) rfl ?_
        show Go _ _ _ _ (mkF m 59 _ [(.long (own_dr w1))]) _
        refine XS.lconst X100.here hx rfl (hb hby d4_59) ?_
        show Go _ _ _ _ (mkF m 60 _ [(.long (0 : Int64)), (.long (own_dr w1))]) _
        refine XS.lcmp X100.here hx rfl (hb hby d4_60) rfl ?_
        show Go _ _ _ _ (mkF m 61 _ [(.int (lcmpW (own_dr w1) (0 : Int64)))]) _
        refine XS.ifYes X100.here hx rfl (pc0 := 61) (pc' := 98) rfl (hb hby d4_61) rfl ((if0 _ _).trans (teq ((lw_eq _ _).mpr t1_1)).1) (by decide) (by decide) ?_
        show Go _ _ _ _ (mkF m 98 _ []) _
        refine XS.iinc X100.here hx rfl (hb hby d4_98) rfl (l' := #[vR a1, vI 2, vR b46, vI 2, vI 2, vJ (own_dr w1), vS]) rfl ?_
        show Go _ _ _ _ (mkF m 101 #[vR a1, vI 2, vR b46, vI 2, vI 2, vJ (own_dr w1), vS] []) _
        refine XS.goto X100.here hx rfl (pc0 := 101) (pc' := 39) rfl (hb hby d4_101) (by decide) (by decide) ?_
        show Go _ _ _ _ (mkF m 39 _ []) _
        refine XS.iload X100.here hx rfl (hb hby d4_39) rfl ?_
        show Go _ _ _ _ (mkF m 41 _ [(.int 2)]) _
        refine XS.aloadN X100.here hx rfl (hb hby d4_41) rfl rfl ?_
        exact kt)
      obtain ⟨T108, X108, e108, st108⟩ := getF X100 hx hZ hown (host := "") (Or.inl (ox hw 22 rfl)) Via.refl e100 f106 (g := (mkF m 42 #[vR a1, vI 2, vR b46, vI 2, vI 2, vJ (own_dr w1), vS] [(.ref a1), (.int 2)])) rfl rfl (hb hby d4_42)
      have q109 := fun t (kt : Go p e below T108 (mkF m 105 #[vR a1, vI 2, vR b46, vI 2, vI 2, vJ (own_dr w1), vS] [(.ref b46)]) t) => q107 t (st108 t (by
        show Go _ _ _ _ (mkF m 45 #[vR a1, vI 2, vR b46, vI 2, vI 2, vJ (own_dr w1), vS] [(.int 2), (.int 2)]) _
        refine XS.icmpYes X108.here hx rfl (pc0 := 45) (pc' := 104) rfl (hb hby d4_45) rfl (flt (by decide : ¬ ((2 : Int32) < (2 : Int32)))).2.1 (by decide) (by decide) ?_
        show Go _ _ _ _ (mkF m 104 _ []) _
        refine XS.aloadN X108.here hx rfl (hb hby d4_104) rfl rfl ?_
        exact kt))
      exact ⟨some (.ref b46), T108, _, _, _, _, X108, by decide, by decide, nofun, q109, fun fs hr => retOut X108 hx hret rfl (o4 ⟨rfl, rfl, rfl⟩) (hb hby d4_105) hr, by rw [e108]; exact ⟨b46, k46, (2 : Int32), [(.int ((x0 <<< ((6 : Int32) &&& 31)) + r_67)), (.int ((x1 <<< ((6 : Int32) &&& 31)) + r_96))], rfl, N101, K103, sz48, V100, (by decide)⟩⟩
    · skip
      have q110 := fun t (kt : Go p e below s₁ (mkF m 6 #[vR a1, vI 0, vI 0, vU, vU, vU, vU] [(.ref a1), (.int 0)]) t) => pre0 t (by
        show Go _ _ _ _ (mkF m 0 #[vR a1, vU, vU, vU, vU, vU, vU] []) _
        refine XS.iconst X0.here hx rfl (hb hby d4_0) ?_
        show Go _ _ _ _ (mkF m 1 _ [(.int 0)]) _
        refine XS.istoreN X0.here hx rfl (hb hby d4_1) rfl (l' := #[vR a1, vI 0, vU, vU, vU, vU, vU]) rfl ?_
        show Go _ _ _ _ (mkF m 2 #[vR a1, vI 0, vU, vU, vU, vU, vU] []) _
        refine XS.iconst X0.here hx rfl (hb hby d4_2) ?_
        show Go _ _ _ _ (mkF m 3 _ [(.int 0)]) _
        refine XS.istoreN X0.here hx rfl (hb hby d4_3) rfl (l' := #[vR a1, vI 0, vI 0, vU, vU, vU, vU]) rfl ?_
        show Go _ _ _ _ (mkF m 4 #[vR a1, vI 0, vI 0, vU, vU, vU, vU] []) _
        refine XS.iloadN X0.here hx rfl (hb hby d4_4) rfl ?_
        show Go _ _ _ _ (mkF m 5 _ [(.int 0)]) _
        refine XS.aloadN X0.here hx rfl (hb hby d4_5) rfl rfl ?_
        exact kt)
      obtain ⟨T111, X111, e111, st111⟩ := getF X0 hx hZ hown (host := "") (Or.inl (ox hw 22 rfl)) Via.refl e0 G2 (g := (mkF m 6 #[vR a1, vI 0, vI 0, vU, vU, vU, vU] [(.ref a1), (.int 0)])) rfl rfl (hb hby d4_6)
      have q112 := fun t (kt : Go p e below T111 (mkF m 14 #[vR a1, vI 0, vI 0, vU, vU, vU, vU] [(.ref a1), (.int 0)]) t) => q110 t (st111 t (by
        show Go _ _ _ _ (mkF m 9 #[vR a1, vI 0, vI 0, vU, vU, vU, vU] [(.int 2), (.int 0)]) _
        refine XS.icmpNo X111.here hx rfl (hb hby d4_9) rfl (tlt (by decide : (0 : Int32) < (2 : Int32))).2.1 ?_
        show Go _ _ _ _ (mkF m 12 _ []) _
        refine XS.iloadN X111.here hx rfl (hb hby d4_12) rfl ?_
        show Go _ _ _ _ (mkF m 13 _ [(.int 0)]) _
        refine XS.aloadN X111.here hx rfl (hb hby d4_13) rfl rfl ?_
        exact kt))
      obtain ⟨T113, X113, e113, st113⟩ := getF X111 hx hZ hown (host := "") (Or.inl (ox hw 15 rfl)) Via.refl e111 G1 (g := (mkF m 14 #[vR a1, vI 0, vI 0, vU, vU, vU, vU] [(.ref a1), (.int 0)])) rfl rfl (hb hby d4_14)
      have q115 := fun t (kt : Go p e below T113 (mkF m 18 #[vR a1, vI 0, vI 0, vU, vU, vU, vU] [(.int 0), (.ref ta), (.int 0)]) t) => q112 t (st113 t (by
        show Go _ _ _ _ (mkF m 17 #[vR a1, vI 0, vI 0, vU, vU, vU, vU] [(.ref ta), (.int 0)]) _
        refine XS.iloadN X113.here hx rfl (hb hby d4_17) rfl ?_
        exact kt))
      obtain ⟨c114, Ar114, -, S114, N114, H114, -⟩ := id G4
      have q116 := fun t (kt : Go p e below T113 (mkF m 19 #[vR a1, vI 0, vI 0, vU, vU, vU, vU] [(.long w0), (.int 0)]) t) => q115 t (by
        show Go _ _ _ _ (mkF m 18 #[vR a1, vI 0, vI 0, vU, vU, vU, vU] [(.int 0), (.ref ta), (.int 0)]) _
        refine X113.laload hx (j := (0 : Int32)) (v := (.long w0)) (by rw [e113]; exact Ar114.1) (State.isArrayOf_alike hZ.alike Ar114.2.1) Ar114.2.2 (inb_of S114 ⟨by decide, by decide⟩) (Has.at H114 (inb_of S114 ⟨by decide, by decide⟩) rfl) (g := (mkF m 18 #[vR a1, vI 0, vI 0, vU, vU, vU, vU] [(.int 0), (.ref ta), (.int 0)])) rfl rfl (hb hby d4_18) _ ?_
        exact kt)
      obtain ⟨_, _, ⟨T117, L117, k117, n117⟩, -, X117, ⟨_, hQ117, l117, y117, z117⟩, st117⟩ := Jvm.LawKit.callS X113 hx (y := ym12) hown (ow hZ hw 71 rfl) (ow hZ hw 72 rfl) (ow hZ hw 73 rfl) (ow hZ hw 74 rfl) (by decide) (backOf (W := 1) (rm15 l Z a0 hw [] cx w0 h0 n0 O0 ) hZ (ox hw 74 rfl) (ox hw 73 rfl) (by decide) (by decide)) (g := (mkF m 19 #[vR a1, vI 0, vI 0, vU, vU, vU, vU] [(.long w0), (.int 0)])) rfl (by rw [hml]; rfl) (argsL := [(.long w0)]) (rest := [(.int 0)]) (lenOf pd_8 rfl) rfl own_le0 (hb hby d4_19) (fun _ _ => ⟨rfl, e113, (by decide : 0 + 0 ≤ _), (by decide : 0 + 0 ≤ _)⟩)
      dsimp only [Pt.U, Pt.locs, Pt.cells, Pt.slots] at X117 l117 y117 z117 st117 hQ117
      subst l117 y117 z117
      obtain ⟨rfl, Nq117, eq117⟩ := hQ117
      have N118 := Fr.app N0 Nq117
      have q119 := fun t (kt : Go p e below T117 (mkF m 22 #[vR a1, vI 0, vI 0, vU, vU, vU, vU] [(.int (own_bc w0)), (.int 0)]) t) => q116 t (st117 t kt)
      have q120 := fun t (kt : Go p e below T117 (mkF m 22 #[vR a1, vI 0, vI 0, vU, vU, vU, vU] [(.int 1), (.int 0)]) t) => q119 t (by rw [t0_2]; exact kt)
      have q121 := fun t (kt : Go p e below T117 (mkF m 6 #[vR a1, vI 1, vI 1, vU, vU, vU, vU] [(.ref a1), (.int 1)]) t) => q120 t (by
        show Go _ _ _ _ (mkF m 22 #[vR a1, vI 0, vI 0, vU, vU, vU, vU] [(.int 1), (.int 0)]) _
        refine XS.iadd X117.here hx rfl (hb hby d4_22) rfl ?_
        show Go _ _ _ _ (mkF m 23 _ [(.int 1)]) _
        refine XS.istoreN X117.here hx rfl (hb hby d4_23) rfl (l' := #[vR a1, vI 1, vI 0, vU, vU, vU, vU]) rfl ?_
        show Go _ _ _ _ (mkF m 24 #[vR a1, vI 1, vI 0, vU, vU, vU, vU] []) _
        refine XS.iinc X117.here hx rfl (hb hby d4_24) rfl (l' := #[vR a1, vI 1, vI 1, vU, vU, vU, vU]) rfl ?_
        show Go _ _ _ _ (mkF m 27 #[vR a1, vI 1, vI 1, vU, vU, vU, vU] []) _
        refine XS.goto X117.here hx rfl (pc0 := 27) (pc' := 4) rfl (hb hby d4_27) (by decide) (by decide) ?_
        show Go _ _ _ _ (mkF m 4 _ []) _
        refine XS.iloadN X117.here hx rfl (hb hby d4_4) rfl ?_
        show Go _ _ _ _ (mkF m 5 _ [(.int 1)]) _
        refine XS.aloadN X117.here hx rfl (hb hby d4_5) rfl rfl ?_
        exact kt)
      obtain ⟨T122, X122, e122, st122⟩ := getF X117 hx hZ hown (host := "") (Or.inl (ox hw 22 rfl)) Via.refl eq117 G2 (g := (mkF m 6 #[vR a1, vI 1, vI 1, vU, vU, vU, vU] [(.ref a1), (.int 1)])) rfl rfl (hb hby d4_6)
      have q123 := fun t (kt : Go p e below T122 (mkF m 14 #[vR a1, vI 1, vI 1, vU, vU, vU, vU] [(.ref a1), (.int 1)]) t) => q121 t (st122 t (by
        show Go _ _ _ _ (mkF m 9 #[vR a1, vI 1, vI 1, vU, vU, vU, vU] [(.int 2), (.int 1)]) _
        refine XS.icmpNo X122.here hx rfl (hb hby d4_9) rfl (tlt (by decide : (1 : Int32) < (2 : Int32))).2.1 ?_
        show Go _ _ _ _ (mkF m 12 _ []) _
        refine XS.iloadN X122.here hx rfl (hb hby d4_12) rfl ?_
        show Go _ _ _ _ (mkF m 13 _ [(.int 1)]) _
        refine XS.aloadN X122.here hx rfl (hb hby d4_13) rfl rfl ?_
        exact kt))
      obtain ⟨T124, X124, e124, st124⟩ := getF X122 hx hZ hown (host := "") (Or.inl (ox hw 15 rfl)) Via.refl e122 G1 (g := (mkF m 14 #[vR a1, vI 1, vI 1, vU, vU, vU, vU] [(.ref a1), (.int 1)])) rfl rfl (hb hby d4_14)
      have q126 := fun t (kt : Go p e below T124 (mkF m 18 #[vR a1, vI 1, vI 1, vU, vU, vU, vU] [(.int 1), (.ref ta), (.int 1)]) t) => q123 t (st124 t (by
        show Go _ _ _ _ (mkF m 17 #[vR a1, vI 1, vI 1, vU, vU, vU, vU] [(.ref ta), (.int 1)]) _
        refine XS.iloadN X124.here hx rfl (hb hby d4_17) rfl ?_
        exact kt))
      obtain ⟨c125, Ar125, -, S125, N125, H125, -⟩ := id G4
      have q127 := fun t (kt : Go p e below T124 (mkF m 19 #[vR a1, vI 1, vI 1, vU, vU, vU, vU] [(.long w1), (.int 1)]) t) => q126 t (by
        show Go _ _ _ _ (mkF m 18 #[vR a1, vI 1, vI 1, vU, vU, vU, vU] [(.int 1), (.ref ta), (.int 1)]) _
        refine X124.laload hx (j := (1 : Int32)) (v := (.long w1)) (by rw [e124]; exact Ar125.1) (State.isArrayOf_alike hZ.alike Ar125.2.1) Ar125.2.2 (inb_of S125 ⟨by decide, by decide⟩) (Has.at H125 (inb_of S125 ⟨by decide, by decide⟩) rfl) (g := (mkF m 18 #[vR a1, vI 1, vI 1, vU, vU, vU, vU] [(.int 1), (.ref ta), (.int 1)])) rfl rfl (hb hby d4_18) _ ?_
        exact kt)
      obtain ⟨_, _, ⟨T128, L128, k128, n128⟩, -, X128, ⟨_, hQ128, l128, y128, z128⟩, st128⟩ := Jvm.LawKit.callS X124 hx (y := ym12) hown (ow hZ hw 71 rfl) (ow hZ hw 72 rfl) (ow hZ hw 73 rfl) (ow hZ hw 74 rfl) (by decide) (backOf (W := 1) (rm15 l Z a0 hw [] cx w1 h0 n0 O0 ) hZ (ox hw 74 rfl) (ox hw 73 rfl) (by decide) (by decide)) (g := (mkF m 19 #[vR a1, vI 1, vI 1, vU, vU, vU, vU] [(.long w1), (.int 1)])) rfl (by rw [hml]; rfl) (argsL := [(.long w1)]) (rest := [(.int 1)]) (lenOf pd_8 rfl) rfl own_le0 (hb hby d4_19) (fun _ _ => ⟨rfl, e124, (by decide : 0 + 0 ≤ _), (by decide : 0 + 0 ≤ _)⟩)
      dsimp only [Pt.U, Pt.locs, Pt.cells, Pt.slots] at X128 l128 y128 z128 st128 hQ128
      subst l128 y128 z128
      obtain ⟨rfl, Nq128, eq128⟩ := hQ128
      have N129 := Fr.app N118 Nq128
      have q130 := fun t (kt : Go p e below T128 (mkF m 22 #[vR a1, vI 1, vI 1, vU, vU, vU, vU] [(.int (own_bc w1)), (.int 1)]) t) => q127 t (st128 t kt)
      have q131 := fun t (kt : Go p e below T128 (mkF m 22 #[vR a1, vI 1, vI 1, vU, vU, vU, vU] [(.int 2), (.int 1)]) t) => q130 t (by rw [t1_3]; exact kt)
      have q132 := fun t (kt : Go p e below T128 (mkF m 6 #[vR a1, vI 3, vI 2, vU, vU, vU, vU] [(.ref a1), (.int 2)]) t) => q131 t (by
        show Go _ _ _ _ (mkF m 22 #[vR a1, vI 1, vI 1, vU, vU, vU, vU] [(.int 2), (.int 1)]) _
        refine XS.iadd X128.here hx rfl (hb hby d4_22) rfl ?_
        show Go _ _ _ _ (mkF m 23 _ [(.int 3)]) _
        refine XS.istoreN X128.here hx rfl (hb hby d4_23) rfl (l' := #[vR a1, vI 3, vI 1, vU, vU, vU, vU]) rfl ?_
        show Go _ _ _ _ (mkF m 24 #[vR a1, vI 3, vI 1, vU, vU, vU, vU] []) _
        refine XS.iinc X128.here hx rfl (hb hby d4_24) rfl (l' := #[vR a1, vI 3, vI 2, vU, vU, vU, vU]) rfl ?_
        show Go _ _ _ _ (mkF m 27 #[vR a1, vI 3, vI 2, vU, vU, vU, vU] []) _
        refine XS.goto X128.here hx rfl (pc0 := 27) (pc' := 4) rfl (hb hby d4_27) (by decide) (by decide) ?_
        show Go _ _ _ _ (mkF m 4 _ []) _
        refine XS.iloadN X128.here hx rfl (hb hby d4_4) rfl ?_
        show Go _ _ _ _ (mkF m 5 _ [(.int 2)]) _
        refine XS.aloadN X128.here hx rfl (hb hby d4_5) rfl rfl ?_
        exact kt)
      obtain ⟨T133, X133, e133, st133⟩ := getF X128 hx hZ hown (host := "") (Or.inl (ox hw 22 rfl)) Via.refl eq128 G2 (g := (mkF m 6 #[vR a1, vI 3, vI 2, vU, vU, vU, vU] [(.ref a1), (.int 2)])) rfl rfl (hb hby d4_6)
      have q134 := fun t (kt : Go p e below T133 (mkF m 31 #[vR a1, vI 3, vI 2, vU, vU, vU, vU] [(.int 3)]) t) => q132 t (st133 t (by
        show Go _ _ _ _ (mkF m 9 #[vR a1, vI 3, vI 2, vU, vU, vU, vU] [(.int 2), (.int 2)]) _
        refine XS.icmpYes X133.here hx rfl (pc0 := 9) (pc' := 30) rfl (hb hby d4_9) rfl (flt (by decide : ¬ ((2 : Int32) < (2 : Int32)))).2.1 (by decide) (by decide) ?_
        show Go _ _ _ _ (mkF m 30 _ []) _
        refine XS.iloadN X133.here hx rfl (hb hby d4_30) rfl ?_
        exact kt))
      obtain ⟨T135, h135, k135, X135, e135, E135, A135, st135⟩ := newP X133 hx hZ (ox hw 29 rfl) e133 (g := (mkF m 31 #[vR a1, vI 3, vI 2, vU, vU, vU, vU] [(.int 3)])) rfl (hb hby d4_31) rfl (by decide) (cap := 3) (by decide) (by decide) (by decide) (by decide)
      obtain ⟨b135, g135⟩ : ∃ z, z = h0.size := ⟨_, rfl⟩
      rw [← g135] at A135 st135
      have gg136 : n0 ≤ b135 := Nat.le_trans (O0.1 ▸ O0.2.1) (Nat.le_of_eq g135.symm)
      have sz137 : h0.size ≤ b135 := Nat.le_trans K0.1 (Nat.le_of_eq g135.symm)
      have O138 := O0.ext E135
      have K139 := K0.ext E135
      have V135 : Arv Z h135 b135 k135 .int (3 : Int32) [(.int 0), (.int 0), (.int 0)] (.int 0) := (Arv.new A135 (by decide)).pad (pad_rep [] (.int 0) 3)
      have f140 := (G2.ext E135)
      have q141 := fun t (kt : Go p e below T135 (mkF m 42 #[vR a1, vI 3, vR b135, vI 0, vI 0, vU, vU] [(.ref a1), (.int 0)]) t) => q134 t (st135 t (by
        show Go _ _ _ _ (mkF m 33 #[vR a1, vI 3, vI 2, vU, vU, vU, vU] [(.ref b135)]) _
        refine XS.astoreN X135.here hx rfl (hb hby d4_33) rfl rfl (l' := #[vR a1, vI 3, vR b135, vU, vU, vU, vU]) rfl ?_
        show Go _ _ _ _ (mkF m 34 #[vR a1, vI 3, vR b135, vU, vU, vU, vU] []) _
        refine XS.iconst X135.here hx rfl (hb hby d4_34) ?_
        show Go _ _ _ _ (mkF m 35 _ [(.int 0)]) _
        refine XS.istoreN X135.here hx rfl (hb hby d4_35) rfl (l' := #[vR a1, vI 3, vR b135, vI 0, vU, vU, vU]) rfl ?_
        show Go _ _ _ _ (mkF m 36 #[vR a1, vI 3, vR b135, vI 0, vU, vU, vU] []) _
        refine XS.iconst X135.here hx rfl (hb hby d4_36) ?_
        show Go _ _ _ _ (mkF m 37 _ [(.int 0)]) _
        refine XS.istore X135.here hx rfl (hb hby d4_37) rfl (l' := #[vR a1, vI 3, vR b135, vI 0, vI 0, vU, vU]) rfl ?_
        show Go _ _ _ _ (mkF m 39 #[vR a1, vI 3, vR b135, vI 0, vI 0, vU, vU] []) _
        refine XS.iload X135.here hx rfl (hb hby d4_39) rfl ?_
        show Go _ _ _ _ (mkF m 41 _ [(.int 0)]) _
        refine XS.aloadN X135.here hx rfl (hb hby d4_41) rfl rfl ?_
        exact kt))
      obtain ⟨T142, X142, e142, st142⟩ := getF X135 hx hZ hown (host := "") (Or.inl (ox hw 22 rfl)) Via.refl e135 f140 (g := (mkF m 42 #[vR a1, vI 3, vR b135, vI 0, vI 0, vU, vU] [(.ref a1), (.int 0)])) rfl rfl (hb hby d4_42)
      have f143 := (G1.ext E135)
      have q144 := fun t (kt : Go p e below T142 (mkF m 49 #[vR a1, vI 3, vR b135, vI 0, vI 0, vU, vU] [(.ref a1)]) t) => q141 t (st142 t (by
        show Go _ _ _ _ (mkF m 45 #[vR a1, vI 3, vR b135, vI 0, vI 0, vU, vU] [(.int 2), (.int 0)]) _
        refine XS.icmpNo X142.here hx rfl (hb hby d4_45) rfl (tlt (by decide : (0 : Int32) < (2 : Int32))).2.1 ?_
        show Go _ _ _ _ (mkF m 48 _ []) _
        refine XS.aloadN X142.here hx rfl (hb hby d4_48) rfl rfl ?_
        exact kt))
      obtain ⟨T145, X145, e145, st145⟩ := getF X142 hx hZ hown (host := "") (Or.inl (ox hw 15 rfl)) Via.refl e142 f143 (g := (mkF m 49 #[vR a1, vI 3, vR b135, vI 0, vI 0, vU, vU] [(.ref a1)])) rfl rfl (hb hby d4_49)
      have f146 := (G4.ext E135)
      have q148 := fun t (kt : Go p e below T145 (mkF m 54 #[vR a1, vI 3, vR b135, vI 0, vI 0, vU, vU] [(.int 0), (.ref ta)]) t) => q144 t (st145 t (by
        show Go _ _ _ _ (mkF m 52 #[vR a1, vI 3, vR b135, vI 0, vI 0, vU, vU] [(.ref ta)]) _
        refine XS.iload X145.here hx rfl (hb hby d4_52) rfl ?_
        exact kt))
      obtain ⟨c147, Ar147, -, S147, N147, H147, -⟩ := id f146
      have f149 := (G0.ext E135)
      have q150 := fun t (kt : Go p e below T145 (mkF m 70 #[vR a1, vI 3, vR b135, vI 1, vI 0, vJ w0, vS] [(.ref a1), (.int 0), (.ref b135)]) t) => q148 t (by
        show Go _ _ _ _ (mkF m 54 #[vR a1, vI 3, vR b135, vI 0, vI 0, vU, vU] [(.int 0), (.ref ta)]) _
        refine X145.laload hx (j := (0 : Int32)) (v := (.long w0)) (by rw [e145]; exact Ar147.1) (State.isArrayOf_alike hZ.alike Ar147.2.1) Ar147.2.2 (inb_of S147 ⟨by decide, by decide⟩) (Has.at H147 (inb_of S147 ⟨by decide, by decide⟩) rfl) (g := (mkF m 54 #[vR a1, vI 3, vR b135, vI 0, vI 0, vU, vU] [(.int 0), (.ref ta)])) rfl rfl (hb hby d4_54) _ ?_
        show Go _ _ _ _ (mkF m 55 _ [(.long w0)]) _
        refine XS.lstore X145.here hx rfl (hb hby d4_55) rfl (l' := #[vR a1, vI 3, vR b135, vI 0, vI 0, vJ w0, vS]) rfl ?_
        show Go _ _ _ _ (mkF m 57 #[vR a1, vI 3, vR b135, vI 0, vI 0, vJ w0, vS] []) _
        refine XS.lload X145.here hx rfl (hb hby d4_57) rfl ?_
        show Go _ _ _ _ (mkF m 59 _ [(.long w0)]) _
        refine XS.lconst X145.here hx rfl (hb hby d4_59) ?_
        show Go _ _ _ _ (mkF m 60 _ [(.long (0 : Int64)), (.long w0)]) _
        refine XS.lcmp X145.here hx rfl (hb hby d4_60) rfl ?_
        show Go _ _ _ _ (mkF m 61 _ [(.int (lcmpW w0 (0 : Int64)))]) _
        refine XS.ifNo X145.here hx rfl (hb hby d4_61) rfl ((if0 _ _).trans (feq (fun z => t0_0 ((lw_eq _ _).mp z))).1) ?_
        show Go _ _ _ _ (mkF m 64 _ []) _
        refine XS.aloadN X145.here hx rfl (hb hby d4_64) rfl rfl ?_
        show Go _ _ _ _ (mkF m 65 _ [(.ref b135)]) _
        refine XS.iloadN X145.here hx rfl (hb hby d4_65) rfl ?_
        show Go _ _ _ _ (mkF m 66 _ [(.int 0), (.ref b135)]) _
        refine XS.iinc X145.here hx rfl (hb hby d4_66) rfl (l' := #[vR a1, vI 3, vR b135, vI 1, vI 0, vJ w0, vS]) rfl ?_
        show Go _ _ _ _ (mkF m 69 #[vR a1, vI 3, vR b135, vI 1, vI 0, vJ w0, vS] [(.int 0), (.ref b135)]) _
        refine XS.aloadN X145.here hx rfl (hb hby d4_69) rfl rfl ?_
        exact kt)
      obtain ⟨T151, X151, e151, st151⟩ := getF X145 hx hZ hown (host := "") (Or.inl (ox hw 11 rfl)) Via.refl e145 f149 (g := (mkF m 70 #[vR a1, vI 3, vR b135, vI 1, vI 0, vJ w0, vS] [(.ref a1), (.int 0), (.ref b135)])) rfl rfl (hb hby d4_70)
      have f152 := (G3.ext E135)
      have q154 := fun t (kt : Go p e below T151 (mkF m 75 #[vR a1, vI 3, vR b135, vI 1, vI 0, vJ w0, vS] [(.int 0), (.ref b), (.int 0), (.ref b135)]) t) => q150 t (st151 t (by
        show Go _ _ _ _ (mkF m 73 #[vR a1, vI 3, vR b135, vI 1, vI 0, vJ w0, vS] [(.ref b), (.int 0), (.ref b135)]) _
        refine XS.iload X151.here hx rfl (hb hby d4_73) rfl ?_
        exact kt))
      obtain ⟨c153, Ar153, -, S153, N153, H153, -⟩ := id f152
      have q155 := fun t (kt : Go p e below T151 (mkF m 81 #[vR a1, vI 3, vR b135, vI 1, vI 0, vJ w0, vS] [(.long w0), (.int (x0 <<< ((6 : Int32) &&& 31))), (.int 0), (.ref b135)]) t) => q154 t (by
        show Go _ _ _ _ (mkF m 75 #[vR a1, vI 3, vR b135, vI 1, vI 0, vJ w0, vS] [(.int 0), (.ref b), (.int 0), (.ref b135)]) _
        refine X151.iaload hx (j := (0 : Int32)) (v := (.int x0)) (by rw [e151]; exact Ar153.1) (State.isArrayOf_alike hZ.alike Ar153.2.1) Ar153.2.2 (inb_of S153 ⟨by decide, by decide⟩) (Has.at H153 (inb_of S153 ⟨by decide, by decide⟩) rfl) (g := (mkF m 75 #[vR a1, vI 3, vR b135, vI 1, vI 0, vJ w0, vS] [(.int 0), (.ref b), (.int 0), (.ref b135)])) rfl rfl (hb hby d4_75) _ ?_
        show Go _ _ _ _ (mkF m 76 _ [(.int x0), (.int 0), (.ref b135)]) _
        refine XS.bipush X151.here hx rfl (hb hby d4_76) ?_
        show Go _ _ _ _ (mkF m 78 _ [(.int 6), (.int x0), (.int 0), (.ref b135)]) _
        refine XS.ishl X151.here hx rfl (hb hby d4_78) rfl ?_
        show Go _ _ _ _ (mkF m 79 _ [(.int (x0 <<< ((6 : Int32) &&& 31))), (.int 0), (.ref b135)]) _
        refine XS.lload X151.here hx rfl (hb hby d4_79) rfl ?_
        exact kt)
      obtain ⟨_, _, ⟨T156, L156, k156, n156⟩, -, X156, ⟨_, hQ156, l156, y156, z156⟩, st156⟩ := Jvm.LawKit.callS X151 hx (y := ym14) hown (ow hZ hw 78 rfl) (ow hZ hw 79 rfl) (ow hZ hw 73 rfl) (ow hZ hw 80 rfl) (by decide) (backOf (W := 3) (rm16 l Z a0 hw [] cx w0 h135 n0 O138 ) hZ (ox hw 80 rfl) (ox hw 73 rfl) (by decide) (by decide)) (g := (mkF m 81 #[vR a1, vI 3, vR b135, vI 1, vI 0, vJ w0, vS] [(.long w0), (.int (x0 <<< ((6 : Int32) &&& 31))), (.int 0), (.ref b135)])) rfl (by rw [hml]; rfl) (argsL := [(.long w0)]) (rest := [(.int (x0 <<< ((6 : Int32) &&& 31))), (.int 0), (.ref b135)]) (lenOf pd_8 rfl) rfl own_le0 (hb hby d4_81) (fun _ _ => ⟨rfl, e151, (by decide : 1 + 0 ≤ _), (by decide : 3 + 0 ≤ _)⟩)
      dsimp only [Pt.U, Pt.locs, Pt.cells, Pt.slots] at X156 l156 y156 z156 st156 hQ156
      subst l156 y156 z156
      obtain ⟨r_156, rfl, Nq156, eq156⟩ := hQ156
      have N157 := Fr.app N129 Nq156
      have q159 := fun t (kt : Go p e below T156 (mkF m 85 #[vR a1, vI 3, vR b135, vI 1, vI 0, vJ w0, vS] [(.int ((x0 <<< ((6 : Int32) &&& 31)) + r_156)), (.int 0), (.ref b135)]) t) => q155 t (st156 t (by
        show Go _ _ _ _ (mkF m 84 #[vR a1, vI 3, vR b135, vI 1, vI 0, vJ w0, vS] [(.int r_156), (.int (x0 <<< ((6 : Int32) &&& 31))), (.int 0), (.ref b135)]) _
        refine XS.iadd X156.here hx rfl (hb hby d4_84) rfl ?_
        exact kt))
      obtain ⟨c158, Ar158, q158, S158, N158, H158, G158⟩ := id V135
      have hi158 : ¬ ((0 : Int32) < 0 ∨ c158.slots.size ≤ ((0 : Int32)).toNatClampNeg) := inb_of S158 ⟨by decide, by decide⟩
      obtain ⟨T160, h160, X160, e160, W160, st160⟩ := stI X156 hx hZ eq156 Ar158 (j := (0 : Int32)) hi158 (g := (mkF m 85 #[vR a1, vI 3, vR b135, vI 1, vI 0, vJ w0, vS] [(.int ((x0 <<< ((6 : Int32) &&& 31)) + r_156)), (.int 0), (.ref b135)])) rfl rfl (hb hby d4_85)
      have V160 : Arv Z h160 b135 k135 .int (3 : Int32) [(.int ((x0 <<< ((6 : Int32) &&& 31)) + r_156)), (.int 0), (.int 0)] (.int 0) := Arv.set Ar158 q158 S158 N158 H158 G158 rfl W160 0 rfl (Nat.le_of_ble_eq_true rfl)
      have N161 := Fr.snoc X160 N157 gg136
      have O162 := O138.wr W160 gg136
      have K163 := K139.wr W160 (Or.inr sz137)
      have q164 := fun t (kt : Go p e below T160 (mkF m 93 #[vR a1, vI 3, vR b135, vI 1, vI 0, vJ w0, vS] [(.long (w0 &&& (w0 - (1 : Int64))))]) t) => q159 t (st160 t (by
        show Go _ _ _ _ (mkF m 86 #[vR a1, vI 3, vR b135, vI 1, vI 0, vJ w0, vS] []) _
        refine XS.lload X160.here hx rfl (hb hby d4_86) rfl ?_
        show Go _ _ _ _ (mkF m 88 _ [(.long w0)]) _
        refine XS.lload X160.here hx rfl (hb hby d4_88) rfl ?_
        show Go _ _ _ _ (mkF m 90 _ [(.long w0), (.long w0)]) _
        refine XS.lconst X160.here hx rfl (hb hby d4_90) ?_
        show Go _ _ _ _ (mkF m 91 _ [(.long (1 : Int64)), (.long w0), (.long w0)]) _
        refine XS.lsub X160.here hx rfl (hb hby d4_91) rfl ?_
        show Go _ _ _ _ (mkF m 92 _ [(.long (w0 - (1 : Int64))), (.long w0)]) _
        refine XS.land X160.here hx rfl (hb hby d4_92) rfl ?_
        exact kt))
      have q165 := fun t (kt : Go p e below T160 (mkF m 93 #[vR a1, vI 3, vR b135, vI 1, vI 0, vJ w0, vS] [(.long (own_dr w0))]) t) => q164 t (by rw [(show (w0 &&& (w0 - (1 : Int64))) = own_dr w0 from rfl)]; exact kt)
      have ne166 : a1 ≠ b135 := (Nat.ne_of_lt (Nat.lt_of_lt_of_le G0.lt (Nat.le_of_eq g135.symm)))
      have f167 := (f140.other W160 (Or.inl ne166))
      have q168 := fun t (kt : Go p e below T160 (mkF m 42 #[vR a1, vI 3, vR b135, vI 1, vI 1, vJ (own_dr w0), vS] [(.ref a1), (.int 1)]) t) => q165 t (by
        show Go _ _ _ _ (mkF m 93 #[vR a1, vI 3, vR b135, vI 1, vI 0, vJ w0, vS] [(.long (own_dr w0))]) _
        refine XS.lstore X160.here hx rfl (hb hby d4_93) rfl (l' := #[vR a1, vI 3, vR b135, vI 1, vI 0, vJ (own_dr w0), vS]) rfl ?_
        show Go _ _ _ _ (mkF m 95 #[vR a1, vI 3, vR b135, vI 1, vI 0, vJ (own_dr w0), vS] []) _
        refine XS.goto X160.here hx rfl (pc0 := 95) (pc' := 57) rfl (hb hby d4_95) (by decide) (by decide) ?_
        show Go _ _ _ _ (mkF m 57 _ []) _
        refine XS.lload X160.here hx rfl (hb hby d4_57) rfl ?_
        show Go _ _ _ _ (mkF m 59 _ [(.long (own_dr w0))]) _
        refine XS.lconst X160.here hx rfl (hb hby d4_59) ?_
        show Go _ _ _ _ (mkF m 60 _ [(.long (0 : Int64)), (.long (own_dr w0))]) _
        refine XS.lcmp X160.here hx rfl (hb hby d4_60) rfl ?_
        show Go _ _ _ _ (mkF m 61 _ [(.int (lcmpW (own_dr w0) (0 : Int64)))]) _
        refine XS.ifYes X160.here hx rfl (pc0 := 61) (pc' := 98) rfl (hb hby d4_61) rfl ((if0 _ _).trans (teq ((lw_eq _ _).mpr t0_1)).1) (by decide) (by decide) ?_
        show Go _ _ _ _ (mkF m 98 _ []) _
        refine XS.iinc X160.here hx rfl (hb hby d4_98) rfl (l' := #[vR a1, vI 3, vR b135, vI 1, vI 1, vJ (own_dr w0), vS]) rfl ?_
        show Go _ _ _ _ (mkF m 101 #[vR a1, vI 3, vR b135, vI 1, vI 1, vJ (own_dr w0), vS] []) _
        refine XS.goto X160.here hx rfl (pc0 := 101) (pc' := 39) rfl (hb hby d4_101) (by decide) (by decide) ?_
        show Go _ _ _ _ (mkF m 39 _ []) _
        refine XS.iload X160.here hx rfl (hb hby d4_39) rfl ?_
        show Go _ _ _ _ (mkF m 41 _ [(.int 1)]) _
        refine XS.aloadN X160.here hx rfl (hb hby d4_41) rfl rfl ?_
        exact kt)
      obtain ⟨T169, X169, e169, st169⟩ := getF X160 hx hZ hown (host := "") (Or.inl (ox hw 22 rfl)) Via.refl e160 f167 (g := (mkF m 42 #[vR a1, vI 3, vR b135, vI 1, vI 1, vJ (own_dr w0), vS] [(.ref a1), (.int 1)])) rfl rfl (hb hby d4_42)
      have f170 := (f143.other W160 (Or.inl ne166))
      have q171 := fun t (kt : Go p e below T169 (mkF m 49 #[vR a1, vI 3, vR b135, vI 1, vI 1, vJ (own_dr w0), vS] [(.ref a1)]) t) => q168 t (st169 t (by
        show Go _ _ _ _ (mkF m 45 #[vR a1, vI 3, vR b135, vI 1, vI 1, vJ (own_dr w0), vS] [(.int 2), (.int 1)]) _
        refine XS.icmpNo X169.here hx rfl (hb hby d4_45) rfl (tlt (by decide : (1 : Int32) < (2 : Int32))).2.1 ?_
        show Go _ _ _ _ (mkF m 48 _ []) _
        refine XS.aloadN X169.here hx rfl (hb hby d4_48) rfl rfl ?_
        exact kt))
      obtain ⟨T172, X172, e172, st172⟩ := getF X169 hx hZ hown (host := "") (Or.inl (ox hw 15 rfl)) Via.refl e169 f170 (g := (mkF m 49 #[vR a1, vI 3, vR b135, vI 1, vI 1, vJ (own_dr w0), vS] [(.ref a1)])) rfl rfl (hb hby d4_49)
      have ne173 : ta ≠ b135 := (Nat.ne_of_lt (Nat.lt_of_lt_of_le G4.lt (Nat.le_of_eq g135.symm)))
      have f174 := (f146.other W160 ne173)
      have q176 := fun t (kt : Go p e below T172 (mkF m 54 #[vR a1, vI 3, vR b135, vI 1, vI 1, vJ (own_dr w0), vS] [(.int 1), (.ref ta)]) t) => q171 t (st172 t (by
        show Go _ _ _ _ (mkF m 52 #[vR a1, vI 3, vR b135, vI 1, vI 1, vJ (own_dr w0), vS] [(.ref ta)]) _
        refine XS.iload X172.here hx rfl (hb hby d4_52) rfl ?_
        exact kt))
      obtain ⟨c175, Ar175, -, S175, N175, H175, -⟩ := id f174
      have f177 := (f149.other W160 (Or.inl ne166))
      have q178 := fun t (kt : Go p e below T172 (mkF m 70 #[vR a1, vI 3, vR b135, vI 2, vI 1, vJ w1, vS] [(.ref a1), (.int 1), (.ref b135)]) t) => q176 t (by
        show Go _ _ _ _ (mkF m 54 #[vR a1, vI 3, vR b135, vI 1, vI 1, vJ (own_dr w0), vS] [(.int 1), (.ref ta)]) _
        refine X172.laload hx (j := (1 : Int32)) (v := (.long w1)) (by rw [e172]; exact Ar175.1) (State.isArrayOf_alike hZ.alike Ar175.2.1) Ar175.2.2 (inb_of S175 ⟨by decide, by decide⟩) (Has.at H175 (inb_of S175 ⟨by decide, by decide⟩) rfl) (g := (mkF m 54 #[vR a1, vI 3, vR b135, vI 1, vI 1, vJ (own_dr w0), vS] [(.int 1), (.ref ta)])) rfl rfl (hb hby d4_54) _ ?_
        show Go _ _ _ _ (mkF m 55 _ [(.long w1)]) _
        refine XS.lstore X172.here hx rfl (hb hby d4_55) rfl (l' := #[vR a1, vI 3, vR b135, vI 1, vI 1, vJ w1, vS]) rfl ?_
        show Go _ _ _ _ (mkF m 57 #[vR a1, vI 3, vR b135, vI 1, vI 1, vJ w1, vS] []) _
        refine XS.lload X172.here hx rfl (hb hby d4_57) rfl ?_
        show Go _ _ _ _ (mkF m 59 _ [(.long w1)]) _
        refine XS.lconst X172.here hx rfl (hb hby d4_59) ?_
        show Go _ _ _ _ (mkF m 60 _ [(.long (0 : Int64)), (.long w1)]) _
        refine XS.lcmp X172.here hx rfl (hb hby d4_60) rfl ?_
        show Go _ _ _ _ (mkF m 61 _ [(.int (lcmpW w1 (0 : Int64)))]) _
        refine XS.ifNo X172.here hx rfl (hb hby d4_61) rfl ((if0 _ _).trans (feq (fun z => t1_0 ((lw_eq _ _).mp z))).1) ?_
        show Go _ _ _ _ (mkF m 64 _ []) _
        refine XS.aloadN X172.here hx rfl (hb hby d4_64) rfl rfl ?_
        show Go _ _ _ _ (mkF m 65 _ [(.ref b135)]) _
        refine XS.iloadN X172.here hx rfl (hb hby d4_65) rfl ?_
        show Go _ _ _ _ (mkF m 66 _ [(.int 1), (.ref b135)]) _
        refine XS.iinc X172.here hx rfl (hb hby d4_66) rfl (l' := #[vR a1, vI 3, vR b135, vI 2, vI 1, vJ w1, vS]) rfl ?_
        show Go _ _ _ _ (mkF m 69 #[vR a1, vI 3, vR b135, vI 2, vI 1, vJ w1, vS] [(.int 1), (.ref b135)]) _
        refine XS.aloadN X172.here hx rfl (hb hby d4_69) rfl rfl ?_
        exact kt)
      obtain ⟨T179, X179, e179, st179⟩ := getF X172 hx hZ hown (host := "") (Or.inl (ox hw 11 rfl)) Via.refl e172 f177 (g := (mkF m 70 #[vR a1, vI 3, vR b135, vI 2, vI 1, vJ w1, vS] [(.ref a1), (.int 1), (.ref b135)])) rfl rfl (hb hby d4_70)
      have ne180 : b ≠ b135 := (Nat.ne_of_lt (Nat.lt_of_lt_of_le G3.lt (Nat.le_of_eq g135.symm)))
      have f181 := (f152.other W160 ne180)
      have q183 := fun t (kt : Go p e below T179 (mkF m 75 #[vR a1, vI 3, vR b135, vI 2, vI 1, vJ w1, vS] [(.int 1), (.ref b), (.int 1), (.ref b135)]) t) => q178 t (st179 t (by
        show Go _ _ _ _ (mkF m 73 #[vR a1, vI 3, vR b135, vI 2, vI 1, vJ w1, vS] [(.ref b), (.int 1), (.ref b135)]) _
        refine XS.iload X179.here hx rfl (hb hby d4_73) rfl ?_
        exact kt))
      obtain ⟨c182, Ar182, -, S182, N182, H182, -⟩ := id f181
      have q184 := fun t (kt : Go p e below T179 (mkF m 81 #[vR a1, vI 3, vR b135, vI 2, vI 1, vJ w1, vS] [(.long w1), (.int (x1 <<< ((6 : Int32) &&& 31))), (.int 1), (.ref b135)]) t) => q183 t (by
        show Go _ _ _ _ (mkF m 75 #[vR a1, vI 3, vR b135, vI 2, vI 1, vJ w1, vS] [(.int 1), (.ref b), (.int 1), (.ref b135)]) _
        refine X179.iaload hx (j := (1 : Int32)) (v := (.int x1)) (by rw [e179]; exact Ar182.1) (State.isArrayOf_alike hZ.alike Ar182.2.1) Ar182.2.2 (inb_of S182 ⟨by decide, by decide⟩) (Has.at H182 (inb_of S182 ⟨by decide, by decide⟩) rfl) (g := (mkF m 75 #[vR a1, vI 3, vR b135, vI 2, vI 1, vJ w1, vS] [(.int 1), (.ref b), (.int 1), (.ref b135)])) rfl rfl (hb hby d4_75) _ ?_
        show Go _ _ _ _ (mkF m 76 _ [(.int x1), (.int 1), (.ref b135)]) _
        refine XS.bipush X179.here hx rfl (hb hby d4_76) ?_
        show Go _ _ _ _ (mkF m 78 _ [(.int 6), (.int x1), (.int 1), (.ref b135)]) _
        refine XS.ishl X179.here hx rfl (hb hby d4_78) rfl ?_
        show Go _ _ _ _ (mkF m 79 _ [(.int (x1 <<< ((6 : Int32) &&& 31))), (.int 1), (.ref b135)]) _
        refine XS.lload X179.here hx rfl (hb hby d4_79) rfl ?_
        exact kt)
      obtain ⟨_, _, ⟨T185, L185, k185, n185⟩, -, X185, ⟨_, hQ185, l185, y185, z185⟩, st185⟩ := Jvm.LawKit.callS X179 hx (y := ym14) hown (ow hZ hw 78 rfl) (ow hZ hw 79 rfl) (ow hZ hw 73 rfl) (ow hZ hw 80 rfl) (by decide) (backOf (W := 3) (rm16 l Z a0 hw [] cx w1 h160 n0 O162 ) hZ (ox hw 80 rfl) (ox hw 73 rfl) (by decide) (by decide)) (g := (mkF m 81 #[vR a1, vI 3, vR b135, vI 2, vI 1, vJ w1, vS] [(.long w1), (.int (x1 <<< ((6 : Int32) &&& 31))), (.int 1), (.ref b135)])) rfl (by rw [hml]; rfl) (argsL := [(.long w1)]) (rest := [(.int (x1 <<< ((6 : Int32) &&& 31))), (.int 1), (.ref b135)]) (lenOf pd_8 rfl) rfl own_le0 (hb hby d4_81) (fun _ _ => ⟨rfl, e179, (by decide : 1 + 0 ≤ _), (by decide : 3 + 0 ≤ _)⟩)
      dsimp only [Pt.U, Pt.locs, Pt.cells, Pt.slots] at X185 l185 y185 z185 st185 hQ185
      subst l185 y185 z185
      obtain ⟨r_185, rfl, Nq185, eq185⟩ := hQ185
      have N186 := Fr.app N161 Nq185
      have q188 := fun t (kt : Go p e below T185 (mkF m 85 #[vR a1, vI 3, vR b135, vI 2, vI 1, vJ w1, vS] [(.int ((x1 <<< ((6 : Int32) &&& 31)) + r_185)), (.int 1), (.ref b135)]) t) => q184 t (st185 t (by
        show Go _ _ _ _ (mkF m 84 #[vR a1, vI 3, vR b135, vI 2, vI 1, vJ w1, vS] [(.int r_185), (.int (x1 <<< ((6 : Int32) &&& 31))), (.int 1), (.ref b135)]) _
        refine XS.iadd X185.here hx rfl (hb hby d4_84) rfl ?_
        exact kt))
      obtain ⟨c187, Ar187, q187, S187, N187, H187, G187⟩ := id V160
      have hi187 : ¬ ((1 : Int32) < 0 ∨ c187.slots.size ≤ ((1 : Int32)).toNatClampNeg) := inb_of S187 ⟨by decide, by decide⟩
      obtain ⟨T189, h189, X189, e189, W189, st189⟩ := stI X185 hx hZ eq185 Ar187 (j := (1 : Int32)) hi187 (g := (mkF m 85 #[vR a1, vI 3, vR b135, vI 2, vI 1, vJ w1, vS] [(.int ((x1 <<< ((6 : Int32) &&& 31)) + r_185)), (.int 1), (.ref b135)])) rfl rfl (hb hby d4_85)
      have V189 : Arv Z h189 b135 k135 .int (3 : Int32) [(.int ((x0 <<< ((6 : Int32) &&& 31)) + r_156)), (.int ((x1 <<< ((6 : Int32) &&& 31)) + r_185)), (.int 0)] (.int 0) := Arv.set Ar187 q187 S187 N187 H187 G187 rfl W189 1 rfl (Nat.le_of_ble_eq_true rfl)
      have N190 := Fr.snoc X189 N186 gg136
      have O191 := O162.wr W189 gg136
      have K192 := K163.wr W189 (Or.inr sz137)
      have q193 := fun t (kt : Go p e below T189 (mkF m 93 #[vR a1, vI 3, vR b135, vI 2, vI 1, vJ w1, vS] [(.long (w1 &&& (w1 - (1 : Int64))))]) t) => q188 t (st189 t (by
        show Go _ _ _ _ (mkF m 86 #[vR a1, vI 3, vR b135, vI 2, vI 1, vJ w1, vS] []) _
        refine XS.lload X189.here hx rfl (hb hby d4_86) rfl ?_
        show Go _ _ _ _ (mkF m 88 _ [(.long w1)]) _
        refine XS.lload X189.here hx rfl (hb hby d4_88) rfl ?_
        show Go _ _ _ _ (mkF m 90 _ [(.long w1), (.long w1)]) _
        refine XS.lconst X189.here hx rfl (hb hby d4_90) ?_
        show Go _ _ _ _ (mkF m 91 _ [(.long (1 : Int64)), (.long w1), (.long w1)]) _
        refine XS.lsub X189.here hx rfl (hb hby d4_91) rfl ?_
        show Go _ _ _ _ (mkF m 92 _ [(.long (w1 - (1 : Int64))), (.long w1)]) _
        refine XS.land X189.here hx rfl (hb hby d4_92) rfl ?_
        exact kt))
      have q194 := fun t (kt : Go p e below T189 (mkF m 93 #[vR a1, vI 3, vR b135, vI 2, vI 1, vJ w1, vS] [(.long (own_dr w1))]) t) => q193 t (by rw [(show (w1 &&& (w1 - (1 : Int64))) = own_dr w1 from rfl)]; exact kt)
      have f195 := (f177.other W189 (Or.inl ne166))
      have q196 := fun t (kt : Go p e below T189 (mkF m 70 #[vR a1, vI 3, vR b135, vI 3, vI 1, vJ (own_dr w1), vS] [(.ref a1), (.int 2), (.ref b135)]) t) => q194 t (by
        show Go _ _ _ _ (mkF m 93 #[vR a1, vI 3, vR b135, vI 2, vI 1, vJ w1, vS] [(.long (own_dr w1))]) _
        refine XS.lstore X189.here hx rfl (hb hby d4_93) rfl (l' := #[vR a1, vI 3, vR b135, vI 2, vI 1, vJ (own_dr w1), vS]) rfl ?_
        show Go _ _ _ _ (mkF m 95 #[vR a1, vI 3, vR b135, vI 2, vI 1, vJ (own_dr w1), vS] []) _
        refine XS.goto X189.here hx rfl (pc0 := 95) (pc' := 57) rfl (hb hby d4_95) (by decide) (by decide) ?_
        show Go _ _ _ _ (mkF m 57 _ []) _
        refine XS.lload X189.here hx rfl (hb hby d4_57) rfl ?_
        show Go _ _ _ _ (mkF m 59 _ [(.long (own_dr w1))]) _
        refine XS.lconst X189.here hx rfl (hb hby d4_59) ?_
        show Go _ _ _ _ (mkF m 60 _ [(.long (0 : Int64)), (.long (own_dr w1))]) _
        refine XS.lcmp X189.here hx rfl (hb hby d4_60) rfl ?_
        show Go _ _ _ _ (mkF m 61 _ [(.int (lcmpW (own_dr w1) (0 : Int64)))]) _
        refine XS.ifNo X189.here hx rfl (hb hby d4_61) rfl ((if0 _ _).trans (feq (fun z => t1_1 ((lw_eq _ _).mp z))).1) ?_
        show Go _ _ _ _ (mkF m 64 _ []) _
        refine XS.aloadN X189.here hx rfl (hb hby d4_64) rfl rfl ?_
        show Go _ _ _ _ (mkF m 65 _ [(.ref b135)]) _
        refine XS.iloadN X189.here hx rfl (hb hby d4_65) rfl ?_
        show Go _ _ _ _ (mkF m 66 _ [(.int 2), (.ref b135)]) _
        refine XS.iinc X189.here hx rfl (hb hby d4_66) rfl (l' := #[vR a1, vI 3, vR b135, vI 3, vI 1, vJ (own_dr w1), vS]) rfl ?_
        show Go _ _ _ _ (mkF m 69 #[vR a1, vI 3, vR b135, vI 3, vI 1, vJ (own_dr w1), vS] [(.int 2), (.ref b135)]) _
        refine XS.aloadN X189.here hx rfl (hb hby d4_69) rfl rfl ?_
        exact kt)
      obtain ⟨T197, X197, e197, st197⟩ := getF X189 hx hZ hown (host := "") (Or.inl (ox hw 11 rfl)) Via.refl e189 f195 (g := (mkF m 70 #[vR a1, vI 3, vR b135, vI 3, vI 1, vJ (own_dr w1), vS] [(.ref a1), (.int 2), (.ref b135)])) rfl rfl (hb hby d4_70)
      have f198 := (f181.other W189 ne180)
      have q200 := fun t (kt : Go p e below T197 (mkF m 75 #[vR a1, vI 3, vR b135, vI 3, vI 1, vJ (own_dr w1), vS] [(.int 1), (.ref b), (.int 2), (.ref b135)]) t) => q196 t (st197 t (by
        show Go _ _ _ _ (mkF m 73 #[vR a1, vI 3, vR b135, vI 3, vI 1, vJ (own_dr w1), vS] [(.ref b), (.int 2), (.ref b135)]) _
        refine XS.iload X197.here hx rfl (hb hby d4_73) rfl ?_
        exact kt))
      obtain ⟨c199, Ar199, -, S199, N199, H199, -⟩ := id f198
      have q201 := fun t (kt : Go p e below T197 (mkF m 81 #[vR a1, vI 3, vR b135, vI 3, vI 1, vJ (own_dr w1), vS] [(.long (own_dr w1)), (.int (x1 <<< ((6 : Int32) &&& 31))), (.int 2), (.ref b135)]) t) => q200 t (by
        show Go _ _ _ _ (mkF m 75 #[vR a1, vI 3, vR b135, vI 3, vI 1, vJ (own_dr w1), vS] [(.int 1), (.ref b), (.int 2), (.ref b135)]) _
        refine X197.iaload hx (j := (1 : Int32)) (v := (.int x1)) (by rw [e197]; exact Ar199.1) (State.isArrayOf_alike hZ.alike Ar199.2.1) Ar199.2.2 (inb_of S199 ⟨by decide, by decide⟩) (Has.at H199 (inb_of S199 ⟨by decide, by decide⟩) rfl) (g := (mkF m 75 #[vR a1, vI 3, vR b135, vI 3, vI 1, vJ (own_dr w1), vS] [(.int 1), (.ref b), (.int 2), (.ref b135)])) rfl rfl (hb hby d4_75) _ ?_
        show Go _ _ _ _ (mkF m 76 _ [(.int x1), (.int 2), (.ref b135)]) _
        refine XS.bipush X197.here hx rfl (hb hby d4_76) ?_
        show Go _ _ _ _ (mkF m 78 _ [(.int 6), (.int x1), (.int 2), (.ref b135)]) _
        refine XS.ishl X197.here hx rfl (hb hby d4_78) rfl ?_
        show Go _ _ _ _ (mkF m 79 _ [(.int (x1 <<< ((6 : Int32) &&& 31))), (.int 2), (.ref b135)]) _
        refine XS.lload X197.here hx rfl (hb hby d4_79) rfl ?_
        exact kt)
      obtain ⟨_, _, ⟨T202, L202, k202, n202⟩, -, X202, ⟨_, hQ202, l202, y202, z202⟩, st202⟩ := Jvm.LawKit.callS X197 hx (y := ym14) hown (ow hZ hw 78 rfl) (ow hZ hw 79 rfl) (ow hZ hw 73 rfl) (ow hZ hw 80 rfl) (by decide) (backOf (W := 3) (rm16 l Z a0 hw [] cx (own_dr w1) h189 n0 O191 ) hZ (ox hw 80 rfl) (ox hw 73 rfl) (by decide) (by decide)) (g := (mkF m 81 #[vR a1, vI 3, vR b135, vI 3, vI 1, vJ (own_dr w1), vS] [(.long (own_dr w1)), (.int (x1 <<< ((6 : Int32) &&& 31))), (.int 2), (.ref b135)])) rfl (by rw [hml]; rfl) (argsL := [(.long (own_dr w1))]) (rest := [(.int (x1 <<< ((6 : Int32) &&& 31))), (.int 2), (.ref b135)]) (lenOf pd_8 rfl) rfl own_le0 (hb hby d4_81) (fun _ _ => ⟨rfl, e197, (by decide : 1 + 0 ≤ _), (by decide : 3 + 0 ≤ _)⟩)
      dsimp only [Pt.U, Pt.locs, Pt.cells, Pt.slots] at X202 l202 y202 z202 st202 hQ202
      subst l202 y202 z202
      obtain ⟨r_202, rfl, Nq202, eq202⟩ := hQ202
      have N203 := Fr.app N190 Nq202
      have q205 := fun t (kt : Go p e below T202 (mkF m 85 #[vR a1, vI 3, vR b135, vI 3, vI 1, vJ (own_dr w1), vS] [(.int ((x1 <<< ((6 : Int32) &&& 31)) + r_202)), (.int 2), (.ref b135)]) t) => q201 t (st202 t (by
        show Go _ _ _ _ (mkF m 84 #[vR a1, vI 3, vR b135, vI 3, vI 1, vJ (own_dr w1), vS] [(.int r_202), (.int (x1 <<< ((6 : Int32) &&& 31))), (.int 2), (.ref b135)]) _
        refine XS.iadd X202.here hx rfl (hb hby d4_84) rfl ?_
        exact kt))
      obtain ⟨c204, Ar204, q204, S204, N204, H204, G204⟩ := id V189
      have hi204 : ¬ ((2 : Int32) < 0 ∨ c204.slots.size ≤ ((2 : Int32)).toNatClampNeg) := inb_of S204 ⟨by decide, by decide⟩
      obtain ⟨T206, h206, X206, e206, W206, st206⟩ := stI X202 hx hZ eq202 Ar204 (j := (2 : Int32)) hi204 (g := (mkF m 85 #[vR a1, vI 3, vR b135, vI 3, vI 1, vJ (own_dr w1), vS] [(.int ((x1 <<< ((6 : Int32) &&& 31)) + r_202)), (.int 2), (.ref b135)])) rfl rfl (hb hby d4_85)
      have V206 : Arv Z h206 b135 k135 .int (3 : Int32) [(.int ((x0 <<< ((6 : Int32) &&& 31)) + r_156)), (.int ((x1 <<< ((6 : Int32) &&& 31)) + r_185)), (.int ((x1 <<< ((6 : Int32) &&& 31)) + r_202))] (.int 0) := Arv.set Ar204 q204 S204 N204 H204 G204 rfl W206 2 rfl (Nat.le_of_ble_eq_true rfl)
      have N207 := Fr.snoc X206 N203 gg136
      have O208 := O191.wr W206 gg136
      have K209 := K192.wr W206 (Or.inr sz137)
      have q210 := fun t (kt : Go p e below T206 (mkF m 93 #[vR a1, vI 3, vR b135, vI 3, vI 1, vJ (own_dr w1), vS] [(.long ((own_dr w1) &&& ((own_dr w1) - (1 : Int64))))]) t) => q205 t (st206 t (by
        show Go _ _ _ _ (mkF m 86 #[vR a1, vI 3, vR b135, vI 3, vI 1, vJ (own_dr w1), vS] []) _
        refine XS.lload X206.here hx rfl (hb hby d4_86) rfl ?_
        show Go _ _ _ _ (mkF m 88 _ [(.long (own_dr w1))]) _
        refine XS.lload X206.here hx rfl (hb hby d4_88) rfl ?_
        show Go _ _ _ _ (mkF m 90 _ [(.long (own_dr w1)), (.long (own_dr w1))]) _
        refine XS.lconst X206.here hx rfl (hb hby d4_90) ?_
        show Go _ _ _ _ (mkF m 91 _ [(.long (1 : Int64)), (.long (own_dr w1)), (.long (own_dr w1))]) _
        refine XS.lsub X206.here hx rfl (hb hby d4_91) rfl ?_
        show Go _ _ _ _ (mkF m 92 _ [(.long ((own_dr w1) - (1 : Int64))), (.long (own_dr w1))]) _
        refine XS.land X206.here hx rfl (hb hby d4_92) rfl ?_
        exact kt))
      have q211 := fun t (kt : Go p e below T206 (mkF m 93 #[vR a1, vI 3, vR b135, vI 3, vI 1, vJ (own_dr w1), vS] [(.long (own_dr (own_dr w1)))]) t) => q210 t (by rw [(show ((own_dr w1) &&& ((own_dr w1) - (1 : Int64))) = own_dr (own_dr w1) from rfl)]; exact kt)
      have f212 := ((f167.other W189 (Or.inl ne166)).other W206 (Or.inl ne166))
      have q213 := fun t (kt : Go p e below T206 (mkF m 42 #[vR a1, vI 3, vR b135, vI 3, vI 2, vJ (own_dr (own_dr w1)), vS] [(.ref a1), (.int 2)]) t) => q211 t (by
        show Go _ _ _ _ (mkF m 93 #[vR a1, vI 3, vR b135, vI 3, vI 1, vJ (own_dr w1), vS] [(.long (own_dr (own_dr w1)))]) _
        refine XS.lstore X206.here hx rfl (hb hby d4_93) rfl (l' := #[vR a1, vI 3, vR b135, vI 3, vI 1, vJ (own_dr (own_dr w1)), vS]) rfl ?_
        show Go _ _ _ _ (mkF m 95 #[vR a1, vI 3, vR b135, vI 3, vI 1, vJ (own_dr (own_dr w1)), vS] []) _
        refine XS.goto X206.here hx rfl (pc0 := 95) (pc' := 57) rfl (hb hby d4_95) (by decide) (by decide) ?_
        show Go _ _ _ _ (mkF m 57 _ []) _
        refine XS.lload X206.here hx rfl (hb hby d4_57) rfl ?_
        show Go _ _ _ _ (mkF m 59 _ [(.long (own_dr (own_dr w1)))]) _
        refine XS.lconst X206.here hx rfl (hb hby d4_59) ?_
        show Go _ _ _ _ (mkF m 60 _ [(.long (0 : Int64)), (.long (own_dr (own_dr w1)))]) _
        refine XS.lcmp X206.here hx rfl (hb hby d4_60) rfl ?_
        show Go _ _ _ _ (mkF m 61 _ [(.int (lcmpW (own_dr (own_dr w1)) (0 : Int64)))]) _
        refine XS.ifYes X206.here hx rfl (pc0 := 61) (pc' := 98) rfl (hb hby d4_61) rfl ((if0 _ _).trans (teq ((lw_eq _ _).mpr t1_2)).1) (by decide) (by decide) ?_
        show Go _ _ _ _ (mkF m 98 _ []) _
        refine XS.iinc X206.here hx rfl (hb hby d4_98) rfl (l' := #[vR a1, vI 3, vR b135, vI 3, vI 2, vJ (own_dr (own_dr w1)), vS]) rfl ?_
        show Go _ _ _ _ (mkF m 101 #[vR a1, vI 3, vR b135, vI 3, vI 2, vJ (own_dr (own_dr w1)), vS] []) _
        refine XS.goto X206.here hx rfl (pc0 := 101) (pc' := 39) rfl (hb hby d4_101) (by decide) (by decide) ?_
        show Go _ _ _ _ (mkF m 39 _ []) _
        refine XS.iload X206.here hx rfl (hb hby d4_39) rfl ?_
        show Go _ _ _ _ (mkF m 41 _ [(.int 2)]) _
        refine XS.aloadN X206.here hx rfl (hb hby d4_41) rfl rfl ?_
        exact kt)
      obtain ⟨T214, X214, e214, st214⟩ := getF X206 hx hZ hown (host := "") (Or.inl (ox hw 22 rfl)) Via.refl e206 f212 (g := (mkF m 42 #[vR a1, vI 3, vR b135, vI 3, vI 2, vJ (own_dr (own_dr w1)), vS] [(.ref a1), (.int 2)])) rfl rfl (hb hby d4_42)
      have q215 := fun t (kt : Go p e below T214 (mkF m 105 #[vR a1, vI 3, vR b135, vI 3, vI 2, vJ (own_dr (own_dr w1)), vS] [(.ref b135)]) t) => q213 t (st214 t (by
        show Go _ _ _ _ (mkF m 45 #[vR a1, vI 3, vR b135, vI 3, vI 2, vJ (own_dr (own_dr w1)), vS] [(.int 2), (.int 2)]) _
        refine XS.icmpYes X214.here hx rfl (pc0 := 45) (pc' := 104) rfl (hb hby d4_45) rfl (flt (by decide : ¬ ((2 : Int32) < (2 : Int32)))).2.1 (by decide) (by decide) ?_
        show Go _ _ _ _ (mkF m 104 _ []) _
        refine XS.aloadN X214.here hx rfl (hb hby d4_104) rfl rfl ?_
        exact kt))
      exact ⟨some (.ref b135), T214, _, _, _, _, X214, by decide, by decide, nofun, q215, fun fs hr => retOut X214 hx hret rfl (o4 ⟨rfl, rfl, rfl⟩) (hb hby d4_105) hr, by rw [e214]; exact ⟨b135, k135, (3 : Int32), [(.int ((x0 <<< ((6 : Int32) &&& 31)) + r_156)), (.int ((x1 <<< ((6 : Int32) &&& 31)) + r_185)), (.int ((x1 <<< ((6 : Int32) &&& 31)) + r_202))], rfl, N207, K209, sz137, V206, (by decide)⟩⟩
  · skip
    rcases own_T2 hW1 with ⟨t1_0, t1_1, t1_2⟩ | ⟨t1_0, t1_1, t1_2, t1_3⟩
    · skip
      have q216 := fun t (kt : Go p e below s₁ (mkF m 6 #[vR a1, vI 0, vI 0, vU, vU, vU, vU] [(.ref a1), (.int 0)]) t) => pre0 t (by
        show Go _ _ _ _ (mkF m 0 #[vR a1, vU, vU, vU, vU, vU, vU] []) _
        refine XS.iconst X0.here hx rfl (hb hby d4_0) ?_
        show Go _ _ _ _ (mkF m 1 _ [(.int 0)]) _
        refine XS.istoreN X0.here hx rfl (hb hby d4_1) rfl (l' := #[vR a1, vI 0, vU, vU, vU, vU, vU]) rfl ?_
        show Go _ _ _ _ (mkF m 2 #[vR a1, vI 0, vU, vU, vU, vU, vU] []) _
        refine XS.iconst X0.here hx rfl (hb hby d4_2) ?_
        show Go _ _ _ _ (mkF m 3 _ [(.int 0)]) _
        refine XS.istoreN X0.here hx rfl (hb hby d4_3) rfl (l' := #[vR a1, vI 0, vI 0, vU, vU, vU, vU]) rfl ?_
        show Go _ _ _ _ (mkF m 4 #[vR a1, vI 0, vI 0, vU, vU, vU, vU] []) _
        refine XS.iloadN X0.here hx rfl (hb hby d4_4) rfl ?_
        show Go _ _ _ _ (mkF m 5 _ [(.int 0)]) _
        refine XS.aloadN X0.here hx rfl (hb hby d4_5) rfl rfl ?_
        exact kt)
      obtain ⟨T217, X217, e217, st217⟩ := getF X0 hx hZ hown (host := "") (Or.inl (ox hw 22 rfl)) Via.refl e0 G2 (g := (mkF m 6 #[vR a1, vI 0, vI 0, vU, vU, vU, vU] [(.ref a1), (.int 0)])) rfl rfl (hb hby d4_6)
      have q218 := fun t (kt : Go p e below T217 (mkF m 14 #[vR a1, vI 0, vI 0, vU, vU, vU, vU] [(.ref a1), (.int 0)]) t) => q216 t (st217 t (by
        show Go _ _ _ _ (mkF m 9 #[vR a1, vI 0, vI 0, vU, vU, vU, vU] [(.int 2), (.int 0)]) _
        refine XS.icmpNo X217.here hx rfl (hb hby d4_9) rfl (tlt (by decide : (0 : Int32) < (2 : Int32))).2.1 ?_
        show Go _ _ _ _ (mkF m 12 _ []) _
        refine XS.iloadN X217.here hx rfl (hb hby d4_12) rfl ?_
        show Go _ _ _ _ (mkF m 13 _ [(.int 0)]) _
        refine XS.aloadN X217.here hx rfl (hb hby d4_13) rfl rfl ?_
        exact kt))
      obtain ⟨T219, X219, e219, st219⟩ := getF X217 hx hZ hown (host := "") (Or.inl (ox hw 15 rfl)) Via.refl e217 G1 (g := (mkF m 14 #[vR a1, vI 0, vI 0, vU, vU, vU, vU] [(.ref a1), (.int 0)])) rfl rfl (hb hby d4_14)
      have q221 := fun t (kt : Go p e below T219 (mkF m 18 #[vR a1, vI 0, vI 0, vU, vU, vU, vU] [(.int 0), (.ref ta), (.int 0)]) t) => q218 t (st219 t (by
        show Go _ _ _ _ (mkF m 17 #[vR a1, vI 0, vI 0, vU, vU, vU, vU] [(.ref ta), (.int 0)]) _
        refine XS.iloadN X219.here hx rfl (hb hby d4_17) rfl ?_
        exact kt))
      obtain ⟨c220, Ar220, -, S220, N220, H220, -⟩ := id G4
      have q222 := fun t (kt : Go p e below T219 (mkF m 19 #[vR a1, vI 0, vI 0, vU, vU, vU, vU] [(.long w0), (.int 0)]) t) => q221 t (by
        show Go _ _ _ _ (mkF m 18 #[vR a1, vI 0, vI 0, vU, vU, vU, vU] [(.int 0), (.ref ta), (.int 0)]) _
        refine X219.laload hx (j := (0 : Int32)) (v := (.long w0)) (by rw [e219]; exact Ar220.1) (State.isArrayOf_alike hZ.alike Ar220.2.1) Ar220.2.2 (inb_of S220 ⟨by decide, by decide⟩) (Has.at H220 (inb_of S220 ⟨by decide, by decide⟩) rfl) (g := (mkF m 18 #[vR a1, vI 0, vI 0, vU, vU, vU, vU] [(.int 0), (.ref ta), (.int 0)])) rfl rfl (hb hby d4_18) _ ?_
        exact kt)
      obtain ⟨_, _, ⟨T223, L223, k223, n223⟩, -, X223, ⟨_, hQ223, l223, y223, z223⟩, st223⟩ := Jvm.LawKit.callS X219 hx (y := ym12) hown (ow hZ hw 71 rfl) (ow hZ hw 72 rfl) (ow hZ hw 73 rfl) (ow hZ hw 74 rfl) (by decide) (backOf (W := 1) (rm15 l Z a0 hw [] cx w0 h0 n0 O0 ) hZ (ox hw 74 rfl) (ox hw 73 rfl) (by decide) (by decide)) (g := (mkF m 19 #[vR a1, vI 0, vI 0, vU, vU, vU, vU] [(.long w0), (.int 0)])) rfl (by rw [hml]; rfl) (argsL := [(.long w0)]) (rest := [(.int 0)]) (lenOf pd_8 rfl) rfl own_le0 (hb hby d4_19) (fun _ _ => ⟨rfl, e219, (by decide : 0 + 0 ≤ _), (by decide : 0 + 0 ≤ _)⟩)
      dsimp only [Pt.U, Pt.locs, Pt.cells, Pt.slots] at X223 l223 y223 z223 st223 hQ223
      subst l223 y223 z223
      obtain ⟨rfl, Nq223, eq223⟩ := hQ223
      have N224 := Fr.app N0 Nq223
      have q225 := fun t (kt : Go p e below T223 (mkF m 22 #[vR a1, vI 0, vI 0, vU, vU, vU, vU] [(.int (own_bc w0)), (.int 0)]) t) => q222 t (st223 t kt)
      have q226 := fun t (kt : Go p e below T223 (mkF m 22 #[vR a1, vI 0, vI 0, vU, vU, vU, vU] [(.int 2), (.int 0)]) t) => q225 t (by rw [t0_3]; exact kt)
      have q227 := fun t (kt : Go p e below T223 (mkF m 6 #[vR a1, vI 2, vI 1, vU, vU, vU, vU] [(.ref a1), (.int 1)]) t) => q226 t (by
        show Go _ _ _ _ (mkF m 22 #[vR a1, vI 0, vI 0, vU, vU, vU, vU] [(.int 2), (.int 0)]) _
        refine XS.iadd X223.here hx rfl (hb hby d4_22) rfl ?_
        show Go _ _ _ _ (mkF m 23 _ [(.int 2)]) _
        refine XS.istoreN X223.here hx rfl (hb hby d4_23) rfl (l' := #[vR a1, vI 2, vI 0, vU, vU, vU, vU]) rfl ?_
        show Go _ _ _ _ (mkF m 24 #[vR a1, vI 2, vI 0, vU, vU, vU, vU] []) _
        refine XS.iinc X223.here hx rfl (hb hby d4_24) rfl (l' := #[vR a1, vI 2, vI 1, vU, vU, vU, vU]) rfl ?_
        show Go _ _ _ _ (mkF m 27 #[vR a1, vI 2, vI 1, vU, vU, vU, vU] []) _
        refine XS.goto X223.here hx rfl (pc0 := 27) (pc' := 4) rfl (hb hby d4_27) (by decide) (by decide) ?_
        show Go _ _ _ _ (mkF m 4 _ []) _
        refine XS.iloadN X223.here hx rfl (hb hby d4_4) rfl ?_
        show Go _ _ _ _ (mkF m 5 _ [(.int 1)]) _
        refine XS.aloadN X223.here hx rfl (hb hby d4_5) rfl rfl ?_
        exact kt)
      obtain ⟨T228, X228, e228, st228⟩ := getF X223 hx hZ hown (host := "") (Or.inl (ox hw 22 rfl)) Via.refl eq223 G2 (g := (mkF m 6 #[vR a1, vI 2, vI 1, vU, vU, vU, vU] [(.ref a1), (.int 1)])) rfl rfl (hb hby d4_6)
      have q229 := fun t (kt : Go p e below T228 (mkF m 14 #[vR a1, vI 2, vI 1, vU, vU, vU, vU] [(.ref a1), (.int 2)]) t) => q227 t (st228 t (by
        show Go _ _ _ _ (mkF m 9 #[vR a1, vI 2, vI 1, vU, vU, vU, vU] [(.int 2), (.int 1)]) _
        refine XS.icmpNo X228.here hx rfl (hb hby d4_9) rfl (tlt (by decide : (1 : Int32) < (2 : Int32))).2.1 ?_
        show Go _ _ _ _ (mkF m 12 _ []) _
        refine XS.iloadN X228.here hx rfl (hb hby d4_12) rfl ?_
        show Go _ _ _ _ (mkF m 13 _ [(.int 2)]) _
        refine XS.aloadN X228.here hx rfl (hb hby d4_13) rfl rfl ?_
        exact kt))
      obtain ⟨T230, X230, e230, st230⟩ := getF X228 hx hZ hown (host := "") (Or.inl (ox hw 15 rfl)) Via.refl e228 G1 (g := (mkF m 14 #[vR a1, vI 2, vI 1, vU, vU, vU, vU] [(.ref a1), (.int 2)])) rfl rfl (hb hby d4_14)
      have q232 := fun t (kt : Go p e below T230 (mkF m 18 #[vR a1, vI 2, vI 1, vU, vU, vU, vU] [(.int 1), (.ref ta), (.int 2)]) t) => q229 t (st230 t (by
        show Go _ _ _ _ (mkF m 17 #[vR a1, vI 2, vI 1, vU, vU, vU, vU] [(.ref ta), (.int 2)]) _
        refine XS.iloadN X230.here hx rfl (hb hby d4_17) rfl ?_
        exact kt))
      obtain ⟨c231, Ar231, -, S231, N231, H231, -⟩ := id G4
      have q233 := fun t (kt : Go p e below T230 (mkF m 19 #[vR a1, vI 2, vI 1, vU, vU, vU, vU] [(.long w1), (.int 2)]) t) => q232 t (by
        show Go _ _ _ _ (mkF m 18 #[vR a1, vI 2, vI 1, vU, vU, vU, vU] [(.int 1), (.ref ta), (.int 2)]) _
        refine X230.laload hx (j := (1 : Int32)) (v := (.long w1)) (by rw [e230]; exact Ar231.1) (State.isArrayOf_alike hZ.alike Ar231.2.1) Ar231.2.2 (inb_of S231 ⟨by decide, by decide⟩) (Has.at H231 (inb_of S231 ⟨by decide, by decide⟩) rfl) (g := (mkF m 18 #[vR a1, vI 2, vI 1, vU, vU, vU, vU] [(.int 1), (.ref ta), (.int 2)])) rfl rfl (hb hby d4_18) _ ?_
        exact kt)
      obtain ⟨_, _, ⟨T234, L234, k234, n234⟩, -, X234, ⟨_, hQ234, l234, y234, z234⟩, st234⟩ := Jvm.LawKit.callS X230 hx (y := ym12) hown (ow hZ hw 71 rfl) (ow hZ hw 72 rfl) (ow hZ hw 73 rfl) (ow hZ hw 74 rfl) (by decide) (backOf (W := 1) (rm15 l Z a0 hw [] cx w1 h0 n0 O0 ) hZ (ox hw 74 rfl) (ox hw 73 rfl) (by decide) (by decide)) (g := (mkF m 19 #[vR a1, vI 2, vI 1, vU, vU, vU, vU] [(.long w1), (.int 2)])) rfl (by rw [hml]; rfl) (argsL := [(.long w1)]) (rest := [(.int 2)]) (lenOf pd_8 rfl) rfl own_le0 (hb hby d4_19) (fun _ _ => ⟨rfl, e230, (by decide : 0 + 0 ≤ _), (by decide : 0 + 0 ≤ _)⟩)
      dsimp only [Pt.U, Pt.locs, Pt.cells, Pt.slots] at X234 l234 y234 z234 st234 hQ234
      subst l234 y234 z234
      obtain ⟨rfl, Nq234, eq234⟩ := hQ234
      have N235 := Fr.app N224 Nq234
      have q236 := fun t (kt : Go p e below T234 (mkF m 22 #[vR a1, vI 2, vI 1, vU, vU, vU, vU] [(.int (own_bc w1)), (.int 2)]) t) => q233 t (st234 t kt)
      have q237 := fun t (kt : Go p e below T234 (mkF m 22 #[vR a1, vI 2, vI 1, vU, vU, vU, vU] [(.int 1), (.int 2)]) t) => q236 t (by rw [t1_2]; exact kt)
      have q238 := fun t (kt : Go p e below T234 (mkF m 6 #[vR a1, vI 3, vI 2, vU, vU, vU, vU] [(.ref a1), (.int 2)]) t) => q237 t (by
        show Go _ _ _ _ (mkF m 22 #[vR a1, vI 2, vI 1, vU, vU, vU, vU] [(.int 1), (.int 2)]) _
        refine XS.iadd X234.here hx rfl (hb hby d4_22) rfl ?_
        show Go _ _ _ _ (mkF m 23 _ [(.int 3)]) _
        refine XS.istoreN X234.here hx rfl (hb hby d4_23) rfl (l' := #[vR a1, vI 3, vI 1, vU, vU, vU, vU]) rfl ?_
        show Go _ _ _ _ (mkF m 24 #[vR a1, vI 3, vI 1, vU, vU, vU, vU] []) _
        refine XS.iinc X234.here hx rfl (hb hby d4_24) rfl (l' := #[vR a1, vI 3, vI 2, vU, vU, vU, vU]) rfl ?_
        show Go _ _ _ _ (mkF m 27 #[vR a1, vI 3, vI 2, vU, vU, vU, vU] []) _
        refine XS.goto X234.here hx rfl (pc0 := 27) (pc' := 4) rfl (hb hby d4_27) (by decide) (by decide) ?_
        show Go _ _ _ _ (mkF m 4 _ []) _
        refine XS.iloadN X234.here hx rfl (hb hby d4_4) rfl ?_
        show Go _ _ _ _ (mkF m 5 _ [(.int 2)]) _
        refine XS.aloadN X234.here hx rfl (hb hby d4_5) rfl rfl ?_
        exact kt)
      obtain ⟨T239, X239, e239, st239⟩ := getF X234 hx hZ hown (host := "") (Or.inl (ox hw 22 rfl)) Via.refl eq234 G2 (g := (mkF m 6 #[vR a1, vI 3, vI 2, vU, vU, vU, vU] [(.ref a1), (.int 2)])) rfl rfl (hb hby d4_6)
      have q240 := fun t (kt : Go p e below T239 (mkF m 31 #[vR a1, vI 3, vI 2, vU, vU, vU, vU] [(.int 3)]) t) => q238 t (st239 t (by
        show Go _ _ _ _ (mkF m 9 #[vR a1, vI 3, vI 2, vU, vU, vU, vU] [(.int 2), (.int 2)]) _
        refine XS.icmpYes X239.here hx rfl (pc0 := 9) (pc' := 30) rfl (hb hby d4_9) rfl (flt (by decide : ¬ ((2 : Int32) < (2 : Int32)))).2.1 (by decide) (by decide) ?_
        show Go _ _ _ _ (mkF m 30 _ []) _
        refine XS.iloadN X239.here hx rfl (hb hby d4_30) rfl ?_
        exact kt))
      obtain ⟨T241, h241, k241, X241, e241, E241, A241, st241⟩ := newP X239 hx hZ (ox hw 29 rfl) e239 (g := (mkF m 31 #[vR a1, vI 3, vI 2, vU, vU, vU, vU] [(.int 3)])) rfl (hb hby d4_31) rfl (by decide) (cap := 3) (by decide) (by decide) (by decide) (by decide)
      obtain ⟨b241, g241⟩ : ∃ z, z = h0.size := ⟨_, rfl⟩
      rw [← g241] at A241 st241
      have gg242 : n0 ≤ b241 := Nat.le_trans (O0.1 ▸ O0.2.1) (Nat.le_of_eq g241.symm)
      have sz243 : h0.size ≤ b241 := Nat.le_trans K0.1 (Nat.le_of_eq g241.symm)
      have O244 := O0.ext E241
      have K245 := K0.ext E241
      have V241 : Arv Z h241 b241 k241 .int (3 : Int32) [(.int 0), (.int 0), (.int 0)] (.int 0) := (Arv.new A241 (by decide)).pad (pad_rep [] (.int 0) 3)
      have f246 := (G2.ext E241)
      have q247 := fun t (kt : Go p e below T241 (mkF m 42 #[vR a1, vI 3, vR b241, vI 0, vI 0, vU, vU] [(.ref a1), (.int 0)]) t) => q240 t (st241 t (by
        show Go _ _ _ _ (mkF m 33 #[vR a1, vI 3, vI 2, vU, vU, vU, vU] [(.ref b241)]) _
        refine XS.astoreN X241.here hx rfl (hb hby d4_33) rfl rfl (l' := #[vR a1, vI 3, vR b241, vU, vU, vU, vU]) rfl ?_
        show Go _ _ _ _ (mkF m 34 #[vR a1, vI 3, vR b241, vU, vU, vU, vU] []) _
        refine XS.iconst X241.here hx rfl (hb hby d4_34) ?_
        show Go _ _ _ _ (mkF m 35 _ [(.int 0)]) _
        refine XS.istoreN X241.here hx rfl (hb hby d4_35) rfl (l' := #[vR a1, vI 3, vR b241, vI 0, vU, vU, vU]) rfl ?_
        show Go _ _ _ _ (mkF m 36 #[vR a1, vI 3, vR b241, vI 0, vU, vU, vU] []) _
        refine XS.iconst X241.here hx rfl (hb hby d4_36) ?_
        show Go _ _ _ _ (mkF m 37 _ [(.int 0)]) _
        refine XS.istore X241.here hx rfl (hb hby d4_37) rfl (l' := #[vR a1, vI 3, vR b241, vI 0, vI 0, vU, vU]) rfl ?_
        show Go _ _ _ _ (mkF m 39 #[vR a1, vI 3, vR b241, vI 0, vI 0, vU, vU] []) _
        refine XS.iload X241.here hx rfl (hb hby d4_39) rfl ?_
        show Go _ _ _ _ (mkF m 41 _ [(.int 0)]) _
        refine XS.aloadN X241.here hx rfl (hb hby d4_41) rfl rfl ?_
        exact kt))
      obtain ⟨T248, X248, e248, st248⟩ := getF X241 hx hZ hown (host := "") (Or.inl (ox hw 22 rfl)) Via.refl e241 f246 (g := (mkF m 42 #[vR a1, vI 3, vR b241, vI 0, vI 0, vU, vU] [(.ref a1), (.int 0)])) rfl rfl (hb hby d4_42)
      have f249 := (G1.ext E241)
      have q250 := fun t (kt : Go p e below T248 (mkF m 49 #[vR a1, vI 3, vR b241, vI 0, vI 0, vU, vU] [(.ref a1)]) t) => q247 t (st248 t (by
        show Go _ _ _ _ (mkF m 45 #[vR a1, vI 3, vR b241, vI 0, vI 0, vU, vU] [(.int 2), (.int 0)]) _
        refine XS.icmpNo X248.here hx rfl (hb hby d4_45) rfl (tlt (by decide : (0 : Int32) < (2 : Int32))).2.1 ?_
        show Go _ _ _ _ (mkF m 48 _ []) _
        refine XS.aloadN X248.here hx rfl (hb hby d4_48) rfl rfl ?_
        exact kt))
      obtain ⟨T251, X251, e251, st251⟩ := getF X248 hx hZ hown (host := "") (Or.inl (ox hw 15 rfl)) Via.refl e248 f249 (g := (mkF m 49 #[vR a1, vI 3, vR b241, vI 0, vI 0, vU, vU] [(.ref a1)])) rfl rfl (hb hby d4_49)
      have f252 := (G4.ext E241)
      have q254 := fun t (kt : Go p e below T251 (mkF m 54 #[vR a1, vI 3, vR b241, vI 0, vI 0, vU, vU] [(.int 0), (.ref ta)]) t) => q250 t (st251 t (by
        show Go _ _ _ _ (mkF m 52 #[vR a1, vI 3, vR b241, vI 0, vI 0, vU, vU] [(.ref ta)]) _
        refine XS.iload X251.here hx rfl (hb hby d4_52) rfl ?_
        exact kt))
      obtain ⟨c253, Ar253, -, S253, N253, H253, -⟩ := id f252
      have f255 := (G0.ext E241)
      have q256 := fun t (kt : Go p e below T251 (mkF m 70 #[vR a1, vI 3, vR b241, vI 1, vI 0, vJ w0, vS] [(.ref a1), (.int 0), (.ref b241)]) t) => q254 t (by
        show Go _ _ _ _ (mkF m 54 #[vR a1, vI 3, vR b241, vI 0, vI 0, vU, vU] [(.int 0), (.ref ta)]) _
        refine X251.laload hx (j := (0 : Int32)) (v := (.long w0)) (by rw [e251]; exact Ar253.1) (State.isArrayOf_alike hZ.alike Ar253.2.1) Ar253.2.2 (inb_of S253 ⟨by decide, by decide⟩) (Has.at H253 (inb_of S253 ⟨by decide, by decide⟩) rfl) (g := (mkF m 54 #[vR a1, vI 3, vR b241, vI 0, vI 0, vU, vU] [(.int 0), (.ref ta)])) rfl rfl (hb hby d4_54) _ ?_
        show Go _ _ _ _ (mkF m 55 _ [(.long w0)]) _
        refine XS.lstore X251.here hx rfl (hb hby d4_55) rfl (l' := #[vR a1, vI 3, vR b241, vI 0, vI 0, vJ w0, vS]) rfl ?_
        show Go _ _ _ _ (mkF m 57 #[vR a1, vI 3, vR b241, vI 0, vI 0, vJ w0, vS] []) _
        refine XS.lload X251.here hx rfl (hb hby d4_57) rfl ?_
        show Go _ _ _ _ (mkF m 59 _ [(.long w0)]) _
        refine XS.lconst X251.here hx rfl (hb hby d4_59) ?_
        show Go _ _ _ _ (mkF m 60 _ [(.long (0 : Int64)), (.long w0)]) _
        refine XS.lcmp X251.here hx rfl (hb hby d4_60) rfl ?_
        show Go _ _ _ _ (mkF m 61 _ [(.int (lcmpW w0 (0 : Int64)))]) _
        refine XS.ifNo X251.here hx rfl (hb hby d4_61) rfl ((if0 _ _).trans (feq (fun z => t0_0 ((lw_eq _ _).mp z))).1) ?_
        show Go _ _ _ _ (mkF m 64 _ []) _
        refine XS.aloadN X251.here hx rfl (hb hby d4_64) rfl rfl ?_
        show Go _ _ _ _ (mkF m 65 _ [(.ref b241)]) _
        refine XS.iloadN X251.here hx rfl (hb hby d4_65) rfl ?_
        show Go _ _ _ _ (mkF m 66 _ [(.int 0), (.ref b241)]) _
        refine XS.iinc X251.here hx rfl (hb hby d4_66) rfl (l' := #[vR a1, vI 3, vR b241, vI 1, vI 0, vJ w0, vS]) rfl ?_
        show Go _ _ _ _ (mkF m 69 #[vR a1, vI 3, vR b241, vI 1, vI 0, vJ w0, vS] [(.int 0), (.ref b241)]) _
        refine XS.aloadN X251.here hx rfl (hb hby d4_69) rfl rfl ?_
        exact kt)
      obtain ⟨T257, X257, e257, st257⟩ := getF X251 hx hZ hown (host := "") (Or.inl (ox hw 11 rfl)) Via.refl e251 f255 (g := (mkF m 70 #[vR a1, vI 3, vR b241, vI 1, vI 0, vJ w0, vS] [(.ref a1), (.int 0), (.ref b241)])) rfl rfl (hb hby d4_70)
      have f258 := (G3.ext E241)
      have q260 := fun t (kt : Go p e below T257 (mkF m 75 #[vR a1, vI 3, vR b241, vI 1, vI 0, vJ w0, vS] [(.int 0), (.ref b), (.int 0), (.ref b241)]) t) => q256 t (st257 t (by
        show Go _ _ _ _ (mkF m 73 #[vR a1, vI 3, vR b241, vI 1, vI 0, vJ w0, vS] [(.ref b), (.int 0), (.ref b241)]) _
        refine XS.iload X257.here hx rfl (hb hby d4_73) rfl ?_
        exact kt))
      obtain ⟨c259, Ar259, -, S259, N259, H259, -⟩ := id f258
      have q261 := fun t (kt : Go p e below T257 (mkF m 81 #[vR a1, vI 3, vR b241, vI 1, vI 0, vJ w0, vS] [(.long w0), (.int (x0 <<< ((6 : Int32) &&& 31))), (.int 0), (.ref b241)]) t) => q260 t (by
        show Go _ _ _ _ (mkF m 75 #[vR a1, vI 3, vR b241, vI 1, vI 0, vJ w0, vS] [(.int 0), (.ref b), (.int 0), (.ref b241)]) _
        refine X257.iaload hx (j := (0 : Int32)) (v := (.int x0)) (by rw [e257]; exact Ar259.1) (State.isArrayOf_alike hZ.alike Ar259.2.1) Ar259.2.2 (inb_of S259 ⟨by decide, by decide⟩) (Has.at H259 (inb_of S259 ⟨by decide, by decide⟩) rfl) (g := (mkF m 75 #[vR a1, vI 3, vR b241, vI 1, vI 0, vJ w0, vS] [(.int 0), (.ref b), (.int 0), (.ref b241)])) rfl rfl (hb hby d4_75) _ ?_
        show Go _ _ _ _ (mkF m 76 _ [(.int x0), (.int 0), (.ref b241)]) _
        refine XS.bipush X257.here hx rfl (hb hby d4_76) ?_
        show Go _ _ _ _ (mkF m 78 _ [(.int 6), (.int x0), (.int 0), (.ref b241)]) _
        refine XS.ishl X257.here hx rfl (hb hby d4_78) rfl ?_
        show Go _ _ _ _ (mkF m 79 _ [(.int (x0 <<< ((6 : Int32) &&& 31))), (.int 0), (.ref b241)]) _
        refine XS.lload X257.here hx rfl (hb hby d4_79) rfl ?_
        exact kt)
      obtain ⟨_, _, ⟨T262, L262, k262, n262⟩, -, X262, ⟨_, hQ262, l262, y262, z262⟩, st262⟩ := Jvm.LawKit.callS X257 hx (y := ym14) hown (ow hZ hw 78 rfl) (ow hZ hw 79 rfl) (ow hZ hw 73 rfl) (ow hZ hw 80 rfl) (by decide) (backOf (W := 3) (rm16 l Z a0 hw [] cx w0 h241 n0 O244 ) hZ (ox hw 80 rfl) (ox hw 73 rfl) (by decide) (by decide)) (g := (mkF m 81 #[vR a1, vI 3, vR b241, vI 1, vI 0, vJ w0, vS] [(.long w0), (.int (x0 <<< ((6 : Int32) &&& 31))), (.int 0), (.ref b241)])) rfl (by rw [hml]; rfl) (argsL := [(.long w0)]) (rest := [(.int (x0 <<< ((6 : Int32) &&& 31))), (.int 0), (.ref b241)]) (lenOf pd_8 rfl) rfl own_le0 (hb hby d4_81) (fun _ _ => ⟨rfl, e257, (by decide : 1 + 0 ≤ _), (by decide : 3 + 0 ≤ _)⟩)
      dsimp only [Pt.U, Pt.locs, Pt.cells, Pt.slots] at X262 l262 y262 z262 st262 hQ262
      subst l262 y262 z262
      obtain ⟨r_262, rfl, Nq262, eq262⟩ := hQ262
      have N263 := Fr.app N235 Nq262
      have q265 := fun t (kt : Go p e below T262 (mkF m 85 #[vR a1, vI 3, vR b241, vI 1, vI 0, vJ w0, vS] [(.int ((x0 <<< ((6 : Int32) &&& 31)) + r_262)), (.int 0), (.ref b241)]) t) => q261 t (st262 t (by
        show Go _ _ _ _ (mkF m 84 #[vR a1, vI 3, vR b241, vI 1, vI 0, vJ w0, vS] [(.int r_262), (.int (x0 <<< ((6 : Int32) &&& 31))), (.int 0), (.ref b241)]) _
        refine XS.iadd X262.here hx rfl (hb hby d4_84) rfl ?_
        exact kt))
      obtain ⟨c264, Ar264, q264, S264, N264, H264, G264⟩ := id V241
      have hi264 : ¬ ((0 : Int32) < 0 ∨ c264.slots.size ≤ ((0 : Int32)).toNatClampNeg) := inb_of S264 ⟨by decide, by decide⟩
      obtain ⟨T266, h266, X266, e266, W266, st266⟩ := stI X262 hx hZ eq262 Ar264 (j := (0 : Int32)) hi264 (g := (mkF m 85 #[vR a1, vI 3, vR b241, vI 1, vI 0, vJ w0, vS] [(.int ((x0 <<< ((6 : Int32) &&& 31)) + r_262)), (.int 0), (.ref b241)])) rfl rfl (hb hby d4_85)
      have V266 : Arv Z h266 b241 k241 .int (3 : Int32) [(.int ((x0 <<< ((6 : Int32) &&& 31)) + r_262)), (.int 0), (.int 0)] (.int 0) := Arv.set Ar264 q264 S264 N264 H264 G264 rfl W266 0 rfl (Nat.le_of_ble_eq_true rfl)
      have N267 := Fr.snoc X266 N263 gg242
      have O268 := O244.wr W266 gg242
      have K269 := K245.wr W266 (Or.inr sz243)
      have q270 := fun t (kt : Go p e below T266 (mkF m 93 #[vR a1, vI 3, vR b241, vI 1, vI 0, vJ w0, vS] [(.long (w0 &&& (w0 - (1 : Int64))))]) t) => q265 t (st266 t (by
        show Go _ _ _ _ (mkF m 86 #[vR a1, vI 3, vR b241, vI 1, vI 0, vJ w0, vS] []) _
        refine XS.lload X266.here hx rfl (hb hby d4_86) rfl ?_
        show Go _ _ _ _ (mkF m 88 _ [(.long w0)]) _
        refine XS.lload X266.here hx rfl (hb hby d4_88) rfl ?_
        show Go _ _ _ _ (mkF m 90 _ [(.long w0), (.long w0)]) _
        refine XS.lconst X266.here hx rfl (hb hby d4_90) ?_
        show Go _ _ _ _ (mkF m 91 _ [(.long (1 : Int64)), (.long w0), (.long w0)]) _
        refine XS.lsub X266.here hx rfl (hb hby d4_91) rfl ?_
        show Go _ _ _ _ (mkF m 92 _ [(.long (w0 - (1 : Int64))), (.long w0)]) _
        refine XS.land X266.here hx rfl (hb hby d4_92) rfl ?_
        exact kt))
      have q271 := fun t (kt : Go p e below T266 (mkF m 93 #[vR a1, vI 3, vR b241, vI 1, vI 0, vJ w0, vS] [(.long (own_dr w0))]) t) => q270 t (by rw [(show (w0 &&& (w0 - (1 : Int64))) = own_dr w0 from rfl)]; exact kt)
      have ne272 : a1 ≠ b241 := (Nat.ne_of_lt (Nat.lt_of_lt_of_le G0.lt (Nat.le_of_eq g241.symm)))
      have f273 := (f255.other W266 (Or.inl ne272))
      have q274 := fun t (kt : Go p e below T266 (mkF m 70 #[vR a1, vI 3, vR b241, vI 2, vI 0, vJ (own_dr w0), vS] [(.ref a1), (.int 1), (.ref b241)]) t) => q271 t (by
        show Go _ _ _ _ (mkF m 93 #[vR a1, vI 3, vR b241, vI 1, vI 0, vJ w0, vS] [(.long (own_dr w0))]) _
        refine XS.lstore X266.here hx rfl (hb hby d4_93) rfl (l' := #[vR a1, vI 3, vR b241, vI 1, vI 0, vJ (own_dr w0), vS]) rfl ?_
        show Go _ _ _ _ (mkF m 95 #[vR a1, vI 3, vR b241, vI 1, vI 0, vJ (own_dr w0), vS] []) _
        refine XS.goto X266.here hx rfl (pc0 := 95) (pc' := 57) rfl (hb hby d4_95) (by decide) (by decide) ?_
        show Go _ _ _ _ (mkF m 57 _ []) _
        refine XS.lload X266.here hx rfl (hb hby d4_57) rfl ?_
        show Go _ _ _ _ (mkF m 59 _ [(.long (own_dr w0))]) _
        refine XS.lconst X266.here hx rfl (hb hby d4_59) ?_
        show Go _ _ _ _ (mkF m 60 _ [(.long (0 : Int64)), (.long (own_dr w0))]) _
        refine XS.lcmp X266.here hx rfl (hb hby d4_60) rfl ?_
        show Go _ _ _ _ (mkF m 61 _ [(.int (lcmpW (own_dr w0) (0 : Int64)))]) _
        refine XS.ifNo X266.here hx rfl (hb hby d4_61) rfl ((if0 _ _).trans (feq (fun z => t0_1 ((lw_eq _ _).mp z))).1) ?_
        show Go _ _ _ _ (mkF m 64 _ []) _
        refine XS.aloadN X266.here hx rfl (hb hby d4_64) rfl rfl ?_
        show Go _ _ _ _ (mkF m 65 _ [(.ref b241)]) _
        refine XS.iloadN X266.here hx rfl (hb hby d4_65) rfl ?_
        show Go _ _ _ _ (mkF m 66 _ [(.int 1), (.ref b241)]) _
        refine XS.iinc X266.here hx rfl (hb hby d4_66) rfl (l' := #[vR a1, vI 3, vR b241, vI 2, vI 0, vJ (own_dr w0), vS]) rfl ?_
        show Go _ _ _ _ (mkF m 69 #[vR a1, vI 3, vR b241, vI 2, vI 0, vJ (own_dr w0), vS] [(.int 1), (.ref b241)]) _
        refine XS.aloadN X266.here hx rfl (hb hby d4_69) rfl rfl ?_
        exact kt)
      obtain ⟨T275, X275, e275, st275⟩ := getF X266 hx hZ hown (host := "") (Or.inl (ox hw 11 rfl)) Via.refl e266 f273 (g := (mkF m 70 #[vR a1, vI 3, vR b241, vI 2, vI 0, vJ (own_dr w0), vS] [(.ref a1), (.int 1), (.ref b241)])) rfl rfl (hb hby d4_70)
      have ne276 : b ≠ b241 := (Nat.ne_of_lt (Nat.lt_of_lt_of_le G3.lt (Nat.le_of_eq g241.symm)))
      have f277 := (f258.other W266 ne276)
      have q279 := fun t (kt : Go p e below T275 (mkF m 75 #[vR a1, vI 3, vR b241, vI 2, vI 0, vJ (own_dr w0), vS] [(.int 0), (.ref b), (.int 1), (.ref b241)]) t) => q274 t (st275 t (by
        show Go _ _ _ _ (mkF m 73 #[vR a1, vI 3, vR b241, vI 2, vI 0, vJ (own_dr w0), vS] [(.ref b), (.int 1), (.ref b241)]) _
        refine XS.iload X275.here hx rfl (hb hby d4_73) rfl ?_
        exact kt))
      obtain ⟨c278, Ar278, -, S278, N278, H278, -⟩ := id f277
      have q280 := fun t (kt : Go p e below T275 (mkF m 81 #[vR a1, vI 3, vR b241, vI 2, vI 0, vJ (own_dr w0), vS] [(.long (own_dr w0)), (.int (x0 <<< ((6 : Int32) &&& 31))), (.int 1), (.ref b241)]) t) => q279 t (by
        show Go _ _ _ _ (mkF m 75 #[vR a1, vI 3, vR b241, vI 2, vI 0, vJ (own_dr w0), vS] [(.int 0), (.ref b), (.int 1), (.ref b241)]) _
        refine X275.iaload hx (j := (0 : Int32)) (v := (.int x0)) (by rw [e275]; exact Ar278.1) (State.isArrayOf_alike hZ.alike Ar278.2.1) Ar278.2.2 (inb_of S278 ⟨by decide, by decide⟩) (Has.at H278 (inb_of S278 ⟨by decide, by decide⟩) rfl) (g := (mkF m 75 #[vR a1, vI 3, vR b241, vI 2, vI 0, vJ (own_dr w0), vS] [(.int 0), (.ref b), (.int 1), (.ref b241)])) rfl rfl (hb hby d4_75) _ ?_
        show Go _ _ _ _ (mkF m 76 _ [(.int x0), (.int 1), (.ref b241)]) _
        refine XS.bipush X275.here hx rfl (hb hby d4_76) ?_
        show Go _ _ _ _ (mkF m 78 _ [(.int 6), (.int x0), (.int 1), (.ref b241)]) _
        refine XS.ishl X275.here hx rfl (hb hby d4_78) rfl ?_
        show Go _ _ _ _ (mkF m 79 _ [(.int (x0 <<< ((6 : Int32) &&& 31))), (.int 1), (.ref b241)]) _
        refine XS.lload X275.here hx rfl (hb hby d4_79) rfl ?_
        exact kt)
      obtain ⟨_, _, ⟨T281, L281, k281, n281⟩, -, X281, ⟨_, hQ281, l281, y281, z281⟩, st281⟩ := Jvm.LawKit.callS X275 hx (y := ym14) hown (ow hZ hw 78 rfl) (ow hZ hw 79 rfl) (ow hZ hw 73 rfl) (ow hZ hw 80 rfl) (by decide) (backOf (W := 3) (rm16 l Z a0 hw [] cx (own_dr w0) h266 n0 O268 ) hZ (ox hw 80 rfl) (ox hw 73 rfl) (by decide) (by decide)) (g := (mkF m 81 #[vR a1, vI 3, vR b241, vI 2, vI 0, vJ (own_dr w0), vS] [(.long (own_dr w0)), (.int (x0 <<< ((6 : Int32) &&& 31))), (.int 1), (.ref b241)])) rfl (by rw [hml]; rfl) (argsL := [(.long (own_dr w0))]) (rest := [(.int (x0 <<< ((6 : Int32) &&& 31))), (.int 1), (.ref b241)]) (lenOf pd_8 rfl) rfl own_le0 (hb hby d4_81) (fun _ _ => ⟨rfl, e275, (by decide : 1 + 0 ≤ _), (by decide : 3 + 0 ≤ _)⟩)
      dsimp only [Pt.U, Pt.locs, Pt.cells, Pt.slots] at X281 l281 y281 z281 st281 hQ281
      subst l281 y281 z281
      obtain ⟨r_281, rfl, Nq281, eq281⟩ := hQ281
      have N282 := Fr.app N267 Nq281
      have q284 := fun t (kt : Go p e below T281 (mkF m 85 #[vR a1, vI 3, vR b241, vI 2, vI 0, vJ (own_dr w0), vS] [(.int ((x0 <<< ((6 : Int32) &&& 31)) + r_281)), (.int 1), (.ref b241)]) t) => q280 t (st281 t (by
        show Go _ _ _ _ (mkF m 84 #[vR a1, vI 3, vR b241, vI 2, vI 0, vJ (own_dr w0), vS] [(.int r_281), (.int (x0 <<< ((6 : Int32) &&& 31))), (.int 1), (.ref b241)]) _
        refine XS.iadd X281.here hx rfl (hb hby d4_84) rfl ?_
        exact kt))
      obtain ⟨c283, Ar283, q283, S283, N283, H283, G283⟩ := id V266
      have hi283 : ¬ ((1 : Int32) < 0 ∨ c283.slots.size ≤ ((1 : Int32)).toNatClampNeg) := inb_of S283 ⟨by decide, by decide⟩
      obtain ⟨T285, h285, X285, e285, W285, st285⟩ := stI X281 hx hZ eq281 Ar283 (j := (1 : Int32)) hi283 (g := (mkF m 85 #[vR a1, vI 3, vR b241, vI 2, vI 0, vJ (own_dr w0), vS] [(.int ((x0 <<< ((6 : Int32) &&& 31)) + r_281)), (.int 1), (.ref b241)])) rfl rfl (hb hby d4_85)
      have V285 : Arv Z h285 b241 k241 .int (3 : Int32) [(.int ((x0 <<< ((6 : Int32) &&& 31)) + r_262)), (.int ((x0 <<< ((6 : Int32) &&& 31)) + r_281)), (.int 0)] (.int 0) := Arv.set Ar283 q283 S283 N283 H283 G283 rfl W285 1 rfl (Nat.le_of_ble_eq_true rfl)
      have N286 := Fr.snoc X285 N282 gg242
      have O287 := O268.wr W285 gg242
      have K288 := K269.wr W285 (Or.inr sz243)
      have q289 := fun t (kt : Go p e below T285 (mkF m 93 #[vR a1, vI 3, vR b241, vI 2, vI 0, vJ (own_dr w0), vS] [(.long ((own_dr w0) &&& ((own_dr w0) - (1 : Int64))))]) t) => q284 t (st285 t (by
        show Go _ _ _ _ (mkF m 86 #[vR a1, vI 3, vR b241, vI 2, vI 0, vJ (own_dr w0), vS] []) _
        refine XS.lload X285.here hx rfl (hb hby d4_86) rfl ?_
        show Go _ _ _ _ (mkF m 88 _ [(.long (own_dr w0))]) _
        refine XS.lload X285.here hx rfl (hb hby d4_88) rfl ?_
        show Go _ _ _ _ (mkF m 90 _ [(.long (own_dr w0)), (.long (own_dr w0))]) _
        refine XS.lconst X285.here hx rfl (hb hby d4_90) ?_
        show Go _ _ _ _ (mkF m 91 _ [(.long (1 : Int64)), (.long (own_dr w0)), (.long (own_dr w0))]) _
        refine XS.lsub X285.here hx rfl (hb hby d4_91) rfl ?_
        show Go _ _ _ _ (mkF m 92 _ [(.long ((own_dr w0) - (1 : Int64))), (.long (own_dr w0))]) _
        refine XS.land X285.here hx rfl (hb hby d4_92) rfl ?_
        exact kt))
      have q290 := fun t (kt : Go p e below T285 (mkF m 93 #[vR a1, vI 3, vR b241, vI 2, vI 0, vJ (own_dr w0), vS] [(.long (own_dr (own_dr w0)))]) t) => q289 t (by rw [(show ((own_dr w0) &&& ((own_dr w0) - (1 : Int64))) = own_dr (own_dr w0) from rfl)]; exact kt)
      have f291 := ((f246.other W266 (Or.inl ne272)).other W285 (Or.inl ne272))
      have q292 := fun t (kt : Go p e below T285 (mkF m 42 #[vR a1, vI 3, vR b241, vI 2, vI 1, vJ (own_dr (own_dr w0)), vS] [(.ref a1), (.int 1)]) t) => q290 t (by
        show Go _ _ _ _ (mkF m 93 #[vR a1, vI 3, vR b241, vI 2, vI 0, vJ (own_dr w0), vS] [(.long (own_dr (own_dr w0)))]) _
        refine XS.lstore X285.here hx rfl (hb hby d4_93) rfl (l' := #[vR a1, vI 3, vR b241, vI 2, vI 0, vJ (own_dr (own_dr w0)), vS]) rfl ?_
        show Go _ _ _ _ (mkF m 95 #[vR a1, vI 3, vR b241, vI 2, vI 0, vJ (own_dr (own_dr w0)), vS] []) _
        refine XS.goto X285.here hx rfl (pc0 := 95) (pc' := 57) rfl (hb hby d4_95) (by decide) (by decide) ?_
        show Go _ _ _ _ (mkF m 57 _ []) _
        refine XS.lload X285.here hx rfl (hb hby d4_57) rfl ?_
        show Go _ _ _ _ (mkF m 59 _ [(.long (own_dr (own_dr w0)))]) _
        refine XS.lconst X285.here hx rfl (hb hby d4_59) ?_
        show Go _ _ _ _ (mkF m 60 _ [(.long (0 : Int64)), (.long (own_dr (own_dr w0)))]) _
        refine XS.lcmp X285.here hx rfl (hb hby d4_60) rfl ?_
        show Go _ _ _ _ (mkF m 61 _ [(.int (lcmpW (own_dr (own_dr w0)) (0 : Int64)))]) _
        refine XS.ifYes X285.here hx rfl (pc0 := 61) (pc' := 98) rfl (hb hby d4_61) rfl ((if0 _ _).trans (teq ((lw_eq _ _).mpr t0_2)).1) (by decide) (by decide) ?_
        show Go _ _ _ _ (mkF m 98 _ []) _
        refine XS.iinc X285.here hx rfl (hb hby d4_98) rfl (l' := #[vR a1, vI 3, vR b241, vI 2, vI 1, vJ (own_dr (own_dr w0)), vS]) rfl ?_
        show Go _ _ _ _ (mkF m 101 #[vR a1, vI 3, vR b241, vI 2, vI 1, vJ (own_dr (own_dr w0)), vS] []) _
        refine XS.goto X285.here hx rfl (pc0 := 101) (pc' := 39) rfl (hb hby d4_101) (by decide) (by decide) ?_
        show Go _ _ _ _ (mkF m 39 _ []) _
        refine XS.iload X285.here hx rfl (hb hby d4_39) rfl ?_
        show Go _ _ _ _ (mkF m 41 _ [(.int 1)]) _
        refine XS.aloadN X285.here hx rfl (hb hby d4_41) rfl rfl ?_
        exact kt)
      obtain ⟨T293, X293, e293, st293⟩ := getF X285 hx hZ hown (host := "") (Or.inl (ox hw 22 rfl)) Via.refl e285 f291 (g := (mkF m 42 #[vR a1, vI 3, vR b241, vI 2, vI 1, vJ (own_dr (own_dr w0)), vS] [(.ref a1), (.int 1)])) rfl rfl (hb hby d4_42)
      have f294 := ((f249.other W266 (Or.inl ne272)).other W285 (Or.inl ne272))
      have q295 := fun t (kt : Go p e below T293 (mkF m 49 #[vR a1, vI 3, vR b241, vI 2, vI 1, vJ (own_dr (own_dr w0)), vS] [(.ref a1)]) t) => q292 t (st293 t (by
        show Go _ _ _ _ (mkF m 45 #[vR a1, vI 3, vR b241, vI 2, vI 1, vJ (own_dr (own_dr w0)), vS] [(.int 2), (.int 1)]) _
        refine XS.icmpNo X293.here hx rfl (hb hby d4_45) rfl (tlt (by decide : (1 : Int32) < (2 : Int32))).2.1 ?_
        show Go _ _ _ _ (mkF m 48 _ []) _
        refine XS.aloadN X293.here hx rfl (hb hby d4_48) rfl rfl ?_
        exact kt))
      obtain ⟨T296, X296, e296, st296⟩ := getF X293 hx hZ hown (host := "") (Or.inl (ox hw 15 rfl)) Via.refl e293 f294 (g := (mkF m 49 #[vR a1, vI 3, vR b241, vI 2, vI 1, vJ (own_dr (own_dr w0)), vS] [(.ref a1)])) rfl rfl (hb hby d4_49)
      have ne297 : ta ≠ b241 := (Nat.ne_of_lt (Nat.lt_of_lt_of_le G4.lt (Nat.le_of_eq g241.symm)))
      have f298 := ((f252.other W266 ne297).other W285 ne297)
      have q300 := fun t (kt : Go p e below T296 (mkF m 54 #[vR a1, vI 3, vR b241, vI 2, vI 1, vJ (own_dr (own_dr w0)), vS] [(.int 1), (.ref ta)]) t) => q295 t (st296 t (by
        show Go _ _ _ _ (mkF m 52 #[vR a1, vI 3, vR b241, vI 2, vI 1, vJ (own_dr (own_dr w0)), vS] [(.ref ta)]) _
        refine XS.iload X296.here hx rfl (hb hby d4_52) rfl ?_
        exact kt))
      obtain ⟨c299, Ar299, -, S299, N299, H299, -⟩ := id f298
      have f301 := (f273.other W285 (Or.inl ne272))
      have q302 := fun t (kt : Go p e below T296 (mkF m 70 #[vR a1, vI 3, vR b241, vI 3, vI 1, vJ w1, vS] [(.ref a1), (.int 2), (.ref b241)]) t) => q300 t (by
        show Go _ _ _ _ (mkF m 54 #[vR a1, vI 3, vR b241, vI 2, vI 1, vJ (own_dr (own_dr w0)), vS] [(.int 1), (.ref ta)]) _
        refine X296.laload hx (j := (1 : Int32)) (v := (.long w1)) (by rw [e296]; exact Ar299.1) (State.isArrayOf_alike hZ.alike Ar299.2.1) Ar299.2.2 (inb_of S299 ⟨by decide, by decide⟩) (Has.at H299 (inb_of S299 ⟨by decide, by decide⟩) rfl) (g := (mkF m 54 #[vR a1, vI 3, vR b241, vI 2, vI 1, vJ (own_dr (own_dr w0)), vS] [(.int 1), (.ref ta)])) rfl rfl (hb hby d4_54) _ ?_
        show Go _ _ _ _ (mkF m 55 _ [(.long w1)]) _
        refine XS.lstore X296.here hx rfl (hb hby d4_55) rfl (l' := #[vR a1, vI 3, vR b241, vI 2, vI 1, vJ w1, vS]) rfl ?_
        show Go _ _ _ _ (mkF m 57 #[vR a1, vI 3, vR b241, vI 2, vI 1, vJ w1, vS] []) _
        refine XS.lload X296.here hx rfl (hb hby d4_57) rfl ?_
        show Go _ _ _ _ (mkF m 59 _ [(.long w1)]) _
        refine XS.lconst X296.here hx rfl (hb hby d4_59) ?_
        show Go _ _ _ _ (mkF m 60 _ [(.long (0 : Int64)), (.long w1)]) _
        refine XS.lcmp X296.here hx rfl (hb hby d4_60) rfl ?_
        show Go _ _ _ _ (mkF m 61 _ [(.int (lcmpW w1 (0 : Int64)))]) _
        refine XS.ifNo X296.here hx rfl (hb hby d4_61) rfl ((if0 _ _).trans (feq (fun z => t1_0 ((lw_eq _ _).mp z))).1) ?_
        show Go _ _ _ _ (mkF m 64 _ []) _
        refine XS.aloadN X296.here hx rfl (hb hby d4_64) rfl rfl ?_
        show Go _ _ _ _ (mkF m 65 _ [(.ref b241)]) _
        refine XS.iloadN X296.here hx rfl (hb hby d4_65) rfl ?_
        show Go _ _ _ _ (mkF m 66 _ [(.int 2), (.ref b241)]) _
        refine XS.iinc X296.here hx rfl (hb hby d4_66) rfl (l' := #[vR a1, vI 3, vR b241, vI 3, vI 1, vJ w1, vS]) rfl ?_
        show Go _ _ _ _ (mkF m 69 #[vR a1, vI 3, vR b241, vI 3, vI 1, vJ w1, vS] [(.int 2), (.ref b241)]) _
        refine XS.aloadN X296.here hx rfl (hb hby d4_69) rfl rfl ?_
        exact kt)
      obtain ⟨T303, X303, e303, st303⟩ := getF X296 hx hZ hown (host := "") (Or.inl (ox hw 11 rfl)) Via.refl e296 f301 (g := (mkF m 70 #[vR a1, vI 3, vR b241, vI 3, vI 1, vJ w1, vS] [(.ref a1), (.int 2), (.ref b241)])) rfl rfl (hb hby d4_70)
      have f304 := (f277.other W285 ne276)
      have q306 := fun t (kt : Go p e below T303 (mkF m 75 #[vR a1, vI 3, vR b241, vI 3, vI 1, vJ w1, vS] [(.int 1), (.ref b), (.int 2), (.ref b241)]) t) => q302 t (st303 t (by
        show Go _ _ _ _ (mkF m 73 #[vR a1, vI 3, vR b241, vI 3, vI 1, vJ w1, vS] [(.ref b), (.int 2), (.ref b241)]) _
        refine XS.iload X303.here hx rfl (hb hby d4_73) rfl ?_
        exact kt))
      obtain ⟨c305, Ar305, -, S305, N305, H305, -⟩ := id f304
      have q307 := fun t (kt : Go p e below T303 (mkF m 81 #[vR a1, vI 3, vR b241, vI 3, vI 1, vJ w1, vS] [(.long w1), (.int (x1 <<< ((6 : Int32) &&& 31))), (.int 2), (.ref b241)]) t) => q306 t (by
        show Go _ _ _ _ (mkF m 75 #[vR a1, vI 3, vR b241, vI 3, vI 1, vJ w1, vS] [(.int 1), (.ref b), (.int 2), (.ref b241)]) _
        refine X303.iaload hx (j := (1 : Int32)) (v := (.int x1)) (by rw [e303]; exact Ar305.1) (State.isArrayOf_alike hZ.alike Ar305.2.1) Ar305.2.2 (inb_of S305 ⟨by decide, by decide⟩) (Has.at H305 (inb_of S305 ⟨by decide, by decide⟩) rfl) (g := (mkF m 75 #[vR a1, vI 3, vR b241, vI 3, vI 1, vJ w1, vS] [(.int 1), (.ref b), (.int 2), (.ref b241)])) rfl rfl (hb hby d4_75) _ ?_
        show Go _ _ _ _ (mkF m 76 _ [(.int x1), (.int 2), (.ref b241)]) _
        refine XS.bipush X303.here hx rfl (hb hby d4_76) ?_
        show Go _ _ _ _ (mkF m 78 _ [(.int 6), (.int x1), (.int 2), (.ref b241)]) _
        refine XS.ishl X303.here hx rfl (hb hby d4_78) rfl ?_
        show Go _ _ _ _ (mkF m 79 _ [(.int (x1 <<< ((6 : Int32) &&& 31))), (.int 2), (.ref b241)]) _
        refine XS.lload X303.here hx rfl (hb hby d4_79) rfl ?_
        exact kt)
      obtain ⟨_, _, ⟨T308, L308, k308, n308⟩, -, X308, ⟨_, hQ308, l308, y308, z308⟩, st308⟩ := Jvm.LawKit.callS X303 hx (y := ym14) hown (ow hZ hw 78 rfl) (ow hZ hw 79 rfl) (ow hZ hw 73 rfl) (ow hZ hw 80 rfl) (by decide) (backOf (W := 3) (rm16 l Z a0 hw [] cx w1 h285 n0 O287 ) hZ (ox hw 80 rfl) (ox hw 73 rfl) (by decide) (by decide)) (g := (mkF m 81 #[vR a1, vI 3, vR b241, vI 3, vI 1, vJ w1, vS] [(.long w1), (.int (x1 <<< ((6 : Int32) &&& 31))), (.int 2), (.ref b241)])) rfl (by rw [hml]; rfl) (argsL := [(.long w1)]) (rest := [(.int (x1 <<< ((6 : Int32) &&& 31))), (.int 2), (.ref b241)]) (lenOf pd_8 rfl) rfl own_le0 (hb hby d4_81) (fun _ _ => ⟨rfl, e303, (by decide : 1 + 0 ≤ _), (by decide : 3 + 0 ≤ _)⟩)
      dsimp only [Pt.U, Pt.locs, Pt.cells, Pt.slots] at X308 l308 y308 z308 st308 hQ308
      subst l308 y308 z308
      obtain ⟨r_308, rfl, Nq308, eq308⟩ := hQ308
      have N309 := Fr.app N286 Nq308
      have q311 := fun t (kt : Go p e below T308 (mkF m 85 #[vR a1, vI 3, vR b241, vI 3, vI 1, vJ w1, vS] [(.int ((x1 <<< ((6 : Int32) &&& 31)) + r_308)), (.int 2), (.ref b241)]) t) => q307 t (st308 t (by
        show Go _ _ _ _ (mkF m 84 #[vR a1, vI 3, vR b241, vI 3, vI 1, vJ w1, vS] [(.int r_308), (.int (x1 <<< ((6 : Int32) &&& 31))), (.int 2), (.ref b241)]) _
        refine XS.iadd X308.here hx rfl (hb hby d4_84) rfl ?_
        exact kt))
      obtain ⟨c310, Ar310, q310, S310, N310, H310, G310⟩ := id V285
      have hi310 : ¬ ((2 : Int32) < 0 ∨ c310.slots.size ≤ ((2 : Int32)).toNatClampNeg) := inb_of S310 ⟨by decide, by decide⟩
      obtain ⟨T312, h312, X312, e312, W312, st312⟩ := stI X308 hx hZ eq308 Ar310 (j := (2 : Int32)) hi310 (g := (mkF m 85 #[vR a1, vI 3, vR b241, vI 3, vI 1, vJ w1, vS] [(.int ((x1 <<< ((6 : Int32) &&& 31)) + r_308)), (.int 2), (.ref b241)])) rfl rfl (hb hby d4_85)
      have V312 : Arv Z h312 b241 k241 .int (3 : Int32) [(.int ((x0 <<< ((6 : Int32) &&& 31)) + r_262)), (.int ((x0 <<< ((6 : Int32) &&& 31)) + r_281)), (.int ((x1 <<< ((6 : Int32) &&& 31)) + r_308))] (.int 0) := Arv.set Ar310 q310 S310 N310 H310 G310 rfl W312 2 rfl (Nat.le_of_ble_eq_true rfl)
      have N313 := Fr.snoc X312 N309 gg242
      have O314 := O287.wr W312 gg242
      have K315 := K288.wr W312 (Or.inr sz243)
      have q316 := fun t (kt : Go p e below T312 (mkF m 93 #[vR a1, vI 3, vR b241, vI 3, vI 1, vJ w1, vS] [(.long (w1 &&& (w1 - (1 : Int64))))]) t) => q311 t (st312 t (by
        show Go _ _ _ _ (mkF m 86 #[vR a1, vI 3, vR b241, vI 3, vI 1, vJ w1, vS] []) _
        refine XS.lload X312.here hx rfl (hb hby d4_86) rfl ?_
        show Go _ _ _ _ (mkF m 88 _ [(.long w1)]) _
        refine XS.lload X312.here hx rfl (hb hby d4_88) rfl ?_
        show Go _ _ _ _ (mkF m 90 _ [(.long w1), (.long w1)]) _
        refine XS.lconst X312.here hx rfl (hb hby d4_90) ?_
        show Go _ _ _ _ (mkF m 91 _ [(.long (1 : Int64)), (.long w1), (.long w1)]) _
        refine XS.lsub X312.here hx rfl (hb hby d4_91) rfl ?_
        show Go _ _ _ _ (mkF m 92 _ [(.long (w1 - (1 : Int64))), (.long w1)]) _
        refine XS.land X312.here hx rfl (hb hby d4_92) rfl ?_
        exact kt))
      have q317 := fun t (kt : Go p e below T312 (mkF m 93 #[vR a1, vI 3, vR b241, vI 3, vI 1, vJ w1, vS] [(.long (own_dr w1))]) t) => q316 t (by rw [(show (w1 &&& (w1 - (1 : Int64))) = own_dr w1 from rfl)]; exact kt)
      have f318 := (f291.other W312 (Or.inl ne272))
      have q319 := fun t (kt : Go p e below T312 (mkF m 42 #[vR a1, vI 3, vR b241, vI 3, vI 2, vJ (own_dr w1), vS] [(.ref a1), (.int 2)]) t) => q317 t (by
        show Go _ _ _ _ (mkF m 93 #[vR a1, vI 3, vR b241, vI 3, vI 1, vJ w1, vS] [(.long (own_dr w1))]) _
        refine XS.lstore X312.here hx rfl (hb hby d4_93) rfl (l' := #[vR a1, vI 3, vR b241, vI 3, vI 1, vJ (own_dr w1), vS]) rfl ?_
        show Go _ _ _ _ (mkF m 95 #[vR a1, vI 3, vR b241, vI 3, vI 1, vJ (own_dr w1), vS] []) _
        refine XS.goto X312.here hx rfl (pc0 := 95) (pc' := 57) rfl (hb hby d4_95) (by decide) (by decide) ?_
        show Go _ _ _ _ (mkF m 57 _ []) _
        refine XS.lload X312.here hx rfl (hb hby d4_57) rfl ?_
        show Go _ _ _ _ (mkF m 59 _ [(.long (own_dr w1))]) _
        refine XS.lconst X312.here hx rfl (hb hby d4_59) ?_
        show Go _ _ _ _ (mkF m 60 _ [(.long (0 : Int64)), (.long (own_dr w1))]) _
        refine XS.lcmp X312.here hx rfl (hb hby d4_60) rfl ?_
        show Go _ _ _ _ (mkF m 61 _ [(.int (lcmpW (own_dr w1) (0 : Int64)))]) _
        refine XS.ifYes X312.here hx rfl (pc0 := 61) (pc' := 98) rfl (hb hby d4_61) rfl ((if0 _ _).trans (teq ((lw_eq _ _).mpr t1_1)).1) (by decide) (by decide) ?_
        show Go _ _ _ _ (mkF m 98 _ []) _
        refine XS.iinc X312.here hx rfl (hb hby d4_98) rfl (l' := #[vR a1, vI 3, vR b241, vI 3, vI 2, vJ (own_dr w1), vS]) rfl ?_
        show Go _ _ _ _ (mkF m 101 #[vR a1, vI 3, vR b241, vI 3, vI 2, vJ (own_dr w1), vS] []) _
        refine XS.goto X312.here hx rfl (pc0 := 101) (pc' := 39) rfl (hb hby d4_101) (by decide) (by decide) ?_
        show Go _ _ _ _ (mkF m 39 _ []) _
        refine XS.iload X312.here hx rfl (hb hby d4_39) rfl ?_
        show Go _ _ _ _ (mkF m 41 _ [(.int 2)]) _
        refine XS.aloadN X312.here hx rfl (hb hby d4_41) rfl rfl ?_
        exact kt)
      obtain ⟨T320, X320, e320, st320⟩ := getF X312 hx hZ hown (host := "") (Or.inl (ox hw 22 rfl)) Via.refl e312 f318 (g := (mkF m 42 #[vR a1, vI 3, vR b241, vI 3, vI 2, vJ (own_dr w1), vS] [(.ref a1), (.int 2)])) rfl rfl (hb hby d4_42)
      have q321 := fun t (kt : Go p e below T320 (mkF m 105 #[vR a1, vI 3, vR b241, vI 3, vI 2, vJ (own_dr w1), vS] [(.ref b241)]) t) => q319 t (st320 t (by
        show Go _ _ _ _ (mkF m 45 #[vR a1, vI 3, vR b241, vI 3, vI 2, vJ (own_dr w1), vS] [(.int 2), (.int 2)]) _
        refine XS.icmpYes X320.here hx rfl (pc0 := 45) (pc' := 104) rfl (hb hby d4_45) rfl (flt (by decide : ¬ ((2 : Int32) < (2 : Int32)))).2.1 (by decide) (by decide) ?_
        show Go _ _ _ _ (mkF m 104 _ []) _
        refine XS.aloadN X320.here hx rfl (hb hby d4_104) rfl rfl ?_
        exact kt))
      exact ⟨some (.ref b241), T320, _, _, _, _, X320, by decide, by decide, nofun, q321, fun fs hr => retOut X320 hx hret rfl (o4 ⟨rfl, rfl, rfl⟩) (hb hby d4_105) hr, by rw [e320]; exact ⟨b241, k241, (3 : Int32), [(.int ((x0 <<< ((6 : Int32) &&& 31)) + r_262)), (.int ((x0 <<< ((6 : Int32) &&& 31)) + r_281)), (.int ((x1 <<< ((6 : Int32) &&& 31)) + r_308))], rfl, N313, K315, sz243, V312, (by decide)⟩⟩
    · skip
      have q322 := fun t (kt : Go p e below s₁ (mkF m 6 #[vR a1, vI 0, vI 0, vU, vU, vU, vU] [(.ref a1), (.int 0)]) t) => pre0 t (by
        show Go _ _ _ _ (mkF m 0 #[vR a1, vU, vU, vU, vU, vU, vU] []) _
        refine XS.iconst X0.here hx rfl (hb hby d4_0) ?_
        show Go _ _ _ _ (mkF m 1 _ [(.int 0)]) _
        refine XS.istoreN X0.here hx rfl (hb hby d4_1) rfl (l' := #[vR a1, vI 0, vU, vU, vU, vU, vU]) rfl ?_
        show Go _ _ _ _ (mkF m 2 #[vR a1, vI 0, vU, vU, vU, vU, vU] []) _
        refine XS.iconst X0.here hx rfl (hb hby d4_2) ?_
        show Go _ _ _ _ (mkF m 3 _ [(.int 0)]) _
        refine XS.istoreN X0.here hx rfl (hb hby d4_3) rfl (l' := #[vR a1, vI 0, vI 0, vU, vU, vU, vU]) rfl ?_
        show Go _ _ _ _ (mkF m 4 #[vR a1, vI 0, vI 0, vU, vU, vU, vU] []) _
        refine XS.iloadN X0.here hx rfl (hb hby d4_4) rfl ?_
        show Go _ _ _ _ (mkF m 5 _ [(.int 0)]) _
        refine XS.aloadN X0.here hx rfl (hb hby d4_5) rfl rfl ?_
        exact kt)
      obtain ⟨T323, X323, e323, st323⟩ := getF X0 hx hZ hown (host := "") (Or.inl (ox hw 22 rfl)) Via.refl e0 G2 (g := (mkF m 6 #[vR a1, vI 0, vI 0, vU, vU, vU, vU] [(.ref a1), (.int 0)])) rfl rfl (hb hby d4_6)
      have q324 := fun t (kt : Go p e below T323 (mkF m 14 #[vR a1, vI 0, vI 0, vU, vU, vU, vU] [(.ref a1), (.int 0)]) t) => q322 t (st323 t (by
        show Go _ _ _ _ (mkF m 9 #[vR a1, vI 0, vI 0, vU, vU, vU, vU] [(.int 2), (.int 0)]) _
        refine XS.icmpNo X323.here hx rfl (hb hby d4_9) rfl (tlt (by decide : (0 : Int32) < (2 : Int32))).2.1 ?_
        show Go _ _ _ _ (mkF m 12 _ []) _
        refine XS.iloadN X323.here hx rfl (hb hby d4_12) rfl ?_
        show Go _ _ _ _ (mkF m 13 _ [(.int 0)]) _
        refine XS.aloadN X323.here hx rfl (hb hby d4_13) rfl rfl ?_
        exact kt))
      obtain ⟨T325, X325, e325, st325⟩ := getF X323 hx hZ hown (host := "") (Or.inl (ox hw 15 rfl)) Via.refl e323 G1 (g := (mkF m 14 #[vR a1, vI 0, vI 0, vU, vU, vU, vU] [(.ref a1), (.int 0)])) rfl rfl (hb hby d4_14)
      have q327 := fun t (kt : Go p e below T325 (mkF m 18 #[vR a1, vI 0, vI 0, vU, vU, vU, vU] [(.int 0), (.ref ta), (.int 0)]) t) => q324 t (st325 t (by
        show Go _ _ _ _ (mkF m 17 #[vR a1, vI 0, vI 0, vU, vU, vU, vU] [(.ref ta), (.int 0)]) _
        refine XS.iloadN X325.here hx rfl (hb hby d4_17) rfl ?_
        exact kt))
      obtain ⟨c326, Ar326, -, S326, N326, H326, -⟩ := id G4
      have q328 := fun t (kt : Go p e below T325 (mkF m 19 #[vR a1, vI 0, vI 0, vU, vU, vU, vU] [(.long w0), (.int 0)]) t) => q327 t (by
        show Go _ _ _ _ (mkF m 18 #[vR a1, vI 0, vI 0, vU, vU, vU, vU] [(.int 0), (.ref ta), (.int 0)]) _
        refine X325.laload hx (j := (0 : Int32)) (v := (.long w0)) (by rw [e325]; exact Ar326.1) (State.isArrayOf_alike hZ.alike Ar326.2.1) Ar326.2.2 (inb_of S326 ⟨by decide, by decide⟩) (Has.at H326 (inb_of S326 ⟨by decide, by decide⟩) rfl) (g := (mkF m 18 #[vR a1, vI 0, vI 0, vU, vU, vU, vU] [(.int 0), (.ref ta), (.int 0)])) rfl rfl (hb hby d4_18) _ ?_
        exact kt)
      obtain ⟨_, _, ⟨T329, L329, k329, n329⟩, -, X329, ⟨_, hQ329, l329, y329, z329⟩, st329⟩ := Jvm.LawKit.callS X325 hx (y := ym12) hown (ow hZ hw 71 rfl) (ow hZ hw 72 rfl) (ow hZ hw 73 rfl) (ow hZ hw 74 rfl) (by decide) (backOf (W := 1) (rm15 l Z a0 hw [] cx w0 h0 n0 O0 ) hZ (ox hw 74 rfl) (ox hw 73 rfl) (by decide) (by decide)) (g := (mkF m 19 #[vR a1, vI 0, vI 0, vU, vU, vU, vU] [(.long w0), (.int 0)])) rfl (by rw [hml]; rfl) (argsL := [(.long w0)]) (rest := [(.int 0)]) (lenOf pd_8 rfl) rfl own_le0 (hb hby d4_19) (fun _ _ => ⟨rfl, e325, (by decide : 0 + 0 ≤ _), (by decide : 0 + 0 ≤ _)⟩)
      dsimp only [Pt.U, Pt.locs, Pt.cells, Pt.slots] at X329 l329 y329 z329 st329 hQ329
      subst l329 y329 z329
      obtain ⟨rfl, Nq329, eq329⟩ := hQ329
      have N330 := Fr.app N0 Nq329
      have q331 := fun t (kt : Go p e below T329 (mkF m 22 #[vR a1, vI 0, vI 0, vU, vU, vU, vU] [(.int (own_bc w0)), (.int 0)]) t) => q328 t (st329 t kt)
      have q332 := fun t (kt : Go p e below T329 (mkF m 22 #[vR a1, vI 0, vI 0, vU, vU, vU, vU] [(.int 2), (.int 0)]) t) => q331 t (by rw [t0_3]; exact kt)
      have q333 := fun t (kt : Go p e below T329 (mkF m 6 #[vR a1, vI 2, vI 1, vU, vU, vU, vU] [(.ref a1), (.int 1)]) t) => q332 t (by
        show Go _ _ _ _ (mkF m 22 #[vR a1, vI 0, vI 0, vU, vU, vU, vU] [(.int 2), (.int 0)]) _
        refine XS.iadd X329.here hx rfl (hb hby d4_22) rfl ?_
        show Go _ _ _ _ (mkF m 23 _ [(.int 2)]) _
        refine XS.istoreN X329.here hx rfl (hb hby d4_23) rfl (l' := #[vR a1, vI 2, vI 0, vU, vU, vU, vU]) rfl ?_
        show Go _ _ _ _ (mkF m 24 #[vR a1, vI 2, vI 0, vU, vU, vU, vU] []) _
        refine XS.iinc X329.here hx rfl (hb hby d4_24) rfl (l' := #[vR a1, vI 2, vI 1, vU, vU, vU, vU]) rfl ?_
        show Go _ _ _ _ (mkF m 27 #[vR a1, vI 2, vI 1, vU, vU, vU, vU] []) _
        refine XS.goto X329.here hx rfl (pc0 := 27) (pc' := 4) rfl (hb hby d4_27) (by decide) (by decide) ?_
        show Go _ _ _ _ (mkF m 4 _ []) _
        refine XS.iloadN X329.here hx rfl (hb hby d4_4) rfl ?_
        show Go _ _ _ _ (mkF m 5 _ [(.int 1)]) _
        refine XS.aloadN X329.here hx rfl (hb hby d4_5) rfl rfl ?_
        exact kt)
      obtain ⟨T334, X334, e334, st334⟩ := getF X329 hx hZ hown (host := "") (Or.inl (ox hw 22 rfl)) Via.refl eq329 G2 (g := (mkF m 6 #[vR a1, vI 2, vI 1, vU, vU, vU, vU] [(.ref a1), (.int 1)])) rfl rfl (hb hby d4_6)
      have q335 := fun t (kt : Go p e below T334 (mkF m 14 #[vR a1, vI 2, vI 1, vU, vU, vU, vU] [(.ref a1), (.int 2)]) t) => q333 t (st334 t (by
        show Go _ _ _ _ (mkF m 9 #[vR a1, vI 2, vI 1, vU, vU, vU, vU] [(.int 2), (.int 1)]) _
        refine XS.icmpNo X334.here hx rfl (hb hby d4_9) rfl (tlt (by decide : (1 : Int32) < (2 : Int32))).2.1 ?_
        show Go _ _ _ _ (mkF m 12 _ []) _
        refine XS.iloadN X334.here hx rfl (hb hby d4_12) rfl ?_
        show Go _ _ _ _ (mkF m 13 _ [(.int 2)]) _
        refine XS.aloadN X334.here hx rfl (hb hby d4_13) rfl rfl ?_
        exact kt))
      obtain ⟨T336, X336, e336, st336⟩ := getF X334 hx hZ hown (host := "") (Or.inl (ox hw 15 rfl)) Via.refl e334 G1 (g := (mkF m 14 #[vR a1, vI 2, vI 1, vU, vU, vU, vU] [(.ref a1), (.int 2)])) rfl rfl (hb hby d4_14)
      have q338 := fun t (kt : Go p e below T336 (mkF m 18 #[vR a1, vI 2, vI 1, vU, vU, vU, vU] [(.int 1), (.ref ta), (.int 2)]) t) => q335 t (st336 t (by
        show Go _ _ _ _ (mkF m 17 #[vR a1, vI 2, vI 1, vU, vU, vU, vU] [(.ref ta), (.int 2)]) _
        refine XS.iloadN X336.here hx rfl (hb hby d4_17) rfl ?_
        exact kt))
      obtain ⟨c337, Ar337, -, S337, N337, H337, -⟩ := id G4
      have q339 := fun t (kt : Go p e below T336 (mkF m 19 #[vR a1, vI 2, vI 1, vU, vU, vU, vU] [(.long w1), (.int 2)]) t) => q338 t (by
        show Go _ _ _ _ (mkF m 18 #[vR a1, vI 2, vI 1, vU, vU, vU, vU] [(.int 1), (.ref ta), (.int 2)]) _
        refine X336.laload hx (j := (1 : Int32)) (v := (.long w1)) (by rw [e336]; exact Ar337.1) (State.isArrayOf_alike hZ.alike Ar337.2.1) Ar337.2.2 (inb_of S337 ⟨by decide, by decide⟩) (Has.at H337 (inb_of S337 ⟨by decide, by decide⟩) rfl) (g := (mkF m 18 #[vR a1, vI 2, vI 1, vU, vU, vU, vU] [(.int 1), (.ref ta), (.int 2)])) rfl rfl (hb hby d4_18) _ ?_
        exact kt)
      obtain ⟨_, _, ⟨T340, L340, k340, n340⟩, -, X340, ⟨_, hQ340, l340, y340, z340⟩, st340⟩ := Jvm.LawKit.callS X336 hx (y := ym12) hown (ow hZ hw 71 rfl) (ow hZ hw 72 rfl) (ow hZ hw 73 rfl) (ow hZ hw 74 rfl) (by decide) (backOf (W := 1) (rm15 l Z a0 hw [] cx w1 h0 n0 O0 ) hZ (ox hw 74 rfl) (ox hw 73 rfl) (by decide) (by decide)) (g := (mkF m 19 #[vR a1, vI 2, vI 1, vU, vU, vU, vU] [(.long w1), (.int 2)])) rfl (by rw [hml]; rfl) (argsL := [(.long w1)]) (rest := [(.int 2)]) (lenOf pd_8 rfl) rfl own_le0 (hb hby d4_19) (fun _ _ => ⟨rfl, e336, (by decide : 0 + 0 ≤ _), (by decide : 0 + 0 ≤ _)⟩)
      dsimp only [Pt.U, Pt.locs, Pt.cells, Pt.slots] at X340 l340 y340 z340 st340 hQ340
      subst l340 y340 z340
      obtain ⟨rfl, Nq340, eq340⟩ := hQ340
      have N341 := Fr.app N330 Nq340
      have q342 := fun t (kt : Go p e below T340 (mkF m 22 #[vR a1, vI 2, vI 1, vU, vU, vU, vU] [(.int (own_bc w1)), (.int 2)]) t) => q339 t (st340 t kt)
      have q343 := fun t (kt : Go p e below T340 (mkF m 22 #[vR a1, vI 2, vI 1, vU, vU, vU, vU] [(.int 2), (.int 2)]) t) => q342 t (by rw [t1_3]; exact kt)
      have q344 := fun t (kt : Go p e below T340 (mkF m 6 #[vR a1, vI 4, vI 2, vU, vU, vU, vU] [(.ref a1), (.int 2)]) t) => q343 t (by
        show Go _ _ _ _ (mkF m 22 #[vR a1, vI 2, vI 1, vU, vU, vU, vU] [(.int 2), (.int 2)]) _
        refine XS.iadd X340.here hx rfl (hb hby d4_22) rfl ?_
        show Go _ _ _ _ (mkF m 23 _ [(.int 4)]) _
        refine XS.istoreN X340.here hx rfl (hb hby d4_23) rfl (l' := #[vR a1, vI 4, vI 1, vU, vU, vU, vU]) rfl ?_
        show Go _ _ _ _ (mkF m 24 #[vR a1, vI 4, vI 1, vU, vU, vU, vU] []) _
        refine XS.iinc X340.here hx rfl (hb hby d4_24) rfl (l' := #[vR a1, vI 4, vI 2, vU, vU, vU, vU]) rfl ?_
        show Go _ _ _ _ (mkF m 27 #[vR a1, vI 4, vI 2, vU, vU, vU, vU] []) _
        refine XS.goto X340.here hx rfl (pc0 := 27) (pc' := 4) rfl (hb hby d4_27) (by decide) (by decide) ?_
        show Go _ _ _ _ (mkF m 4 _ []) _
        refine XS.iloadN X340.here hx rfl (hb hby d4_4) rfl ?_
        show Go _ _ _ _ (mkF m 5 _ [(.int 2)]) _
        refine XS.aloadN X340.here hx rfl (hb hby d4_5) rfl rfl ?_
        exact kt)
      obtain ⟨T345, X345, e345, st345⟩ := getF X340 hx hZ hown (host := "") (Or.inl (ox hw 22 rfl)) Via.refl eq340 G2 (g := (mkF m 6 #[vR a1, vI 4, vI 2, vU, vU, vU, vU] [(.ref a1), (.int 2)])) rfl rfl (hb hby d4_6)
      have q346 := fun t (kt : Go p e below T345 (mkF m 31 #[vR a1, vI 4, vI 2, vU, vU, vU, vU] [(.int 4)]) t) => q344 t (st345 t (by
        show Go _ _ _ _ (mkF m 9 #[vR a1, vI 4, vI 2, vU, vU, vU, vU] [(.int 2), (.int 2)]) _
        refine XS.icmpYes X345.here hx rfl (pc0 := 9) (pc' := 30) rfl (hb hby d4_9) rfl (flt (by decide : ¬ ((2 : Int32) < (2 : Int32)))).2.1 (by decide) (by decide) ?_
        show Go _ _ _ _ (mkF m 30 _ []) _
        refine XS.iloadN X345.here hx rfl (hb hby d4_30) rfl ?_
        exact kt))
      obtain ⟨T347, h347, k347, X347, e347, E347, A347, st347⟩ := newP X345 hx hZ (ox hw 29 rfl) e345 (g := (mkF m 31 #[vR a1, vI 4, vI 2, vU, vU, vU, vU] [(.int 4)])) rfl (hb hby d4_31) rfl (by decide) (cap := 4) (by decide) (by decide) (by decide) (by decide)
      obtain ⟨b347, g347⟩ : ∃ z, z = h0.size := ⟨_, rfl⟩
      rw [← g347] at A347 st347
      have gg348 : n0 ≤ b347 := Nat.le_trans (O0.1 ▸ O0.2.1) (Nat.le_of_eq g347.symm)
      have sz349 : h0.size ≤ b347 := Nat.le_trans K0.1 (Nat.le_of_eq g347.symm)
      have O350 := O0.ext E347
      have K351 := K0.ext E347
      have V347 : Arv Z h347 b347 k347 .int (4 : Int32) [(.int 0), (.int 0), (.int 0), (.int 0)] (.int 0) := (Arv.new A347 (by decide)).pad (pad_rep [] (.int 0) 4)
      have f352 := (G2.ext E347)
      have q353 := fun t (kt : Go p e below T347 (mkF m 42 #[vR a1, vI 4, vR b347, vI 0, vI 0, vU, vU] [(.ref a1), (.int 0)]) t) => q346 t (st347 t (by
        show Go _ _ _ _ (mkF m 33 #[vR a1, vI 4, vI 2, vU, vU, vU, vU] [(.ref b347)]) _
        refine XS.astoreN X347.here hx rfl (hb hby d4_33) rfl rfl (l' := #[vR a1, vI 4, vR b347, vU, vU, vU, vU]) rfl ?_
        show Go _ _ _ _ (mkF m 34 #[vR a1, vI 4, vR b347, vU, vU, vU, vU] []) _
        refine XS.iconst X347.here hx rfl (hb hby d4_34) ?_
        show Go _ _ _ _ (mkF m 35 _ [(.int 0)]) _
        refine XS.istoreN X347.here hx rfl (hb hby d4_35) rfl (l' := #[vR a1, vI 4, vR b347, vI 0, vU, vU, vU]) rfl ?_
        show Go _ _ _ _ (mkF m 36 #[vR a1, vI 4, vR b347, vI 0, vU, vU, vU] []) _
        refine XS.iconst X347.here hx rfl (hb hby d4_36) ?_
        show Go _ _ _ _ (mkF m 37 _ [(.int 0)]) _
        refine XS.istore X347.here hx rfl (hb hby d4_37) rfl (l' := #[vR a1, vI 4, vR b347, vI 0, vI 0, vU, vU]) rfl ?_
        show Go _ _ _ _ (mkF m 39 #[vR a1, vI 4, vR b347, vI 0, vI 0, vU, vU] []) _
        refine XS.iload X347.here hx rfl (hb hby d4_39) rfl ?_
        show Go _ _ _ _ (mkF m 41 _ [(.int 0)]) _
        refine XS.aloadN X347.here hx rfl (hb hby d4_41) rfl rfl ?_
        exact kt))
      obtain ⟨T354, X354, e354, st354⟩ := getF X347 hx hZ hown (host := "") (Or.inl (ox hw 22 rfl)) Via.refl e347 f352 (g := (mkF m 42 #[vR a1, vI 4, vR b347, vI 0, vI 0, vU, vU] [(.ref a1), (.int 0)])) rfl rfl (hb hby d4_42)
      have f355 := (G1.ext E347)
      have q356 := fun t (kt : Go p e below T354 (mkF m 49 #[vR a1, vI 4, vR b347, vI 0, vI 0, vU, vU] [(.ref a1)]) t) => q353 t (st354 t (by
        show Go _ _ _ _ (mkF m 45 #[vR a1, vI 4, vR b347, vI 0, vI 0, vU, vU] [(.int 2), (.int 0)]) _
        refine XS.icmpNo X354.here hx rfl (hb hby d4_45) rfl (tlt (by decide : (0 : Int32) < (2 : Int32))).2.1 ?_
        show Go _ _ _ _ (mkF m 48 _ []) _
        refine XS.aloadN X354.here hx rfl (hb hby d4_48) rfl rfl ?_
        exact kt))
      obtain ⟨T357, X357, e357, st357⟩ := getF X354 hx hZ hown (host := "") (Or.inl (ox hw 15 rfl)) Via.refl e354 f355 (g := (mkF m 49 #[vR a1, vI 4, vR b347, vI 0, vI 0, vU, vU] [(.ref a1)])) rfl rfl (hb hby d4_49)
      have f358 := (G4.ext E347)
      have q360 := fun t (kt : Go p e below T357 (mkF m 54 #[vR a1, vI 4, vR b347, vI 0, vI 0, vU, vU] [(.int 0), (.ref ta)]) t) => q356 t (st357 t (by
        show Go _ _ _ _ (mkF m 52 #[vR a1, vI 4, vR b347, vI 0, vI 0, vU, vU] [(.ref ta)]) _
        refine XS.iload X357.here hx rfl (hb hby d4_52) rfl ?_
        exact kt))
      obtain ⟨c359, Ar359, -, S359, N359, H359, -⟩ := id f358
      have f361 := (G0.ext E347)
      have q362 := fun t (kt : Go p e below T357 (mkF m 70 #[vR a1, vI 4, vR b347, vI 1, vI 0, vJ w0, vS] [(.ref a1), (.int 0), (.ref b347)]) t) => q360 t (by
        show Go _ _ _ _ (mkF m 54 #[vR a1, vI 4, vR b347, vI 0, vI 0, vU, vU] [(.int 0), (.ref ta)]) _
        refine X357.laload hx (j := (0 : Int32)) (v := (.long w0)) (by rw [e357]; exact Ar359.1) (State.isArrayOf_alike hZ.alike Ar359.2.1) Ar359.2.2 (inb_of S359 ⟨by decide, by decide⟩) (Has.at H359 (inb_of S359 ⟨by decide, by decide⟩) rfl) (g := (mkF m 54 #[vR a1, vI 4, vR b347, vI 0, vI 0, vU, vU] [(.int 0), (.ref ta)])) rfl rfl (hb hby d4_54) _ ?_
        show Go _ _ _ _ (mkF m 55 _ [(.long w0)]) _
        refine XS.lstore X357.here hx rfl (hb hby d4_55) rfl (l' := #[vR a1, vI 4, vR b347, vI 0, vI 0, vJ w0, vS]) rfl ?_
        show Go _ _ _ _ (mkF m 57 #[vR a1, vI 4, vR b347, vI 0, vI 0, vJ w0, vS] []) _
        refine XS.lload X357.here hx rfl (hb hby d4_57) rfl ?_
        show Go _ _ _ _ (mkF m 59 _ [(.long w0)]) _
        refine XS.lconst X357.here hx rfl (hb hby d4_59) ?_
        show Go _ _ _ _ (mkF m 60 _ [(.long (0 : Int64)), (.long w0)]) _
        refine XS.lcmp X357.here hx rfl (hb hby d4_60) rfl ?_
        show Go _ _ _ _ (mkF m 61 _ [(.int (lcmpW w0 (0 : Int64)))]) _
        refine XS.ifNo X357.here hx rfl (hb hby d4_61) rfl ((if0 _ _).trans (feq (fun z => t0_0 ((lw_eq _ _).mp z))).1) ?_
        show Go _ _ _ _ (mkF m 64 _ []) _
        refine XS.aloadN X357.here hx rfl (hb hby d4_64) rfl rfl ?_
        show Go _ _ _ _ (mkF m 65 _ [(.ref b347)]) _
        refine XS.iloadN X357.here hx rfl (hb hby d4_65) rfl ?_
        show Go _ _ _ _ (mkF m 66 _ [(.int 0), (.ref b347)]) _
        refine XS.iinc X357.here hx rfl (hb hby d4_66) rfl (l' := #[vR a1, vI 4, vR b347, vI 1, vI 0, vJ w0, vS]) rfl ?_
        show Go _ _ _ _ (mkF m 69 #[vR a1, vI 4, vR b347, vI 1, vI 0, vJ w0, vS] [(.int 0), (.ref b347)]) _
        refine XS.aloadN X357.here hx rfl (hb hby d4_69) rfl rfl ?_
        exact kt)
      obtain ⟨T363, X363, e363, st363⟩ := getF X357 hx hZ hown (host := "") (Or.inl (ox hw 11 rfl)) Via.refl e357 f361 (g := (mkF m 70 #[vR a1, vI 4, vR b347, vI 1, vI 0, vJ w0, vS] [(.ref a1), (.int 0), (.ref b347)])) rfl rfl (hb hby d4_70)
      have f364 := (G3.ext E347)
      have q366 := fun t (kt : Go p e below T363 (mkF m 75 #[vR a1, vI 4, vR b347, vI 1, vI 0, vJ w0, vS] [(.int 0), (.ref b), (.int 0), (.ref b347)]) t) => q362 t (st363 t (by
        show Go _ _ _ _ (mkF m 73 #[vR a1, vI 4, vR b347, vI 1, vI 0, vJ w0, vS] [(.ref b), (.int 0), (.ref b347)]) _
        refine XS.iload X363.here hx rfl (hb hby d4_73) rfl ?_
        exact kt))
      obtain ⟨c365, Ar365, -, S365, N365, H365, -⟩ := id f364
      have q367 := fun t (kt : Go p e below T363 (mkF m 81 #[vR a1, vI 4, vR b347, vI 1, vI 0, vJ w0, vS] [(.long w0), (.int (x0 <<< ((6 : Int32) &&& 31))), (.int 0), (.ref b347)]) t) => q366 t (by
        show Go _ _ _ _ (mkF m 75 #[vR a1, vI 4, vR b347, vI 1, vI 0, vJ w0, vS] [(.int 0), (.ref b), (.int 0), (.ref b347)]) _
        refine X363.iaload hx (j := (0 : Int32)) (v := (.int x0)) (by rw [e363]; exact Ar365.1) (State.isArrayOf_alike hZ.alike Ar365.2.1) Ar365.2.2 (inb_of S365 ⟨by decide, by decide⟩) (Has.at H365 (inb_of S365 ⟨by decide, by decide⟩) rfl) (g := (mkF m 75 #[vR a1, vI 4, vR b347, vI 1, vI 0, vJ w0, vS] [(.int 0), (.ref b), (.int 0), (.ref b347)])) rfl rfl (hb hby d4_75) _ ?_
        show Go _ _ _ _ (mkF m 76 _ [(.int x0), (.int 0), (.ref b347)]) _
        refine XS.bipush X363.here hx rfl (hb hby d4_76) ?_
        show Go _ _ _ _ (mkF m 78 _ [(.int 6), (.int x0), (.int 0), (.ref b347)]) _
        refine XS.ishl X363.here hx rfl (hb hby d4_78) rfl ?_
        show Go _ _ _ _ (mkF m 79 _ [(.int (x0 <<< ((6 : Int32) &&& 31))), (.int 0), (.ref b347)]) _
        refine XS.lload X363.here hx rfl (hb hby d4_79) rfl ?_
        exact kt)
      obtain ⟨_, _, ⟨T368, L368, k368, n368⟩, -, X368, ⟨_, hQ368, l368, y368, z368⟩, st368⟩ := Jvm.LawKit.callS X363 hx (y := ym14) hown (ow hZ hw 78 rfl) (ow hZ hw 79 rfl) (ow hZ hw 73 rfl) (ow hZ hw 80 rfl) (by decide) (backOf (W := 3) (rm16 l Z a0 hw [] cx w0 h347 n0 O350 ) hZ (ox hw 80 rfl) (ox hw 73 rfl) (by decide) (by decide)) (g := (mkF m 81 #[vR a1, vI 4, vR b347, vI 1, vI 0, vJ w0, vS] [(.long w0), (.int (x0 <<< ((6 : Int32) &&& 31))), (.int 0), (.ref b347)])) rfl (by rw [hml]; rfl) (argsL := [(.long w0)]) (rest := [(.int (x0 <<< ((6 : Int32) &&& 31))), (.int 0), (.ref b347)]) (lenOf pd_8 rfl) rfl own_le0 (hb hby d4_81) (fun _ _ => ⟨rfl, e363, (by decide : 1 + 0 ≤ _), (by decide : 4 + 0 ≤ _)⟩)
      dsimp only [Pt.U, Pt.locs, Pt.cells, Pt.slots] at X368 l368 y368 z368 st368 hQ368
      subst l368 y368 z368
      obtain ⟨r_368, rfl, Nq368, eq368⟩ := hQ368
      have N369 := Fr.app N341 Nq368
      have q371 := fun t (kt : Go p e below T368 (mkF m 85 #[vR a1, vI 4, vR b347, vI 1, vI 0, vJ w0, vS] [(.int ((x0 <<< ((6 : Int32) &&& 31)) + r_368)), (.int 0), (.ref b347)]) t) => q367 t (st368 t (by
        show Go _ _ _ _ (mkF m 84 #[vR a1, vI 4, vR b347, vI 1, vI 0, vJ w0, vS] [(.int r_368), (.int (x0 <<< ((6 : Int32) &&& 31))), (.int 0), (.ref b347)]) _
        refine XS.iadd X368.here hx rfl (hb hby d4_84) rfl ?_
        exact kt))
      obtain ⟨c370, Ar370, q370, S370, N370, H370, G370⟩ := id V347
      have hi370 : ¬ ((0 : Int32) < 0 ∨ c370.slots.size ≤ ((0 : Int32)).toNatClampNeg) := inb_of S370 ⟨by decide, by decide⟩
      obtain ⟨T372, h372, X372, e372, W372, st372⟩ := stI X368 hx hZ eq368 Ar370 (j := (0 : Int32)) hi370 (g := (mkF m 85 #[vR a1, vI 4, vR b347, vI 1, vI 0, vJ w0, vS] [(.int ((x0 <<< ((6 : Int32) &&& 31)) + r_368)), (.int 0), (.ref b347)])) rfl rfl (hb hby d4_85)
      have V372 : Arv Z h372 b347 k347 .int (4 : Int32) [(.int ((x0 <<< ((6 : Int32) &&& 31)) + r_368)), (.int 0), (.int 0), (.int 0)] (.int 0) := Arv.set Ar370 q370 S370 N370 H370 G370 rfl W372 0 rfl (Nat.le_of_ble_eq_true rfl)
      have N373 := Fr.snoc X372 N369 gg348
      have O374 := O350.wr W372 gg348
      have K375 := K351.wr W372 (Or.inr sz349)
      have q376 := fun t (kt : Go p e below T372 (mkF m 93 #[vR a1, vI 4, vR b347, vI 1, vI 0, vJ w0, vS] [(.long (w0 &&& (w0 - (1 : Int64))))]) t) => q371 t (st372 t (by
        show Go _ _ _ _ (mkF m 86 #[vR a1, vI 4, vR b347, vI 1, vI 0, vJ w0, vS] []) _
        refine XS.lload X372.here hx rfl (hb hby d4_86) rfl ?_
        show Go _ _ _ _ (mkF m 88 _ [(.long w0)]) _
        refine XS.lload X372.here hx rfl (hb hby d4_88) rfl ?_
        show Go _ _ _ _ (mkF m 90 _ [(.long w0), (.long w0)]) _
        refine XS.lconst X372.here hx rfl (hb hby d4_90) ?_
        show Go _ _ _ _ (mkF m 91 _ [(.long (1 : Int64)), (.long w0), (.long w0)]) _
        refine XS.lsub X372.here hx rfl (hb hby d4_91) rfl ?_
        show Go _ _ _ _ (mkF m 92 _ [(.long (w0 - (1 : Int64))), (.long w0)]) _
        refine XS.land X372.here hx rfl (hb hby d4_92) rfl ?_
        exact kt))
      have q377 := fun t (kt : Go p e below T372 (mkF m 93 #[vR a1, vI 4, vR b347, vI 1, vI 0, vJ w0, vS] [(.long (own_dr w0))]) t) => q376 t (by rw [(show (w0 &&& (w0 - (1 : Int64))) = own_dr w0 from rfl)]; exact kt)
      have ne378 : a1 ≠ b347 := (Nat.ne_of_lt (Nat.lt_of_lt_of_le G0.lt (Nat.le_of_eq g347.symm)))
      have f379 := (f361.other W372 (Or.inl ne378))
      have q380 := fun t (kt : Go p e below T372 (mkF m 70 #[vR a1, vI 4, vR b347, vI 2, vI 0, vJ (own_dr w0), vS] [(.ref a1), (.int 1), (.ref b347)]) t) => q377 t (by
        show Go _ _ _ _ (mkF m 93 #[vR a1, vI 4, vR b347, vI 1, vI 0, vJ w0, vS] [(.long (own_dr w0))]) _
        refine XS.lstore X372.here hx rfl (hb hby d4_93) rfl (l' := #[vR a1, vI 4, vR b347, vI 1, vI 0, vJ (own_dr w0), vS]) rfl ?_
        show Go _ _ _ _ (mkF m 95 #[vR a1, vI 4, vR b347, vI 1, vI 0, vJ (own_dr w0), vS] []) _
        refine XS.goto X372.here hx rfl (pc0 := 95) (pc' := 57) rfl (hb hby d4_95) (by decide) (by decide) ?_
        show Go _ _ _ _ (mkF m 57 _ []) _
        refine XS.lload X372.here hx rfl (hb hby d4_57) rfl ?_
        show Go _ _ _ _ (mkF m 59 _ [(.long (own_dr w0))]) _
        refine XS.lconst X372.here hx rfl (hb hby d4_59) ?_
        show Go _ _ _ _ (mkF m 60 _ [(.long (0 : Int64)), (.long (own_dr w0))]) _
        refine XS.lcmp X372.here hx rfl (hb hby d4_60) rfl ?_
        show Go _ _ _ _ (mkF m 61 _ [(.int (lcmpW (own_dr w0) (0 : Int64)))]) _
        refine XS.ifNo X372.here hx rfl (hb hby d4_61) rfl ((if0 _ _).trans (feq (fun z => t0_1 ((lw_eq _ _).mp z))).1) ?_
        show Go _ _ _ _ (mkF m 64 _ []) _
        refine XS.aloadN X372.here hx rfl (hb hby d4_64) rfl rfl ?_
        show Go _ _ _ _ (mkF m 65 _ [(.ref b347)]) _
        refine XS.iloadN X372.here hx rfl (hb hby d4_65) rfl ?_
        show Go _ _ _ _ (mkF m 66 _ [(.int 1), (.ref b347)]) _
        refine XS.iinc X372.here hx rfl (hb hby d4_66) rfl (l' := #[vR a1, vI 4, vR b347, vI 2, vI 0, vJ (own_dr w0), vS]) rfl ?_
        show Go _ _ _ _ (mkF m 69 #[vR a1, vI 4, vR b347, vI 2, vI 0, vJ (own_dr w0), vS] [(.int 1), (.ref b347)]) _
        refine XS.aloadN X372.here hx rfl (hb hby d4_69) rfl rfl ?_
        exact kt)
      obtain ⟨T381, X381, e381, st381⟩ := getF X372 hx hZ hown (host := "") (Or.inl (ox hw 11 rfl)) Via.refl e372 f379 (g := (mkF m 70 #[vR a1, vI 4, vR b347, vI 2, vI 0, vJ (own_dr w0), vS] [(.ref a1), (.int 1), (.ref b347)])) rfl rfl (hb hby d4_70)
      have ne382 : b ≠ b347 := (Nat.ne_of_lt (Nat.lt_of_lt_of_le G3.lt (Nat.le_of_eq g347.symm)))
      have f383 := (f364.other W372 ne382)
      have q385 := fun t (kt : Go p e below T381 (mkF m 75 #[vR a1, vI 4, vR b347, vI 2, vI 0, vJ (own_dr w0), vS] [(.int 0), (.ref b), (.int 1), (.ref b347)]) t) => q380 t (st381 t (by
        show Go _ _ _ _ (mkF m 73 #[vR a1, vI 4, vR b347, vI 2, vI 0, vJ (own_dr w0), vS] [(.ref b), (.int 1), (.ref b347)]) _
        refine XS.iload X381.here hx rfl (hb hby d4_73) rfl ?_
        exact kt))
      obtain ⟨c384, Ar384, -, S384, N384, H384, -⟩ := id f383
      have q386 := fun t (kt : Go p e below T381 (mkF m 81 #[vR a1, vI 4, vR b347, vI 2, vI 0, vJ (own_dr w0), vS] [(.long (own_dr w0)), (.int (x0 <<< ((6 : Int32) &&& 31))), (.int 1), (.ref b347)]) t) => q385 t (by
        show Go _ _ _ _ (mkF m 75 #[vR a1, vI 4, vR b347, vI 2, vI 0, vJ (own_dr w0), vS] [(.int 0), (.ref b), (.int 1), (.ref b347)]) _
        refine X381.iaload hx (j := (0 : Int32)) (v := (.int x0)) (by rw [e381]; exact Ar384.1) (State.isArrayOf_alike hZ.alike Ar384.2.1) Ar384.2.2 (inb_of S384 ⟨by decide, by decide⟩) (Has.at H384 (inb_of S384 ⟨by decide, by decide⟩) rfl) (g := (mkF m 75 #[vR a1, vI 4, vR b347, vI 2, vI 0, vJ (own_dr w0), vS] [(.int 0), (.ref b), (.int 1), (.ref b347)])) rfl rfl (hb hby d4_75) _ ?_
        show Go _ _ _ _ (mkF m 76 _ [(.int x0), (.int 1), (.ref b347)]) _
        refine XS.bipush X381.here hx rfl (hb hby d4_76) ?_
        show Go _ _ _ _ (mkF m 78 _ [(.int 6), (.int x0), (.int 1), (.ref b347)]) _
        refine XS.ishl X381.here hx rfl (hb hby d4_78) rfl ?_
        show Go _ _ _ _ (mkF m 79 _ [(.int (x0 <<< ((6 : Int32) &&& 31))), (.int 1), (.ref b347)]) _
        refine XS.lload X381.here hx rfl (hb hby d4_79) rfl ?_
        exact kt)
      obtain ⟨_, _, ⟨T387, L387, k387, n387⟩, -, X387, ⟨_, hQ387, l387, y387, z387⟩, st387⟩ := Jvm.LawKit.callS X381 hx (y := ym14) hown (ow hZ hw 78 rfl) (ow hZ hw 79 rfl) (ow hZ hw 73 rfl) (ow hZ hw 80 rfl) (by decide) (backOf (W := 3) (rm16 l Z a0 hw [] cx (own_dr w0) h372 n0 O374 ) hZ (ox hw 80 rfl) (ox hw 73 rfl) (by decide) (by decide)) (g := (mkF m 81 #[vR a1, vI 4, vR b347, vI 2, vI 0, vJ (own_dr w0), vS] [(.long (own_dr w0)), (.int (x0 <<< ((6 : Int32) &&& 31))), (.int 1), (.ref b347)])) rfl (by rw [hml]; rfl) (argsL := [(.long (own_dr w0))]) (rest := [(.int (x0 <<< ((6 : Int32) &&& 31))), (.int 1), (.ref b347)]) (lenOf pd_8 rfl) rfl own_le0 (hb hby d4_81) (fun _ _ => ⟨rfl, e381, (by decide : 1 + 0 ≤ _), (by decide : 4 + 0 ≤ _)⟩)
      dsimp only [Pt.U, Pt.locs, Pt.cells, Pt.slots] at X387 l387 y387 z387 st387 hQ387
      subst l387 y387 z387
      obtain ⟨r_387, rfl, Nq387, eq387⟩ := hQ387
      have N388 := Fr.app N373 Nq387
      have q390 := fun t (kt : Go p e below T387 (mkF m 85 #[vR a1, vI 4, vR b347, vI 2, vI 0, vJ (own_dr w0), vS] [(.int ((x0 <<< ((6 : Int32) &&& 31)) + r_387)), (.int 1), (.ref b347)]) t) => q386 t (st387 t (by
        show Go _ _ _ _ (mkF m 84 #[vR a1, vI 4, vR b347, vI 2, vI 0, vJ (own_dr w0), vS] [(.int r_387), (.int (x0 <<< ((6 : Int32) &&& 31))), (.int 1), (.ref b347)]) _
        refine XS.iadd X387.here hx rfl (hb hby d4_84) rfl ?_
        exact kt))
      obtain ⟨c389, Ar389, q389, S389, N389, H389, G389⟩ := id V372
      have hi389 : ¬ ((1 : Int32) < 0 ∨ c389.slots.size ≤ ((1 : Int32)).toNatClampNeg) := inb_of S389 ⟨by decide, by decide⟩
      obtain ⟨T391, h391, X391, e391, W391, st391⟩ := stI X387 hx hZ eq387 Ar389 (j := (1 : Int32)) hi389 (g := (mkF m 85 #[vR a1, vI 4, vR b347, vI 2, vI 0, vJ (own_dr w0), vS] [(.int ((x0 <<< ((6 : Int32) &&& 31)) + r_387)), (.int 1), (.ref b347)])) rfl rfl (hb hby d4_85)
      have V391 : Arv Z h391 b347 k347 .int (4 : Int32) [(.int ((x0 <<< ((6 : Int32) &&& 31)) + r_368)), (.int ((x0 <<< ((6 : Int32) &&& 31)) + r_387)), (.int 0), (.int 0)] (.int 0) := Arv.set Ar389 q389 S389 N389 H389 G389 rfl W391 1 rfl (Nat.le_of_ble_eq_true rfl)
      have N392 := Fr.snoc X391 N388 gg348
      have O393 := O374.wr W391 gg348
      have K394 := K375.wr W391 (Or.inr sz349)
      have q395 := fun t (kt : Go p e below T391 (mkF m 93 #[vR a1, vI 4, vR b347, vI 2, vI 0, vJ (own_dr w0), vS] [(.long ((own_dr w0) &&& ((own_dr w0) - (1 : Int64))))]) t) => q390 t (st391 t (by
        show Go _ _ _ _ (mkF m 86 #[vR a1, vI 4, vR b347, vI 2, vI 0, vJ (own_dr w0), vS] []) _
        refine XS.lload X391.here hx rfl (hb hby d4_86) rfl ?_
        show Go _ _ _ _ (mkF m 88 _ [(.long (own_dr w0))]) _
        refine XS.lload X391.here hx rfl (hb hby d4_88) rfl ?_
        show Go _ _ _ _ (mkF m 90 _ [(.long (own_dr w0)), (.long (own_dr w0))]) _
        refine XS.lconst X391.here hx rfl (hb hby d4_90) ?_
        show Go _ _ _ _ (mkF m 91 _ [(.long (1 : Int64)), (.long (own_dr w0)), (.long (own_dr w0))]) _
        refine XS.lsub X391.here hx rfl (hb hby d4_91) rfl ?_
        show Go _ _ _ _ (mkF m 92 _ [(.long ((own_dr w0) - (1 : Int64))), (.long (own_dr w0))]) _
        refine XS.land X391.here hx rfl (hb hby d4_92) rfl ?_
        exact kt))
      have q396 := fun t (kt : Go p e below T391 (mkF m 93 #[vR a1, vI 4, vR b347, vI 2, vI 0, vJ (own_dr w0), vS] [(.long (own_dr (own_dr w0)))]) t) => q395 t (by rw [(show ((own_dr w0) &&& ((own_dr w0) - (1 : Int64))) = own_dr (own_dr w0) from rfl)]; exact kt)
      have f397 := ((f352.other W372 (Or.inl ne378)).other W391 (Or.inl ne378))
      have q398 := fun t (kt : Go p e below T391 (mkF m 42 #[vR a1, vI 4, vR b347, vI 2, vI 1, vJ (own_dr (own_dr w0)), vS] [(.ref a1), (.int 1)]) t) => q396 t (by
        show Go _ _ _ _ (mkF m 93 #[vR a1, vI 4, vR b347, vI 2, vI 0, vJ (own_dr w0), vS] [(.long (own_dr (own_dr w0)))]) _
        refine XS.lstore X391.here hx rfl (hb hby d4_93) rfl (l' := #[vR a1, vI 4, vR b347, vI 2, vI 0, vJ (own_dr (own_dr w0)), vS]) rfl ?_
        show Go _ _ _ _ (mkF m 95 #[vR a1, vI 4, vR b347, vI 2, vI 0, vJ (own_dr (own_dr w0)), vS] []) _
        refine XS.goto X391.here hx rfl (pc0 := 95) (pc' := 57) rfl (hb hby d4_95) (by decide) (by decide) ?_
        show Go _ _ _ _ (mkF m 57 _ []) _
        refine XS.lload X391.here hx rfl (hb hby d4_57) rfl ?_
        show Go _ _ _ _ (mkF m 59 _ [(.long (own_dr (own_dr w0)))]) _
        refine XS.lconst X391.here hx rfl (hb hby d4_59) ?_
        show Go _ _ _ _ (mkF m 60 _ [(.long (0 : Int64)), (.long (own_dr (own_dr w0)))]) _
        refine XS.lcmp X391.here hx rfl (hb hby d4_60) rfl ?_
        show Go _ _ _ _ (mkF m 61 _ [(.int (lcmpW (own_dr (own_dr w0)) (0 : Int64)))]) _
        refine XS.ifYes X391.here hx rfl (pc0 := 61) (pc' := 98) rfl (hb hby d4_61) rfl ((if0 _ _).trans (teq ((lw_eq _ _).mpr t0_2)).1) (by decide) (by decide) ?_
        show Go _ _ _ _ (mkF m 98 _ []) _
        refine XS.iinc X391.here hx rfl (hb hby d4_98) rfl (l' := #[vR a1, vI 4, vR b347, vI 2, vI 1, vJ (own_dr (own_dr w0)), vS]) rfl ?_
        show Go _ _ _ _ (mkF m 101 #[vR a1, vI 4, vR b347, vI 2, vI 1, vJ (own_dr (own_dr w0)), vS] []) _
        refine XS.goto X391.here hx rfl (pc0 := 101) (pc' := 39) rfl (hb hby d4_101) (by decide) (by decide) ?_
        show Go _ _ _ _ (mkF m 39 _ []) _
        refine XS.iload X391.here hx rfl (hb hby d4_39) rfl ?_
        show Go _ _ _ _ (mkF m 41 _ [(.int 1)]) _
        refine XS.aloadN X391.here hx rfl (hb hby d4_41) rfl rfl ?_
        exact kt)
      obtain ⟨T399, X399, e399, st399⟩ := getF X391 hx hZ hown (host := "") (Or.inl (ox hw 22 rfl)) Via.refl e391 f397 (g := (mkF m 42 #[vR a1, vI 4, vR b347, vI 2, vI 1, vJ (own_dr (own_dr w0)), vS] [(.ref a1), (.int 1)])) rfl rfl (hb hby d4_42)
      have f400 := ((f355.other W372 (Or.inl ne378)).other W391 (Or.inl ne378))
      have q401 := fun t (kt : Go p e below T399 (mkF m 49 #[vR a1, vI 4, vR b347, vI 2, vI 1, vJ (own_dr (own_dr w0)), vS] [(.ref a1)]) t) => q398 t (st399 t (by
        show Go _ _ _ _ (mkF m 45 #[vR a1, vI 4, vR b347, vI 2, vI 1, vJ (own_dr (own_dr w0)), vS] [(.int 2), (.int 1)]) _
        refine XS.icmpNo X399.here hx rfl (hb hby d4_45) rfl (tlt (by decide : (1 : Int32) < (2 : Int32))).2.1 ?_
        show Go _ _ _ _ (mkF m 48 _ []) _
        refine XS.aloadN X399.here hx rfl (hb hby d4_48) rfl rfl ?_
        exact kt))
      obtain ⟨T402, X402, e402, st402⟩ := getF X399 hx hZ hown (host := "") (Or.inl (ox hw 15 rfl)) Via.refl e399 f400 (g := (mkF m 49 #[vR a1, vI 4, vR b347, vI 2, vI 1, vJ (own_dr (own_dr w0)), vS] [(.ref a1)])) rfl rfl (hb hby d4_49)
      have ne403 : ta ≠ b347 := (Nat.ne_of_lt (Nat.lt_of_lt_of_le G4.lt (Nat.le_of_eq g347.symm)))
      have f404 := ((f358.other W372 ne403).other W391 ne403)
      have q406 := fun t (kt : Go p e below T402 (mkF m 54 #[vR a1, vI 4, vR b347, vI 2, vI 1, vJ (own_dr (own_dr w0)), vS] [(.int 1), (.ref ta)]) t) => q401 t (st402 t (by
        show Go _ _ _ _ (mkF m 52 #[vR a1, vI 4, vR b347, vI 2, vI 1, vJ (own_dr (own_dr w0)), vS] [(.ref ta)]) _
        refine XS.iload X402.here hx rfl (hb hby d4_52) rfl ?_
        exact kt))
      obtain ⟨c405, Ar405, -, S405, N405, H405, -⟩ := id f404
      have f407 := (f379.other W391 (Or.inl ne378))
      have q408 := fun t (kt : Go p e below T402 (mkF m 70 #[vR a1, vI 4, vR b347, vI 3, vI 1, vJ w1, vS] [(.ref a1), (.int 2), (.ref b347)]) t) => q406 t (by
        show Go _ _ _ _ (mkF m 54 #[vR a1, vI 4, vR b347, vI 2, vI 1, vJ (own_dr (own_dr w0)), vS] [(.int 1), (.ref ta)]) _
        refine X402.laload hx (j := (1 : Int32)) (v := (.long w1)) (by rw [e402]; exact Ar405.1) (State.isArrayOf_alike hZ.alike Ar405.2.1) Ar405.2.2 (inb_of S405 ⟨by decide, by decide⟩) (Has.at H405 (inb_of S405 ⟨by decide, by decide⟩) rfl) (g := (mkF m 54 #[vR a1, vI 4, vR b347, vI 2, vI 1, vJ (own_dr (own_dr w0)), vS] [(.int 1), (.ref ta)])) rfl rfl (hb hby d4_54) _ ?_
        show Go _ _ _ _ (mkF m 55 _ [(.long w1)]) _
        refine XS.lstore X402.here hx rfl (hb hby d4_55) rfl (l' := #[vR a1, vI 4, vR b347, vI 2, vI 1, vJ w1, vS]) rfl ?_
        show Go _ _ _ _ (mkF m 57 #[vR a1, vI 4, vR b347, vI 2, vI 1, vJ w1, vS] []) _
        refine XS.lload X402.here hx rfl (hb hby d4_57) rfl ?_
        show Go _ _ _ _ (mkF m 59 _ [(.long w1)]) _
        refine XS.lconst X402.here hx rfl (hb hby d4_59) ?_
        show Go _ _ _ _ (mkF m 60 _ [(.long (0 : Int64)), (.long w1)]) _
        refine XS.lcmp X402.here hx rfl (hb hby d4_60) rfl ?_
        show Go _ _ _ _ (mkF m 61 _ [(.int (lcmpW w1 (0 : Int64)))]) _
        refine XS.ifNo X402.here hx rfl (hb hby d4_61) rfl ((if0 _ _).trans (feq (fun z => t1_0 ((lw_eq _ _).mp z))).1) ?_
        show Go _ _ _ _ (mkF m 64 _ []) _
        refine XS.aloadN X402.here hx rfl (hb hby d4_64) rfl rfl ?_
        show Go _ _ _ _ (mkF m 65 _ [(.ref b347)]) _
        refine XS.iloadN X402.here hx rfl (hb hby d4_65) rfl ?_
        show Go _ _ _ _ (mkF m 66 _ [(.int 2), (.ref b347)]) _
        refine XS.iinc X402.here hx rfl (hb hby d4_66) rfl (l' := #[vR a1, vI 4, vR b347, vI 3, vI 1, vJ w1, vS]) rfl ?_
        show Go _ _ _ _ (mkF m 69 #[vR a1, vI 4, vR b347, vI 3, vI 1, vJ w1, vS] [(.int 2), (.ref b347)]) _
        refine XS.aloadN X402.here hx rfl (hb hby d4_69) rfl rfl ?_
        exact kt)
      obtain ⟨T409, X409, e409, st409⟩ := getF X402 hx hZ hown (host := "") (Or.inl (ox hw 11 rfl)) Via.refl e402 f407 (g := (mkF m 70 #[vR a1, vI 4, vR b347, vI 3, vI 1, vJ w1, vS] [(.ref a1), (.int 2), (.ref b347)])) rfl rfl (hb hby d4_70)
      have f410 := (f383.other W391 ne382)
      have q412 := fun t (kt : Go p e below T409 (mkF m 75 #[vR a1, vI 4, vR b347, vI 3, vI 1, vJ w1, vS] [(.int 1), (.ref b), (.int 2), (.ref b347)]) t) => q408 t (st409 t (by
        show Go _ _ _ _ (mkF m 73 #[vR a1, vI 4, vR b347, vI 3, vI 1, vJ w1, vS] [(.ref b), (.int 2), (.ref b347)]) _
        refine XS.iload X409.here hx rfl (hb hby d4_73) rfl ?_
        exact kt))
      obtain ⟨c411, Ar411, -, S411, N411, H411, -⟩ := id f410
      have q413 := fun t (kt : Go p e below T409 (mkF m 81 #[vR a1, vI 4, vR b347, vI 3, vI 1, vJ w1, vS] [(.long w1), (.int (x1 <<< ((6 : Int32) &&& 31))), (.int 2), (.ref b347)]) t) => q412 t (by
        show Go _ _ _ _ (mkF m 75 #[vR a1, vI 4, vR b347, vI 3, vI 1, vJ w1, vS] [(.int 1), (.ref b), (.int 2), (.ref b347)]) _
        refine X409.iaload hx (j := (1 : Int32)) (v := (.int x1)) (by rw [e409]; exact Ar411.1) (State.isArrayOf_alike hZ.alike Ar411.2.1) Ar411.2.2 (inb_of S411 ⟨by decide, by decide⟩) (Has.at H411 (inb_of S411 ⟨by decide, by decide⟩) rfl) (g := (mkF m 75 #[vR a1, vI 4, vR b347, vI 3, vI 1, vJ w1, vS] [(.int 1), (.ref b), (.int 2), (.ref b347)])) rfl rfl (hb hby d4_75) _ ?_
        show Go _ _ _ _ (mkF m 76 _ [(.int x1), (.int 2), (.ref b347)]) _
        refine XS.bipush X409.here hx rfl (hb hby d4_76) ?_
        show Go _ _ _ _ (mkF m 78 _ [(.int 6), (.int x1), (.int 2), (.ref b347)]) _
        refine XS.ishl X409.here hx rfl (hb hby d4_78) rfl ?_
        show Go _ _ _ _ (mkF m 79 _ [(.int (x1 <<< ((6 : Int32) &&& 31))), (.int 2), (.ref b347)]) _
        refine XS.lload X409.here hx rfl (hb hby d4_79) rfl ?_
        exact kt)
      obtain ⟨_, _, ⟨T414, L414, k414, n414⟩, -, X414, ⟨_, hQ414, l414, y414, z414⟩, st414⟩ := Jvm.LawKit.callS X409 hx (y := ym14) hown (ow hZ hw 78 rfl) (ow hZ hw 79 rfl) (ow hZ hw 73 rfl) (ow hZ hw 80 rfl) (by decide) (backOf (W := 3) (rm16 l Z a0 hw [] cx w1 h391 n0 O393 ) hZ (ox hw 80 rfl) (ox hw 73 rfl) (by decide) (by decide)) (g := (mkF m 81 #[vR a1, vI 4, vR b347, vI 3, vI 1, vJ w1, vS] [(.long w1), (.int (x1 <<< ((6 : Int32) &&& 31))), (.int 2), (.ref b347)])) rfl (by rw [hml]; rfl) (argsL := [(.long w1)]) (rest := [(.int (x1 <<< ((6 : Int32) &&& 31))), (.int 2), (.ref b347)]) (lenOf pd_8 rfl) rfl own_le0 (hb hby d4_81) (fun _ _ => ⟨rfl, e409, (by decide : 1 + 0 ≤ _), (by decide : 4 + 0 ≤ _)⟩)
      dsimp only [Pt.U, Pt.locs, Pt.cells, Pt.slots] at X414 l414 y414 z414 st414 hQ414
      subst l414 y414 z414
      obtain ⟨r_414, rfl, Nq414, eq414⟩ := hQ414
      have N415 := Fr.app N392 Nq414
      have q417 := fun t (kt : Go p e below T414 (mkF m 85 #[vR a1, vI 4, vR b347, vI 3, vI 1, vJ w1, vS] [(.int ((x1 <<< ((6 : Int32) &&& 31)) + r_414)), (.int 2), (.ref b347)]) t) => q413 t (st414 t (by
        show Go _ _ _ _ (mkF m 84 #[vR a1, vI 4, vR b347, vI 3, vI 1, vJ w1, vS] [(.int r_414), (.int (x1 <<< ((6 : Int32) &&& 31))), (.int 2), (.ref b347)]) _
        refine XS.iadd X414.here hx rfl (hb hby d4_84) rfl ?_
        exact kt))
      obtain ⟨c416, Ar416, q416, S416, N416, H416, G416⟩ := id V391
      have hi416 : ¬ ((2 : Int32) < 0 ∨ c416.slots.size ≤ ((2 : Int32)).toNatClampNeg) := inb_of S416 ⟨by decide, by decide⟩
      obtain ⟨T418, h418, X418, e418, W418, st418⟩ := stI X414 hx hZ eq414 Ar416 (j := (2 : Int32)) hi416 (g := (mkF m 85 #[vR a1, vI 4, vR b347, vI 3, vI 1, vJ w1, vS] [(.int ((x1 <<< ((6 : Int32) &&& 31)) + r_414)), (.int 2), (.ref b347)])) rfl rfl (hb hby d4_85)
      have V418 : Arv Z h418 b347 k347 .int (4 : Int32) [(.int ((x0 <<< ((6 : Int32) &&& 31)) + r_368)), (.int ((x0 <<< ((6 : Int32) &&& 31)) + r_387)), (.int ((x1 <<< ((6 : Int32) &&& 31)) + r_414)), (.int 0)] (.int 0) := Arv.set Ar416 q416 S416 N416 H416 G416 rfl W418 2 rfl (Nat.le_of_ble_eq_true rfl)
      have N419 := Fr.snoc X418 N415 gg348
      have O420 := O393.wr W418 gg348
      have K421 := K394.wr W418 (Or.inr sz349)
      have q422 := fun t (kt : Go p e below T418 (mkF m 93 #[vR a1, vI 4, vR b347, vI 3, vI 1, vJ w1, vS] [(.long (w1 &&& (w1 - (1 : Int64))))]) t) => q417 t (st418 t (by
        show Go _ _ _ _ (mkF m 86 #[vR a1, vI 4, vR b347, vI 3, vI 1, vJ w1, vS] []) _
        refine XS.lload X418.here hx rfl (hb hby d4_86) rfl ?_
        show Go _ _ _ _ (mkF m 88 _ [(.long w1)]) _
        refine XS.lload X418.here hx rfl (hb hby d4_88) rfl ?_
        show Go _ _ _ _ (mkF m 90 _ [(.long w1), (.long w1)]) _
        refine XS.lconst X418.here hx rfl (hb hby d4_90) ?_
        show Go _ _ _ _ (mkF m 91 _ [(.long (1 : Int64)), (.long w1), (.long w1)]) _
        refine XS.lsub X418.here hx rfl (hb hby d4_91) rfl ?_
        show Go _ _ _ _ (mkF m 92 _ [(.long (w1 - (1 : Int64))), (.long w1)]) _
        refine XS.land X418.here hx rfl (hb hby d4_92) rfl ?_
        exact kt))
      have q423 := fun t (kt : Go p e below T418 (mkF m 93 #[vR a1, vI 4, vR b347, vI 3, vI 1, vJ w1, vS] [(.long (own_dr w1))]) t) => q422 t (by rw [(show (w1 &&& (w1 - (1 : Int64))) = own_dr w1 from rfl)]; exact kt)
      have f424 := (f407.other W418 (Or.inl ne378))
      have q425 := fun t (kt : Go p e below T418 (mkF m 70 #[vR a1, vI 4, vR b347, vI 4, vI 1, vJ (own_dr w1), vS] [(.ref a1), (.int 3), (.ref b347)]) t) => q423 t (by
        show Go _ _ _ _ (mkF m 93 #[vR a1, vI 4, vR b347, vI 3, vI 1, vJ w1, vS] [(.long (own_dr w1))]) _
        refine XS.lstore X418.here hx rfl (hb hby d4_93) rfl (l' := #[vR a1, vI 4, vR b347, vI 3, vI 1, vJ (own_dr w1), vS]) rfl ?_
        show Go _ _ _ _ (mkF m 95 #[vR a1, vI 4, vR b347, vI 3, vI 1, vJ (own_dr w1), vS] []) _
        refine XS.goto X418.here hx rfl (pc0 := 95) (pc' := 57) rfl (hb hby d4_95) (by decide) (by decide) ?_
        show Go _ _ _ _ (mkF m 57 _ []) _
        refine XS.lload X418.here hx rfl (hb hby d4_57) rfl ?_
        show Go _ _ _ _ (mkF m 59 _ [(.long (own_dr w1))]) _
        refine XS.lconst X418.here hx rfl (hb hby d4_59) ?_
        show Go _ _ _ _ (mkF m 60 _ [(.long (0 : Int64)), (.long (own_dr w1))]) _
        refine XS.lcmp X418.here hx rfl (hb hby d4_60) rfl ?_
        show Go _ _ _ _ (mkF m 61 _ [(.int (lcmpW (own_dr w1) (0 : Int64)))]) _
        refine XS.ifNo X418.here hx rfl (hb hby d4_61) rfl ((if0 _ _).trans (feq (fun z => t1_1 ((lw_eq _ _).mp z))).1) ?_
        show Go _ _ _ _ (mkF m 64 _ []) _
        refine XS.aloadN X418.here hx rfl (hb hby d4_64) rfl rfl ?_
        show Go _ _ _ _ (mkF m 65 _ [(.ref b347)]) _
        refine XS.iloadN X418.here hx rfl (hb hby d4_65) rfl ?_
        show Go _ _ _ _ (mkF m 66 _ [(.int 3), (.ref b347)]) _
        refine XS.iinc X418.here hx rfl (hb hby d4_66) rfl (l' := #[vR a1, vI 4, vR b347, vI 4, vI 1, vJ (own_dr w1), vS]) rfl ?_
        show Go _ _ _ _ (mkF m 69 #[vR a1, vI 4, vR b347, vI 4, vI 1, vJ (own_dr w1), vS] [(.int 3), (.ref b347)]) _
        refine XS.aloadN X418.here hx rfl (hb hby d4_69) rfl rfl ?_
        exact kt)
      obtain ⟨T426, X426, e426, st426⟩ := getF X418 hx hZ hown (host := "") (Or.inl (ox hw 11 rfl)) Via.refl e418 f424 (g := (mkF m 70 #[vR a1, vI 4, vR b347, vI 4, vI 1, vJ (own_dr w1), vS] [(.ref a1), (.int 3), (.ref b347)])) rfl rfl (hb hby d4_70)
      have f427 := (f410.other W418 ne382)
      have q429 := fun t (kt : Go p e below T426 (mkF m 75 #[vR a1, vI 4, vR b347, vI 4, vI 1, vJ (own_dr w1), vS] [(.int 1), (.ref b), (.int 3), (.ref b347)]) t) => q425 t (st426 t (by
        show Go _ _ _ _ (mkF m 73 #[vR a1, vI 4, vR b347, vI 4, vI 1, vJ (own_dr w1), vS] [(.ref b), (.int 3), (.ref b347)]) _
        refine XS.iload X426.here hx rfl (hb hby d4_73) rfl ?_
        exact kt))
      obtain ⟨c428, Ar428, -, S428, N428, H428, -⟩ := id f427
      have q430 := fun t (kt : Go p e below T426 (mkF m 81 #[vR a1, vI 4, vR b347, vI 4, vI 1, vJ (own_dr w1), vS] [(.long (own_dr w1)), (.int (x1 <<< ((6 : Int32) &&& 31))), (.int 3), (.ref b347)]) t) => q429 t (by
        show Go _ _ _ _ (mkF m 75 #[vR a1, vI 4, vR b347, vI 4, vI 1, vJ (own_dr w1), vS] [(.int 1), (.ref b), (.int 3), (.ref b347)]) _
        refine X426.iaload hx (j := (1 : Int32)) (v := (.int x1)) (by rw [e426]; exact Ar428.1) (State.isArrayOf_alike hZ.alike Ar428.2.1) Ar428.2.2 (inb_of S428 ⟨by decide, by decide⟩) (Has.at H428 (inb_of S428 ⟨by decide, by decide⟩) rfl) (g := (mkF m 75 #[vR a1, vI 4, vR b347, vI 4, vI 1, vJ (own_dr w1), vS] [(.int 1), (.ref b), (.int 3), (.ref b347)])) rfl rfl (hb hby d4_75) _ ?_
        show Go _ _ _ _ (mkF m 76 _ [(.int x1), (.int 3), (.ref b347)]) _
        refine XS.bipush X426.here hx rfl (hb hby d4_76) ?_
        show Go _ _ _ _ (mkF m 78 _ [(.int 6), (.int x1), (.int 3), (.ref b347)]) _
        refine XS.ishl X426.here hx rfl (hb hby d4_78) rfl ?_
        show Go _ _ _ _ (mkF m 79 _ [(.int (x1 <<< ((6 : Int32) &&& 31))), (.int 3), (.ref b347)]) _
        refine XS.lload X426.here hx rfl (hb hby d4_79) rfl ?_
        exact kt)
      obtain ⟨_, _, ⟨T431, L431, k431, n431⟩, -, X431, ⟨_, hQ431, l431, y431, z431⟩, st431⟩ := Jvm.LawKit.callS X426 hx (y := ym14) hown (ow hZ hw 78 rfl) (ow hZ hw 79 rfl) (ow hZ hw 73 rfl) (ow hZ hw 80 rfl) (by decide) (backOf (W := 3) (rm16 l Z a0 hw [] cx (own_dr w1) h418 n0 O420 ) hZ (ox hw 80 rfl) (ox hw 73 rfl) (by decide) (by decide)) (g := (mkF m 81 #[vR a1, vI 4, vR b347, vI 4, vI 1, vJ (own_dr w1), vS] [(.long (own_dr w1)), (.int (x1 <<< ((6 : Int32) &&& 31))), (.int 3), (.ref b347)])) rfl (by rw [hml]; rfl) (argsL := [(.long (own_dr w1))]) (rest := [(.int (x1 <<< ((6 : Int32) &&& 31))), (.int 3), (.ref b347)]) (lenOf pd_8 rfl) rfl own_le0 (hb hby d4_81) (fun _ _ => ⟨rfl, e426, (by decide : 1 + 0 ≤ _), (by decide : 4 + 0 ≤ _)⟩)
      dsimp only [Pt.U, Pt.locs, Pt.cells, Pt.slots] at X431 l431 y431 z431 st431 hQ431
      subst l431 y431 z431
      obtain ⟨r_431, rfl, Nq431, eq431⟩ := hQ431
      have N432 := Fr.app N419 Nq431
      have q434 := fun t (kt : Go p e below T431 (mkF m 85 #[vR a1, vI 4, vR b347, vI 4, vI 1, vJ (own_dr w1), vS] [(.int ((x1 <<< ((6 : Int32) &&& 31)) + r_431)), (.int 3), (.ref b347)]) t) => q430 t (st431 t (by
        show Go _ _ _ _ (mkF m 84 #[vR a1, vI 4, vR b347, vI 4, vI 1, vJ (own_dr w1), vS] [(.int r_431), (.int (x1 <<< ((6 : Int32) &&& 31))), (.int 3), (.ref b347)]) _
        refine XS.iadd X431.here hx rfl (hb hby d4_84) rfl ?_
        exact kt))
      obtain ⟨c433, Ar433, q433, S433, N433, H433, G433⟩ := id V418
      have hi433 : ¬ ((3 : Int32) < 0 ∨ c433.slots.size ≤ ((3 : Int32)).toNatClampNeg) := inb_of S433 ⟨by decide, by decide⟩
      obtain ⟨T435, h435, X435, e435, W435, st435⟩ := stI X431 hx hZ eq431 Ar433 (j := (3 : Int32)) hi433 (g := (mkF m 85 #[vR a1, vI 4, vR b347, vI 4, vI 1, vJ (own_dr w1), vS] [(.int ((x1 <<< ((6 : Int32) &&& 31)) + r_431)), (.int 3), (.ref b347)])) rfl rfl (hb hby d4_85)
      have V435 : Arv Z h435 b347 k347 .int (4 : Int32) [(.int ((x0 <<< ((6 : Int32) &&& 31)) + r_368)), (.int ((x0 <<< ((6 : Int32) &&& 31)) + r_387)), (.int ((x1 <<< ((6 : Int32) &&& 31)) + r_414)), (.int ((x1 <<< ((6 : Int32) &&& 31)) + r_431))] (.int 0) := Arv.set Ar433 q433 S433 N433 H433 G433 rfl W435 3 rfl (Nat.le_of_ble_eq_true rfl)
      have N436 := Fr.snoc X435 N432 gg348
      have O437 := O420.wr W435 gg348
      have K438 := K421.wr W435 (Or.inr sz349)
      have q439 := fun t (kt : Go p e below T435 (mkF m 93 #[vR a1, vI 4, vR b347, vI 4, vI 1, vJ (own_dr w1), vS] [(.long ((own_dr w1) &&& ((own_dr w1) - (1 : Int64))))]) t) => q434 t (st435 t (by
        show Go _ _ _ _ (mkF m 86 #[vR a1, vI 4, vR b347, vI 4, vI 1, vJ (own_dr w1), vS] []) _
        refine XS.lload X435.here hx rfl (hb hby d4_86) rfl ?_
        show Go _ _ _ _ (mkF m 88 _ [(.long (own_dr w1))]) _
        refine XS.lload X435.here hx rfl (hb hby d4_88) rfl ?_
        show Go _ _ _ _ (mkF m 90 _ [(.long (own_dr w1)), (.long (own_dr w1))]) _
        refine XS.lconst X435.here hx rfl (hb hby d4_90) ?_
        show Go _ _ _ _ (mkF m 91 _ [(.long (1 : Int64)), (.long (own_dr w1)), (.long (own_dr w1))]) _
        refine XS.lsub X435.here hx rfl (hb hby d4_91) rfl ?_
        show Go _ _ _ _ (mkF m 92 _ [(.long ((own_dr w1) - (1 : Int64))), (.long (own_dr w1))]) _
        refine XS.land X435.here hx rfl (hb hby d4_92) rfl ?_
        exact kt))
      have q440 := fun t (kt : Go p e below T435 (mkF m 93 #[vR a1, vI 4, vR b347, vI 4, vI 1, vJ (own_dr w1), vS] [(.long (own_dr (own_dr w1)))]) t) => q439 t (by rw [(show ((own_dr w1) &&& ((own_dr w1) - (1 : Int64))) = own_dr (own_dr w1) from rfl)]; exact kt)
      have f441 := ((f397.other W418 (Or.inl ne378)).other W435 (Or.inl ne378))
      have q442 := fun t (kt : Go p e below T435 (mkF m 42 #[vR a1, vI 4, vR b347, vI 4, vI 2, vJ (own_dr (own_dr w1)), vS] [(.ref a1), (.int 2)]) t) => q440 t (by
        show Go _ _ _ _ (mkF m 93 #[vR a1, vI 4, vR b347, vI 4, vI 1, vJ (own_dr w1), vS] [(.long (own_dr (own_dr w1)))]) _
        refine XS.lstore X435.here hx rfl (hb hby d4_93) rfl (l' := #[vR a1, vI 4, vR b347, vI 4, vI 1, vJ (own_dr (own_dr w1)), vS]) rfl ?_
        show Go _ _ _ _ (mkF m 95 #[vR a1, vI 4, vR b347, vI 4, vI 1, vJ (own_dr (own_dr w1)), vS] []) _
        refine XS.goto X435.here hx rfl (pc0 := 95) (pc' := 57) rfl (hb hby d4_95) (by decide) (by decide) ?_
        show Go _ _ _ _ (mkF m 57 _ []) _
        refine XS.lload X435.here hx rfl (hb hby d4_57) rfl ?_
        show Go _ _ _ _ (mkF m 59 _ [(.long (own_dr (own_dr w1)))]) _
        refine XS.lconst X435.here hx rfl (hb hby d4_59) ?_
        show Go _ _ _ _ (mkF m 60 _ [(.long (0 : Int64)), (.long (own_dr (own_dr w1)))]) _
        refine XS.lcmp X435.here hx rfl (hb hby d4_60) rfl ?_
        show Go _ _ _ _ (mkF m 61 _ [(.int (lcmpW (own_dr (own_dr w1)) (0 : Int64)))]) _
        refine XS.ifYes X435.here hx rfl (pc0 := 61) (pc' := 98) rfl (hb hby d4_61) rfl ((if0 _ _).trans (teq ((lw_eq _ _).mpr t1_2)).1) (by decide) (by decide) ?_
        show Go _ _ _ _ (mkF m 98 _ []) _
        refine XS.iinc X435.here hx rfl (hb hby d4_98) rfl (l' := #[vR a1, vI 4, vR b347, vI 4, vI 2, vJ (own_dr (own_dr w1)), vS]) rfl ?_
        show Go _ _ _ _ (mkF m 101 #[vR a1, vI 4, vR b347, vI 4, vI 2, vJ (own_dr (own_dr w1)), vS] []) _
        refine XS.goto X435.here hx rfl (pc0 := 101) (pc' := 39) rfl (hb hby d4_101) (by decide) (by decide) ?_
        show Go _ _ _ _ (mkF m 39 _ []) _
        refine XS.iload X435.here hx rfl (hb hby d4_39) rfl ?_
        show Go _ _ _ _ (mkF m 41 _ [(.int 2)]) _
        refine XS.aloadN X435.here hx rfl (hb hby d4_41) rfl rfl ?_
        exact kt)
      obtain ⟨T443, X443, e443, st443⟩ := getF X435 hx hZ hown (host := "") (Or.inl (ox hw 22 rfl)) Via.refl e435 f441 (g := (mkF m 42 #[vR a1, vI 4, vR b347, vI 4, vI 2, vJ (own_dr (own_dr w1)), vS] [(.ref a1), (.int 2)])) rfl rfl (hb hby d4_42)
      have q444 := fun t (kt : Go p e below T443 (mkF m 105 #[vR a1, vI 4, vR b347, vI 4, vI 2, vJ (own_dr (own_dr w1)), vS] [(.ref b347)]) t) => q442 t (st443 t (by
        show Go _ _ _ _ (mkF m 45 #[vR a1, vI 4, vR b347, vI 4, vI 2, vJ (own_dr (own_dr w1)), vS] [(.int 2), (.int 2)]) _
        refine XS.icmpYes X443.here hx rfl (pc0 := 45) (pc' := 104) rfl (hb hby d4_45) rfl (flt (by decide : ¬ ((2 : Int32) < (2 : Int32)))).2.1 (by decide) (by decide) ?_
        show Go _ _ _ _ (mkF m 104 _ []) _
        refine XS.aloadN X443.here hx rfl (hb hby d4_104) rfl rfl ?_
        exact kt))
      exact ⟨some (.ref b347), T443, _, _, _, _, X443, by decide, by decide, nofun, q444, fun fs hr => retOut X443 hx hret rfl (o4 ⟨rfl, rfl, rfl⟩) (hb hby d4_105) hr, by rw [e443]; exact ⟨b347, k347, (4 : Int32), [(.int ((x0 <<< ((6 : Int32) &&& 31)) + r_368)), (.int ((x0 <<< ((6 : Int32) &&& 31)) + r_387)), (.int ((x1 <<< ((6 : Int32) &&& 31)) + r_414)), (.int ((x1 <<< ((6 : Int32) &&& 31)) + r_431))], rfl, N436, K438, sz349, V435, (by decide)⟩⟩
def Q_rm4_3 (Z : State) (a1 : Addr) (b : Addr) (ta : Addr) (kb : ClassId) (kt : ClassId) (x0 : Int32) (x1 : Int32) (x2 : Int32) (x3 : Int32) (w0 : Int64) (w1 : Int64) (w2 : Int64) (w3 : Int64) (cw : Nat → Nat) (h0 : Heap) (n0 : Nat) (v : Option Value) (h : Heap) (L : List Loc) : Prop := ∃ (r : Addr) (kr : ClassId) (zr : Int32) (vr : List Value), v = some (.ref r) ∧ Fr n0 L ∧ Keep h0 h [] ∧ h0.size ≤ r ∧ Arv Z h r kr .int zr vr (.int 0) ∧ (¬ (zr = (0 : Int32)))
theorem rm4_3 (l : Launch) (Z : State) (a0 : Array Value) (hw : ∀ d ∈ tables_1, d.before a0 Z = true) (ws : List Jvm.Cond) {cw : Nat → Nat} (cx : Cx Z cw) (a1 : Addr) (b : Addr) (ta : Addr) (kb : ClassId) (kt : ClassId) (x0 : Int32) (x1 : Int32) (x2 : Int32) (x3 : Int32) (w0 : Int64) (w1 : Int64) (w2 : Int64) (w3 : Int64) (h0 : Heap) (n0 : Nat) (O0 : Old Z n0 h0) (G0 : Fld Z h0 a1 sk0 "blocks" "[I" (.ref b)) (G1 : Fld Z h0 a1 sk0 "words" "[J" (.ref ta)) (G2 : Fld Z h0 a1 sk0 "used" "I" (.int 3)) (G3 : Arv Z h0 b kb .int (4 : Int32) [(.int x0), (.int x1), (.int x2), (.int x3)] (.int 0)) (G4 : Arv Z h0 ta kt .long (4 : Int32) [(.long w0), (.long w1), (.long w2), (.long w3)] (.long (0 : Int64))) (hW0 : own_W 1 w0) (hW1 : own_W 1 w1) (hW2 : own_W 1 w2) :
    OwnMet l ym15 (Jvm.Cond.code ym15 prog_17_method_6_code 7 (some (.array .int)) :: ws) (own_R 2 1 3 31) #[(.ref a1)] Z h0 (Q_rm4_3 Z a1 b ta kb kt x0 x1 x2 x3 w0 w1 w2 w3 cw h0 n0) := by
  refine own_body (plainFor_of_name pn_4) hisR fun p e s m below meth c s₁ hx hby hml hown hnm hret hZ X0 e0 => ?_
  have N0 := Fr.nil n0
  have K0 : Keep h0 h0 [] := Keep.refl _ _
  have pre0 : ∀ t, Go p e below s₁ (mkF m 0 #[vR a1, vU, vU, vU, vU, vU, vU] []) t → Go p e below s₁ (entryFrame m #[(.ref a1)] 7) t := fun t k => castTop (ef_4_R m a1) k
  rcases own_T1 hW0 with ⟨t0_0, t0_1, t0_2⟩
  · skip
    rcases own_T1 hW1 with ⟨t1_0, t1_1, t1_2⟩
    · skip
      rcases own_T1 hW2 with ⟨t2_0, t2_1, t2_2⟩
      · skip
        have q21 := fun t (kt : Go p e below s₁ (mkF m 6 #[vR a1, vI 0, vI 0, vU, vU, vU, vU] [(.ref a1), (.int 0)]) t) => pre0 t (by
          show Go _ _ _ _ (mkF m 0 #[vR a1, vU, vU, vU, vU, vU, vU] []) _
          refine XS.iconst X0.here hx rfl (hb hby d4_0) ?_
          show Go _ _ _ _ (mkF m 1 _ [(.int 0)]) _
          refine XS.istoreN X0.here hx rfl (hb hby d4_1) rfl (l' := #[vR a1, vI 0, vU, vU, vU, vU, vU]) rfl ?_
          show Go _ _ _ _ (mkF m 2 #[vR a1, vI 0, vU, vU, vU, vU, vU] []) _
          refine XS.iconst X0.here hx rfl (hb hby d4_2) ?_
          show Go _ _ _ _ (mkF m 3 _ [(.int 0)]) _
          refine XS.istoreN X0.here hx rfl (hb hby d4_3) rfl (l' := #[vR a1, vI 0, vI 0, vU, vU, vU, vU]) rfl ?_
          show Go _ _ _ _ (mkF m 4 #[vR a1, vI 0, vI 0, vU, vU, vU, vU] []) _
          refine XS.iloadN X0.here hx rfl (hb hby d4_4) rfl ?_
          show Go _ _ _ _ (mkF m 5 _ [(.int 0)]) _
          refine XS.aloadN X0.here hx rfl (hb hby d4_5) rfl rfl ?_
          exact kt)
        obtain ⟨T22, X22, e22, st22⟩ := getF X0 hx hZ hown (host := "") (Or.inl (ox hw 22 rfl)) Via.refl e0 G2 (g := (mkF m 6 #[vR a1, vI 0, vI 0, vU, vU, vU, vU] [(.ref a1), (.int 0)])) rfl rfl (hb hby d4_6)
        have q23 := fun t (kt : Go p e below T22 (mkF m 14 #[vR a1, vI 0, vI 0, vU, vU, vU, vU] [(.ref a1), (.int 0)]) t) => q21 t (st22 t (by
          show Go _ _ _ _ (mkF m 9 #[vR a1, vI 0, vI 0, vU, vU, vU, vU] [(.int 3), (.int 0)]) _
          refine XS.icmpNo X22.here hx rfl (hb hby d4_9) rfl (tlt (by decide : (0 : Int32) < (3 : Int32))).2.1 ?_
          show Go _ _ _ _ (mkF m 12 _ []) _
          refine XS.iloadN X22.here hx rfl (hb hby d4_12) rfl ?_
          show Go _ _ _ _ (mkF m 13 _ [(.int 0)]) _
          refine XS.aloadN X22.here hx rfl (hb hby d4_13) rfl rfl ?_
          exact kt))
        obtain ⟨T24, X24, e24, st24⟩ := getF X22 hx hZ hown (host := "") (Or.inl (ox hw 15 rfl)) Via.refl e22 G1 (g := (mkF m 14 #[vR a1, vI 0, vI 0, vU, vU, vU, vU] [(.ref a1), (.int 0)])) rfl rfl (hb hby d4_14)
        have q26 := fun t (kt : Go p e below T24 (mkF m 18 #[vR a1, vI 0, vI 0, vU, vU, vU, vU] [(.int 0), (.ref ta), (.int 0)]) t) => q23 t (st24 t (by
          show Go _ _ _ _ (mkF m 17 #[vR a1, vI 0, vI 0, vU, vU, vU, vU] [(.ref ta), (.int 0)]) _
          refine XS.iloadN X24.here hx rfl (hb hby d4_17) rfl ?_
          exact kt))
        obtain ⟨c25, Ar25, -, S25, N25, H25, -⟩ := id G4
        have q27 := fun t (kt : Go p e below T24 (mkF m 19 #[vR a1, vI 0, vI 0, vU, vU, vU, vU] [(.long w0), (.int 0)]) t) => q26 t (by
          show Go _ _ _ _ (mkF m 18 #[vR a1, vI 0, vI 0, vU, vU, vU, vU] [(.int 0), (.ref ta), (.int 0)]) _
          refine X24.laload hx (j := (0 : Int32)) (v := (.long w0)) (by rw [e24]; exact Ar25.1) (State.isArrayOf_alike hZ.alike Ar25.2.1) Ar25.2.2 (inb_of S25 ⟨by decide, by decide⟩) (Has.at H25 (inb_of S25 ⟨by decide, by decide⟩) rfl) (g := (mkF m 18 #[vR a1, vI 0, vI 0, vU, vU, vU, vU] [(.int 0), (.ref ta), (.int 0)])) rfl rfl (hb hby d4_18) _ ?_
          exact kt)
        obtain ⟨_, _, ⟨T28, L28, k28, n28⟩, -, X28, ⟨_, hQ28, l28, y28, z28⟩, st28⟩ := Jvm.LawKit.callS X24 hx (y := ym12) hown (ow hZ hw 71 rfl) (ow hZ hw 72 rfl) (ow hZ hw 73 rfl) (ow hZ hw 74 rfl) (by decide) (backOf (W := 1) (rm15 l Z a0 hw [] cx w0 h0 n0 O0 ) hZ (ox hw 74 rfl) (ox hw 73 rfl) (by decide) (by decide)) (g := (mkF m 19 #[vR a1, vI 0, vI 0, vU, vU, vU, vU] [(.long w0), (.int 0)])) rfl (by rw [hml]; rfl) (argsL := [(.long w0)]) (rest := [(.int 0)]) (lenOf pd_8 rfl) rfl own_le0 (hb hby d4_19) (fun _ _ => ⟨rfl, e24, (by decide : 0 + 0 ≤ _), (by decide : 0 + 0 ≤ _)⟩)
        dsimp only [Pt.U, Pt.locs, Pt.cells, Pt.slots] at X28 l28 y28 z28 st28 hQ28
        subst l28 y28 z28
        obtain ⟨rfl, Nq28, eq28⟩ := hQ28
        have N29 := Fr.app N0 Nq28
        have q30 := fun t (kt : Go p e below T28 (mkF m 22 #[vR a1, vI 0, vI 0, vU, vU, vU, vU] [(.int (own_bc w0)), (.int 0)]) t) => q27 t (st28 t kt)
        have q31 := fun t (kt : Go p e below T28 (mkF m 22 #[vR a1, vI 0, vI 0, vU, vU, vU, vU] [(.int 1), (.int 0)]) t) => q30 t (by rw [t0_2]; exact kt)
        have q32 := fun t (kt : Go p e below T28 (mkF m 6 #[vR a1, vI 1, vI 1, vU, vU, vU, vU] [(.ref a1), (.int 1)]) t) => q31 t (by
          show Go _ _ _ _ (mkF m 22 #[vR a1, vI 0, vI 0, vU, vU, vU, vU] [(.int 1), (.int 0)]) _
          refine XS.iadd X28.here hx rfl (hb hby d4_22) rfl ?_
          show Go _ _ _ _ (mkF m 23 _ [(.int 1)]) _
          refine XS.istoreN X28.here hx rfl (hb hby d4_23) rfl (l' := #[vR a1, vI 1, vI 0, vU, vU, vU, vU]) rfl ?_
          show Go _ _ _ _ (mkF m 24 #[vR a1, vI 1, vI 0, vU, vU, vU, vU] []) _
          refine XS.iinc X28.here hx rfl (hb hby d4_24) rfl (l' := #[vR a1, vI 1, vI 1, vU, vU, vU, vU]) rfl ?_
          show Go _ _ _ _ (mkF m 27 #[vR a1, vI 1, vI 1, vU, vU, vU, vU] []) _
          refine XS.goto X28.here hx rfl (pc0 := 27) (pc' := 4) rfl (hb hby d4_27) (by decide) (by decide) ?_
          show Go _ _ _ _ (mkF m 4 _ []) _
          refine XS.iloadN X28.here hx rfl (hb hby d4_4) rfl ?_
          show Go _ _ _ _ (mkF m 5 _ [(.int 1)]) _
          refine XS.aloadN X28.here hx rfl (hb hby d4_5) rfl rfl ?_
          exact kt)
        obtain ⟨T33, X33, e33, st33⟩ := getF X28 hx hZ hown (host := "") (Or.inl (ox hw 22 rfl)) Via.refl eq28 G2 (g := (mkF m 6 #[vR a1, vI 1, vI 1, vU, vU, vU, vU] [(.ref a1), (.int 1)])) rfl rfl (hb hby d4_6)
        have q34 := fun t (kt : Go p e below T33 (mkF m 14 #[vR a1, vI 1, vI 1, vU, vU, vU, vU] [(.ref a1), (.int 1)]) t) => q32 t (st33 t (by
          show Go _ _ _ _ (mkF m 9 #[vR a1, vI 1, vI 1, vU, vU, vU, vU] [(.int 3), (.int 1)]) _
          refine XS.icmpNo X33.here hx rfl (hb hby d4_9) rfl (tlt (by decide : (1 : Int32) < (3 : Int32))).2.1 ?_
          show Go _ _ _ _ (mkF m 12 _ []) _
          refine XS.iloadN X33.here hx rfl (hb hby d4_12) rfl ?_
          show Go _ _ _ _ (mkF m 13 _ [(.int 1)]) _
          refine XS.aloadN X33.here hx rfl (hb hby d4_13) rfl rfl ?_
          exact kt))
        obtain ⟨T35, X35, e35, st35⟩ := getF X33 hx hZ hown (host := "") (Or.inl (ox hw 15 rfl)) Via.refl e33 G1 (g := (mkF m 14 #[vR a1, vI 1, vI 1, vU, vU, vU, vU] [(.ref a1), (.int 1)])) rfl rfl (hb hby d4_14)
        have q37 := fun t (kt : Go p e below T35 (mkF m 18 #[vR a1, vI 1, vI 1, vU, vU, vU, vU] [(.int 1), (.ref ta), (.int 1)]) t) => q34 t (st35 t (by
          show Go _ _ _ _ (mkF m 17 #[vR a1, vI 1, vI 1, vU, vU, vU, vU] [(.ref ta), (.int 1)]) _
          refine XS.iloadN X35.here hx rfl (hb hby d4_17) rfl ?_
          exact kt))
        obtain ⟨c36, Ar36, -, S36, N36, H36, -⟩ := id G4
        have q38 := fun t (kt : Go p e below T35 (mkF m 19 #[vR a1, vI 1, vI 1, vU, vU, vU, vU] [(.long w1), (.int 1)]) t) => q37 t (by
          show Go _ _ _ _ (mkF m 18 #[vR a1, vI 1, vI 1, vU, vU, vU, vU] [(.int 1), (.ref ta), (.int 1)]) _
          refine X35.laload hx (j := (1 : Int32)) (v := (.long w1)) (by rw [e35]; exact Ar36.1) (State.isArrayOf_alike hZ.alike Ar36.2.1) Ar36.2.2 (inb_of S36 ⟨by decide, by decide⟩) (Has.at H36 (inb_of S36 ⟨by decide, by decide⟩) rfl) (g := (mkF m 18 #[vR a1, vI 1, vI 1, vU, vU, vU, vU] [(.int 1), (.ref ta), (.int 1)])) rfl rfl (hb hby d4_18) _ ?_
          exact kt)
        obtain ⟨_, _, ⟨T39, L39, k39, n39⟩, -, X39, ⟨_, hQ39, l39, y39, z39⟩, st39⟩ := Jvm.LawKit.callS X35 hx (y := ym12) hown (ow hZ hw 71 rfl) (ow hZ hw 72 rfl) (ow hZ hw 73 rfl) (ow hZ hw 74 rfl) (by decide) (backOf (W := 1) (rm15 l Z a0 hw [] cx w1 h0 n0 O0 ) hZ (ox hw 74 rfl) (ox hw 73 rfl) (by decide) (by decide)) (g := (mkF m 19 #[vR a1, vI 1, vI 1, vU, vU, vU, vU] [(.long w1), (.int 1)])) rfl (by rw [hml]; rfl) (argsL := [(.long w1)]) (rest := [(.int 1)]) (lenOf pd_8 rfl) rfl own_le0 (hb hby d4_19) (fun _ _ => ⟨rfl, e35, (by decide : 0 + 0 ≤ _), (by decide : 0 + 0 ≤ _)⟩)
        dsimp only [Pt.U, Pt.locs, Pt.cells, Pt.slots] at X39 l39 y39 z39 st39 hQ39
        subst l39 y39 z39
        obtain ⟨rfl, Nq39, eq39⟩ := hQ39
        have N40 := Fr.app N29 Nq39
        have q41 := fun t (kt : Go p e below T39 (mkF m 22 #[vR a1, vI 1, vI 1, vU, vU, vU, vU] [(.int (own_bc w1)), (.int 1)]) t) => q38 t (st39 t kt)
        have q42 := fun t (kt : Go p e below T39 (mkF m 22 #[vR a1, vI 1, vI 1, vU, vU, vU, vU] [(.int 1), (.int 1)]) t) => q41 t (by rw [t1_2]; exact kt)
        have q43 := fun t (kt : Go p e below T39 (mkF m 6 #[vR a1, vI 2, vI 2, vU, vU, vU, vU] [(.ref a1), (.int 2)]) t) => q42 t (by
          show Go _ _ _ _ (mkF m 22 #[vR a1, vI 1, vI 1, vU, vU, vU, vU] [(.int 1), (.int 1)]) _
          refine XS.iadd X39.here hx rfl (hb hby d4_22) rfl ?_
          show Go _ _ _ _ (mkF m 23 _ [(.int 2)]) _
          refine XS.istoreN X39.here hx rfl (hb hby d4_23) rfl (l' := #[vR a1, vI 2, vI 1, vU, vU, vU, vU]) rfl ?_
          show Go _ _ _ _ (mkF m 24 #[vR a1, vI 2, vI 1, vU, vU, vU, vU] []) _
          refine XS.iinc X39.here hx rfl (hb hby d4_24) rfl (l' := #[vR a1, vI 2, vI 2, vU, vU, vU, vU]) rfl ?_
          show Go _ _ _ _ (mkF m 27 #[vR a1, vI 2, vI 2, vU, vU, vU, vU] []) _
          refine XS.goto X39.here hx rfl (pc0 := 27) (pc' := 4) rfl (hb hby d4_27) (by decide) (by decide) ?_
          show Go _ _ _ _ (mkF m 4 _ []) _
          refine XS.iloadN X39.here hx rfl (hb hby d4_4) rfl ?_
          show Go _ _ _ _ (mkF m 5 _ [(.int 2)]) _
          refine XS.aloadN X39.here hx rfl (hb hby d4_5) rfl rfl ?_
          exact kt)
        obtain ⟨T44, X44, e44, st44⟩ := getF X39 hx hZ hown (host := "") (Or.inl (ox hw 22 rfl)) Via.refl eq39 G2 (g := (mkF m 6 #[vR a1, vI 2, vI 2, vU, vU, vU, vU] [(.ref a1), (.int 2)])) rfl rfl (hb hby d4_6)
        have q45 := fun t (kt : Go p e below T44 (mkF m 14 #[vR a1, vI 2, vI 2, vU, vU, vU, vU] [(.ref a1), (.int 2)]) t) => q43 t (st44 t (by
          show Go _ _ _ _ (mkF m 9 #[vR a1, vI 2, vI 2, vU, vU, vU, vU] [(.int 3), (.int 2)]) _
          refine XS.icmpNo X44.here hx rfl (hb hby d4_9) rfl (tlt (by decide : (2 : Int32) < (3 : Int32))).2.1 ?_
          show Go _ _ _ _ (mkF m 12 _ []) _
          refine XS.iloadN X44.here hx rfl (hb hby d4_12) rfl ?_
          show Go _ _ _ _ (mkF m 13 _ [(.int 2)]) _
          refine XS.aloadN X44.here hx rfl (hb hby d4_13) rfl rfl ?_
          exact kt))
        obtain ⟨T46, X46, e46, st46⟩ := getF X44 hx hZ hown (host := "") (Or.inl (ox hw 15 rfl)) Via.refl e44 G1 (g := (mkF m 14 #[vR a1, vI 2, vI 2, vU, vU, vU, vU] [(.ref a1), (.int 2)])) rfl rfl (hb hby d4_14)
        have q48 := fun t (kt : Go p e below T46 (mkF m 18 #[vR a1, vI 2, vI 2, vU, vU, vU, vU] [(.int 2), (.ref ta), (.int 2)]) t) => q45 t (st46 t (by
          show Go _ _ _ _ (mkF m 17 #[vR a1, vI 2, vI 2, vU, vU, vU, vU] [(.ref ta), (.int 2)]) _
          refine XS.iloadN X46.here hx rfl (hb hby d4_17) rfl ?_
          exact kt))
        obtain ⟨c47, Ar47, -, S47, N47, H47, -⟩ := id G4
        have q49 := fun t (kt : Go p e below T46 (mkF m 19 #[vR a1, vI 2, vI 2, vU, vU, vU, vU] [(.long w2), (.int 2)]) t) => q48 t (by
          show Go _ _ _ _ (mkF m 18 #[vR a1, vI 2, vI 2, vU, vU, vU, vU] [(.int 2), (.ref ta), (.int 2)]) _
          refine X46.laload hx (j := (2 : Int32)) (v := (.long w2)) (by rw [e46]; exact Ar47.1) (State.isArrayOf_alike hZ.alike Ar47.2.1) Ar47.2.2 (inb_of S47 ⟨by decide, by decide⟩) (Has.at H47 (inb_of S47 ⟨by decide, by decide⟩) rfl) (g := (mkF m 18 #[vR a1, vI 2, vI 2, vU, vU, vU, vU] [(.int 2), (.ref ta), (.int 2)])) rfl rfl (hb hby d4_18) _ ?_
          exact kt)
        obtain ⟨_, _, ⟨T50, L50, k50, n50⟩, -, X50, ⟨_, hQ50, l50, y50, z50⟩, st50⟩ := Jvm.LawKit.callS X46 hx (y := ym12) hown (ow hZ hw 71 rfl) (ow hZ hw 72 rfl) (ow hZ hw 73 rfl) (ow hZ hw 74 rfl) (by decide) (backOf (W := 1) (rm15 l Z a0 hw [] cx w2 h0 n0 O0 ) hZ (ox hw 74 rfl) (ox hw 73 rfl) (by decide) (by decide)) (g := (mkF m 19 #[vR a1, vI 2, vI 2, vU, vU, vU, vU] [(.long w2), (.int 2)])) rfl (by rw [hml]; rfl) (argsL := [(.long w2)]) (rest := [(.int 2)]) (lenOf pd_8 rfl) rfl own_le0 (hb hby d4_19) (fun _ _ => ⟨rfl, e46, (by decide : 0 + 0 ≤ _), (by decide : 0 + 0 ≤ _)⟩)
        dsimp only [Pt.U, Pt.locs, Pt.cells, Pt.slots] at X50 l50 y50 z50 st50 hQ50
        subst l50 y50 z50
        obtain ⟨rfl, Nq50, eq50⟩ := hQ50
        have N51 := Fr.app N40 Nq50
        have q52 := fun t (kt : Go p e below T50 (mkF m 22 #[vR a1, vI 2, vI 2, vU, vU, vU, vU] [(.int (own_bc w2)), (.int 2)]) t) => q49 t (st50 t kt)
        have q53 := fun t (kt : Go p e below T50 (mkF m 22 #[vR a1, vI 2, vI 2, vU, vU, vU, vU] [(.int 1), (.int 2)]) t) => q52 t (by rw [t2_2]; exact kt)
        have q54 := fun t (kt : Go p e below T50 (mkF m 6 #[vR a1, vI 3, vI 3, vU, vU, vU, vU] [(.ref a1), (.int 3)]) t) => q53 t (by
          show Go _ _ _ _ (mkF m 22 #[vR a1, vI 2, vI 2, vU, vU, vU, vU] [(.int 1), (.int 2)]) _
          refine XS.iadd X50.here hx rfl (hb hby d4_22) rfl ?_
          show Go _ _ _ _ (mkF m 23 _ [(.int 3)]) _
          refine XS.istoreN X50.here hx rfl (hb hby d4_23) rfl (l' := #[vR a1, vI 3, vI 2, vU, vU, vU, vU]) rfl ?_
          show Go _ _ _ _ (mkF m 24 #[vR a1, vI 3, vI 2, vU, vU, vU, vU] []) _
          refine XS.iinc X50.here hx rfl (hb hby d4_24) rfl (l' := #[vR a1, vI 3, vI 3, vU, vU, vU, vU]) rfl ?_
          show Go _ _ _ _ (mkF m 27 #[vR a1, vI 3, vI 3, vU, vU, vU, vU] []) _
          refine XS.goto X50.here hx rfl (pc0 := 27) (pc' := 4) rfl (hb hby d4_27) (by decide) (by decide) ?_
          show Go _ _ _ _ (mkF m 4 _ []) _
          refine XS.iloadN X50.here hx rfl (hb hby d4_4) rfl ?_
          show Go _ _ _ _ (mkF m 5 _ [(.int 3)]) _
          refine XS.aloadN X50.here hx rfl (hb hby d4_5) rfl rfl ?_
          exact kt)
        obtain ⟨T55, X55, e55, st55⟩ := getF X50 hx hZ hown (host := "") (Or.inl (ox hw 22 rfl)) Via.refl eq50 G2 (g := (mkF m 6 #[vR a1, vI 3, vI 3, vU, vU, vU, vU] [(.ref a1), (.int 3)])) rfl rfl (hb hby d4_6)
        have q56 := fun t (kt : Go p e below T55 (mkF m 31 #[vR a1, vI 3, vI 3, vU, vU, vU, vU] [(.int 3)]) t) => q54 t (st55 t (by
          show Go _ _ _ _ (mkF m 9 #[vR a1, vI 3, vI 3, vU, vU, vU, vU] [(.int 3), (.int 3)]) _
          refine XS.icmpYes X55.here hx rfl (pc0 := 9) (pc' := 30) rfl (hb hby d4_9) rfl (flt (by decide : ¬ ((3 : Int32) < (3 : Int32)))).2.1 (by decide) (by decide) ?_
          show Go _ _ _ _ (mkF m 30 _ []) _
          refine XS.iloadN X55.here hx rfl (hb hby d4_30) rfl ?_
          exact kt))
        obtain ⟨T57, h57, k57, X57, e57, E57, A57, st57⟩ := newP X55 hx hZ (ox hw 29 rfl) e55 (g := (mkF m 31 #[vR a1, vI 3, vI 3, vU, vU, vU, vU] [(.int 3)])) rfl (hb hby d4_31) rfl (by decide) (cap := 3) (by decide) (by decide) (by decide) (by decide)
        obtain ⟨b57, g57⟩ : ∃ z, z = h0.size := ⟨_, rfl⟩
        rw [← g57] at A57 st57
        have gg58 : n0 ≤ b57 := Nat.le_trans (O0.1 ▸ O0.2.1) (Nat.le_of_eq g57.symm)
        have sz59 : h0.size ≤ b57 := Nat.le_trans K0.1 (Nat.le_of_eq g57.symm)
        have O60 := O0.ext E57
        have K61 := K0.ext E57
        have V57 : Arv Z h57 b57 k57 .int (3 : Int32) [(.int 0), (.int 0), (.int 0)] (.int 0) := (Arv.new A57 (by decide)).pad (pad_rep [] (.int 0) 3)
        have f62 := (G2.ext E57)
        have q63 := fun t (kt : Go p e below T57 (mkF m 42 #[vR a1, vI 3, vR b57, vI 0, vI 0, vU, vU] [(.ref a1), (.int 0)]) t) => q56 t (st57 t (by
          show Go _ _ _ _ (mkF m 33 #[vR a1, vI 3, vI 3, vU, vU, vU, vU] [(.ref b57)]) _
          refine XS.astoreN X57.here hx rfl (hb hby d4_33) rfl rfl (l' := #[vR a1, vI 3, vR b57, vU, vU, vU, vU]) rfl ?_
          show Go _ _ _ _ (mkF m 34 #[vR a1, vI 3, vR b57, vU, vU, vU, vU] []) _
          refine XS.iconst X57.here hx rfl (hb hby d4_34) ?_
          show Go _ _ _ _ (mkF m 35 _ [(.int 0)]) _
          refine XS.istoreN X57.here hx rfl (hb hby d4_35) rfl (l' := #[vR a1, vI 3, vR b57, vI 0, vU, vU, vU]) rfl ?_
          show Go _ _ _ _ (mkF m 36 #[vR a1, vI 3, vR b57, vI 0, vU, vU, vU] []) _
          refine XS.iconst X57.here hx rfl (hb hby d4_36) ?_
          show Go _ _ _ _ (mkF m 37 _ [(.int 0)]) _
          refine XS.istore X57.here hx rfl (hb hby d4_37) rfl (l' := #[vR a1, vI 3, vR b57, vI 0, vI 0, vU, vU]) rfl ?_
          show Go _ _ _ _ (mkF m 39 #[vR a1, vI 3, vR b57, vI 0, vI 0, vU, vU] []) _
          refine XS.iload X57.here hx rfl (hb hby d4_39) rfl ?_
          show Go _ _ _ _ (mkF m 41 _ [(.int 0)]) _
          refine XS.aloadN X57.here hx rfl (hb hby d4_41) rfl rfl ?_
          exact kt))
        obtain ⟨T64, X64, e64, st64⟩ := getF X57 hx hZ hown (host := "") (Or.inl (ox hw 22 rfl)) Via.refl e57 f62 (g := (mkF m 42 #[vR a1, vI 3, vR b57, vI 0, vI 0, vU, vU] [(.ref a1), (.int 0)])) rfl rfl (hb hby d4_42)
        have f65 := (G1.ext E57)
        have q66 := fun t (kt : Go p e below T64 (mkF m 49 #[vR a1, vI 3, vR b57, vI 0, vI 0, vU, vU] [(.ref a1)]) t) => q63 t (st64 t (by
          show Go _ _ _ _ (mkF m 45 #[vR a1, vI 3, vR b57, vI 0, vI 0, vU, vU] [(.int 3), (.int 0)]) _
          refine XS.icmpNo X64.here hx rfl (hb hby d4_45) rfl (tlt (by decide : (0 : Int32) < (3 : Int32))).2.1 ?_
          show Go _ _ _ _ (mkF m 48 _ []) _
          refine XS.aloadN X64.here hx rfl (hb hby d4_48) rfl rfl ?_
          exact kt))
        obtain ⟨T67, X67, e67, st67⟩ := getF X64 hx hZ hown (host := "") (Or.inl (ox hw 15 rfl)) Via.refl e64 f65 (g := (mkF m 49 #[vR a1, vI 3, vR b57, vI 0, vI 0, vU, vU] [(.ref a1)])) rfl rfl (hb hby d4_49)
        have f68 := (G4.ext E57)
        have q70 := fun t (kt : Go p e below T67 (mkF m 54 #[vR a1, vI 3, vR b57, vI 0, vI 0, vU, vU] [(.int 0), (.ref ta)]) t) => q66 t (st67 t (by
          show Go _ _ _ _ (mkF m 52 #[vR a1, vI 3, vR b57, vI 0, vI 0, vU, vU] [(.ref ta)]) _
          refine XS.iload X67.here hx rfl (hb hby d4_52) rfl ?_
          exact kt))
        obtain ⟨c69, Ar69, -, S69, N69, H69, -⟩ := id f68
        have f71 := (G0.ext E57)
        have q72 := fun t (kt : Go p e below T67 (mkF m 70 #[vR a1, vI 3, vR b57, vI 1, vI 0, vJ w0, vS] [(.ref a1), (.int 0), (.ref b57)]) t) => q70 t (by
          show Go _ _ _ _ (mkF m 54 #[vR a1, vI 3, vR b57, vI 0, vI 0, vU, vU] [(.int 0), (.ref ta)]) _
          refine X67.laload hx (j := (0 : Int32)) (v := (.long w0)) (by rw [e67]; exact Ar69.1) (State.isArrayOf_alike hZ.alike Ar69.2.1) Ar69.2.2 (inb_of S69 ⟨by decide, by decide⟩) (Has.at H69 (inb_of S69 ⟨by decide, by decide⟩) rfl) (g := (mkF m 54 #[vR a1, vI 3, vR b57, vI 0, vI 0, vU, vU] [(.int 0), (.ref ta)])) rfl rfl (hb hby d4_54) _ ?_
          show Go _ _ _ _ (mkF m 55 _ [(.long w0)]) _
          refine XS.lstore X67.here hx rfl (hb hby d4_55) rfl (l' := #[vR a1, vI 3, vR b57, vI 0, vI 0, vJ w0, vS]) rfl ?_
          show Go _ _ _ _ (mkF m 57 #[vR a1, vI 3, vR b57, vI 0, vI 0, vJ w0, vS] []) _
          refine XS.lload X67.here hx rfl (hb hby d4_57) rfl ?_
          show Go _ _ _ _ (mkF m 59 _ [(.long w0)]) _
          refine XS.lconst X67.here hx rfl (hb hby d4_59) ?_
          show Go _ _ _ _ (mkF m 60 _ [(.long (0 : Int64)), (.long w0)]) _
          refine XS.lcmp X67.here hx rfl (hb hby d4_60) rfl ?_
          show Go _ _ _ _ (mkF m 61 _ [(.int (lcmpW w0 (0 : Int64)))]) _
          refine XS.ifNo X67.here hx rfl (hb hby d4_61) rfl ((if0 _ _).trans (feq (fun z => t0_0 ((lw_eq _ _).mp z))).1) ?_
          show Go _ _ _ _ (mkF m 64 _ []) _
          refine XS.aloadN X67.here hx rfl (hb hby d4_64) rfl rfl ?_
          show Go _ _ _ _ (mkF m 65 _ [(.ref b57)]) _
          refine XS.iloadN X67.here hx rfl (hb hby d4_65) rfl ?_
          show Go _ _ _ _ (mkF m 66 _ [(.int 0), (.ref b57)]) _
          refine XS.iinc X67.here hx rfl (hb hby d4_66) rfl (l' := #[vR a1, vI 3, vR b57, vI 1, vI 0, vJ w0, vS]) rfl ?_
          show Go _ _ _ _ (mkF m 69 #[vR a1, vI 3, vR b57, vI 1, vI 0, vJ w0, vS] [(.int 0), (.ref b57)]) _
          refine XS.aloadN X67.here hx rfl (hb hby d4_69) rfl rfl ?_
          exact kt)
        obtain ⟨T73, X73, e73, st73⟩ := getF X67 hx hZ hown (host := "") (Or.inl (ox hw 11 rfl)) Via.refl e67 f71 (g := (mkF m 70 #[vR a1, vI 3, vR b57, vI 1, vI 0, vJ w0, vS] [(.ref a1), (.int 0), (.ref b57)])) rfl rfl (hb hby d4_70)
        have f74 := (G3.ext E57)
        have q76 := fun t (kt : Go p e below T73 (mkF m 75 #[vR a1, vI 3, vR b57, vI 1, vI 0, vJ w0, vS] [(.int 0), (.ref b), (.int 0), (.ref b57)]) t) => q72 t (st73 t (by
          show Go _ _ _ _ (mkF m 73 #[vR a1, vI 3, vR b57, vI 1, vI 0, vJ w0, vS] [(.ref b), (.int 0), (.ref b57)]) _
          refine XS.iload X73.here hx rfl (hb hby d4_73) rfl ?_
          exact kt))
        obtain ⟨c75, Ar75, -, S75, N75, H75, -⟩ := id f74
        have q77 := fun t (kt : Go p e below T73 (mkF m 81 #[vR a1, vI 3, vR b57, vI 1, vI 0, vJ w0, vS] [(.long w0), (.int (x0 <<< ((6 : Int32) &&& 31))), (.int 0), (.ref b57)]) t) => q76 t (by
          show Go _ _ _ _ (mkF m 75 #[vR a1, vI 3, vR b57, vI 1, vI 0, vJ w0, vS] [(.int 0), (.ref b), (.int 0), (.ref b57)]) _
          refine X73.iaload hx (j := (0 : Int32)) (v := (.int x0)) (by rw [e73]; exact Ar75.1) (State.isArrayOf_alike hZ.alike Ar75.2.1) Ar75.2.2 (inb_of S75 ⟨by decide, by decide⟩) (Has.at H75 (inb_of S75 ⟨by decide, by decide⟩) rfl) (g := (mkF m 75 #[vR a1, vI 3, vR b57, vI 1, vI 0, vJ w0, vS] [(.int 0), (.ref b), (.int 0), (.ref b57)])) rfl rfl (hb hby d4_75) _ ?_
          show Go _ _ _ _ (mkF m 76 _ [(.int x0), (.int 0), (.ref b57)]) _
          refine XS.bipush X73.here hx rfl (hb hby d4_76) ?_
          show Go _ _ _ _ (mkF m 78 _ [(.int 6), (.int x0), (.int 0), (.ref b57)]) _
          refine XS.ishl X73.here hx rfl (hb hby d4_78) rfl ?_
          show Go _ _ _ _ (mkF m 79 _ [(.int (x0 <<< ((6 : Int32) &&& 31))), (.int 0), (.ref b57)]) _
          refine XS.lload X73.here hx rfl (hb hby d4_79) rfl ?_
          exact kt)
        obtain ⟨_, _, ⟨T78, L78, k78, n78⟩, -, X78, ⟨_, hQ78, l78, y78, z78⟩, st78⟩ := Jvm.LawKit.callS X73 hx (y := ym14) hown (ow hZ hw 78 rfl) (ow hZ hw 79 rfl) (ow hZ hw 73 rfl) (ow hZ hw 80 rfl) (by decide) (backOf (W := 3) (rm16 l Z a0 hw [] cx w0 h57 n0 O60 ) hZ (ox hw 80 rfl) (ox hw 73 rfl) (by decide) (by decide)) (g := (mkF m 81 #[vR a1, vI 3, vR b57, vI 1, vI 0, vJ w0, vS] [(.long w0), (.int (x0 <<< ((6 : Int32) &&& 31))), (.int 0), (.ref b57)])) rfl (by rw [hml]; rfl) (argsL := [(.long w0)]) (rest := [(.int (x0 <<< ((6 : Int32) &&& 31))), (.int 0), (.ref b57)]) (lenOf pd_8 rfl) rfl own_le0 (hb hby d4_81) (fun _ _ => ⟨rfl, e73, (by decide : 1 + 0 ≤ _), (by decide : 3 + 0 ≤ _)⟩)
        dsimp only [Pt.U, Pt.locs, Pt.cells, Pt.slots] at X78 l78 y78 z78 st78 hQ78
        subst l78 y78 z78
        obtain ⟨r_78, rfl, Nq78, eq78⟩ := hQ78
        have N79 := Fr.app N51 Nq78
        have q81 := fun t (kt : Go p e below T78 (mkF m 85 #[vR a1, vI 3, vR b57, vI 1, vI 0, vJ w0, vS] [(.int ((x0 <<< ((6 : Int32) &&& 31)) + r_78)), (.int 0), (.ref b57)]) t) => q77 t (st78 t (by
          show Go _ _ _ _ (mkF m 84 #[vR a1, vI 3, vR b57, vI 1, vI 0, vJ w0, vS] [(.int r_78), (.int (x0 <<< ((6 : Int32) &&& 31))), (.int 0), (.ref b57)]) _
          refine XS.iadd X78.here hx rfl (hb hby d4_84) rfl ?_
          exact kt))
        obtain ⟨c80, Ar80, q80, S80, N80, H80, G80⟩ := id V57
        have hi80 : ¬ ((0 : Int32) < 0 ∨ c80.slots.size ≤ ((0 : Int32)).toNatClampNeg) := inb_of S80 ⟨by decide, by decide⟩
        obtain ⟨T82, h82, X82, e82, W82, st82⟩ := stI X78 hx hZ eq78 Ar80 (j := (0 : Int32)) hi80 (g := (mkF m 85 #[vR a1, vI 3, vR b57, vI 1, vI 0, vJ w0, vS] [(.int ((x0 <<< ((6 : Int32) &&& 31)) + r_78)), (.int 0), (.ref b57)])) rfl rfl (hb hby d4_85)
        have V82 : Arv Z h82 b57 k57 .int (3 : Int32) [(.int ((x0 <<< ((6 : Int32) &&& 31)) + r_78)), (.int 0), (.int 0)] (.int 0) := Arv.set Ar80 q80 S80 N80 H80 G80 rfl W82 0 rfl (Nat.le_of_ble_eq_true rfl)
        have N83 := Fr.snoc X82 N79 gg58
        have O84 := O60.wr W82 gg58
        have K85 := K61.wr W82 (Or.inr sz59)
        have q86 := fun t (kt : Go p e below T82 (mkF m 93 #[vR a1, vI 3, vR b57, vI 1, vI 0, vJ w0, vS] [(.long (w0 &&& (w0 - (1 : Int64))))]) t) => q81 t (st82 t (by
          show Go _ _ _ _ (mkF m 86 #[vR a1, vI 3, vR b57, vI 1, vI 0, vJ w0, vS] []) _
          refine XS.lload X82.here hx rfl (hb hby d4_86) rfl ?_
          show Go _ _ _ _ (mkF m 88 _ [(.long w0)]) _
          refine XS.lload X82.here hx rfl (hb hby d4_88) rfl ?_
          show Go _ _ _ _ (mkF m 90 _ [(.long w0), (.long w0)]) _
          refine XS.lconst X82.here hx rfl (hb hby d4_90) ?_
          show Go _ _ _ _ (mkF m 91 _ [(.long (1 : Int64)), (.long w0), (.long w0)]) _
          refine XS.lsub X82.here hx rfl (hb hby d4_91) rfl ?_
          show Go _ _ _ _ (mkF m 92 _ [(.long (w0 - (1 : Int64))), (.long w0)]) _
          refine XS.land X82.here hx rfl (hb hby d4_92) rfl ?_
          exact kt))
        have q87 := fun t (kt : Go p e below T82 (mkF m 93 #[vR a1, vI 3, vR b57, vI 1, vI 0, vJ w0, vS] [(.long (own_dr w0))]) t) => q86 t (by rw [(show (w0 &&& (w0 - (1 : Int64))) = own_dr w0 from rfl)]; exact kt)
        have ne88 : a1 ≠ b57 := (Nat.ne_of_lt (Nat.lt_of_lt_of_le G0.lt (Nat.le_of_eq g57.symm)))
        have f89 := (f62.other W82 (Or.inl ne88))
        have q90 := fun t (kt : Go p e below T82 (mkF m 42 #[vR a1, vI 3, vR b57, vI 1, vI 1, vJ (own_dr w0), vS] [(.ref a1), (.int 1)]) t) => q87 t (by
          show Go _ _ _ _ (mkF m 93 #[vR a1, vI 3, vR b57, vI 1, vI 0, vJ w0, vS] [(.long (own_dr w0))]) _
          refine XS.lstore X82.here hx rfl (hb hby d4_93) rfl (l' := #[vR a1, vI 3, vR b57, vI 1, vI 0, vJ (own_dr w0), vS]) rfl ?_
          show Go _ _ _ _ (mkF m 95 #[vR a1, vI 3, vR b57, vI 1, vI 0, vJ (own_dr w0), vS] []) _
          refine XS.goto X82.here hx rfl (pc0 := 95) (pc' := 57) rfl (hb hby d4_95) (by decide) (by decide) ?_
          show Go _ _ _ _ (mkF m 57 _ []) _
          refine XS.lload X82.here hx rfl (hb hby d4_57) rfl ?_
          show Go _ _ _ _ (mkF m 59 _ [(.long (own_dr w0))]) _
          refine XS.lconst X82.here hx rfl (hb hby d4_59) ?_
          show Go _ _ _ _ (mkF m 60 _ [(.long (0 : Int64)), (.long (own_dr w0))]) _
          refine XS.lcmp X82.here hx rfl (hb hby d4_60) rfl ?_
          show Go _ _ _ _ (mkF m 61 _ [(.int (lcmpW (own_dr w0) (0 : Int64)))]) _
          refine XS.ifYes X82.here hx rfl (pc0 := 61) (pc' := 98) rfl (hb hby d4_61) rfl ((if0 _ _).trans (teq ((lw_eq _ _).mpr t0_1)).1) (by decide) (by decide) ?_
          show Go _ _ _ _ (mkF m 98 _ []) _
          refine XS.iinc X82.here hx rfl (hb hby d4_98) rfl (l' := #[vR a1, vI 3, vR b57, vI 1, vI 1, vJ (own_dr w0), vS]) rfl ?_
          show Go _ _ _ _ (mkF m 101 #[vR a1, vI 3, vR b57, vI 1, vI 1, vJ (own_dr w0), vS] []) _
          refine XS.goto X82.here hx rfl (pc0 := 101) (pc' := 39) rfl (hb hby d4_101) (by decide) (by decide) ?_
          show Go _ _ _ _ (mkF m 39 _ []) _
          refine XS.iload X82.here hx rfl (hb hby d4_39) rfl ?_
          show Go _ _ _ _ (mkF m 41 _ [(.int 1)]) _
          refine XS.aloadN X82.here hx rfl (hb hby d4_41) rfl rfl ?_
          exact kt)
        obtain ⟨T91, X91, e91, st91⟩ := getF X82 hx hZ hown (host := "") (Or.inl (ox hw 22 rfl)) Via.refl e82 f89 (g := (mkF m 42 #[vR a1, vI 3, vR b57, vI 1, vI 1, vJ (own_dr w0), vS] [(.ref a1), (.int 1)])) rfl rfl (hb hby d4_42)
        have f92 := (f65.other W82 (Or.inl ne88))
        have q93 := fun t (kt : Go p e below T91 (mkF m 49 #[vR a1, vI 3, vR b57, vI 1, vI 1, vJ (own_dr w0), vS] [(.ref a1)]) t) => q90 t (st91 t (by
          show Go _ _ _ _ (mkF m 45 #[vR a1, vI 3, vR b57, vI 1, vI 1, vJ (own_dr w0), vS] [(.int 3), (.int 1)]) _
          refine XS.icmpNo X91.here hx rfl (hb hby d4_45) rfl (tlt (by decide : (1 : Int32) < (3 : Int32))).2.1 ?_
          show Go _ _ _ _ (mkF m 48 _ []) _
          refine XS.aloadN X91.here hx rfl (hb hby d4_48) rfl rfl ?_
          exact kt))
        obtain ⟨T94, X94, e94, st94⟩ := getF X91 hx hZ hown (host := "") (Or.inl (ox hw 15 rfl)) Via.refl e91 f92 (g := (mkF m 49 #[vR a1, vI 3, vR b57, vI 1, vI 1, vJ (own_dr w0), vS] [(.ref a1)])) rfl rfl (hb hby d4_49)
        have ne95 : ta ≠ b57 := (Nat.ne_of_lt (Nat.lt_of_lt_of_le G4.lt (Nat.le_of_eq g57.symm)))
        have f96 := (f68.other W82 ne95)
        have q98 := fun t (kt : Go p e below T94 (mkF m 54 #[vR a1, vI 3, vR b57, vI 1, vI 1, vJ (own_dr w0), vS] [(.int 1), (.ref ta)]) t) => q93 t (st94 t (by
          show Go _ _ _ _ (mkF m 52 #[vR a1, vI 3, vR b57, vI 1, vI 1, vJ (own_dr w0), vS] [(.ref ta)]) _
          refine XS.iload X94.here hx rfl (hb hby d4_52) rfl ?_
          exact kt))
        obtain ⟨c97, Ar97, -, S97, N97, H97, -⟩ := id f96
        have f99 := (f71.other W82 (Or.inl ne88))
        have q100 := fun t (kt : Go p e below T94 (mkF m 70 #[vR a1, vI 3, vR b57, vI 2, vI 1, vJ w1, vS] [(.ref a1), (.int 1), (.ref b57)]) t) => q98 t (by
          show Go _ _ _ _ (mkF m 54 #[vR a1, vI 3, vR b57, vI 1, vI 1, vJ (own_dr w0), vS] [(.int 1), (.ref ta)]) _
          refine X94.laload hx (j := (1 : Int32)) (v := (.long w1)) (by rw [e94]; exact Ar97.1) (State.isArrayOf_alike hZ.alike Ar97.2.1) Ar97.2.2 (inb_of S97 ⟨by decide, by decide⟩) (Has.at H97 (inb_of S97 ⟨by decide, by decide⟩) rfl) (g := (mkF m 54 #[vR a1, vI 3, vR b57, vI 1, vI 1, vJ (own_dr w0), vS] [(.int 1), (.ref ta)])) rfl rfl (hb hby d4_54) _ ?_
          show Go _ _ _ _ (mkF m 55 _ [(.long w1)]) _
          refine XS.lstore X94.here hx rfl (hb hby d4_55) rfl (l' := #[vR a1, vI 3, vR b57, vI 1, vI 1, vJ w1, vS]) rfl ?_
          show Go _ _ _ _ (mkF m 57 #[vR a1, vI 3, vR b57, vI 1, vI 1, vJ w1, vS] []) _
          refine XS.lload X94.here hx rfl (hb hby d4_57) rfl ?_
          show Go _ _ _ _ (mkF m 59 _ [(.long w1)]) _
          refine XS.lconst X94.here hx rfl (hb hby d4_59) ?_
          show Go _ _ _ _ (mkF m 60 _ [(.long (0 : Int64)), (.long w1)]) _
          refine XS.lcmp X94.here hx rfl (hb hby d4_60) rfl ?_
          show Go _ _ _ _ (mkF m 61 _ [(.int (lcmpW w1 (0 : Int64)))]) _
          refine XS.ifNo X94.here hx rfl (hb hby d4_61) rfl ((if0 _ _).trans (feq (fun z => t1_0 ((lw_eq _ _).mp z))).1) ?_
          show Go _ _ _ _ (mkF m 64 _ []) _
          refine XS.aloadN X94.here hx rfl (hb hby d4_64) rfl rfl ?_
          show Go _ _ _ _ (mkF m 65 _ [(.ref b57)]) _
          refine XS.iloadN X94.here hx rfl (hb hby d4_65) rfl ?_
          show Go _ _ _ _ (mkF m 66 _ [(.int 1), (.ref b57)]) _
          refine XS.iinc X94.here hx rfl (hb hby d4_66) rfl (l' := #[vR a1, vI 3, vR b57, vI 2, vI 1, vJ w1, vS]) rfl ?_
          show Go _ _ _ _ (mkF m 69 #[vR a1, vI 3, vR b57, vI 2, vI 1, vJ w1, vS] [(.int 1), (.ref b57)]) _
          refine XS.aloadN X94.here hx rfl (hb hby d4_69) rfl rfl ?_
          exact kt)
        obtain ⟨T101, X101, e101, st101⟩ := getF X94 hx hZ hown (host := "") (Or.inl (ox hw 11 rfl)) Via.refl e94 f99 (g := (mkF m 70 #[vR a1, vI 3, vR b57, vI 2, vI 1, vJ w1, vS] [(.ref a1), (.int 1), (.ref b57)])) rfl rfl (hb hby d4_70)
        have ne102 : b ≠ b57 := (Nat.ne_of_lt (Nat.lt_of_lt_of_le G3.lt (Nat.le_of_eq g57.symm)))
        have f103 := (f74.other W82 ne102)
        have q105 := fun t (kt : Go p e below T101 (mkF m 75 #[vR a1, vI 3, vR b57, vI 2, vI 1, vJ w1, vS] [(.int 1), (.ref b), (.int 1), (.ref b57)]) t) => q100 t (st101 t (by
          show Go _ _ _ _ (mkF m 73 #[vR a1, vI 3, vR b57, vI 2, vI 1, vJ w1, vS] [(.ref b), (.int 1), (.ref b57)]) _
          refine XS.iload X101.here hx rfl (hb hby d4_73) rfl ?_
          exact kt))
        obtain ⟨c104, Ar104, -, S104, N104, H104, -⟩ := id f103
        have q106 := fun t (kt : Go p e below T101 (mkF m 81 #[vR a1, vI 3, vR b57, vI 2, vI 1, vJ w1, vS] [(.long w1), (.int (x1 <<< ((6 : Int32) &&& 31))), (.int 1), (.ref b57)]) t) => q105 t (by
          show Go _ _ _ _ (mkF m 75 #[vR a1, vI 3, vR b57, vI 2, vI 1, vJ w1, vS] [(.int 1), (.ref b), (.int 1), (.ref b57)]) _
          refine X101.iaload hx (j := (1 : Int32)) (v := (.int x1)) (by rw [e101]; exact Ar104.1) (State.isArrayOf_alike hZ.alike Ar104.2.1) Ar104.2.2 (inb_of S104 ⟨by decide, by decide⟩) (Has.at H104 (inb_of S104 ⟨by decide, by decide⟩) rfl) (g := (mkF m 75 #[vR a1, vI 3, vR b57, vI 2, vI 1, vJ w1, vS] [(.int 1), (.ref b), (.int 1), (.ref b57)])) rfl rfl (hb hby d4_75) _ ?_
          show Go _ _ _ _ (mkF m 76 _ [(.int x1), (.int 1), (.ref b57)]) _
          refine XS.bipush X101.here hx rfl (hb hby d4_76) ?_
          show Go _ _ _ _ (mkF m 78 _ [(.int 6), (.int x1), (.int 1), (.ref b57)]) _
          refine XS.ishl X101.here hx rfl (hb hby d4_78) rfl ?_
          show Go _ _ _ _ (mkF m 79 _ [(.int (x1 <<< ((6 : Int32) &&& 31))), (.int 1), (.ref b57)]) _
          refine XS.lload X101.here hx rfl (hb hby d4_79) rfl ?_
          exact kt)
        obtain ⟨_, _, ⟨T107, L107, k107, n107⟩, -, X107, ⟨_, hQ107, l107, y107, z107⟩, st107⟩ := Jvm.LawKit.callS X101 hx (y := ym14) hown (ow hZ hw 78 rfl) (ow hZ hw 79 rfl) (ow hZ hw 73 rfl) (ow hZ hw 80 rfl) (by decide) (backOf (W := 3) (rm16 l Z a0 hw [] cx w1 h82 n0 O84 ) hZ (ox hw 80 rfl) (ox hw 73 rfl) (by decide) (by decide)) (g := (mkF m 81 #[vR a1, vI 3, vR b57, vI 2, vI 1, vJ w1, vS] [(.long w1), (.int (x1 <<< ((6 : Int32) &&& 31))), (.int 1), (.ref b57)])) rfl (by rw [hml]; rfl) (argsL := [(.long w1)]) (rest := [(.int (x1 <<< ((6 : Int32) &&& 31))), (.int 1), (.ref b57)]) (lenOf pd_8 rfl) rfl own_le0 (hb hby d4_81) (fun _ _ => ⟨rfl, e101, (by decide : 1 + 0 ≤ _), (by decide : 3 + 0 ≤ _)⟩)
        dsimp only [Pt.U, Pt.locs, Pt.cells, Pt.slots] at X107 l107 y107 z107 st107 hQ107
        subst l107 y107 z107
        obtain ⟨r_107, rfl, Nq107, eq107⟩ := hQ107
        have N108 := Fr.app N83 Nq107
        have q110 := fun t (kt : Go p e below T107 (mkF m 85 #[vR a1, vI 3, vR b57, vI 2, vI 1, vJ w1, vS] [(.int ((x1 <<< ((6 : Int32) &&& 31)) + r_107)), (.int 1), (.ref b57)]) t) => q106 t (st107 t (by
          show Go _ _ _ _ (mkF m 84 #[vR a1, vI 3, vR b57, vI 2, vI 1, vJ w1, vS] [(.int r_107), (.int (x1 <<< ((6 : Int32) &&& 31))), (.int 1), (.ref b57)]) _
          refine XS.iadd X107.here hx rfl (hb hby d4_84) rfl ?_
          exact kt))
        obtain ⟨c109, Ar109, q109, S109, N109, H109, G109⟩ := id V82
        have hi109 : ¬ ((1 : Int32) < 0 ∨ c109.slots.size ≤ ((1 : Int32)).toNatClampNeg) := inb_of S109 ⟨by decide, by decide⟩
        obtain ⟨T111, h111, X111, e111, W111, st111⟩ := stI X107 hx hZ eq107 Ar109 (j := (1 : Int32)) hi109 (g := (mkF m 85 #[vR a1, vI 3, vR b57, vI 2, vI 1, vJ w1, vS] [(.int ((x1 <<< ((6 : Int32) &&& 31)) + r_107)), (.int 1), (.ref b57)])) rfl rfl (hb hby d4_85)
        have V111 : Arv Z h111 b57 k57 .int (3 : Int32) [(.int ((x0 <<< ((6 : Int32) &&& 31)) + r_78)), (.int ((x1 <<< ((6 : Int32) &&& 31)) + r_107)), (.int 0)] (.int 0) := Arv.set Ar109 q109 S109 N109 H109 G109 rfl W111 1 rfl (Nat.le_of_ble_eq_true rfl)
        have N112 := Fr.snoc X111 N108 gg58
        have O113 := O84.wr W111 gg58
        have K114 := K85.wr W111 (Or.inr sz59)
        have q115 := fun t (kt : Go p e below T111 (mkF m 93 #[vR a1, vI 3, vR b57, vI 2, vI 1, vJ w1, vS] [(.long (w1 &&& (w1 - (1 : Int64))))]) t) => q110 t (st111 t (by
          show Go _ _ _ _ (mkF m 86 #[vR a1, vI 3, vR b57, vI 2, vI 1, vJ w1, vS] []) _
          refine XS.lload X111.here hx rfl (hb hby d4_86) rfl ?_
          show Go _ _ _ _ (mkF m 88 _ [(.long w1)]) _
          refine XS.lload X111.here hx rfl (hb hby d4_88) rfl ?_
          show Go _ _ _ _ (mkF m 90 _ [(.long w1), (.long w1)]) _
          refine XS.lconst X111.here hx rfl (hb hby d4_90) ?_
          show Go _ _ _ _ (mkF m 91 _ [(.long (1 : Int64)), (.long w1), (.long w1)]) _
          refine XS.lsub X111.here hx rfl (hb hby d4_91) rfl ?_
          show Go _ _ _ _ (mkF m 92 _ [(.long (w1 - (1 : Int64))), (.long w1)]) _
          refine XS.land X111.here hx rfl (hb hby d4_92) rfl ?_
          exact kt))
        have q116 := fun t (kt : Go p e below T111 (mkF m 93 #[vR a1, vI 3, vR b57, vI 2, vI 1, vJ w1, vS] [(.long (own_dr w1))]) t) => q115 t (by rw [(show (w1 &&& (w1 - (1 : Int64))) = own_dr w1 from rfl)]; exact kt)
        have f117 := (f89.other W111 (Or.inl ne88))
        have q118 := fun t (kt : Go p e below T111 (mkF m 42 #[vR a1, vI 3, vR b57, vI 2, vI 2, vJ (own_dr w1), vS] [(.ref a1), (.int 2)]) t) => q116 t (by
          show Go _ _ _ _ (mkF m 93 #[vR a1, vI 3, vR b57, vI 2, vI 1, vJ w1, vS] [(.long (own_dr w1))]) _
          refine XS.lstore X111.here hx rfl (hb hby d4_93) rfl (l' := #[vR a1, vI 3, vR b57, vI 2, vI 1, vJ (own_dr w1), vS]) rfl ?_
          show Go _ _ _ _ (mkF m 95 #[vR a1, vI 3, vR b57, vI 2, vI 1, vJ (own_dr w1), vS] []) _
          refine XS.goto X111.here hx rfl (pc0 := 95) (pc' := 57) rfl (hb hby d4_95) (by decide) (by decide) ?_
          show Go _ _ _ _ (mkF m 57 _ []) _
          refine XS.lload X111.here hx rfl (hb hby d4_57) rfl ?_
          show Go _ _ _ _ (mkF m 59 _ [(.long (own_dr w1))]) _
          refine XS.lconst X111.here hx rfl (hb hby d4_59) ?_
          show Go _ _ _ _ (mkF m 60 _ [(.long (0 : Int64)), (.long (own_dr w1))]) _
          refine XS.lcmp X111.here hx rfl (hb hby d4_60) rfl ?_
          show Go _ _ _ _ (mkF m 61 _ [(.int (lcmpW (own_dr w1) (0 : Int64)))]) _
          refine XS.ifYes X111.here hx rfl (pc0 := 61) (pc' := 98) rfl (hb hby d4_61) rfl ((if0 _ _).trans (teq ((lw_eq _ _).mpr t1_1)).1) (by decide) (by decide) ?_
          show Go _ _ _ _ (mkF m 98 _ []) _
          refine XS.iinc X111.here hx rfl (hb hby d4_98) rfl (l' := #[vR a1, vI 3, vR b57, vI 2, vI 2, vJ (own_dr w1), vS]) rfl ?_
          show Go _ _ _ _ (mkF m 101 #[vR a1, vI 3, vR b57, vI 2, vI 2, vJ (own_dr w1), vS] []) _
          refine XS.goto X111.here hx rfl (pc0 := 101) (pc' := 39) rfl (hb hby d4_101) (by decide) (by decide) ?_
          show Go _ _ _ _ (mkF m 39 _ []) _
          refine XS.iload X111.here hx rfl (hb hby d4_39) rfl ?_
          show Go _ _ _ _ (mkF m 41 _ [(.int 2)]) _
          refine XS.aloadN X111.here hx rfl (hb hby d4_41) rfl rfl ?_
          exact kt)
        obtain ⟨T119, X119, e119, st119⟩ := getF X111 hx hZ hown (host := "") (Or.inl (ox hw 22 rfl)) Via.refl e111 f117 (g := (mkF m 42 #[vR a1, vI 3, vR b57, vI 2, vI 2, vJ (own_dr w1), vS] [(.ref a1), (.int 2)])) rfl rfl (hb hby d4_42)
        have f120 := (f92.other W111 (Or.inl ne88))
        have q121 := fun t (kt : Go p e below T119 (mkF m 49 #[vR a1, vI 3, vR b57, vI 2, vI 2, vJ (own_dr w1), vS] [(.ref a1)]) t) => q118 t (st119 t (by
          show Go _ _ _ _ (mkF m 45 #[vR a1, vI 3, vR b57, vI 2, vI 2, vJ (own_dr w1), vS] [(.int 3), (.int 2)]) _
          refine XS.icmpNo X119.here hx rfl (hb hby d4_45) rfl (tlt (by decide : (2 : Int32) < (3 : Int32))).2.1 ?_
          show Go _ _ _ _ (mkF m 48 _ []) _
          refine XS.aloadN X119.here hx rfl (hb hby d4_48) rfl rfl ?_
          exact kt))
        obtain ⟨T122, X122, e122, st122⟩ := getF X119 hx hZ hown (host := "") (Or.inl (ox hw 15 rfl)) Via.refl e119 f120 (g := (mkF m 49 #[vR a1, vI 3, vR b57, vI 2, vI 2, vJ (own_dr w1), vS] [(.ref a1)])) rfl rfl (hb hby d4_49)
        have f123 := (f96.other W111 ne95)
        have q125 := fun t (kt : Go p e below T122 (mkF m 54 #[vR a1, vI 3, vR b57, vI 2, vI 2, vJ (own_dr w1), vS] [(.int 2), (.ref ta)]) t) => q121 t (st122 t (by
          show Go _ _ _ _ (mkF m 52 #[vR a1, vI 3, vR b57, vI 2, vI 2, vJ (own_dr w1), vS] [(.ref ta)]) _
          refine XS.iload X122.here hx rfl (hb hby d4_52) rfl ?_
          exact kt))
        obtain ⟨c124, Ar124, -, S124, N124, H124, -⟩ := id f123
        have f126 := (f99.other W111 (Or.inl ne88))
        have q127 := fun t (kt : Go p e below T122 (mkF m 70 #[vR a1, vI 3, vR b57, vI 3, vI 2, vJ w2, vS] [(.ref a1), (.int 2), (.ref b57)]) t) => q125 t (by
          show Go _ _ _ _ (mkF m 54 #[vR a1, vI 3, vR b57, vI 2, vI 2, vJ (own_dr w1), vS] [(.int 2), (.ref ta)]) _
          refine X122.laload hx (j := (2 : Int32)) (v := (.long w2)) (by rw [e122]; exact Ar124.1) (State.isArrayOf_alike hZ.alike Ar124.2.1) Ar124.2.2 (inb_of S124 ⟨by decide, by decide⟩) (Has.at H124 (inb_of S124 ⟨by decide, by decide⟩) rfl) (g := (mkF m 54 #[vR a1, vI 3, vR b57, vI 2, vI 2, vJ (own_dr w1), vS] [(.int 2), (.ref ta)])) rfl rfl (hb hby d4_54) _ ?_
          show Go _ _ _ _ (mkF m 55 _ [(.long w2)]) _
          refine XS.lstore X122.here hx rfl (hb hby d4_55) rfl (l' := #[vR a1, vI 3, vR b57, vI 2, vI 2, vJ w2, vS]) rfl ?_
          show Go _ _ _ _ (mkF m 57 #[vR a1, vI 3, vR b57, vI 2, vI 2, vJ w2, vS] []) _
          refine XS.lload X122.here hx rfl (hb hby d4_57) rfl ?_
          show Go _ _ _ _ (mkF m 59 _ [(.long w2)]) _
          refine XS.lconst X122.here hx rfl (hb hby d4_59) ?_
          show Go _ _ _ _ (mkF m 60 _ [(.long (0 : Int64)), (.long w2)]) _
          refine XS.lcmp X122.here hx rfl (hb hby d4_60) rfl ?_
          show Go _ _ _ _ (mkF m 61 _ [(.int (lcmpW w2 (0 : Int64)))]) _
          refine XS.ifNo X122.here hx rfl (hb hby d4_61) rfl ((if0 _ _).trans (feq (fun z => t2_0 ((lw_eq _ _).mp z))).1) ?_
          show Go _ _ _ _ (mkF m 64 _ []) _
          refine XS.aloadN X122.here hx rfl (hb hby d4_64) rfl rfl ?_
          show Go _ _ _ _ (mkF m 65 _ [(.ref b57)]) _
          refine XS.iloadN X122.here hx rfl (hb hby d4_65) rfl ?_
          show Go _ _ _ _ (mkF m 66 _ [(.int 2), (.ref b57)]) _
          refine XS.iinc X122.here hx rfl (hb hby d4_66) rfl (l' := #[vR a1, vI 3, vR b57, vI 3, vI 2, vJ w2, vS]) rfl ?_
          show Go _ _ _ _ (mkF m 69 #[vR a1, vI 3, vR b57, vI 3, vI 2, vJ w2, vS] [(.int 2), (.ref b57)]) _
          refine XS.aloadN X122.here hx rfl (hb hby d4_69) rfl rfl ?_
          exact kt)
        obtain ⟨T128, X128, e128, st128⟩ := getF X122 hx hZ hown (host := "") (Or.inl (ox hw 11 rfl)) Via.refl e122 f126 (g := (mkF m 70 #[vR a1, vI 3, vR b57, vI 3, vI 2, vJ w2, vS] [(.ref a1), (.int 2), (.ref b57)])) rfl rfl (hb hby d4_70)
        have f129 := (f103.other W111 ne102)
        have q131 := fun t (kt : Go p e below T128 (mkF m 75 #[vR a1, vI 3, vR b57, vI 3, vI 2, vJ w2, vS] [(.int 2), (.ref b), (.int 2), (.ref b57)]) t) => q127 t (st128 t (by
          show Go _ _ _ _ (mkF m 73 #[vR a1, vI 3, vR b57, vI 3, vI 2, vJ w2, vS] [(.ref b), (.int 2), (.ref b57)]) _
          refine XS.iload X128.here hx rfl (hb hby d4_73) rfl ?_
          exact kt))
        obtain ⟨c130, Ar130, -, S130, N130, H130, -⟩ := id f129
        have q132 := fun t (kt : Go p e below T128 (mkF m 81 #[vR a1, vI 3, vR b57, vI 3, vI 2, vJ w2, vS] [(.long w2), (.int (x2 <<< ((6 : Int32) &&& 31))), (.int 2), (.ref b57)]) t) => q131 t (by
          show Go _ _ _ _ (mkF m 75 #[vR a1, vI 3, vR b57, vI 3, vI 2, vJ w2, vS] [(.int 2), (.ref b), (.int 2), (.ref b57)]) _
          refine X128.iaload hx (j := (2 : Int32)) (v := (.int x2)) (by rw [e128]; exact Ar130.1) (State.isArrayOf_alike hZ.alike Ar130.2.1) Ar130.2.2 (inb_of S130 ⟨by decide, by decide⟩) (Has.at H130 (inb_of S130 ⟨by decide, by decide⟩) rfl) (g := (mkF m 75 #[vR a1, vI 3, vR b57, vI 3, vI 2, vJ w2, vS] [(.int 2), (.ref b), (.int 2), (.ref b57)])) rfl rfl (hb hby d4_75) _ ?_
          show Go _ _ _ _ (mkF m 76 _ [(.int x2), (.int 2), (.ref b57)]) _
          refine XS.bipush X128.here hx rfl (hb hby d4_76) ?_
          show Go _ _ _ _ (mkF m 78 _ [(.int 6), (.int x2), (.int 2), (.ref b57)]) _
          refine XS.ishl X128.here hx rfl (hb hby d4_78) rfl ?_
          show Go _ _ _ _ (mkF m 79 _ [(.int (x2 <<< ((6 : Int32) &&& 31))), (.int 2), (.ref b57)]) _
          refine XS.lload X128.here hx rfl (hb hby d4_79) rfl ?_
          exact kt)
        obtain ⟨_, _, ⟨T133, L133, k133, n133⟩, -, X133, ⟨_, hQ133, l133, y133, z133⟩, st133⟩ := Jvm.LawKit.callS X128 hx (y := ym14) hown (ow hZ hw 78 rfl) (ow hZ hw 79 rfl) (ow hZ hw 73 rfl) (ow hZ hw 80 rfl) (by decide) (backOf (W := 3) (rm16 l Z a0 hw [] cx w2 h111 n0 O113 ) hZ (ox hw 80 rfl) (ox hw 73 rfl) (by decide) (by decide)) (g := (mkF m 81 #[vR a1, vI 3, vR b57, vI 3, vI 2, vJ w2, vS] [(.long w2), (.int (x2 <<< ((6 : Int32) &&& 31))), (.int 2), (.ref b57)])) rfl (by rw [hml]; rfl) (argsL := [(.long w2)]) (rest := [(.int (x2 <<< ((6 : Int32) &&& 31))), (.int 2), (.ref b57)]) (lenOf pd_8 rfl) rfl own_le0 (hb hby d4_81) (fun _ _ => ⟨rfl, e128, (by decide : 1 + 0 ≤ _), (by decide : 3 + 0 ≤ _)⟩)
        dsimp only [Pt.U, Pt.locs, Pt.cells, Pt.slots] at X133 l133 y133 z133 st133 hQ133
        subst l133 y133 z133
        obtain ⟨r_133, rfl, Nq133, eq133⟩ := hQ133
        have N134 := Fr.app N112 Nq133
        have q136 := fun t (kt : Go p e below T133 (mkF m 85 #[vR a1, vI 3, vR b57, vI 3, vI 2, vJ w2, vS] [(.int ((x2 <<< ((6 : Int32) &&& 31)) + r_133)), (.int 2), (.ref b57)]) t) => q132 t (st133 t (by
          show Go _ _ _ _ (mkF m 84 #[vR a1, vI 3, vR b57, vI 3, vI 2, vJ w2, vS] [(.int r_133), (.int (x2 <<< ((6 : Int32) &&& 31))), (.int 2), (.ref b57)]) _
          refine XS.iadd X133.here hx rfl (hb hby d4_84) rfl ?_
          exact kt))
        obtain ⟨c135, Ar135, q135, S135, N135, H135, G135⟩ := id V111
        have hi135 : ¬ ((2 : Int32) < 0 ∨ c135.slots.size ≤ ((2 : Int32)).toNatClampNeg) := inb_of S135 ⟨by decide, by decide⟩
        obtain ⟨T137, h137, X137, e137, W137, st137⟩ := stI X133 hx hZ eq133 Ar135 (j := (2 : Int32)) hi135 (g := (mkF m 85 #[vR a1, vI 3, vR b57, vI 3, vI 2, vJ w2, vS] [(.int ((x2 <<< ((6 : Int32) &&& 31)) + r_133)), (.int 2), (.ref b57)])) rfl rfl (hb hby d4_85)
        have V137 : Arv Z h137 b57 k57 .int (3 : Int32) [(.int ((x0 <<< ((6 : Int32) &&& 31)) + r_78)), (.int ((x1 <<< ((6 : Int32) &&& 31)) + r_107)), (.int ((x2 <<< ((6 : Int32) &&& 31)) + r_133))] (.int 0) := Arv.set Ar135 q135 S135 N135 H135 G135 rfl W137 2 rfl (Nat.le_of_ble_eq_true rfl)
        have N138 := Fr.snoc X137 N134 gg58
        have O139 := O113.wr W137 gg58
        have K140 := K114.wr W137 (Or.inr sz59)
        have q141 := fun t (kt : Go p e below T137 (mkF m 93 #[vR a1, vI 3, vR b57, vI 3, vI 2, vJ w2, vS] [(.long (w2 &&& (w2 - (1 : Int64))))]) t) => q136 t (st137 t (by
          show Go _ _ _ _ (mkF m 86 #[vR a1, vI 3, vR b57, vI 3, vI 2, vJ w2, vS] []) _
          refine XS.lload X137.here hx rfl (hb hby d4_86) rfl ?_
          show Go _ _ _ _ (mkF m 88 _ [(.long w2)]) _
          refine XS.lload X137.here hx rfl (hb hby d4_88) rfl ?_
          show Go _ _ _ _ (mkF m 90 _ [(.long w2), (.long w2)]) _
          refine XS.lconst X137.here hx rfl (hb hby d4_90) ?_
          show Go _ _ _ _ (mkF m 91 _ [(.long (1 : Int64)), (.long w2), (.long w2)]) _
          refine XS.lsub X137.here hx rfl (hb hby d4_91) rfl ?_
          show Go _ _ _ _ (mkF m 92 _ [(.long (w2 - (1 : Int64))), (.long w2)]) _
          refine XS.land X137.here hx rfl (hb hby d4_92) rfl ?_
          exact kt))
        have q142 := fun t (kt : Go p e below T137 (mkF m 93 #[vR a1, vI 3, vR b57, vI 3, vI 2, vJ w2, vS] [(.long (own_dr w2))]) t) => q141 t (by rw [(show (w2 &&& (w2 - (1 : Int64))) = own_dr w2 from rfl)]; exact kt)
        have f143 := (f117.other W137 (Or.inl ne88))
        have q144 := fun t (kt : Go p e below T137 (mkF m 42 #[vR a1, vI 3, vR b57, vI 3, vI 3, vJ (own_dr w2), vS] [(.ref a1), (.int 3)]) t) => q142 t (by
          show Go _ _ _ _ (mkF m 93 #[vR a1, vI 3, vR b57, vI 3, vI 2, vJ w2, vS] [(.long (own_dr w2))]) _
          refine XS.lstore X137.here hx rfl (hb hby d4_93) rfl (l' := #[vR a1, vI 3, vR b57, vI 3, vI 2, vJ (own_dr w2), vS]) rfl ?_
          show Go _ _ _ _ (mkF m 95 #[vR a1, vI 3, vR b57, vI 3, vI 2, vJ (own_dr w2), vS] []) _
          refine XS.goto X137.here hx rfl (pc0 := 95) (pc' := 57) rfl (hb hby d4_95) (by decide) (by decide) ?_
          show Go _ _ _ _ (mkF m 57 _ []) _
          refine XS.lload X137.here hx rfl (hb hby d4_57) rfl ?_
          show Go _ _ _ _ (mkF m 59 _ [(.long (own_dr w2))]) _
          refine XS.lconst X137.here hx rfl (hb hby d4_59) ?_
          show Go _ _ _ _ (mkF m 60 _ [(.long (0 : Int64)), (.long (own_dr w2))]) _
          refine XS.lcmp X137.here hx rfl (hb hby d4_60) rfl ?_
          show Go _ _ _ _ (mkF m 61 _ [(.int (lcmpW (own_dr w2) (0 : Int64)))]) _
          refine XS.ifYes X137.here hx rfl (pc0 := 61) (pc' := 98) rfl (hb hby d4_61) rfl ((if0 _ _).trans (teq ((lw_eq _ _).mpr t2_1)).1) (by decide) (by decide) ?_
          show Go _ _ _ _ (mkF m 98 _ []) _
          refine XS.iinc X137.here hx rfl (hb hby d4_98) rfl (l' := #[vR a1, vI 3, vR b57, vI 3, vI 3, vJ (own_dr w2), vS]) rfl ?_
          show Go _ _ _ _ (mkF m 101 #[vR a1, vI 3, vR b57, vI 3, vI 3, vJ (own_dr w2), vS] []) _
          refine XS.goto X137.here hx rfl (pc0 := 101) (pc' := 39) rfl (hb hby d4_101) (by decide) (by decide) ?_
          show Go _ _ _ _ (mkF m 39 _ []) _
          refine XS.iload X137.here hx rfl (hb hby d4_39) rfl ?_
          show Go _ _ _ _ (mkF m 41 _ [(.int 3)]) _
          refine XS.aloadN X137.here hx rfl (hb hby d4_41) rfl rfl ?_
          exact kt)
        obtain ⟨T145, X145, e145, st145⟩ := getF X137 hx hZ hown (host := "") (Or.inl (ox hw 22 rfl)) Via.refl e137 f143 (g := (mkF m 42 #[vR a1, vI 3, vR b57, vI 3, vI 3, vJ (own_dr w2), vS] [(.ref a1), (.int 3)])) rfl rfl (hb hby d4_42)
        have q146 := fun t (kt : Go p e below T145 (mkF m 105 #[vR a1, vI 3, vR b57, vI 3, vI 3, vJ (own_dr w2), vS] [(.ref b57)]) t) => q144 t (st145 t (by
          show Go _ _ _ _ (mkF m 45 #[vR a1, vI 3, vR b57, vI 3, vI 3, vJ (own_dr w2), vS] [(.int 3), (.int 3)]) _
          refine XS.icmpYes X145.here hx rfl (pc0 := 45) (pc' := 104) rfl (hb hby d4_45) rfl (flt (by decide : ¬ ((3 : Int32) < (3 : Int32)))).2.1 (by decide) (by decide) ?_
          show Go _ _ _ _ (mkF m 104 _ []) _
          refine XS.aloadN X145.here hx rfl (hb hby d4_104) rfl rfl ?_
          exact kt))
        exact ⟨some (.ref b57), T145, _, _, _, _, X145, by decide, by decide, nofun, q146, fun fs hr => retOut X145 hx hret rfl (o4 ⟨rfl, rfl, rfl⟩) (hb hby d4_105) hr, by rw [e145]; exact ⟨b57, k57, (3 : Int32), [(.int ((x0 <<< ((6 : Int32) &&& 31)) + r_78)), (.int ((x1 <<< ((6 : Int32) &&& 31)) + r_107)), (.int ((x2 <<< ((6 : Int32) &&& 31)) + r_133))], rfl, N138, K140, sz59, V137, (by decide)⟩⟩
theorem ef_0_IIII (m : MethodId) (x0 : Int32) (x1 : Int32) (x2 : Int32) (x3 : Int32) : entryFrame m #[(.int x0), (.int x1), (.int x2), (.int x3)] maxLocals = mkF m 0 #[.val (.int x0), .val (.int x1), .val (.int x2), .val (.int x3), .unset, .unset, .unset, .unset, .unset] [] := by first | (simp [entryFrame, mkF, argsToLocals, Value.category, maxLocals]; done) | rfl
theorem pn_0 : plainName "com/example/pointward/pointward/pointsto/SiteSetIsEmptyPinLaw" = true := by first | (simp [plainName, overriddenIn]; done) | decide +kernel
theorem pd_9 : parseMethodDescriptor "()V" = some ⟨[], none⟩ := by decide +kernel
theorem pd_10 : parseMethodDescriptor "()Z" = some ⟨[], some .boolean⟩ := by decide +kernel
theorem pd_11 : parseMethodDescriptor "()[I" = some ⟨[], some (.array .int)⟩ := by decide +kernel
theorem pd_12 : parseMethodDescriptor "(I)Z" = some ⟨[.int], some .boolean⟩ := by decide +kernel
def Q_rm0 (Z : State) (p1 : Int32) (p2 : Int32) (p3 : Int32) (p4 : Int32) (cw : Nat → Nat) (h0 : Heap) (n0 : Nat) (v : Option Value) (h : Heap) (L : List Loc) : Prop := v = some (.int 1) ∧ Fr n0 L
theorem rm0 (l : Launch) (Z : State) (a0 : Array Value) (hw : ∀ d ∈ tables_1, d.before a0 Z = true) (ws : List Jvm.Cond) {cw : Nat → Nat} (cx : Cx Z cw) (p1 : Int32) (p2 : Int32) (p3 : Int32) (p4 : Int32) (h0 : Heap) (n0 : Nat) (O0 : Old Z n0 h0) :
    OwnMet l x (Jvm.Cond.code x code maxLocals ret :: ws) room_1 #[(.int p1), (.int p2), (.int p3), (.int p4)] Z h0 (Q_rm0 Z p1 p2 p3 p4 cw h0 n0) := by
  refine own_body (plainFor_of_name pn_0) hisR fun p e s m below meth c s₁ hx hby hml hown hnm hret hZ X0 e0 => ?_
  have N0 := Fr.nil n0
  have pre0 : ∀ t, Go p e below s₁ (mkF m 0 #[vI p1, vI p2, vI p3, vI p4, vU, vU, vU, vU, vU] []) t → Go p e below s₁ (entryFrame m #[(.int p1), (.int p2), (.int p3), (.int p4)] maxLocals) t := fun t k => castTop (ef_0_IIII m p1 p2 p3 p4) k
  obtain ⟨T21, h21, X21, e21, E21, A21, D21, U21, st21⟩ := newO X0 hx hZ hown (ox hw 0 rfl) (ox hw 1 rfl) (ox hw 2 rfl) e0 (g := (mkF m 0 #[vI p1, vI p2, vI p3, vI p4, vU, vU, vU, vU, vU] [])) rfl (hb hby at_0) (by decide) (by decide)
  obtain ⟨b21, g21⟩ : ∃ z, z = h0.size := ⟨_, rfl⟩
  rw [← g21] at A21 D21 st21
  have gg22 : n0 ≤ b21 := Nat.le_trans (O0.1 ▸ O0.2.1) (Nat.le_of_eq g21.symm)
  have O23 := O0.ext E21
  have F21_blocks : Fld Z h21 b21 sk0 "blocks" "[I" .null := D21 (Or.inl (ox hw 12 rfl)) (ty := (.array .int)) (by decide)
  have F21_words : Fld Z h21 b21 sk0 "words" "[J" .null := D21 (Or.inl (ox hw 16 rfl)) (ty := (.array .long)) (by decide)
  have F21_used : Fld Z h21 b21 sk0 "used" "I" (.int 0) := D21 (Or.inl (ox hw 23 rfl)) (ty := .int) (by decide)
  have q24 := fun t (kt : Go p e below T21 (mkF m 4 #[vI p1, vI p2, vI p3, vI p4, vU, vU, vU, vU, vU] [(.ref b21), (.ref b21)]) t) => pre0 t (st21 t (by
    show Go _ _ _ _ (mkF m 3 #[vI p1, vI p2, vI p3, vI p4, vU, vU, vU, vU, vU] [(.ref b21)]) _
    refine XS.dup X21.here hx rfl (hb hby at_3) rfl rfl ?_
    exact kt))
  obtain ⟨_, _, ⟨T25, L25, k25, n25⟩, -, X25, ⟨_, hQ25, l25, y25, z25⟩, st25⟩ := X21.specialBack hx (y := ym0) rfl hown (ow hZ hw 3 rfl) (ow hZ hw 4 rfl) (ow hZ hw 5 rfl) (by decide) (backOf (W := 1) (rm1 l Z a0 hw [] cx b21 h21 n0 O23 A21 F21_blocks F21_words F21_used gg22) hZ (ox hw 5 rfl) (ox hw 2 rfl) (by decide) (by decide)) (g := (mkF m 4 #[vI p1, vI p2, vI p3, vI p4, vU, vU, vU, vU, vU] [(.ref b21), (.ref b21)])) rfl (by rw [hml]; rfl) (Steps.refl _) (a := b21) (argsL := []) (rest := [(.ref b21)]) (lenOf pd_9 rfl) rfl own_le0 (hb hby at_4) (fun _ _ => ⟨rfl, e21, (by decide : 1 + 0 ≤ _), (by decide : 3 + 0 ≤ _)⟩)
  dsimp only [Pt.U, Pt.locs, Pt.cells, Pt.slots] at X25 l25 y25 z25 st25 hQ25
  subst l25 y25 z25
  obtain ⟨rfl, Nq25, Kq25, fq25_0, fq25_1, fq25_2⟩ := hQ25
  have N26 := Fr.app N0 Nq25
  have O27 := O23.keep Kq25 (allS gg22 all0)
  have q28 := fun t (kt : Go p e below T25 (mkF m 11 #[vI p1, vI p2, vI p3, vI p4, vR b21, vU, vU, vU, vU] [(.ref b21)]) t) => q24 t (st25.trans (by
    show Go _ _ _ _ (mkF m 7 #[vI p1, vI p2, vI p3, vI p4, vU, vU, vU, vU, vU] [(.ref b21)]) _
    refine XS.astore X25.here hx rfl (hb hby at_7) rfl rfl (l' := #[vI p1, vI p2, vI p3, vI p4, vR b21, vU, vU, vU, vU]) rfl ?_
    show Go _ _ _ _ (mkF m 9 #[vI p1, vI p2, vI p3, vI p4, vR b21, vU, vU, vU, vU] []) _
    refine XS.aload X25.here hx rfl (hb hby at_9) rfl rfl ?_
    exact kt))
  have f31 := (A21.keep Kq25)
  obtain ⟨cq30, kq30, q30a, q30b, q30c⟩ := isOf hZ rfl f31
  obtain ⟨_, _, ⟨T29, L29, k29, n29⟩, -, X29, ⟨_, hQ29, l29, y29, z29⟩, st29⟩ := X25.virtualBack hx (y := ym1) (z := ym1) hown (ow hZ hw 17 rfl) (ow hZ hw 18 rfl) (notFace_of_selects (args := #[]) (ow hZ hw 20 rfl)) (ow hZ hw 20 rfl) (ow hZ hw 19 rfl) (by decide) (backOf (W := 0) (rm3z l Z a0 hw [] cx b21 T25.heap n0 O27 fq25_2) hZ (ox hw 21 rfl) (ox hw 2 rfl) (by decide) (by decide)) q30a q30c (g := (mkF m 11 #[vI p1, vI p2, vI p3, vI p4, vR b21, vU, vU, vU, vU] [(.ref b21)])) rfl (by rw [hml]; rfl) (Steps.refl _) (argsL := []) (rest := []) (lenOf pd_10 rfl) rfl own_le0 (hb hby at_11) (fun _ _ => ⟨rfl, rfl, (by decide : 1 + 0 ≤ _), (by decide : 3 + 0 ≤ _)⟩)
  dsimp only [Pt.U, Pt.locs, Pt.cells, Pt.slots] at X29 l29 y29 z29 st29 hQ29
  subst l29 y29 z29
  obtain ⟨rfl, Nq29, eq29⟩ := hQ29
  have N32 := Fr.app N26 Nq29
  have q33 := fun t (kt : Go p e below T29 (mkF m 19 #[vI p1, vI p2, vI p3, vI p4, vR b21, vI 1, vU, vU, vU] [(.int (p1 &&& (3 : Int32)))]) t) => q28 t (st29.trans (by
    show Go _ _ _ _ (mkF m 14 #[vI p1, vI p2, vI p3, vI p4, vR b21, vU, vU, vU, vU] [(.int 1)]) _
    refine XS.istore X29.here hx rfl (hb hby at_14) rfl (l' := #[vI p1, vI p2, vI p3, vI p4, vR b21, vI 1, vU, vU, vU]) rfl ?_
    show Go _ _ _ _ (mkF m 16 #[vI p1, vI p2, vI p3, vI p4, vR b21, vI 1, vU, vU, vU] []) _
    refine XS.iloadN X29.here hx rfl (hb hby at_16) rfl ?_
    show Go _ _ _ _ (mkF m 17 _ [(.int p1)]) _
    refine XS.iconst X29.here hx rfl (hb hby at_17) ?_
    show Go _ _ _ _ (mkF m 18 _ [(.int 3), (.int p1)]) _
    refine XS.iand X29.here hx rfl (hb hby at_18) rfl ?_
    exact kt))
  rcases own_and3 p1 with hk | hk | hk | hk
  · skip
    have q34 := fun t (kt : Go p e below T29 (mkF m 19 #[vI p1, vI p2, vI p3, vI p4, vR b21, vI 1, vU, vU, vU] [(.int 0)]) t) => q33 t (by rw [hk]; exact kt)
    have q35 := fun t (kt : Go p e below T29 (mkF m 62 #[vI p1, vI p2, vI p3, vI p4, vR b21, vI 1, vI 0, vU, vU] [(.ref b21)]) t) => q34 t (by
      show Go _ _ _ _ (mkF m 19 #[vI p1, vI p2, vI p3, vI p4, vR b21, vI 1, vU, vU, vU] [(.int 0)]) _
      refine XS.istore X29.here hx rfl (hb hby at_19) rfl (l' := #[vI p1, vI p2, vI p3, vI p4, vR b21, vI 1, vI 0, vU, vU]) rfl ?_
      show Go _ _ _ _ (mkF m 21 #[vI p1, vI p2, vI p3, vI p4, vR b21, vI 1, vI 0, vU, vU] []) _
      refine XS.iload X29.here hx rfl (hb hby at_21) rfl ?_
      show Go _ _ _ _ (mkF m 23 _ [(.int 0)]) _
      refine XS.iconst X29.here hx rfl (hb hby at_23) ?_
      show Go _ _ _ _ (mkF m 24 _ [(.int 1), (.int 0)]) _
      refine XS.icmpYes X29.here hx rfl (pc0 := 24) (pc' := 34) rfl (hb hby at_24) rfl (tlt (by decide : (0 : Int32) < (1 : Int32))).1 (by decide) (by decide) ?_
      show Go _ _ _ _ (mkF m 34 _ []) _
      refine XS.iload X29.here hx rfl (hb hby at_34) rfl ?_
      show Go _ _ _ _ (mkF m 36 _ [(.int 0)]) _
      refine XS.iconst X29.here hx rfl (hb hby at_36) ?_
      show Go _ _ _ _ (mkF m 37 _ [(.int 2), (.int 0)]) _
      refine XS.icmpYes X29.here hx rfl (pc0 := 37) (pc' := 47) rfl (hb hby at_37) rfl (tlt (by decide : (0 : Int32) < (2 : Int32))).1 (by decide) (by decide) ?_
      show Go _ _ _ _ (mkF m 47 _ []) _
      refine XS.iload X29.here hx rfl (hb hby at_47) rfl ?_
      show Go _ _ _ _ (mkF m 49 _ [(.int 0)]) _
      refine XS.iconst X29.here hx rfl (hb hby at_49) ?_
      show Go _ _ _ _ (mkF m 50 _ [(.int 3), (.int 0)]) _
      refine XS.icmpYes X29.here hx rfl (pc0 := 50) (pc' := 60) rfl (hb hby at_50) rfl (tlt (by decide : (0 : Int32) < (3 : Int32))).1 (by decide) (by decide) ?_
      show Go _ _ _ _ (mkF m 60 _ []) _
      refine XS.aload X29.here hx rfl (hb hby at_60) rfl rfl ?_
      exact kt)
    obtain ⟨cq37, kq37, q37a, q37b, q37c⟩ := isOf hZ eq29 f31
    obtain ⟨_, _, ⟨T36, L36, k36, n36⟩, -, X36, ⟨_, hQ36, l36, y36, z36⟩, st36⟩ := X29.virtualBack hx (y := ym1) (z := ym1) hown (ow hZ hw 17 rfl) (ow hZ hw 18 rfl) (notFace_of_selects (args := #[]) (ow hZ hw 20 rfl)) (ow hZ hw 20 rfl) (ow hZ hw 19 rfl) (by decide) (backOf (W := 0) (rm3z l Z a0 hw [] cx b21 T25.heap n0 O27 fq25_2) hZ (ox hw 21 rfl) (ox hw 2 rfl) (by decide) (by decide)) q37a q37c (g := (mkF m 62 #[vI p1, vI p2, vI p3, vI p4, vR b21, vI 1, vI 0, vU, vU] [(.ref b21)])) rfl (by rw [hml]; rfl) (Steps.refl _) (argsL := []) (rest := []) (lenOf pd_10 rfl) rfl own_le0 (hb hby at_62) (fun _ _ => ⟨rfl, eq29, (by decide : 1 + 0 ≤ _), (by decide : 3 + 0 ≤ _)⟩)
    dsimp only [Pt.U, Pt.locs, Pt.cells, Pt.slots] at X36 l36 y36 z36 st36 hQ36
    subst l36 y36 z36
    obtain ⟨rfl, Nq36, eq36⟩ := hQ36
    have N38 := Fr.app N32 Nq36
    have q39 := fun t (kt : Go p e below T36 (mkF m 69 #[vI p1, vI p2, vI p3, vI p4, vR b21, vI 1, vI 0, vI 1, vU] [(.ref b21)]) t) => q35 t (st36.trans (by
      show Go _ _ _ _ (mkF m 65 #[vI p1, vI p2, vI p3, vI p4, vR b21, vI 1, vI 0, vU, vU] [(.int 1)]) _
      refine XS.istore X36.here hx rfl (hb hby at_65) rfl (l' := #[vI p1, vI p2, vI p3, vI p4, vR b21, vI 1, vI 0, vI 1, vU]) rfl ?_
      show Go _ _ _ _ (mkF m 67 #[vI p1, vI p2, vI p3, vI p4, vR b21, vI 1, vI 0, vI 1, vU] []) _
      refine XS.aload X36.here hx rfl (hb hby at_67) rfl rfl ?_
      exact kt))
    obtain ⟨cq41, kq41, q41a, q41b, q41c⟩ := isOf hZ eq36 f31
    obtain ⟨_, _, ⟨T40, L40, k40, n40⟩, -, X40, ⟨_, hQ40, l40, y40, z40⟩, st40⟩ := X36.virtualBack hx (y := ym15) (z := ym15) hown (ow hZ hw 24 rfl) (ow hZ hw 25 rfl) (notFace_of_selects (args := #[]) (ow hZ hw 27 rfl)) (ow hZ hw 27 rfl) (ow hZ hw 26 rfl) (by decide) (backOf (W := 0) (rm4_0 l Z a0 hw [] cx b21 T25.heap n0 O27 fq25_0 fq25_1 fq25_2) hZ (ox hw 28 rfl) (ox hw 2 rfl) (by decide) (by decide)) q41a q41c (g := (mkF m 69 #[vI p1, vI p2, vI p3, vI p4, vR b21, vI 1, vI 0, vI 1, vU] [(.ref b21)])) rfl (by rw [hml]; rfl) (Steps.refl _) (argsL := []) (rest := []) (lenOf pd_11 rfl) rfl own_le0 (hb hby at_69) (fun _ _ => ⟨rfl, eq36, (by decide : 1 + 1 ≤ _), (by decide : 3 + 0 ≤ _)⟩)
    dsimp only [Pt.U, Pt.locs, Pt.cells, Pt.slots] at X40 l40 y40 z40 st40 hQ40
    subst l40 y40 z40
    obtain ⟨r_40, kr_40, rfl, Nq40, Kq40, fr40_0, fq40_0⟩ := hQ40
    have N42 := Fr.app N38 Nq40
    have gg43 : n0 ≤ r_40 := Nat.le_trans (O27.1 ▸ O27.2.1) fr40_0
    have O44 := O27.keep Kq40 all0
    obtain ⟨c45, Ar45, -, S45, N45, -, -⟩ := id fq40_0
    have q46 := fun t (kt : Go p e below T40 (mkF m 115 #[vI p1, vI p2, vI p3, vI p4, vR b21, vI 1, vI 0, vI 1, vI 0] [(.int 1)]) t) => q39 t (st40.trans (by
      show Go _ _ _ _ (mkF m 72 #[vI p1, vI p2, vI p3, vI p4, vR b21, vI 1, vI 0, vI 1, vU] [(.ref r_40)]) _
      refine X40.arraylength hx Ar45.1 (State.isArrayOf_alike hZ.alike Ar45.2.1) (g := (mkF m 72 #[vI p1, vI p2, vI p3, vI p4, vR b21, vI 1, vI 0, vI 1, vU] [(.ref r_40)])) rfl rfl (hb hby at_72) _ ?_
      rw [len_of S45 N45]
      show Go _ _ _ _ (mkF m 73 _ [(.int 0)]) _
      refine XS.istore X40.here hx rfl (hb hby at_73) rfl (l' := #[vI p1, vI p2, vI p3, vI p4, vR b21, vI 1, vI 0, vI 1, vI 0]) rfl ?_
      show Go _ _ _ _ (mkF m 75 #[vI p1, vI p2, vI p3, vI p4, vR b21, vI 1, vI 0, vI 1, vI 0] []) _
      refine XS.iload X40.here hx rfl (hb hby at_75) rfl ?_
      show Go _ _ _ _ (mkF m 77 _ [(.int 1)]) _
      refine XS.ifNo X40.here hx rfl (hb hby at_77) rfl ((if0 _ _).trans (feq (by decide : ¬ ((1 : Int32) = (0 : Int32)))).1) ?_
      show Go _ _ _ _ (mkF m 80 _ []) _
      refine XS.iload X40.here hx rfl (hb hby at_80) rfl ?_
      show Go _ _ _ _ (mkF m 82 _ [(.int 1)]) _
      refine XS.iload X40.here hx rfl (hb hby at_82) rfl ?_
      show Go _ _ _ _ (mkF m 84 _ [(.int 0), (.int 1)]) _
      refine XS.ifNo X40.here hx rfl (hb hby at_84) rfl ((if0 _ _).trans (teq (rfl : (0 : Int32) = (0 : Int32))).2) ?_
      show Go _ _ _ _ (mkF m 87 _ [(.int 1)]) _
      refine XS.iconst X40.here hx rfl (hb hby at_87) ?_
      show Go _ _ _ _ (mkF m 88 _ [(.int 1), (.int 1)]) _
      refine XS.goto X40.here hx rfl (pc0 := 88) (pc' := 92) rfl (hb hby at_88) (by decide) (by decide) ?_
      show Go _ _ _ _ (mkF m 92 _ [(.int 1), (.int 1)]) _
      refine XS.icmpNo X40.here hx rfl (hb hby at_92) rfl (teq (rfl : (1 : Int32) = (1 : Int32))).2 ?_
      show Go _ _ _ _ (mkF m 95 _ []) _
      refine XS.iload X40.here hx rfl (hb hby at_95) rfl ?_
      show Go _ _ _ _ (mkF m 97 _ [(.int 1)]) _
      refine XS.iload X40.here hx rfl (hb hby at_97) rfl ?_
      show Go _ _ _ _ (mkF m 99 _ [(.int 0), (.int 1)]) _
      refine XS.ifNo X40.here hx rfl (hb hby at_99) rfl ((if0 _ _).trans (teq (rfl : (0 : Int32) = (0 : Int32))).2) ?_
      show Go _ _ _ _ (mkF m 102 _ [(.int 1)]) _
      refine XS.iconst X40.here hx rfl (hb hby at_102) ?_
      show Go _ _ _ _ (mkF m 103 _ [(.int 1), (.int 1)]) _
      refine XS.goto X40.here hx rfl (pc0 := 103) (pc' := 107) rfl (hb hby at_103) (by decide) (by decide) ?_
      show Go _ _ _ _ (mkF m 107 _ [(.int 1), (.int 1)]) _
      refine XS.icmpNo X40.here hx rfl (hb hby at_107) rfl (teq (rfl : (1 : Int32) = (1 : Int32))).2 ?_
      show Go _ _ _ _ (mkF m 110 _ []) _
      refine XS.iconst X40.here hx rfl (hb hby at_110) ?_
      show Go _ _ _ _ (mkF m 111 _ [(.int 1)]) _
      refine XS.goto X40.here hx rfl (pc0 := 111) (pc' := 115) rfl (hb hby at_111) (by decide) (by decide) ?_
      exact kt))
    exact ⟨some (.int 1), T40, _, _, _, _, X40, by decide, by decide, nofun, q46, fun fs hr => retN X40 hx (t := .boolean) hret (by simp) (hb hby at_115) hr, ⟨rfl, N42⟩⟩
  · skip
    have q47 := fun t (kt : Go p e below T29 (mkF m 19 #[vI p1, vI p2, vI p3, vI p4, vR b21, vI 1, vU, vU, vU] [(.int 1)]) t) => q33 t (by rw [hk]; exact kt)
    have q48 := fun t (kt : Go p e below T29 (mkF m 30 #[vI p1, vI p2, vI p3, vI p4, vR b21, vI 1, vI 1, vU, vU] [(.int p2), (.ref b21)]) t) => q47 t (by
      show Go _ _ _ _ (mkF m 19 #[vI p1, vI p2, vI p3, vI p4, vR b21, vI 1, vU, vU, vU] [(.int 1)]) _
      refine XS.istore X29.here hx rfl (hb hby at_19) rfl (l' := #[vI p1, vI p2, vI p3, vI p4, vR b21, vI 1, vI 1, vU, vU]) rfl ?_
      show Go _ _ _ _ (mkF m 21 #[vI p1, vI p2, vI p3, vI p4, vR b21, vI 1, vI 1, vU, vU] []) _
      refine XS.iload X29.here hx rfl (hb hby at_21) rfl ?_
      show Go _ _ _ _ (mkF m 23 _ [(.int 1)]) _
      refine XS.iconst X29.here hx rfl (hb hby at_23) ?_
      show Go _ _ _ _ (mkF m 24 _ [(.int 1), (.int 1)]) _
      refine XS.icmpNo X29.here hx rfl (hb hby at_24) rfl (flt (by decide : ¬ ((1 : Int32) < (1 : Int32)))).1 ?_
      show Go _ _ _ _ (mkF m 27 _ []) _
      refine XS.aload X29.here hx rfl (hb hby at_27) rfl rfl ?_
      show Go _ _ _ _ (mkF m 29 _ [(.ref b21)]) _
      refine XS.iloadN X29.here hx rfl (hb hby at_29) rfl ?_
      exact kt)
    obtain ⟨cq50, kq50, q50a, q50b, q50c⟩ := isOf hZ eq29 f31
    obtain ⟨_, _, ⟨T49, L49, k49, n49⟩, -, X49, ⟨_, hQ49, l49, y49, z49⟩, st49⟩ := X29.virtualBack hx (y := ym11) (z := ym11) hown (ow hZ hw 30 rfl) (ow hZ hw 31 rfl) (notFace_of_selects (args := #[]) (ow hZ hw 33 rfl)) (ow hZ hw 33 rfl) (ow hZ hw 32 rfl) (by decide) (backOf (W := 0) (rm5_0 l Z a0 hw [] cx b21 p2 T25.heap n0 O27 f31 fq25_0 fq25_1 fq25_2 gg22) hZ (ox hw 34 rfl) (ox hw 2 rfl) (by decide) (by decide)) q50a q50c (g := (mkF m 30 #[vI p1, vI p2, vI p3, vI p4, vR b21, vI 1, vI 1, vU, vU] [(.int p2), (.ref b21)])) rfl (by rw [hml]; rfl) (Steps.refl _) (argsL := [(.int p2)]) (rest := []) (lenOf pd_12 rfl) rfl own_le0 (hb hby at_30) (fun _ _ => ⟨rfl, eq29, (by decide : 1 + 2 ≤ _), (by decide : 3 + 4 ≤ _)⟩)
    dsimp only [Pt.U, Pt.locs, Pt.cells, Pt.slots] at X49 l49 y49 z49 st49 hQ49
    subst l49 y49 z49
    obtain ⟨b_49, ta_49, kb_49, kt_49, x0_49, rfl, Nq49, Kq49, fr49_0, fr49_1, fq49_0, fq49_1, fq49_2, fq49_3, fq49_4, pq49_0⟩ := hQ49
    have N51 := Fr.app N32 Nq49
    have gg52 : n0 ≤ b_49 := Nat.le_trans (O27.1 ▸ O27.2.1) fr49_0
    have gg53 : n0 ≤ ta_49 := Nat.le_trans (O27.1 ▸ O27.2.1) fr49_1
    have O54 := O27.keep Kq49 (allS gg22 all0)
    have q55 := fun t (kt : Go p e below T49 (mkF m 62 #[vI p1, vI p2, vI p3, vI p4, vR b21, vI 1, vI 1, vU, vU] [(.ref b21)]) t) => q48 t (st49.trans (by
      show Go _ _ _ _ (mkF m 33 #[vI p1, vI p2, vI p3, vI p4, vR b21, vI 1, vI 1, vU, vU] [(.int 1)]) _
      refine XS.pop X49.here hx rfl (hb hby at_33) rfl rfl ?_
      show Go _ _ _ _ (mkF m 34 _ []) _
      refine XS.iload X49.here hx rfl (hb hby at_34) rfl ?_
      show Go _ _ _ _ (mkF m 36 _ [(.int 1)]) _
      refine XS.iconst X49.here hx rfl (hb hby at_36) ?_
      show Go _ _ _ _ (mkF m 37 _ [(.int 2), (.int 1)]) _
      refine XS.icmpYes X49.here hx rfl (pc0 := 37) (pc' := 47) rfl (hb hby at_37) rfl (tlt (by decide : (1 : Int32) < (2 : Int32))).1 (by decide) (by decide) ?_
      show Go _ _ _ _ (mkF m 47 _ []) _
      refine XS.iload X49.here hx rfl (hb hby at_47) rfl ?_
      show Go _ _ _ _ (mkF m 49 _ [(.int 1)]) _
      refine XS.iconst X49.here hx rfl (hb hby at_49) ?_
      show Go _ _ _ _ (mkF m 50 _ [(.int 3), (.int 1)]) _
      refine XS.icmpYes X49.here hx rfl (pc0 := 50) (pc' := 60) rfl (hb hby at_50) rfl (tlt (by decide : (1 : Int32) < (3 : Int32))).1 (by decide) (by decide) ?_
      show Go _ _ _ _ (mkF m 60 _ []) _
      refine XS.aload X49.here hx rfl (hb hby at_60) rfl rfl ?_
      exact kt))
    have f58 := (f31.keep Kq49)
    obtain ⟨cq57, kq57, q57a, q57b, q57c⟩ := isOf hZ rfl f58
    obtain ⟨_, _, ⟨T56, L56, k56, n56⟩, -, X56, ⟨_, hQ56, l56, y56, z56⟩, st56⟩ := X49.virtualBack hx (y := ym1) (z := ym1) hown (ow hZ hw 17 rfl) (ow hZ hw 18 rfl) (notFace_of_selects (args := #[]) (ow hZ hw 20 rfl)) (ow hZ hw 20 rfl) (ow hZ hw 19 rfl) (by decide) (backOf (W := 0) (rm3n l Z a0 hw [] cx b21 (1 : Int32) T49.heap n0 O54 fq49_2 (by decide : ¬ ((1 : Int32) = (0 : Int32)))) hZ (ox hw 21 rfl) (ox hw 2 rfl) (by decide) (by decide)) q57a q57c (g := (mkF m 62 #[vI p1, vI p2, vI p3, vI p4, vR b21, vI 1, vI 1, vU, vU] [(.ref b21)])) rfl (by rw [hml]; rfl) (Steps.refl _) (argsL := []) (rest := []) (lenOf pd_10 rfl) rfl own_le0 (hb hby at_62) (fun _ _ => ⟨rfl, rfl, (by decide : 3 + 0 ≤ _), (by decide : 7 + 0 ≤ _)⟩)
    dsimp only [Pt.U, Pt.locs, Pt.cells, Pt.slots] at X56 l56 y56 z56 st56 hQ56
    subst l56 y56 z56
    obtain ⟨rfl, Nq56, eq56⟩ := hQ56
    have N59 := Fr.app N51 Nq56
    have q60 := fun t (kt : Go p e below T56 (mkF m 69 #[vI p1, vI p2, vI p3, vI p4, vR b21, vI 1, vI 1, vI 0, vU] [(.ref b21)]) t) => q55 t (st56.trans (by
      show Go _ _ _ _ (mkF m 65 #[vI p1, vI p2, vI p3, vI p4, vR b21, vI 1, vI 1, vU, vU] [(.int 0)]) _
      refine XS.istore X56.here hx rfl (hb hby at_65) rfl (l' := #[vI p1, vI p2, vI p3, vI p4, vR b21, vI 1, vI 1, vI 0, vU]) rfl ?_
      show Go _ _ _ _ (mkF m 67 #[vI p1, vI p2, vI p3, vI p4, vR b21, vI 1, vI 1, vI 0, vU] []) _
      refine XS.aload X56.here hx rfl (hb hby at_67) rfl rfl ?_
      exact kt))
    obtain ⟨cq62, kq62, q62a, q62b, q62c⟩ := isOf hZ eq56 f58
    obtain ⟨_, _, ⟨T61, L61, k61, n61⟩, -, X61, ⟨_, hQ61, l61, y61, z61⟩, st61⟩ := X56.virtualBack hx (y := ym15) (z := ym15) hown (ow hZ hw 24 rfl) (ow hZ hw 25 rfl) (notFace_of_selects (args := #[]) (ow hZ hw 27 rfl)) (ow hZ hw 27 rfl) (ow hZ hw 26 rfl) (by decide) (backOf (W := 0) (rm4_1 l Z a0 hw [] cx b21 b_49 ta_49 kb_49 kt_49 x0_49 (0 : Int32) (own_b p2) (0 : Int64) T49.heap n0 O54 fq49_0 fq49_1 fq49_2 fq49_3 fq49_4 (own_W_mono (own_W_mono (own_W_1 _)))) hZ (ox hw 28 rfl) (ox hw 2 rfl) (by decide) (by decide)) q62a q62c (g := (mkF m 69 #[vI p1, vI p2, vI p3, vI p4, vR b21, vI 1, vI 1, vI 0, vU] [(.ref b21)])) rfl (by rw [hml]; rfl) (Steps.refl _) (argsL := []) (rest := []) (lenOf pd_11 rfl) rfl own_le0 (hb hby at_69) (fun _ _ => ⟨rfl, eq56, (by decide : 3 + 1 ≤ _), (by decide : 7 + 3 ≤ _)⟩)
    dsimp only [Pt.U, Pt.locs, Pt.cells, Pt.slots] at X61 l61 y61 z61 st61 hQ61
    subst l61 y61 z61
    obtain ⟨r_61, kr_61, zr_61, vr_61, rfl, Nq61, Kq61, fr61_0, fq61_0, pq61_0⟩ := hQ61
    have N63 := Fr.app N59 Nq61
    have gg64 : n0 ≤ r_61 := Nat.le_trans (O54.1 ▸ O54.2.1) fr61_0
    have O65 := O54.keep Kq61 all0
    obtain ⟨c66, Ar66, -, S66, N66, -, -⟩ := id fq61_0
    have q67 := fun t (kt : Go p e below T61 (mkF m 115 #[vI p1, vI p2, vI p3, vI p4, vR b21, vI 1, vI 1, vI 0, vI zr_61] [(.int 1)]) t) => q60 t (st61.trans (by
      show Go _ _ _ _ (mkF m 72 #[vI p1, vI p2, vI p3, vI p4, vR b21, vI 1, vI 1, vI 0, vU] [(.ref r_61)]) _
      refine X61.arraylength hx Ar66.1 (State.isArrayOf_alike hZ.alike Ar66.2.1) (g := (mkF m 72 #[vI p1, vI p2, vI p3, vI p4, vR b21, vI 1, vI 1, vI 0, vU] [(.ref r_61)])) rfl rfl (hb hby at_72) _ ?_
      rw [len_of S66 N66]
      show Go _ _ _ _ (mkF m 73 _ [(.int zr_61)]) _
      refine XS.istore X61.here hx rfl (hb hby at_73) rfl (l' := #[vI p1, vI p2, vI p3, vI p4, vR b21, vI 1, vI 1, vI 0, vI zr_61]) rfl ?_
      show Go _ _ _ _ (mkF m 75 #[vI p1, vI p2, vI p3, vI p4, vR b21, vI 1, vI 1, vI 0, vI zr_61] []) _
      refine XS.iload X61.here hx rfl (hb hby at_75) rfl ?_
      show Go _ _ _ _ (mkF m 77 _ [(.int 1)]) _
      refine XS.ifNo X61.here hx rfl (hb hby at_77) rfl ((if0 _ _).trans (feq (by decide : ¬ ((1 : Int32) = (0 : Int32)))).1) ?_
      show Go _ _ _ _ (mkF m 80 _ []) _
      refine XS.iload X61.here hx rfl (hb hby at_80) rfl ?_
      show Go _ _ _ _ (mkF m 82 _ [(.int 0)]) _
      refine XS.iload X61.here hx rfl (hb hby at_82) rfl ?_
      show Go _ _ _ _ (mkF m 84 _ [(.int 1), (.int 0)]) _
      refine XS.ifYes X61.here hx rfl (pc0 := 84) (pc' := 91) rfl (hb hby at_84) rfl ((if0 _ _).trans (feq (by decide : ¬ ((1 : Int32) = (0 : Int32)))).2) (by decide) (by decide) ?_
      show Go _ _ _ _ (mkF m 91 _ [(.int 0)]) _
      refine XS.iconst X61.here hx rfl (hb hby at_91) ?_
      show Go _ _ _ _ (mkF m 92 _ [(.int 0), (.int 0)]) _
      refine XS.icmpNo X61.here hx rfl (hb hby at_92) rfl (teq (rfl : (0 : Int32) = (0 : Int32))).2 ?_
      show Go _ _ _ _ (mkF m 95 _ []) _
      refine XS.iload X61.here hx rfl (hb hby at_95) rfl ?_
      show Go _ _ _ _ (mkF m 97 _ [(.int 0)]) _
      refine XS.iload X61.here hx rfl (hb hby at_97) rfl ?_
      show Go _ _ _ _ (mkF m 99 _ [(.int zr_61), (.int 0)]) _
      refine XS.ifYes X61.here hx rfl (pc0 := 99) (pc' := 106) rfl (hb hby at_99) rfl ((if0 _ _).trans (feq pq61_0).2) (by decide) (by decide) ?_
      show Go _ _ _ _ (mkF m 106 _ [(.int 0)]) _
      refine XS.iconst X61.here hx rfl (hb hby at_106) ?_
      show Go _ _ _ _ (mkF m 107 _ [(.int 0), (.int 0)]) _
      refine XS.icmpNo X61.here hx rfl (hb hby at_107) rfl (teq (rfl : (0 : Int32) = (0 : Int32))).2 ?_
      show Go _ _ _ _ (mkF m 110 _ []) _
      refine XS.iconst X61.here hx rfl (hb hby at_110) ?_
      show Go _ _ _ _ (mkF m 111 _ [(.int 1)]) _
      refine XS.goto X61.here hx rfl (pc0 := 111) (pc' := 115) rfl (hb hby at_111) (by decide) (by decide) ?_
      exact kt))
    exact ⟨some (.int 1), T61, _, _, _, _, X61, by decide, by decide, nofun, q67, fun fs hr => retN X61 hx (t := .boolean) hret (by simp) (hb hby at_115) hr, ⟨rfl, N63⟩⟩
  · skip
    have q68 := fun t (kt : Go p e below T29 (mkF m 19 #[vI p1, vI p2, vI p3, vI p4, vR b21, vI 1, vU, vU, vU] [(.int 2)]) t) => q33 t (by rw [hk]; exact kt)
    have q69 := fun t (kt : Go p e below T29 (mkF m 30 #[vI p1, vI p2, vI p3, vI p4, vR b21, vI 1, vI 2, vU, vU] [(.int p2), (.ref b21)]) t) => q68 t (by
      show Go _ _ _ _ (mkF m 19 #[vI p1, vI p2, vI p3, vI p4, vR b21, vI 1, vU, vU, vU] [(.int 2)]) _
      refine XS.istore X29.here hx rfl (hb hby at_19) rfl (l' := #[vI p1, vI p2, vI p3, vI p4, vR b21, vI 1, vI 2, vU, vU]) rfl ?_
      show Go _ _ _ _ (mkF m 21 #[vI p1, vI p2, vI p3, vI p4, vR b21, vI 1, vI 2, vU, vU] []) _
      refine XS.iload X29.here hx rfl (hb hby at_21) rfl ?_
      show Go _ _ _ _ (mkF m 23 _ [(.int 2)]) _
      refine XS.iconst X29.here hx rfl (hb hby at_23) ?_
      show Go _ _ _ _ (mkF m 24 _ [(.int 1), (.int 2)]) _
      refine XS.icmpNo X29.here hx rfl (hb hby at_24) rfl (flt (by decide : ¬ ((2 : Int32) < (1 : Int32)))).1 ?_
      show Go _ _ _ _ (mkF m 27 _ []) _
      refine XS.aload X29.here hx rfl (hb hby at_27) rfl rfl ?_
      show Go _ _ _ _ (mkF m 29 _ [(.ref b21)]) _
      refine XS.iloadN X29.here hx rfl (hb hby at_29) rfl ?_
      exact kt)
    obtain ⟨cq71, kq71, q71a, q71b, q71c⟩ := isOf hZ eq29 f31
    obtain ⟨_, _, ⟨T70, L70, k70, n70⟩, -, X70, ⟨_, hQ70, l70, y70, z70⟩, st70⟩ := X29.virtualBack hx (y := ym11) (z := ym11) hown (ow hZ hw 30 rfl) (ow hZ hw 31 rfl) (notFace_of_selects (args := #[]) (ow hZ hw 33 rfl)) (ow hZ hw 33 rfl) (ow hZ hw 32 rfl) (by decide) (backOf (W := 0) (rm5_0 l Z a0 hw [] cx b21 p2 T25.heap n0 O27 f31 fq25_0 fq25_1 fq25_2 gg22) hZ (ox hw 34 rfl) (ox hw 2 rfl) (by decide) (by decide)) q71a q71c (g := (mkF m 30 #[vI p1, vI p2, vI p3, vI p4, vR b21, vI 1, vI 2, vU, vU] [(.int p2), (.ref b21)])) rfl (by rw [hml]; rfl) (Steps.refl _) (argsL := [(.int p2)]) (rest := []) (lenOf pd_12 rfl) rfl own_le0 (hb hby at_30) (fun _ _ => ⟨rfl, eq29, (by decide : 1 + 2 ≤ _), (by decide : 3 + 4 ≤ _)⟩)
    dsimp only [Pt.U, Pt.locs, Pt.cells, Pt.slots] at X70 l70 y70 z70 st70 hQ70
    subst l70 y70 z70
    obtain ⟨b_70, ta_70, kb_70, kt_70, x0_70, rfl, Nq70, Kq70, fr70_0, fr70_1, fq70_0, fq70_1, fq70_2, fq70_3, fq70_4, pq70_0⟩ := hQ70
    have N72 := Fr.app N32 Nq70
    have gg73 : n0 ≤ b_70 := Nat.le_trans (O27.1 ▸ O27.2.1) fr70_0
    have gg74 : n0 ≤ ta_70 := Nat.le_trans (O27.1 ▸ O27.2.1) fr70_1
    have O75 := O27.keep Kq70 (allS gg22 all0)
    have f76 := (f31.keep Kq70)
    have ne77 : b21 ≠ b_70 := (Nat.ne_of_lt (Nat.lt_of_lt_of_le f31.lt fr70_0))
    have ne78 : b21 ≠ ta_70 := (Nat.ne_of_lt (Nat.lt_of_lt_of_le f31.lt fr70_1))
    have q79 := fun t (kt : Go p e below T70 (mkF m 43 #[vI p1, vI p2, vI p3, vI p4, vR b21, vI 1, vI 2, vU, vU] [(.int p3), (.ref b21)]) t) => q69 t (st70.trans (by
      show Go _ _ _ _ (mkF m 33 #[vI p1, vI p2, vI p3, vI p4, vR b21, vI 1, vI 2, vU, vU] [(.int 1)]) _
      refine XS.pop X70.here hx rfl (hb hby at_33) rfl rfl ?_
      show Go _ _ _ _ (mkF m 34 _ []) _
      refine XS.iload X70.here hx rfl (hb hby at_34) rfl ?_
      show Go _ _ _ _ (mkF m 36 _ [(.int 2)]) _
      refine XS.iconst X70.here hx rfl (hb hby at_36) ?_
      show Go _ _ _ _ (mkF m 37 _ [(.int 2), (.int 2)]) _
      refine XS.icmpNo X70.here hx rfl (hb hby at_37) rfl (flt (by decide : ¬ ((2 : Int32) < (2 : Int32)))).1 ?_
      show Go _ _ _ _ (mkF m 40 _ []) _
      refine XS.aload X70.here hx rfl (hb hby at_40) rfl rfl ?_
      show Go _ _ _ _ (mkF m 42 _ [(.ref b21)]) _
      refine XS.iloadN X70.here hx rfl (hb hby at_42) rfl ?_
      exact kt))
    obtain ⟨cq81, kq81, q81a, q81b, q81c⟩ := isOf hZ rfl f76
    obtain ⟨_, _, ⟨T80, L80, k80, n80⟩, -, X80, ⟨_, hQ80, l80, y80, z80⟩, st80⟩ := X70.virtualBack hx (y := ym11) (z := ym11) hown (ow hZ hw 30 rfl) (ow hZ hw 31 rfl) (notFace_of_selects (args := #[]) (ow hZ hw 33 rfl)) (ow hZ hw 33 rfl) (ow hZ hw 32 rfl) (by decide) (backOf (W := 0) (rm5_1 l Z a0 hw [] cx b21 b_70 ta_70 kb_70 kt_70 x0_70 (0 : Int32) (own_b p2) (0 : Int64) p3 1 T70.heap n0 O75 f76 fq70_0 fq70_1 fq70_2 fq70_3 fq70_4 gg22 gg73 gg74 ne77 ne78 pq70_0 (own_W_1 _)) hZ (ox hw 34 rfl) (ox hw 2 rfl) (by decide) (by decide)) q81a q81c (g := (mkF m 43 #[vI p1, vI p2, vI p3, vI p4, vR b21, vI 1, vI 2, vU, vU] [(.int p3), (.ref b21)])) rfl (by rw [hml]; rfl) (Steps.refl _) (argsL := [(.int p3)]) (rest := []) (lenOf pd_12 rfl) rfl own_le0 (hb hby at_43) (fun _ _ => ⟨rfl, rfl, (by decide : 3 + 0 ≤ _), (by decide : 7 + 0 ≤ _)⟩)
    dsimp only [Pt.U, Pt.locs, Pt.cells, Pt.slots] at X80 l80 y80 z80 st80 hQ80
    subst l80 y80 z80
    obtain ⟨uu_80, y0_80, y1_80, v0_80, v1_80, r_80, rfl, Nq80, Kq80, fq80_0, fq80_1, fq80_2, fq80_3, fq80_4, pq80_0⟩ := hQ80
    have N82 := Fr.app N72 Nq80
    have O83 := O75.keep Kq80 (allS gg22 (allS gg73 (allS gg74 all0)))
    have q84 := fun t (kt : Go p e below T80 (mkF m 46 #[vI p1, vI p2, vI p3, vI p4, vR b21, vI 1, vI 2, vU, vU] [(.int r_80)]) t) => q79 t (st80.trans kt)
    rcases pq80_0 with ⟨hu, hA⟩ | ⟨hu, hA, hB⟩
    · skip
      have fr85 : Fld Z T80.heap b21 sk0 "used" "I" (.int 1) := by
        have z := fq80_2
        rw [hu] at z
        exact z
      have q86 := fun t (kt : Go p e below T80 (mkF m 62 #[vI p1, vI p2, vI p3, vI p4, vR b21, vI 1, vI 2, vU, vU] [(.ref b21)]) t) => q84 t (by
        show Go _ _ _ _ (mkF m 46 #[vI p1, vI p2, vI p3, vI p4, vR b21, vI 1, vI 2, vU, vU] [(.int r_80)]) _
        refine XS.pop X80.here hx rfl (hb hby at_46) rfl rfl ?_
        show Go _ _ _ _ (mkF m 47 _ []) _
        refine XS.iload X80.here hx rfl (hb hby at_47) rfl ?_
        show Go _ _ _ _ (mkF m 49 _ [(.int 2)]) _
        refine XS.iconst X80.here hx rfl (hb hby at_49) ?_
        show Go _ _ _ _ (mkF m 50 _ [(.int 3), (.int 2)]) _
        refine XS.icmpYes X80.here hx rfl (pc0 := 50) (pc' := 60) rfl (hb hby at_50) rfl (tlt (by decide : (2 : Int32) < (3 : Int32))).1 (by decide) (by decide) ?_
        show Go _ _ _ _ (mkF m 60 _ []) _
        refine XS.aload X80.here hx rfl (hb hby at_60) rfl rfl ?_
        exact kt)
      have f89 := (f76.keep Kq80)
      obtain ⟨cq88, kq88, q88a, q88b, q88c⟩ := isOf hZ rfl f89
      obtain ⟨_, _, ⟨T87, L87, k87, n87⟩, -, X87, ⟨_, hQ87, l87, y87, z87⟩, st87⟩ := X80.virtualBack hx (y := ym1) (z := ym1) hown (ow hZ hw 17 rfl) (ow hZ hw 18 rfl) (notFace_of_selects (args := #[]) (ow hZ hw 20 rfl)) (ow hZ hw 20 rfl) (ow hZ hw 19 rfl) (by decide) (backOf (W := 0) (rm3n l Z a0 hw [] cx b21 (1 : Int32) T80.heap n0 O83 fr85 (by decide : ¬ ((1 : Int32) = (0 : Int32)))) hZ (ox hw 21 rfl) (ox hw 2 rfl) (by decide) (by decide)) q88a q88c (g := (mkF m 62 #[vI p1, vI p2, vI p3, vI p4, vR b21, vI 1, vI 2, vU, vU] [(.ref b21)])) rfl (by rw [hml]; rfl) (Steps.refl _) (argsL := []) (rest := []) (lenOf pd_10 rfl) rfl own_le0 (hb hby at_62) (fun _ _ => ⟨rfl, rfl, (by decide : 3 + 0 ≤ _), (by decide : 7 + 0 ≤ _)⟩)
      dsimp only [Pt.U, Pt.locs, Pt.cells, Pt.slots] at X87 l87 y87 z87 st87 hQ87
      subst l87 y87 z87
      obtain ⟨rfl, Nq87, eq87⟩ := hQ87
      have N90 := Fr.app N82 Nq87
      have q91 := fun t (kt : Go p e below T87 (mkF m 69 #[vI p1, vI p2, vI p3, vI p4, vR b21, vI 1, vI 2, vI 0, vU] [(.ref b21)]) t) => q86 t (st87.trans (by
        show Go _ _ _ _ (mkF m 65 #[vI p1, vI p2, vI p3, vI p4, vR b21, vI 1, vI 2, vU, vU] [(.int 0)]) _
        refine XS.istore X87.here hx rfl (hb hby at_65) rfl (l' := #[vI p1, vI p2, vI p3, vI p4, vR b21, vI 1, vI 2, vI 0, vU]) rfl ?_
        show Go _ _ _ _ (mkF m 67 #[vI p1, vI p2, vI p3, vI p4, vR b21, vI 1, vI 2, vI 0, vU] []) _
        refine XS.aload X87.here hx rfl (hb hby at_67) rfl rfl ?_
        exact kt))
      obtain ⟨cq93, kq93, q93a, q93b, q93c⟩ := isOf hZ eq87 f89
      obtain ⟨_, _, ⟨T92, L92, k92, n92⟩, -, X92, ⟨_, hQ92, l92, y92, z92⟩, st92⟩ := X87.virtualBack hx (y := ym15) (z := ym15) hown (ow hZ hw 24 rfl) (ow hZ hw 25 rfl) (notFace_of_selects (args := #[]) (ow hZ hw 27 rfl)) (ow hZ hw 27 rfl) (ow hZ hw 26 rfl) (by decide) (backOf (W := 0) (rm4_1 l Z a0 hw [] cx b21 b_70 ta_70 kb_70 kt_70 y0_80 y1_80 v0_80 v1_80 T80.heap n0 O83 fq80_0 fq80_1 fr85 fq80_3 fq80_4 (own_W_mono hA)) hZ (ox hw 28 rfl) (ox hw 2 rfl) (by decide) (by decide)) q93a q93c (g := (mkF m 69 #[vI p1, vI p2, vI p3, vI p4, vR b21, vI 1, vI 2, vI 0, vU] [(.ref b21)])) rfl (by rw [hml]; rfl) (Steps.refl _) (argsL := []) (rest := []) (lenOf pd_11 rfl) rfl own_le0 (hb hby at_69) (fun _ _ => ⟨rfl, eq87, (by decide : 3 + 1 ≤ _), (by decide : 7 + 3 ≤ _)⟩)
      dsimp only [Pt.U, Pt.locs, Pt.cells, Pt.slots] at X92 l92 y92 z92 st92 hQ92
      subst l92 y92 z92
      obtain ⟨r_92, kr_92, zr_92, vr_92, rfl, Nq92, Kq92, fr92_0, fq92_0, pq92_0⟩ := hQ92
      have N94 := Fr.app N90 Nq92
      have gg95 : n0 ≤ r_92 := Nat.le_trans (O83.1 ▸ O83.2.1) fr92_0
      have O96 := O83.keep Kq92 all0
      obtain ⟨c97, Ar97, -, S97, N97, -, -⟩ := id fq92_0
      have q98 := fun t (kt : Go p e below T92 (mkF m 115 #[vI p1, vI p2, vI p3, vI p4, vR b21, vI 1, vI 2, vI 0, vI zr_92] [(.int 1)]) t) => q91 t (st92.trans (by
        show Go _ _ _ _ (mkF m 72 #[vI p1, vI p2, vI p3, vI p4, vR b21, vI 1, vI 2, vI 0, vU] [(.ref r_92)]) _
        refine X92.arraylength hx Ar97.1 (State.isArrayOf_alike hZ.alike Ar97.2.1) (g := (mkF m 72 #[vI p1, vI p2, vI p3, vI p4, vR b21, vI 1, vI 2, vI 0, vU] [(.ref r_92)])) rfl rfl (hb hby at_72) _ ?_
        rw [len_of S97 N97]
        show Go _ _ _ _ (mkF m 73 _ [(.int zr_92)]) _
        refine XS.istore X92.here hx rfl (hb hby at_73) rfl (l' := #[vI p1, vI p2, vI p3, vI p4, vR b21, vI 1, vI 2, vI 0, vI zr_92]) rfl ?_
        show Go _ _ _ _ (mkF m 75 #[vI p1, vI p2, vI p3, vI p4, vR b21, vI 1, vI 2, vI 0, vI zr_92] []) _
        refine XS.iload X92.here hx rfl (hb hby at_75) rfl ?_
        show Go _ _ _ _ (mkF m 77 _ [(.int 1)]) _
        refine XS.ifNo X92.here hx rfl (hb hby at_77) rfl ((if0 _ _).trans (feq (by decide : ¬ ((1 : Int32) = (0 : Int32)))).1) ?_
        show Go _ _ _ _ (mkF m 80 _ []) _
        refine XS.iload X92.here hx rfl (hb hby at_80) rfl ?_
        show Go _ _ _ _ (mkF m 82 _ [(.int 0)]) _
        refine XS.iload X92.here hx rfl (hb hby at_82) rfl ?_
        show Go _ _ _ _ (mkF m 84 _ [(.int 2), (.int 0)]) _
        refine XS.ifYes X92.here hx rfl (pc0 := 84) (pc' := 91) rfl (hb hby at_84) rfl ((if0 _ _).trans (feq (by decide : ¬ ((2 : Int32) = (0 : Int32)))).2) (by decide) (by decide) ?_
        show Go _ _ _ _ (mkF m 91 _ [(.int 0)]) _
        refine XS.iconst X92.here hx rfl (hb hby at_91) ?_
        show Go _ _ _ _ (mkF m 92 _ [(.int 0), (.int 0)]) _
        refine XS.icmpNo X92.here hx rfl (hb hby at_92) rfl (teq (rfl : (0 : Int32) = (0 : Int32))).2 ?_
        show Go _ _ _ _ (mkF m 95 _ []) _
        refine XS.iload X92.here hx rfl (hb hby at_95) rfl ?_
        show Go _ _ _ _ (mkF m 97 _ [(.int 0)]) _
        refine XS.iload X92.here hx rfl (hb hby at_97) rfl ?_
        show Go _ _ _ _ (mkF m 99 _ [(.int zr_92), (.int 0)]) _
        refine XS.ifYes X92.here hx rfl (pc0 := 99) (pc' := 106) rfl (hb hby at_99) rfl ((if0 _ _).trans (feq pq92_0).2) (by decide) (by decide) ?_
        show Go _ _ _ _ (mkF m 106 _ [(.int 0)]) _
        refine XS.iconst X92.here hx rfl (hb hby at_106) ?_
        show Go _ _ _ _ (mkF m 107 _ [(.int 0), (.int 0)]) _
        refine XS.icmpNo X92.here hx rfl (hb hby at_107) rfl (teq (rfl : (0 : Int32) = (0 : Int32))).2 ?_
        show Go _ _ _ _ (mkF m 110 _ []) _
        refine XS.iconst X92.here hx rfl (hb hby at_110) ?_
        show Go _ _ _ _ (mkF m 111 _ [(.int 1)]) _
        refine XS.goto X92.here hx rfl (pc0 := 111) (pc' := 115) rfl (hb hby at_111) (by decide) (by decide) ?_
        exact kt))
      exact ⟨some (.int 1), T92, _, _, _, _, X92, by decide, by decide, nofun, q98, fun fs hr => retN X92 hx (t := .boolean) hret (by simp) (hb hby at_115) hr, ⟨rfl, N94⟩⟩
    · skip
      have fr99 : Fld Z T80.heap b21 sk0 "used" "I" (.int 2) := by
        have z := fq80_2
        rw [hu] at z
        exact z
      have q100 := fun t (kt : Go p e below T80 (mkF m 62 #[vI p1, vI p2, vI p3, vI p4, vR b21, vI 1, vI 2, vU, vU] [(.ref b21)]) t) => q84 t (by
        show Go _ _ _ _ (mkF m 46 #[vI p1, vI p2, vI p3, vI p4, vR b21, vI 1, vI 2, vU, vU] [(.int r_80)]) _
        refine XS.pop X80.here hx rfl (hb hby at_46) rfl rfl ?_
        show Go _ _ _ _ (mkF m 47 _ []) _
        refine XS.iload X80.here hx rfl (hb hby at_47) rfl ?_
        show Go _ _ _ _ (mkF m 49 _ [(.int 2)]) _
        refine XS.iconst X80.here hx rfl (hb hby at_49) ?_
        show Go _ _ _ _ (mkF m 50 _ [(.int 3), (.int 2)]) _
        refine XS.icmpYes X80.here hx rfl (pc0 := 50) (pc' := 60) rfl (hb hby at_50) rfl (tlt (by decide : (2 : Int32) < (3 : Int32))).1 (by decide) (by decide) ?_
        show Go _ _ _ _ (mkF m 60 _ []) _
        refine XS.aload X80.here hx rfl (hb hby at_60) rfl rfl ?_
        exact kt)
      have f103 := (f76.keep Kq80)
      obtain ⟨cq102, kq102, q102a, q102b, q102c⟩ := isOf hZ rfl f103
      obtain ⟨_, _, ⟨T101, L101, k101, n101⟩, -, X101, ⟨_, hQ101, l101, y101, z101⟩, st101⟩ := X80.virtualBack hx (y := ym1) (z := ym1) hown (ow hZ hw 17 rfl) (ow hZ hw 18 rfl) (notFace_of_selects (args := #[]) (ow hZ hw 20 rfl)) (ow hZ hw 20 rfl) (ow hZ hw 19 rfl) (by decide) (backOf (W := 0) (rm3n l Z a0 hw [] cx b21 (2 : Int32) T80.heap n0 O83 fr99 (by decide : ¬ ((2 : Int32) = (0 : Int32)))) hZ (ox hw 21 rfl) (ox hw 2 rfl) (by decide) (by decide)) q102a q102c (g := (mkF m 62 #[vI p1, vI p2, vI p3, vI p4, vR b21, vI 1, vI 2, vU, vU] [(.ref b21)])) rfl (by rw [hml]; rfl) (Steps.refl _) (argsL := []) (rest := []) (lenOf pd_10 rfl) rfl own_le0 (hb hby at_62) (fun _ _ => ⟨rfl, rfl, (by decide : 3 + 0 ≤ _), (by decide : 7 + 0 ≤ _)⟩)
      dsimp only [Pt.U, Pt.locs, Pt.cells, Pt.slots] at X101 l101 y101 z101 st101 hQ101
      subst l101 y101 z101
      obtain ⟨rfl, Nq101, eq101⟩ := hQ101
      have N104 := Fr.app N82 Nq101
      have q105 := fun t (kt : Go p e below T101 (mkF m 69 #[vI p1, vI p2, vI p3, vI p4, vR b21, vI 1, vI 2, vI 0, vU] [(.ref b21)]) t) => q100 t (st101.trans (by
        show Go _ _ _ _ (mkF m 65 #[vI p1, vI p2, vI p3, vI p4, vR b21, vI 1, vI 2, vU, vU] [(.int 0)]) _
        refine XS.istore X101.here hx rfl (hb hby at_65) rfl (l' := #[vI p1, vI p2, vI p3, vI p4, vR b21, vI 1, vI 2, vI 0, vU]) rfl ?_
        show Go _ _ _ _ (mkF m 67 #[vI p1, vI p2, vI p3, vI p4, vR b21, vI 1, vI 2, vI 0, vU] []) _
        refine XS.aload X101.here hx rfl (hb hby at_67) rfl rfl ?_
        exact kt))
      obtain ⟨cq107, kq107, q107a, q107b, q107c⟩ := isOf hZ eq101 f103
      obtain ⟨_, _, ⟨T106, L106, k106, n106⟩, -, X106, ⟨_, hQ106, l106, y106, z106⟩, st106⟩ := X101.virtualBack hx (y := ym15) (z := ym15) hown (ow hZ hw 24 rfl) (ow hZ hw 25 rfl) (notFace_of_selects (args := #[]) (ow hZ hw 27 rfl)) (ow hZ hw 27 rfl) (ow hZ hw 26 rfl) (by decide) (backOf (W := 0) (rm4_2 l Z a0 hw [] cx b21 b_70 ta_70 kb_70 kt_70 y0_80 y1_80 v0_80 v1_80 T80.heap n0 O83 fq80_0 fq80_1 fr99 fq80_3 fq80_4 (own_W_mono hA) (own_W_mono hB)) hZ (ox hw 28 rfl) (ox hw 2 rfl) (by decide) (by decide)) q107a q107c (g := (mkF m 69 #[vI p1, vI p2, vI p3, vI p4, vR b21, vI 1, vI 2, vI 0, vU] [(.ref b21)])) rfl (by rw [hml]; rfl) (Steps.refl _) (argsL := []) (rest := []) (lenOf pd_11 rfl) rfl own_le0 (hb hby at_69) (fun _ _ => ⟨rfl, eq101, (by decide : 3 + 1 ≤ _), (by decide : 7 + 4 ≤ _)⟩)
      dsimp only [Pt.U, Pt.locs, Pt.cells, Pt.slots] at X106 l106 y106 z106 st106 hQ106
      subst l106 y106 z106
      obtain ⟨r_106, kr_106, zr_106, vr_106, rfl, Nq106, Kq106, fr106_0, fq106_0, pq106_0⟩ := hQ106
      have N108 := Fr.app N104 Nq106
      have gg109 : n0 ≤ r_106 := Nat.le_trans (O83.1 ▸ O83.2.1) fr106_0
      have O110 := O83.keep Kq106 all0
      obtain ⟨c111, Ar111, -, S111, N111, -, -⟩ := id fq106_0
      have q112 := fun t (kt : Go p e below T106 (mkF m 115 #[vI p1, vI p2, vI p3, vI p4, vR b21, vI 1, vI 2, vI 0, vI zr_106] [(.int 1)]) t) => q105 t (st106.trans (by
        show Go _ _ _ _ (mkF m 72 #[vI p1, vI p2, vI p3, vI p4, vR b21, vI 1, vI 2, vI 0, vU] [(.ref r_106)]) _
        refine X106.arraylength hx Ar111.1 (State.isArrayOf_alike hZ.alike Ar111.2.1) (g := (mkF m 72 #[vI p1, vI p2, vI p3, vI p4, vR b21, vI 1, vI 2, vI 0, vU] [(.ref r_106)])) rfl rfl (hb hby at_72) _ ?_
        rw [len_of S111 N111]
        show Go _ _ _ _ (mkF m 73 _ [(.int zr_106)]) _
        refine XS.istore X106.here hx rfl (hb hby at_73) rfl (l' := #[vI p1, vI p2, vI p3, vI p4, vR b21, vI 1, vI 2, vI 0, vI zr_106]) rfl ?_
        show Go _ _ _ _ (mkF m 75 #[vI p1, vI p2, vI p3, vI p4, vR b21, vI 1, vI 2, vI 0, vI zr_106] []) _
        refine XS.iload X106.here hx rfl (hb hby at_75) rfl ?_
        show Go _ _ _ _ (mkF m 77 _ [(.int 1)]) _
        refine XS.ifNo X106.here hx rfl (hb hby at_77) rfl ((if0 _ _).trans (feq (by decide : ¬ ((1 : Int32) = (0 : Int32)))).1) ?_
        show Go _ _ _ _ (mkF m 80 _ []) _
        refine XS.iload X106.here hx rfl (hb hby at_80) rfl ?_
        show Go _ _ _ _ (mkF m 82 _ [(.int 0)]) _
        refine XS.iload X106.here hx rfl (hb hby at_82) rfl ?_
        show Go _ _ _ _ (mkF m 84 _ [(.int 2), (.int 0)]) _
        refine XS.ifYes X106.here hx rfl (pc0 := 84) (pc' := 91) rfl (hb hby at_84) rfl ((if0 _ _).trans (feq (by decide : ¬ ((2 : Int32) = (0 : Int32)))).2) (by decide) (by decide) ?_
        show Go _ _ _ _ (mkF m 91 _ [(.int 0)]) _
        refine XS.iconst X106.here hx rfl (hb hby at_91) ?_
        show Go _ _ _ _ (mkF m 92 _ [(.int 0), (.int 0)]) _
        refine XS.icmpNo X106.here hx rfl (hb hby at_92) rfl (teq (rfl : (0 : Int32) = (0 : Int32))).2 ?_
        show Go _ _ _ _ (mkF m 95 _ []) _
        refine XS.iload X106.here hx rfl (hb hby at_95) rfl ?_
        show Go _ _ _ _ (mkF m 97 _ [(.int 0)]) _
        refine XS.iload X106.here hx rfl (hb hby at_97) rfl ?_
        show Go _ _ _ _ (mkF m 99 _ [(.int zr_106), (.int 0)]) _
        refine XS.ifYes X106.here hx rfl (pc0 := 99) (pc' := 106) rfl (hb hby at_99) rfl ((if0 _ _).trans (feq pq106_0).2) (by decide) (by decide) ?_
        show Go _ _ _ _ (mkF m 106 _ [(.int 0)]) _
        refine XS.iconst X106.here hx rfl (hb hby at_106) ?_
        show Go _ _ _ _ (mkF m 107 _ [(.int 0), (.int 0)]) _
        refine XS.icmpNo X106.here hx rfl (hb hby at_107) rfl (teq (rfl : (0 : Int32) = (0 : Int32))).2 ?_
        show Go _ _ _ _ (mkF m 110 _ []) _
        refine XS.iconst X106.here hx rfl (hb hby at_110) ?_
        show Go _ _ _ _ (mkF m 111 _ [(.int 1)]) _
        refine XS.goto X106.here hx rfl (pc0 := 111) (pc' := 115) rfl (hb hby at_111) (by decide) (by decide) ?_
        exact kt))
      exact ⟨some (.int 1), T106, _, _, _, _, X106, by decide, by decide, nofun, q112, fun fs hr => retN X106 hx (t := .boolean) hret (by simp) (hb hby at_115) hr, ⟨rfl, N108⟩⟩
  · skip
    have q113 := fun t (kt : Go p e below T29 (mkF m 19 #[vI p1, vI p2, vI p3, vI p4, vR b21, vI 1, vU, vU, vU] [(.int 3)]) t) => q33 t (by rw [hk]; exact kt)
    have q114 := fun t (kt : Go p e below T29 (mkF m 30 #[vI p1, vI p2, vI p3, vI p4, vR b21, vI 1, vI 3, vU, vU] [(.int p2), (.ref b21)]) t) => q113 t (by
      show Go _ _ _ _ (mkF m 19 #[vI p1, vI p2, vI p3, vI p4, vR b21, vI 1, vU, vU, vU] [(.int 3)]) _
      refine XS.istore X29.here hx rfl (hb hby at_19) rfl (l' := #[vI p1, vI p2, vI p3, vI p4, vR b21, vI 1, vI 3, vU, vU]) rfl ?_
      show Go _ _ _ _ (mkF m 21 #[vI p1, vI p2, vI p3, vI p4, vR b21, vI 1, vI 3, vU, vU] []) _
      refine XS.iload X29.here hx rfl (hb hby at_21) rfl ?_
      show Go _ _ _ _ (mkF m 23 _ [(.int 3)]) _
      refine XS.iconst X29.here hx rfl (hb hby at_23) ?_
      show Go _ _ _ _ (mkF m 24 _ [(.int 1), (.int 3)]) _
      refine XS.icmpNo X29.here hx rfl (hb hby at_24) rfl (flt (by decide : ¬ ((3 : Int32) < (1 : Int32)))).1 ?_
      show Go _ _ _ _ (mkF m 27 _ []) _
      refine XS.aload X29.here hx rfl (hb hby at_27) rfl rfl ?_
      show Go _ _ _ _ (mkF m 29 _ [(.ref b21)]) _
      refine XS.iloadN X29.here hx rfl (hb hby at_29) rfl ?_
      exact kt)
    obtain ⟨cq116, kq116, q116a, q116b, q116c⟩ := isOf hZ eq29 f31
    obtain ⟨_, _, ⟨T115, L115, k115, n115⟩, -, X115, ⟨_, hQ115, l115, y115, z115⟩, st115⟩ := X29.virtualBack hx (y := ym11) (z := ym11) hown (ow hZ hw 30 rfl) (ow hZ hw 31 rfl) (notFace_of_selects (args := #[]) (ow hZ hw 33 rfl)) (ow hZ hw 33 rfl) (ow hZ hw 32 rfl) (by decide) (backOf (W := 0) (rm5_0 l Z a0 hw [] cx b21 p2 T25.heap n0 O27 f31 fq25_0 fq25_1 fq25_2 gg22) hZ (ox hw 34 rfl) (ox hw 2 rfl) (by decide) (by decide)) q116a q116c (g := (mkF m 30 #[vI p1, vI p2, vI p3, vI p4, vR b21, vI 1, vI 3, vU, vU] [(.int p2), (.ref b21)])) rfl (by rw [hml]; rfl) (Steps.refl _) (argsL := [(.int p2)]) (rest := []) (lenOf pd_12 rfl) rfl own_le0 (hb hby at_30) (fun _ _ => ⟨rfl, eq29, (by decide : 1 + 2 ≤ _), (by decide : 3 + 4 ≤ _)⟩)
    dsimp only [Pt.U, Pt.locs, Pt.cells, Pt.slots] at X115 l115 y115 z115 st115 hQ115
    subst l115 y115 z115
    obtain ⟨b_115, ta_115, kb_115, kt_115, x0_115, rfl, Nq115, Kq115, fr115_0, fr115_1, fq115_0, fq115_1, fq115_2, fq115_3, fq115_4, pq115_0⟩ := hQ115
    have N117 := Fr.app N32 Nq115
    have gg118 : n0 ≤ b_115 := Nat.le_trans (O27.1 ▸ O27.2.1) fr115_0
    have gg119 : n0 ≤ ta_115 := Nat.le_trans (O27.1 ▸ O27.2.1) fr115_1
    have O120 := O27.keep Kq115 (allS gg22 all0)
    have f121 := (f31.keep Kq115)
    have ne122 : b21 ≠ b_115 := (Nat.ne_of_lt (Nat.lt_of_lt_of_le f31.lt fr115_0))
    have ne123 : b21 ≠ ta_115 := (Nat.ne_of_lt (Nat.lt_of_lt_of_le f31.lt fr115_1))
    have q124 := fun t (kt : Go p e below T115 (mkF m 43 #[vI p1, vI p2, vI p3, vI p4, vR b21, vI 1, vI 3, vU, vU] [(.int p3), (.ref b21)]) t) => q114 t (st115.trans (by
      show Go _ _ _ _ (mkF m 33 #[vI p1, vI p2, vI p3, vI p4, vR b21, vI 1, vI 3, vU, vU] [(.int 1)]) _
      refine XS.pop X115.here hx rfl (hb hby at_33) rfl rfl ?_
      show Go _ _ _ _ (mkF m 34 _ []) _
      refine XS.iload X115.here hx rfl (hb hby at_34) rfl ?_
      show Go _ _ _ _ (mkF m 36 _ [(.int 3)]) _
      refine XS.iconst X115.here hx rfl (hb hby at_36) ?_
      show Go _ _ _ _ (mkF m 37 _ [(.int 2), (.int 3)]) _
      refine XS.icmpNo X115.here hx rfl (hb hby at_37) rfl (flt (by decide : ¬ ((3 : Int32) < (2 : Int32)))).1 ?_
      show Go _ _ _ _ (mkF m 40 _ []) _
      refine XS.aload X115.here hx rfl (hb hby at_40) rfl rfl ?_
      show Go _ _ _ _ (mkF m 42 _ [(.ref b21)]) _
      refine XS.iloadN X115.here hx rfl (hb hby at_42) rfl ?_
      exact kt))
    obtain ⟨cq126, kq126, q126a, q126b, q126c⟩ := isOf hZ rfl f121
    obtain ⟨_, _, ⟨T125, L125, k125, n125⟩, -, X125, ⟨_, hQ125, l125, y125, z125⟩, st125⟩ := X115.virtualBack hx (y := ym11) (z := ym11) hown (ow hZ hw 30 rfl) (ow hZ hw 31 rfl) (notFace_of_selects (args := #[]) (ow hZ hw 33 rfl)) (ow hZ hw 33 rfl) (ow hZ hw 32 rfl) (by decide) (backOf (W := 0) (rm5_1 l Z a0 hw [] cx b21 b_115 ta_115 kb_115 kt_115 x0_115 (0 : Int32) (own_b p2) (0 : Int64) p3 1 T115.heap n0 O120 f121 fq115_0 fq115_1 fq115_2 fq115_3 fq115_4 gg22 gg118 gg119 ne122 ne123 pq115_0 (own_W_1 _)) hZ (ox hw 34 rfl) (ox hw 2 rfl) (by decide) (by decide)) q126a q126c (g := (mkF m 43 #[vI p1, vI p2, vI p3, vI p4, vR b21, vI 1, vI 3, vU, vU] [(.int p3), (.ref b21)])) rfl (by rw [hml]; rfl) (Steps.refl _) (argsL := [(.int p3)]) (rest := []) (lenOf pd_12 rfl) rfl own_le0 (hb hby at_43) (fun _ _ => ⟨rfl, rfl, (by decide : 3 + 0 ≤ _), (by decide : 7 + 0 ≤ _)⟩)
    dsimp only [Pt.U, Pt.locs, Pt.cells, Pt.slots] at X125 l125 y125 z125 st125 hQ125
    subst l125 y125 z125
    obtain ⟨uu_125, y0_125, y1_125, v0_125, v1_125, r_125, rfl, Nq125, Kq125, fq125_0, fq125_1, fq125_2, fq125_3, fq125_4, pq125_0⟩ := hQ125
    have N127 := Fr.app N117 Nq125
    have O128 := O120.keep Kq125 (allS gg22 (allS gg118 (allS gg119 all0)))
    have q129 := fun t (kt : Go p e below T125 (mkF m 46 #[vI p1, vI p2, vI p3, vI p4, vR b21, vI 1, vI 3, vU, vU] [(.int r_125)]) t) => q124 t (st125.trans kt)
    rcases pq125_0 with ⟨hu, hA⟩ | ⟨hu, hA, hB⟩
    · skip
      have fr130 : Fld Z T125.heap b21 sk0 "used" "I" (.int 1) := by
        have z := fq125_2
        rw [hu] at z
        exact z
      have f131 := (f121.keep Kq125)
      have q132 := fun t (kt : Go p e below T125 (mkF m 56 #[vI p1, vI p2, vI p3, vI p4, vR b21, vI 1, vI 3, vU, vU] [(.int p4), (.ref b21)]) t) => q129 t (by
        show Go _ _ _ _ (mkF m 46 #[vI p1, vI p2, vI p3, vI p4, vR b21, vI 1, vI 3, vU, vU] [(.int r_125)]) _
        refine XS.pop X125.here hx rfl (hb hby at_46) rfl rfl ?_
        show Go _ _ _ _ (mkF m 47 _ []) _
        refine XS.iload X125.here hx rfl (hb hby at_47) rfl ?_
        show Go _ _ _ _ (mkF m 49 _ [(.int 3)]) _
        refine XS.iconst X125.here hx rfl (hb hby at_49) ?_
        show Go _ _ _ _ (mkF m 50 _ [(.int 3), (.int 3)]) _
        refine XS.icmpNo X125.here hx rfl (hb hby at_50) rfl (flt (by decide : ¬ ((3 : Int32) < (3 : Int32)))).1 ?_
        show Go _ _ _ _ (mkF m 53 _ []) _
        refine XS.aload X125.here hx rfl (hb hby at_53) rfl rfl ?_
        show Go _ _ _ _ (mkF m 55 _ [(.ref b21)]) _
        refine XS.iloadN X125.here hx rfl (hb hby at_55) rfl ?_
        exact kt)
      obtain ⟨cq134, kq134, q134a, q134b, q134c⟩ := isOf hZ rfl f131
      obtain ⟨_, _, ⟨T133, L133, k133, n133⟩, -, X133, ⟨_, hQ133, l133, y133, z133⟩, st133⟩ := X125.virtualBack hx (y := ym11) (z := ym11) hown (ow hZ hw 30 rfl) (ow hZ hw 31 rfl) (notFace_of_selects (args := #[]) (ow hZ hw 33 rfl)) (ow hZ hw 33 rfl) (ow hZ hw 32 rfl) (by decide) (backOf (W := 0) (rm5_1 l Z a0 hw [] cx b21 b_115 ta_115 kb_115 kt_115 y0_125 y1_125 v0_125 v1_125 p4 2 T125.heap n0 O128 f131 fq125_0 fq125_1 fr130 fq125_3 fq125_4 gg22 gg118 gg119 ne122 ne123 pq115_0 hA) hZ (ox hw 34 rfl) (ox hw 2 rfl) (by decide) (by decide)) q134a q134c (g := (mkF m 56 #[vI p1, vI p2, vI p3, vI p4, vR b21, vI 1, vI 3, vU, vU] [(.int p4), (.ref b21)])) rfl (by rw [hml]; rfl) (Steps.refl _) (argsL := [(.int p4)]) (rest := []) (lenOf pd_12 rfl) rfl own_le0 (hb hby at_56) (fun _ _ => ⟨rfl, rfl, (by decide : 3 + 0 ≤ _), (by decide : 7 + 0 ≤ _)⟩)
      dsimp only [Pt.U, Pt.locs, Pt.cells, Pt.slots] at X133 l133 y133 z133 st133 hQ133
      subst l133 y133 z133
      obtain ⟨uu_133, y0_133, y1_133, v0_133, v1_133, r_133, rfl, Nq133, Kq133, fq133_0, fq133_1, fq133_2, fq133_3, fq133_4, pq133_0⟩ := hQ133
      have N135 := Fr.app N127 Nq133
      have O136 := O128.keep Kq133 (allS gg22 (allS gg118 (allS gg119 all0)))
      have q137 := fun t (kt : Go p e below T133 (mkF m 59 #[vI p1, vI p2, vI p3, vI p4, vR b21, vI 1, vI 3, vU, vU] [(.int r_133)]) t) => q132 t (st133.trans kt)
      rcases pq133_0 with ⟨hu, hA⟩ | ⟨hu, hA, hB⟩
      · skip
        have fr138 : Fld Z T133.heap b21 sk0 "used" "I" (.int 1) := by
          have z := fq133_2
          rw [hu] at z
          exact z
        have q139 := fun t (kt : Go p e below T133 (mkF m 62 #[vI p1, vI p2, vI p3, vI p4, vR b21, vI 1, vI 3, vU, vU] [(.ref b21)]) t) => q137 t (by
          show Go _ _ _ _ (mkF m 59 #[vI p1, vI p2, vI p3, vI p4, vR b21, vI 1, vI 3, vU, vU] [(.int r_133)]) _
          refine XS.pop X133.here hx rfl (hb hby at_59) rfl rfl ?_
          show Go _ _ _ _ (mkF m 60 _ []) _
          refine XS.aload X133.here hx rfl (hb hby at_60) rfl rfl ?_
          exact kt)
        have f142 := (f131.keep Kq133)
        obtain ⟨cq141, kq141, q141a, q141b, q141c⟩ := isOf hZ rfl f142
        obtain ⟨_, _, ⟨T140, L140, k140, n140⟩, -, X140, ⟨_, hQ140, l140, y140, z140⟩, st140⟩ := X133.virtualBack hx (y := ym1) (z := ym1) hown (ow hZ hw 17 rfl) (ow hZ hw 18 rfl) (notFace_of_selects (args := #[]) (ow hZ hw 20 rfl)) (ow hZ hw 20 rfl) (ow hZ hw 19 rfl) (by decide) (backOf (W := 0) (rm3n l Z a0 hw [] cx b21 (1 : Int32) T133.heap n0 O136 fr138 (by decide : ¬ ((1 : Int32) = (0 : Int32)))) hZ (ox hw 21 rfl) (ox hw 2 rfl) (by decide) (by decide)) q141a q141c (g := (mkF m 62 #[vI p1, vI p2, vI p3, vI p4, vR b21, vI 1, vI 3, vU, vU] [(.ref b21)])) rfl (by rw [hml]; rfl) (Steps.refl _) (argsL := []) (rest := []) (lenOf pd_10 rfl) rfl own_le0 (hb hby at_62) (fun _ _ => ⟨rfl, rfl, (by decide : 3 + 0 ≤ _), (by decide : 7 + 0 ≤ _)⟩)
        dsimp only [Pt.U, Pt.locs, Pt.cells, Pt.slots] at X140 l140 y140 z140 st140 hQ140
        subst l140 y140 z140
        obtain ⟨rfl, Nq140, eq140⟩ := hQ140
        have N143 := Fr.app N135 Nq140
        have q144 := fun t (kt : Go p e below T140 (mkF m 69 #[vI p1, vI p2, vI p3, vI p4, vR b21, vI 1, vI 3, vI 0, vU] [(.ref b21)]) t) => q139 t (st140.trans (by
          show Go _ _ _ _ (mkF m 65 #[vI p1, vI p2, vI p3, vI p4, vR b21, vI 1, vI 3, vU, vU] [(.int 0)]) _
          refine XS.istore X140.here hx rfl (hb hby at_65) rfl (l' := #[vI p1, vI p2, vI p3, vI p4, vR b21, vI 1, vI 3, vI 0, vU]) rfl ?_
          show Go _ _ _ _ (mkF m 67 #[vI p1, vI p2, vI p3, vI p4, vR b21, vI 1, vI 3, vI 0, vU] []) _
          refine XS.aload X140.here hx rfl (hb hby at_67) rfl rfl ?_
          exact kt))
        obtain ⟨cq146, kq146, q146a, q146b, q146c⟩ := isOf hZ eq140 f142
        obtain ⟨_, _, ⟨T145, L145, k145, n145⟩, -, X145, ⟨_, hQ145, l145, y145, z145⟩, st145⟩ := X140.virtualBack hx (y := ym15) (z := ym15) hown (ow hZ hw 24 rfl) (ow hZ hw 25 rfl) (notFace_of_selects (args := #[]) (ow hZ hw 27 rfl)) (ow hZ hw 27 rfl) (ow hZ hw 26 rfl) (by decide) (backOf (W := 0) (rm4_1 l Z a0 hw [] cx b21 b_115 ta_115 kb_115 kt_115 y0_133 y1_133 v0_133 v1_133 T133.heap n0 O136 fq133_0 fq133_1 fr138 fq133_3 fq133_4 hA) hZ (ox hw 28 rfl) (ox hw 2 rfl) (by decide) (by decide)) q146a q146c (g := (mkF m 69 #[vI p1, vI p2, vI p3, vI p4, vR b21, vI 1, vI 3, vI 0, vU] [(.ref b21)])) rfl (by rw [hml]; rfl) (Steps.refl _) (argsL := []) (rest := []) (lenOf pd_11 rfl) rfl own_le0 (hb hby at_69) (fun _ _ => ⟨rfl, eq140, (by decide : 3 + 1 ≤ _), (by decide : 7 + 3 ≤ _)⟩)
        dsimp only [Pt.U, Pt.locs, Pt.cells, Pt.slots] at X145 l145 y145 z145 st145 hQ145
        subst l145 y145 z145
        obtain ⟨r_145, kr_145, zr_145, vr_145, rfl, Nq145, Kq145, fr145_0, fq145_0, pq145_0⟩ := hQ145
        have N147 := Fr.app N143 Nq145
        have gg148 : n0 ≤ r_145 := Nat.le_trans (O136.1 ▸ O136.2.1) fr145_0
        have O149 := O136.keep Kq145 all0
        obtain ⟨c150, Ar150, -, S150, N150, -, -⟩ := id fq145_0
        have q151 := fun t (kt : Go p e below T145 (mkF m 115 #[vI p1, vI p2, vI p3, vI p4, vR b21, vI 1, vI 3, vI 0, vI zr_145] [(.int 1)]) t) => q144 t (st145.trans (by
          show Go _ _ _ _ (mkF m 72 #[vI p1, vI p2, vI p3, vI p4, vR b21, vI 1, vI 3, vI 0, vU] [(.ref r_145)]) _
          refine X145.arraylength hx Ar150.1 (State.isArrayOf_alike hZ.alike Ar150.2.1) (g := (mkF m 72 #[vI p1, vI p2, vI p3, vI p4, vR b21, vI 1, vI 3, vI 0, vU] [(.ref r_145)])) rfl rfl (hb hby at_72) _ ?_
          rw [len_of S150 N150]
          show Go _ _ _ _ (mkF m 73 _ [(.int zr_145)]) _
          refine XS.istore X145.here hx rfl (hb hby at_73) rfl (l' := #[vI p1, vI p2, vI p3, vI p4, vR b21, vI 1, vI 3, vI 0, vI zr_145]) rfl ?_
          show Go _ _ _ _ (mkF m 75 #[vI p1, vI p2, vI p3, vI p4, vR b21, vI 1, vI 3, vI 0, vI zr_145] []) _
          refine XS.iload X145.here hx rfl (hb hby at_75) rfl ?_
          show Go _ _ _ _ (mkF m 77 _ [(.int 1)]) _
          refine XS.ifNo X145.here hx rfl (hb hby at_77) rfl ((if0 _ _).trans (feq (by decide : ¬ ((1 : Int32) = (0 : Int32)))).1) ?_
          show Go _ _ _ _ (mkF m 80 _ []) _
          refine XS.iload X145.here hx rfl (hb hby at_80) rfl ?_
          show Go _ _ _ _ (mkF m 82 _ [(.int 0)]) _
          refine XS.iload X145.here hx rfl (hb hby at_82) rfl ?_
          show Go _ _ _ _ (mkF m 84 _ [(.int 3), (.int 0)]) _
          refine XS.ifYes X145.here hx rfl (pc0 := 84) (pc' := 91) rfl (hb hby at_84) rfl ((if0 _ _).trans (feq (by decide : ¬ ((3 : Int32) = (0 : Int32)))).2) (by decide) (by decide) ?_
          show Go _ _ _ _ (mkF m 91 _ [(.int 0)]) _
          refine XS.iconst X145.here hx rfl (hb hby at_91) ?_
          show Go _ _ _ _ (mkF m 92 _ [(.int 0), (.int 0)]) _
          refine XS.icmpNo X145.here hx rfl (hb hby at_92) rfl (teq (rfl : (0 : Int32) = (0 : Int32))).2 ?_
          show Go _ _ _ _ (mkF m 95 _ []) _
          refine XS.iload X145.here hx rfl (hb hby at_95) rfl ?_
          show Go _ _ _ _ (mkF m 97 _ [(.int 0)]) _
          refine XS.iload X145.here hx rfl (hb hby at_97) rfl ?_
          show Go _ _ _ _ (mkF m 99 _ [(.int zr_145), (.int 0)]) _
          refine XS.ifYes X145.here hx rfl (pc0 := 99) (pc' := 106) rfl (hb hby at_99) rfl ((if0 _ _).trans (feq pq145_0).2) (by decide) (by decide) ?_
          show Go _ _ _ _ (mkF m 106 _ [(.int 0)]) _
          refine XS.iconst X145.here hx rfl (hb hby at_106) ?_
          show Go _ _ _ _ (mkF m 107 _ [(.int 0), (.int 0)]) _
          refine XS.icmpNo X145.here hx rfl (hb hby at_107) rfl (teq (rfl : (0 : Int32) = (0 : Int32))).2 ?_
          show Go _ _ _ _ (mkF m 110 _ []) _
          refine XS.iconst X145.here hx rfl (hb hby at_110) ?_
          show Go _ _ _ _ (mkF m 111 _ [(.int 1)]) _
          refine XS.goto X145.here hx rfl (pc0 := 111) (pc' := 115) rfl (hb hby at_111) (by decide) (by decide) ?_
          exact kt))
        exact ⟨some (.int 1), T145, _, _, _, _, X145, by decide, by decide, nofun, q151, fun fs hr => retN X145 hx (t := .boolean) hret (by simp) (hb hby at_115) hr, ⟨rfl, N147⟩⟩
      · skip
        have fr152 : Fld Z T133.heap b21 sk0 "used" "I" (.int 2) := by
          have z := fq133_2
          rw [hu] at z
          exact z
        have q153 := fun t (kt : Go p e below T133 (mkF m 62 #[vI p1, vI p2, vI p3, vI p4, vR b21, vI 1, vI 3, vU, vU] [(.ref b21)]) t) => q137 t (by
          show Go _ _ _ _ (mkF m 59 #[vI p1, vI p2, vI p3, vI p4, vR b21, vI 1, vI 3, vU, vU] [(.int r_133)]) _
          refine XS.pop X133.here hx rfl (hb hby at_59) rfl rfl ?_
          show Go _ _ _ _ (mkF m 60 _ []) _
          refine XS.aload X133.here hx rfl (hb hby at_60) rfl rfl ?_
          exact kt)
        have f156 := (f131.keep Kq133)
        obtain ⟨cq155, kq155, q155a, q155b, q155c⟩ := isOf hZ rfl f156
        obtain ⟨_, _, ⟨T154, L154, k154, n154⟩, -, X154, ⟨_, hQ154, l154, y154, z154⟩, st154⟩ := X133.virtualBack hx (y := ym1) (z := ym1) hown (ow hZ hw 17 rfl) (ow hZ hw 18 rfl) (notFace_of_selects (args := #[]) (ow hZ hw 20 rfl)) (ow hZ hw 20 rfl) (ow hZ hw 19 rfl) (by decide) (backOf (W := 0) (rm3n l Z a0 hw [] cx b21 (2 : Int32) T133.heap n0 O136 fr152 (by decide : ¬ ((2 : Int32) = (0 : Int32)))) hZ (ox hw 21 rfl) (ox hw 2 rfl) (by decide) (by decide)) q155a q155c (g := (mkF m 62 #[vI p1, vI p2, vI p3, vI p4, vR b21, vI 1, vI 3, vU, vU] [(.ref b21)])) rfl (by rw [hml]; rfl) (Steps.refl _) (argsL := []) (rest := []) (lenOf pd_10 rfl) rfl own_le0 (hb hby at_62) (fun _ _ => ⟨rfl, rfl, (by decide : 3 + 0 ≤ _), (by decide : 7 + 0 ≤ _)⟩)
        dsimp only [Pt.U, Pt.locs, Pt.cells, Pt.slots] at X154 l154 y154 z154 st154 hQ154
        subst l154 y154 z154
        obtain ⟨rfl, Nq154, eq154⟩ := hQ154
        have N157 := Fr.app N135 Nq154
        have q158 := fun t (kt : Go p e below T154 (mkF m 69 #[vI p1, vI p2, vI p3, vI p4, vR b21, vI 1, vI 3, vI 0, vU] [(.ref b21)]) t) => q153 t (st154.trans (by
          show Go _ _ _ _ (mkF m 65 #[vI p1, vI p2, vI p3, vI p4, vR b21, vI 1, vI 3, vU, vU] [(.int 0)]) _
          refine XS.istore X154.here hx rfl (hb hby at_65) rfl (l' := #[vI p1, vI p2, vI p3, vI p4, vR b21, vI 1, vI 3, vI 0, vU]) rfl ?_
          show Go _ _ _ _ (mkF m 67 #[vI p1, vI p2, vI p3, vI p4, vR b21, vI 1, vI 3, vI 0, vU] []) _
          refine XS.aload X154.here hx rfl (hb hby at_67) rfl rfl ?_
          exact kt))
        obtain ⟨cq160, kq160, q160a, q160b, q160c⟩ := isOf hZ eq154 f156
        obtain ⟨_, _, ⟨T159, L159, k159, n159⟩, -, X159, ⟨_, hQ159, l159, y159, z159⟩, st159⟩ := X154.virtualBack hx (y := ym15) (z := ym15) hown (ow hZ hw 24 rfl) (ow hZ hw 25 rfl) (notFace_of_selects (args := #[]) (ow hZ hw 27 rfl)) (ow hZ hw 27 rfl) (ow hZ hw 26 rfl) (by decide) (backOf (W := 0) (rm4_2 l Z a0 hw [] cx b21 b_115 ta_115 kb_115 kt_115 y0_133 y1_133 v0_133 v1_133 T133.heap n0 O136 fq133_0 fq133_1 fr152 fq133_3 fq133_4 hA hB) hZ (ox hw 28 rfl) (ox hw 2 rfl) (by decide) (by decide)) q160a q160c (g := (mkF m 69 #[vI p1, vI p2, vI p3, vI p4, vR b21, vI 1, vI 3, vI 0, vU] [(.ref b21)])) rfl (by rw [hml]; rfl) (Steps.refl _) (argsL := []) (rest := []) (lenOf pd_11 rfl) rfl own_le0 (hb hby at_69) (fun _ _ => ⟨rfl, eq154, (by decide : 3 + 1 ≤ _), (by decide : 7 + 4 ≤ _)⟩)
        dsimp only [Pt.U, Pt.locs, Pt.cells, Pt.slots] at X159 l159 y159 z159 st159 hQ159
        subst l159 y159 z159
        obtain ⟨r_159, kr_159, zr_159, vr_159, rfl, Nq159, Kq159, fr159_0, fq159_0, pq159_0⟩ := hQ159
        have N161 := Fr.app N157 Nq159
        have gg162 : n0 ≤ r_159 := Nat.le_trans (O136.1 ▸ O136.2.1) fr159_0
        have O163 := O136.keep Kq159 all0
        obtain ⟨c164, Ar164, -, S164, N164, -, -⟩ := id fq159_0
        have q165 := fun t (kt : Go p e below T159 (mkF m 115 #[vI p1, vI p2, vI p3, vI p4, vR b21, vI 1, vI 3, vI 0, vI zr_159] [(.int 1)]) t) => q158 t (st159.trans (by
          show Go _ _ _ _ (mkF m 72 #[vI p1, vI p2, vI p3, vI p4, vR b21, vI 1, vI 3, vI 0, vU] [(.ref r_159)]) _
          refine X159.arraylength hx Ar164.1 (State.isArrayOf_alike hZ.alike Ar164.2.1) (g := (mkF m 72 #[vI p1, vI p2, vI p3, vI p4, vR b21, vI 1, vI 3, vI 0, vU] [(.ref r_159)])) rfl rfl (hb hby at_72) _ ?_
          rw [len_of S164 N164]
          show Go _ _ _ _ (mkF m 73 _ [(.int zr_159)]) _
          refine XS.istore X159.here hx rfl (hb hby at_73) rfl (l' := #[vI p1, vI p2, vI p3, vI p4, vR b21, vI 1, vI 3, vI 0, vI zr_159]) rfl ?_
          show Go _ _ _ _ (mkF m 75 #[vI p1, vI p2, vI p3, vI p4, vR b21, vI 1, vI 3, vI 0, vI zr_159] []) _
          refine XS.iload X159.here hx rfl (hb hby at_75) rfl ?_
          show Go _ _ _ _ (mkF m 77 _ [(.int 1)]) _
          refine XS.ifNo X159.here hx rfl (hb hby at_77) rfl ((if0 _ _).trans (feq (by decide : ¬ ((1 : Int32) = (0 : Int32)))).1) ?_
          show Go _ _ _ _ (mkF m 80 _ []) _
          refine XS.iload X159.here hx rfl (hb hby at_80) rfl ?_
          show Go _ _ _ _ (mkF m 82 _ [(.int 0)]) _
          refine XS.iload X159.here hx rfl (hb hby at_82) rfl ?_
          show Go _ _ _ _ (mkF m 84 _ [(.int 3), (.int 0)]) _
          refine XS.ifYes X159.here hx rfl (pc0 := 84) (pc' := 91) rfl (hb hby at_84) rfl ((if0 _ _).trans (feq (by decide : ¬ ((3 : Int32) = (0 : Int32)))).2) (by decide) (by decide) ?_
          show Go _ _ _ _ (mkF m 91 _ [(.int 0)]) _
          refine XS.iconst X159.here hx rfl (hb hby at_91) ?_
          show Go _ _ _ _ (mkF m 92 _ [(.int 0), (.int 0)]) _
          refine XS.icmpNo X159.here hx rfl (hb hby at_92) rfl (teq (rfl : (0 : Int32) = (0 : Int32))).2 ?_
          show Go _ _ _ _ (mkF m 95 _ []) _
          refine XS.iload X159.here hx rfl (hb hby at_95) rfl ?_
          show Go _ _ _ _ (mkF m 97 _ [(.int 0)]) _
          refine XS.iload X159.here hx rfl (hb hby at_97) rfl ?_
          show Go _ _ _ _ (mkF m 99 _ [(.int zr_159), (.int 0)]) _
          refine XS.ifYes X159.here hx rfl (pc0 := 99) (pc' := 106) rfl (hb hby at_99) rfl ((if0 _ _).trans (feq pq159_0).2) (by decide) (by decide) ?_
          show Go _ _ _ _ (mkF m 106 _ [(.int 0)]) _
          refine XS.iconst X159.here hx rfl (hb hby at_106) ?_
          show Go _ _ _ _ (mkF m 107 _ [(.int 0), (.int 0)]) _
          refine XS.icmpNo X159.here hx rfl (hb hby at_107) rfl (teq (rfl : (0 : Int32) = (0 : Int32))).2 ?_
          show Go _ _ _ _ (mkF m 110 _ []) _
          refine XS.iconst X159.here hx rfl (hb hby at_110) ?_
          show Go _ _ _ _ (mkF m 111 _ [(.int 1)]) _
          refine XS.goto X159.here hx rfl (pc0 := 111) (pc' := 115) rfl (hb hby at_111) (by decide) (by decide) ?_
          exact kt))
        exact ⟨some (.int 1), T159, _, _, _, _, X159, by decide, by decide, nofun, q165, fun fs hr => retN X159 hx (t := .boolean) hret (by simp) (hb hby at_115) hr, ⟨rfl, N161⟩⟩
    · skip
      have fr166 : Fld Z T125.heap b21 sk0 "used" "I" (.int 2) := by
        have z := fq125_2
        rw [hu] at z
        exact z
      have f167 := (f121.keep Kq125)
      have q168 := fun t (kt : Go p e below T125 (mkF m 56 #[vI p1, vI p2, vI p3, vI p4, vR b21, vI 1, vI 3, vU, vU] [(.int p4), (.ref b21)]) t) => q129 t (by
        show Go _ _ _ _ (mkF m 46 #[vI p1, vI p2, vI p3, vI p4, vR b21, vI 1, vI 3, vU, vU] [(.int r_125)]) _
        refine XS.pop X125.here hx rfl (hb hby at_46) rfl rfl ?_
        show Go _ _ _ _ (mkF m 47 _ []) _
        refine XS.iload X125.here hx rfl (hb hby at_47) rfl ?_
        show Go _ _ _ _ (mkF m 49 _ [(.int 3)]) _
        refine XS.iconst X125.here hx rfl (hb hby at_49) ?_
        show Go _ _ _ _ (mkF m 50 _ [(.int 3), (.int 3)]) _
        refine XS.icmpNo X125.here hx rfl (hb hby at_50) rfl (flt (by decide : ¬ ((3 : Int32) < (3 : Int32)))).1 ?_
        show Go _ _ _ _ (mkF m 53 _ []) _
        refine XS.aload X125.here hx rfl (hb hby at_53) rfl rfl ?_
        show Go _ _ _ _ (mkF m 55 _ [(.ref b21)]) _
        refine XS.iloadN X125.here hx rfl (hb hby at_55) rfl ?_
        exact kt)
      obtain ⟨cq170, kq170, q170a, q170b, q170c⟩ := isOf hZ rfl f167
      obtain ⟨_, _, ⟨T169, L169, k169, n169⟩, -, X169, ⟨_, hQ169, l169, y169, z169⟩, st169⟩ := X125.virtualBack hx (y := ym11) (z := ym11) hown (ow hZ hw 30 rfl) (ow hZ hw 31 rfl) (notFace_of_selects (args := #[]) (ow hZ hw 33 rfl)) (ow hZ hw 33 rfl) (ow hZ hw 32 rfl) (by decide) (backOf (W := 0) (rm5_2 l Z a0 hw [] cx b21 b_115 ta_115 kb_115 kt_115 y0_125 y1_125 v0_125 v1_125 p4 T125.heap n0 O128 f167 fq125_0 fq125_1 fr166 fq125_3 fq125_4 gg22 gg118 gg119 ne122 ne123 pq115_0 hA hB) hZ (ox hw 34 rfl) (ox hw 2 rfl) (by decide) (by decide)) q170a q170c (g := (mkF m 56 #[vI p1, vI p2, vI p3, vI p4, vR b21, vI 1, vI 3, vU, vU] [(.int p4), (.ref b21)])) rfl (by rw [hml]; rfl) (Steps.refl _) (argsL := [(.int p4)]) (rest := []) (lenOf pd_12 rfl) rfl own_le0 (hb hby at_56) (fun _ _ => ⟨rfl, rfl, (by decide : 3 + 2 ≤ _), (by decide : 7 + 8 ≤ _)⟩)
      dsimp only [Pt.U, Pt.locs, Pt.cells, Pt.slots] at X169 l169 y169 z169 st169 hQ169
      subst l169 y169 z169
      obtain ⟨uu_169, bb_169, tt_169, kbb_169, ktt_169, zz_169, vb_169, vt_169, r_169, rfl, Nq169, Kq169, fq169_0, fq169_1, fq169_2, fq169_3, fq169_4, pq169_0⟩ := hQ169
      have N171 := Fr.app N127 Nq169
      have O172 := O128.keep Kq169 (allS gg22 (allS gg118 (allS gg119 all0)))
      have q173 := fun t (kt : Go p e below T169 (mkF m 59 #[vI p1, vI p2, vI p3, vI p4, vR b21, vI 1, vI 3, vU, vU] [(.int r_169)]) t) => q168 t (st169.trans kt)
      rcases pq169_0 with ⟨hu, hz_, ⟨yy0, yy1, hb_⟩, vv0, vv1, ht_, hw0, hw1⟩ | ⟨hu, hz_, ⟨yy0, yy1, yy2, hb_⟩, vv0, vv1, vv2, ht_, hw0, hw1, hw2⟩
      · skip
        have fr174 : Fld Z T169.heap b21 sk0 "used" "I" (.int 2) := by
          have z := fq169_2
          rw [hu] at z
          exact z
        have fr175 : Arv Z T169.heap bb_169 kbb_169 .int (2 : Int32) [(.int yy0), (.int yy1)] (.int 0) := by
          have z := fq169_3
          rw [hz_, hb_] at z
          exact z
        have fr176 : Arv Z T169.heap tt_169 ktt_169 .long (2 : Int32) [(.long vv0), (.long vv1)] (.long (0 : Int64)) := by
          have z := fq169_4
          rw [hz_, ht_] at z
          exact z
        have q177 := fun t (kt : Go p e below T169 (mkF m 62 #[vI p1, vI p2, vI p3, vI p4, vR b21, vI 1, vI 3, vU, vU] [(.ref b21)]) t) => q173 t (by
          show Go _ _ _ _ (mkF m 59 #[vI p1, vI p2, vI p3, vI p4, vR b21, vI 1, vI 3, vU, vU] [(.int r_169)]) _
          refine XS.pop X169.here hx rfl (hb hby at_59) rfl rfl ?_
          show Go _ _ _ _ (mkF m 60 _ []) _
          refine XS.aload X169.here hx rfl (hb hby at_60) rfl rfl ?_
          exact kt)
        have f180 := (f167.keep Kq169)
        obtain ⟨cq179, kq179, q179a, q179b, q179c⟩ := isOf hZ rfl f180
        obtain ⟨_, _, ⟨T178, L178, k178, n178⟩, -, X178, ⟨_, hQ178, l178, y178, z178⟩, st178⟩ := X169.virtualBack hx (y := ym1) (z := ym1) hown (ow hZ hw 17 rfl) (ow hZ hw 18 rfl) (notFace_of_selects (args := #[]) (ow hZ hw 20 rfl)) (ow hZ hw 20 rfl) (ow hZ hw 19 rfl) (by decide) (backOf (W := 0) (rm3n l Z a0 hw [] cx b21 (2 : Int32) T169.heap n0 O172 fr174 (by decide : ¬ ((2 : Int32) = (0 : Int32)))) hZ (ox hw 21 rfl) (ox hw 2 rfl) (by decide) (by decide)) q179a q179c (g := (mkF m 62 #[vI p1, vI p2, vI p3, vI p4, vR b21, vI 1, vI 3, vU, vU] [(.ref b21)])) rfl (by rw [hml]; rfl) (Steps.refl _) (argsL := []) (rest := []) (lenOf pd_10 rfl) rfl own_le0 (hb hby at_62) (fun _ _ => ⟨rfl, rfl, (by decide : 5 + 0 ≤ _), (by decide : 15 + 0 ≤ _)⟩)
        dsimp only [Pt.U, Pt.locs, Pt.cells, Pt.slots] at X178 l178 y178 z178 st178 hQ178
        subst l178 y178 z178
        obtain ⟨rfl, Nq178, eq178⟩ := hQ178
        have N181 := Fr.app N171 Nq178
        have q182 := fun t (kt : Go p e below T178 (mkF m 69 #[vI p1, vI p2, vI p3, vI p4, vR b21, vI 1, vI 3, vI 0, vU] [(.ref b21)]) t) => q177 t (st178.trans (by
          show Go _ _ _ _ (mkF m 65 #[vI p1, vI p2, vI p3, vI p4, vR b21, vI 1, vI 3, vU, vU] [(.int 0)]) _
          refine XS.istore X178.here hx rfl (hb hby at_65) rfl (l' := #[vI p1, vI p2, vI p3, vI p4, vR b21, vI 1, vI 3, vI 0, vU]) rfl ?_
          show Go _ _ _ _ (mkF m 67 #[vI p1, vI p2, vI p3, vI p4, vR b21, vI 1, vI 3, vI 0, vU] []) _
          refine XS.aload X178.here hx rfl (hb hby at_67) rfl rfl ?_
          exact kt))
        obtain ⟨cq184, kq184, q184a, q184b, q184c⟩ := isOf hZ eq178 f180
        obtain ⟨_, _, ⟨T183, L183, k183, n183⟩, -, X183, ⟨_, hQ183, l183, y183, z183⟩, st183⟩ := X178.virtualBack hx (y := ym15) (z := ym15) hown (ow hZ hw 24 rfl) (ow hZ hw 25 rfl) (notFace_of_selects (args := #[]) (ow hZ hw 27 rfl)) (ow hZ hw 27 rfl) (ow hZ hw 26 rfl) (by decide) (backOf (W := 0) (rm4_2 l Z a0 hw [] cx b21 bb_169 tt_169 kbb_169 ktt_169 yy0 yy1 vv0 vv1 T169.heap n0 O172 fq169_0 fq169_1 fr174 fr175 fr176 hw0 hw1) hZ (ox hw 28 rfl) (ox hw 2 rfl) (by decide) (by decide)) q184a q184c (g := (mkF m 69 #[vI p1, vI p2, vI p3, vI p4, vR b21, vI 1, vI 3, vI 0, vU] [(.ref b21)])) rfl (by rw [hml]; rfl) (Steps.refl _) (argsL := []) (rest := []) (lenOf pd_11 rfl) rfl own_le0 (hb hby at_69) (fun _ _ => ⟨rfl, eq178, (by decide : 5 + 1 ≤ _), (by decide : 15 + 4 ≤ _)⟩)
        dsimp only [Pt.U, Pt.locs, Pt.cells, Pt.slots] at X183 l183 y183 z183 st183 hQ183
        subst l183 y183 z183
        obtain ⟨r_183, kr_183, zr_183, vr_183, rfl, Nq183, Kq183, fr183_0, fq183_0, pq183_0⟩ := hQ183
        have N185 := Fr.app N181 Nq183
        have gg186 : n0 ≤ r_183 := Nat.le_trans (O172.1 ▸ O172.2.1) fr183_0
        have O187 := O172.keep Kq183 all0
        obtain ⟨c188, Ar188, -, S188, N188, -, -⟩ := id fq183_0
        have q189 := fun t (kt : Go p e below T183 (mkF m 115 #[vI p1, vI p2, vI p3, vI p4, vR b21, vI 1, vI 3, vI 0, vI zr_183] [(.int 1)]) t) => q182 t (st183.trans (by
          show Go _ _ _ _ (mkF m 72 #[vI p1, vI p2, vI p3, vI p4, vR b21, vI 1, vI 3, vI 0, vU] [(.ref r_183)]) _
          refine X183.arraylength hx Ar188.1 (State.isArrayOf_alike hZ.alike Ar188.2.1) (g := (mkF m 72 #[vI p1, vI p2, vI p3, vI p4, vR b21, vI 1, vI 3, vI 0, vU] [(.ref r_183)])) rfl rfl (hb hby at_72) _ ?_
          rw [len_of S188 N188]
          show Go _ _ _ _ (mkF m 73 _ [(.int zr_183)]) _
          refine XS.istore X183.here hx rfl (hb hby at_73) rfl (l' := #[vI p1, vI p2, vI p3, vI p4, vR b21, vI 1, vI 3, vI 0, vI zr_183]) rfl ?_
          show Go _ _ _ _ (mkF m 75 #[vI p1, vI p2, vI p3, vI p4, vR b21, vI 1, vI 3, vI 0, vI zr_183] []) _
          refine XS.iload X183.here hx rfl (hb hby at_75) rfl ?_
          show Go _ _ _ _ (mkF m 77 _ [(.int 1)]) _
          refine XS.ifNo X183.here hx rfl (hb hby at_77) rfl ((if0 _ _).trans (feq (by decide : ¬ ((1 : Int32) = (0 : Int32)))).1) ?_
          show Go _ _ _ _ (mkF m 80 _ []) _
          refine XS.iload X183.here hx rfl (hb hby at_80) rfl ?_
          show Go _ _ _ _ (mkF m 82 _ [(.int 0)]) _
          refine XS.iload X183.here hx rfl (hb hby at_82) rfl ?_
          show Go _ _ _ _ (mkF m 84 _ [(.int 3), (.int 0)]) _
          refine XS.ifYes X183.here hx rfl (pc0 := 84) (pc' := 91) rfl (hb hby at_84) rfl ((if0 _ _).trans (feq (by decide : ¬ ((3 : Int32) = (0 : Int32)))).2) (by decide) (by decide) ?_
          show Go _ _ _ _ (mkF m 91 _ [(.int 0)]) _
          refine XS.iconst X183.here hx rfl (hb hby at_91) ?_
          show Go _ _ _ _ (mkF m 92 _ [(.int 0), (.int 0)]) _
          refine XS.icmpNo X183.here hx rfl (hb hby at_92) rfl (teq (rfl : (0 : Int32) = (0 : Int32))).2 ?_
          show Go _ _ _ _ (mkF m 95 _ []) _
          refine XS.iload X183.here hx rfl (hb hby at_95) rfl ?_
          show Go _ _ _ _ (mkF m 97 _ [(.int 0)]) _
          refine XS.iload X183.here hx rfl (hb hby at_97) rfl ?_
          show Go _ _ _ _ (mkF m 99 _ [(.int zr_183), (.int 0)]) _
          refine XS.ifYes X183.here hx rfl (pc0 := 99) (pc' := 106) rfl (hb hby at_99) rfl ((if0 _ _).trans (feq pq183_0).2) (by decide) (by decide) ?_
          show Go _ _ _ _ (mkF m 106 _ [(.int 0)]) _
          refine XS.iconst X183.here hx rfl (hb hby at_106) ?_
          show Go _ _ _ _ (mkF m 107 _ [(.int 0), (.int 0)]) _
          refine XS.icmpNo X183.here hx rfl (hb hby at_107) rfl (teq (rfl : (0 : Int32) = (0 : Int32))).2 ?_
          show Go _ _ _ _ (mkF m 110 _ []) _
          refine XS.iconst X183.here hx rfl (hb hby at_110) ?_
          show Go _ _ _ _ (mkF m 111 _ [(.int 1)]) _
          refine XS.goto X183.here hx rfl (pc0 := 111) (pc' := 115) rfl (hb hby at_111) (by decide) (by decide) ?_
          exact kt))
        exact ⟨some (.int 1), T183, _, _, _, _, X183, by decide, by decide, nofun, q189, fun fs hr => retN X183 hx (t := .boolean) hret (by simp) (hb hby at_115) hr, ⟨rfl, N185⟩⟩
      · skip
        have fr190 : Fld Z T169.heap b21 sk0 "used" "I" (.int 3) := by
          have z := fq169_2
          rw [hu] at z
          exact z
        have fr191 : Arv Z T169.heap bb_169 kbb_169 .int (4 : Int32) [(.int yy0), (.int yy1), (.int yy2), (.int 0)] (.int 0) := by
          have z := fq169_3
          rw [hz_, hb_] at z
          exact z
        have fr192 : Arv Z T169.heap tt_169 ktt_169 .long (4 : Int32) [(.long vv0), (.long vv1), (.long vv2), (.long (0 : Int64))] (.long (0 : Int64)) := by
          have z := fq169_4
          rw [hz_, ht_] at z
          exact z
        have q193 := fun t (kt : Go p e below T169 (mkF m 62 #[vI p1, vI p2, vI p3, vI p4, vR b21, vI 1, vI 3, vU, vU] [(.ref b21)]) t) => q173 t (by
          show Go _ _ _ _ (mkF m 59 #[vI p1, vI p2, vI p3, vI p4, vR b21, vI 1, vI 3, vU, vU] [(.int r_169)]) _
          refine XS.pop X169.here hx rfl (hb hby at_59) rfl rfl ?_
          show Go _ _ _ _ (mkF m 60 _ []) _
          refine XS.aload X169.here hx rfl (hb hby at_60) rfl rfl ?_
          exact kt)
        have f196 := (f167.keep Kq169)
        obtain ⟨cq195, kq195, q195a, q195b, q195c⟩ := isOf hZ rfl f196
        obtain ⟨_, _, ⟨T194, L194, k194, n194⟩, -, X194, ⟨_, hQ194, l194, y194, z194⟩, st194⟩ := X169.virtualBack hx (y := ym1) (z := ym1) hown (ow hZ hw 17 rfl) (ow hZ hw 18 rfl) (notFace_of_selects (args := #[]) (ow hZ hw 20 rfl)) (ow hZ hw 20 rfl) (ow hZ hw 19 rfl) (by decide) (backOf (W := 0) (rm3n l Z a0 hw [] cx b21 (3 : Int32) T169.heap n0 O172 fr190 (by decide : ¬ ((3 : Int32) = (0 : Int32)))) hZ (ox hw 21 rfl) (ox hw 2 rfl) (by decide) (by decide)) q195a q195c (g := (mkF m 62 #[vI p1, vI p2, vI p3, vI p4, vR b21, vI 1, vI 3, vU, vU] [(.ref b21)])) rfl (by rw [hml]; rfl) (Steps.refl _) (argsL := []) (rest := []) (lenOf pd_10 rfl) rfl own_le0 (hb hby at_62) (fun _ _ => ⟨rfl, rfl, (by decide : 5 + 0 ≤ _), (by decide : 15 + 0 ≤ _)⟩)
        dsimp only [Pt.U, Pt.locs, Pt.cells, Pt.slots] at X194 l194 y194 z194 st194 hQ194
        subst l194 y194 z194
        obtain ⟨rfl, Nq194, eq194⟩ := hQ194
        have N197 := Fr.app N171 Nq194
        have q198 := fun t (kt : Go p e below T194 (mkF m 69 #[vI p1, vI p2, vI p3, vI p4, vR b21, vI 1, vI 3, vI 0, vU] [(.ref b21)]) t) => q193 t (st194.trans (by
          show Go _ _ _ _ (mkF m 65 #[vI p1, vI p2, vI p3, vI p4, vR b21, vI 1, vI 3, vU, vU] [(.int 0)]) _
          refine XS.istore X194.here hx rfl (hb hby at_65) rfl (l' := #[vI p1, vI p2, vI p3, vI p4, vR b21, vI 1, vI 3, vI 0, vU]) rfl ?_
          show Go _ _ _ _ (mkF m 67 #[vI p1, vI p2, vI p3, vI p4, vR b21, vI 1, vI 3, vI 0, vU] []) _
          refine XS.aload X194.here hx rfl (hb hby at_67) rfl rfl ?_
          exact kt))
        obtain ⟨cq200, kq200, q200a, q200b, q200c⟩ := isOf hZ eq194 f196
        obtain ⟨_, _, ⟨T199, L199, k199, n199⟩, -, X199, ⟨_, hQ199, l199, y199, z199⟩, st199⟩ := X194.virtualBack hx (y := ym15) (z := ym15) hown (ow hZ hw 24 rfl) (ow hZ hw 25 rfl) (notFace_of_selects (args := #[]) (ow hZ hw 27 rfl)) (ow hZ hw 27 rfl) (ow hZ hw 26 rfl) (by decide) (backOf (W := 0) (rm4_3 l Z a0 hw [] cx b21 bb_169 tt_169 kbb_169 ktt_169 yy0 yy1 yy2 (0 : Int32) vv0 vv1 vv2 (0 : Int64) T169.heap n0 O172 fq169_0 fq169_1 fr190 fr191 fr192 hw0 hw1 hw2) hZ (ox hw 28 rfl) (ox hw 2 rfl) (by decide) (by decide)) q200a q200c (g := (mkF m 69 #[vI p1, vI p2, vI p3, vI p4, vR b21, vI 1, vI 3, vI 0, vU] [(.ref b21)])) rfl (by rw [hml]; rfl) (Steps.refl _) (argsL := []) (rest := []) (lenOf pd_11 rfl) rfl own_le0 (hb hby at_69) (fun _ _ => ⟨rfl, eq194, (by decide : 5 + 1 ≤ _), (by decide : 15 + 3 ≤ _)⟩)
        dsimp only [Pt.U, Pt.locs, Pt.cells, Pt.slots] at X199 l199 y199 z199 st199 hQ199
        subst l199 y199 z199
        obtain ⟨r_199, kr_199, zr_199, vr_199, rfl, Nq199, Kq199, fr199_0, fq199_0, pq199_0⟩ := hQ199
        have N201 := Fr.app N197 Nq199
        have gg202 : n0 ≤ r_199 := Nat.le_trans (O172.1 ▸ O172.2.1) fr199_0
        have O203 := O172.keep Kq199 all0
        obtain ⟨c204, Ar204, -, S204, N204, -, -⟩ := id fq199_0
        have q205 := fun t (kt : Go p e below T199 (mkF m 115 #[vI p1, vI p2, vI p3, vI p4, vR b21, vI 1, vI 3, vI 0, vI zr_199] [(.int 1)]) t) => q198 t (st199.trans (by
          show Go _ _ _ _ (mkF m 72 #[vI p1, vI p2, vI p3, vI p4, vR b21, vI 1, vI 3, vI 0, vU] [(.ref r_199)]) _
          refine X199.arraylength hx Ar204.1 (State.isArrayOf_alike hZ.alike Ar204.2.1) (g := (mkF m 72 #[vI p1, vI p2, vI p3, vI p4, vR b21, vI 1, vI 3, vI 0, vU] [(.ref r_199)])) rfl rfl (hb hby at_72) _ ?_
          rw [len_of S204 N204]
          show Go _ _ _ _ (mkF m 73 _ [(.int zr_199)]) _
          refine XS.istore X199.here hx rfl (hb hby at_73) rfl (l' := #[vI p1, vI p2, vI p3, vI p4, vR b21, vI 1, vI 3, vI 0, vI zr_199]) rfl ?_
          show Go _ _ _ _ (mkF m 75 #[vI p1, vI p2, vI p3, vI p4, vR b21, vI 1, vI 3, vI 0, vI zr_199] []) _
          refine XS.iload X199.here hx rfl (hb hby at_75) rfl ?_
          show Go _ _ _ _ (mkF m 77 _ [(.int 1)]) _
          refine XS.ifNo X199.here hx rfl (hb hby at_77) rfl ((if0 _ _).trans (feq (by decide : ¬ ((1 : Int32) = (0 : Int32)))).1) ?_
          show Go _ _ _ _ (mkF m 80 _ []) _
          refine XS.iload X199.here hx rfl (hb hby at_80) rfl ?_
          show Go _ _ _ _ (mkF m 82 _ [(.int 0)]) _
          refine XS.iload X199.here hx rfl (hb hby at_82) rfl ?_
          show Go _ _ _ _ (mkF m 84 _ [(.int 3), (.int 0)]) _
          refine XS.ifYes X199.here hx rfl (pc0 := 84) (pc' := 91) rfl (hb hby at_84) rfl ((if0 _ _).trans (feq (by decide : ¬ ((3 : Int32) = (0 : Int32)))).2) (by decide) (by decide) ?_
          show Go _ _ _ _ (mkF m 91 _ [(.int 0)]) _
          refine XS.iconst X199.here hx rfl (hb hby at_91) ?_
          show Go _ _ _ _ (mkF m 92 _ [(.int 0), (.int 0)]) _
          refine XS.icmpNo X199.here hx rfl (hb hby at_92) rfl (teq (rfl : (0 : Int32) = (0 : Int32))).2 ?_
          show Go _ _ _ _ (mkF m 95 _ []) _
          refine XS.iload X199.here hx rfl (hb hby at_95) rfl ?_
          show Go _ _ _ _ (mkF m 97 _ [(.int 0)]) _
          refine XS.iload X199.here hx rfl (hb hby at_97) rfl ?_
          show Go _ _ _ _ (mkF m 99 _ [(.int zr_199), (.int 0)]) _
          refine XS.ifYes X199.here hx rfl (pc0 := 99) (pc' := 106) rfl (hb hby at_99) rfl ((if0 _ _).trans (feq pq199_0).2) (by decide) (by decide) ?_
          show Go _ _ _ _ (mkF m 106 _ [(.int 0)]) _
          refine XS.iconst X199.here hx rfl (hb hby at_106) ?_
          show Go _ _ _ _ (mkF m 107 _ [(.int 0), (.int 0)]) _
          refine XS.icmpNo X199.here hx rfl (hb hby at_107) rfl (teq (rfl : (0 : Int32) = (0 : Int32))).2 ?_
          show Go _ _ _ _ (mkF m 110 _ []) _
          refine XS.iconst X199.here hx rfl (hb hby at_110) ?_
          show Go _ _ _ _ (mkF m 111 _ [(.int 1)]) _
          refine XS.goto X199.here hx rfl (pc0 := 111) (pc' := 115) rfl (hb hby at_111) (by decide) (by decide) ?_
          exact kt))
        exact ⟨some (.int 1), T199, _, _, _, _, X199, by decide, by decide, nofun, q205, fun fs hr => retN X199 hx (t := .boolean) hret (by simp) (hb hby at_115) hr, ⟨rfl, N201⟩⟩
theorem comes_1 {Post : Tables → Env → Array Value → State → Outcome → State → Prop} (hpost : ∀ tb e args s v u, (limb_1_1.after args s (.returned v) u = true ∧ limb_1_2.after args s (.returned v) u = true ∧ True) → FrameEnd s (.returned v) u (Jvm.fieldLocs frame_1_writes args s ++ Jvm.arrayLocs frame_1_arrays args s ++ Jvm.staticLocs frame_1_statics s) 24 128 → Post tb e args s (.returned v) u) :
    ArmFor flags0 classFile x code maxLocals ret World_1 tables_1 room_1 Calls_1 rest_1 Pre_1 Post := by
  intro l hfl _ _ p e ha hc hk s m args below hf hA hF happ hP
  obtain ⟨hcalls, hrest, hpre⟩ := hP
  obtain ⟨-, -, -, hnamed, -, -, -, hat⟩ := (Spec.applies_iff hf).mp happ
  obtain ⟨hg, hn⟩ := and_e (Cond.before_iff.mp (show (Jvm.Cond.and given_1 narrow_1).before args s = true from hpre))
  obtain ⟨gg1, gg2⟩ := and_e hg
  obtain ⟨gg3, gg4⟩ := and_e gg2
  obtain ⟨gg5, gg6⟩ := and_e gg4
  obtain ⟨gg7, gg8⟩ := and_e gg6
  obtain ⟨w0, w1, w2, w3, rfl⟩ : ∃ w0 w1 w2 w3 : Value, args = #[w0, w1, w2, w3] := by
    have hs : args.size = 4 := by simpa [Cond.value, given_1] using gg1
    obtain ⟨L⟩ := args
    match L, hs with
    | [w0, w1, w2, w3], _ => exact ⟨w0, w1, w2, w3, rfl⟩
  have hw := fun d (hd : d ∈ tables_1) => atoms_spec (ws := Jvm.Cond.code x code maxLocals ret :: tables_1) hat d (List.mem_cons_of_mem _ hd)
  have hfit : Fit s := fun {y c} hc i hi => by
    obtain ⟨ha, rfl⟩ := Array.getElem?_eq_some_iff.mp hc
    have q := List.all_eq_true.mp ((Array.all_eq_true_iff_forall_mem.mp hF) _ (Array.getElem_mem ha)) i (List.mem_range.mpr hi)
    simpa [Array.getElem?_eq_getElem hi] using q
  obtain ⟨i0, ei0⟩ := is_v gg3
  obtain rfl : w0 = (.int i0) := Option.some.inj ei0
  obtain ⟨i1, ei1⟩ := is_v gg5
  obtain rfl : w1 = (.int i1) := Option.some.inj ei1
  obtain ⟨i2, ei2⟩ := is_v gg7
  obtain rfl : w2 = (.int i2) := Option.some.inj ei2
  obtain ⟨i3, ei3⟩ := is_v gg8
  obtain rfl : w3 = (.int i3) := Option.some.inj ei3
  obtain ⟨nn1, nn2⟩ := and_e hn
  obtain ⟨nn3, nn4⟩ := and_e nn2
  obtain ⟨nn5, nn6⟩ := and_e nn4
  obtain ⟨nn7, nn8⟩ := and_e nn6
  obtain ⟨nn9, nn10⟩ := and_e nn8
  obtain ⟨w_NB, ev_w_NB⟩ := arr_v nn1
  obtain ⟨cl_w_NB, Ar_w_NB⟩ := Arr.start ev_w_NB nn1
  obtain ⟨w_NW, ev_w_NW⟩ := arr_v nn7
  obtain ⟨cl_w_NW, Ar_w_NW⟩ := Arr.start ev_w_NW nn7
  have ln_w_NB := own_lenI ev_w_NB Ar_w_NB nn5
  have V_w_NB : Arv s s.heap w_NB cl_w_NB.cls .int (0 : Int32) [] (.int (0 : Int32)) := Arv.start hfit Ar_w_NB ln_w_NB.1 ln_w_NB.2 (by decide) rfl trivial
  generalize hkc_w_NB : cl_w_NB.cls = kc_w_NB at V_w_NB
  have ln_w_NW := own_lenI ev_w_NW Ar_w_NW nn10
  have V_w_NW : Arv s s.heap w_NW cl_w_NW.cls .long (0 : Int32) [] (.long (0 : Int64)) := Arv.start hfit Ar_w_NW ln_w_NW.1 ln_w_NW.2 (by decide) rfl trivial
  generalize hkc_w_NW : cl_w_NW.cls = kc_w_NW at V_w_NW
  have cx : Cx s (fun i => ([w_NB, w_NW, kc_w_NB, kc_w_NW] : List Nat).getD i 0) := ⟨(Sta.start ev_w_NB (Or.inr ⟨(own_w hw 2 rfl), (own_w hw 10 rfl)⟩)), (Exa.start ev_w_NB nn3), (Sta.start ev_w_NW (Or.inr ⟨(own_w hw 2 rfl), (own_w hw 14 rfl)⟩)), (Exa.start ev_w_NW nn9), V_w_NB, V_w_NW⟩
  obtain ⟨n, o, h1, h2, h3, _, L, rfl, ⟨rfl, N⟩, hq⟩ := rm0 l s _ hw tables_1 cx i0 i1 i2 i3 s.heap s.heap.size (Old.start s)  p e ha hc hk s m _ below hf ((Spec.applies_iff_loose hf).mp happ).1 ⟨rfl, State.Warmed39.refl s, rfl⟩ trivial
  refine ⟨n, _, h1, h2, h3, hpost _ _ _ _ _ _ ⟨Cond.after_iff.mpr rfl, Cond.after_iff.mpr (eq_i res_at (Term.int_eval (1)) rfl), trivial⟩ ⟨hq.1, hq.2.1, (hq.2.2.sift fun y hy => Or.inr (N y hy)).mono (by decide) (by decide)⟩⟩
theorem main_1_1 : Claimed_1_1 := comes_1 fun _ _ _ _ _ _ h hF => ⟨h.1, hF⟩
theorem main_1_2 : Claimed_1_2 := comes_1 fun _ _ _ _ _ _ h hF => ⟨h.2.1, hF⟩
end Jvm.Pilot.@@N@@
namespace Jvm.Pilot.@@N@@
open Jvm Jvm.ClassFile Sem Op Lib Jvm.Free Jvm.Stand Jvm.Pilot.@@N@@.Jvm.D
/-! MADE BY PROGRAM (witnessworld.py) out of the Statement's table words and the real class files: 20 classes; the members and pool entries that the words name. The judged class is class 1, her method 1. -/
namespace start1
open Jvm.ClassFile
def u (s : String) : CpInfo := .utf8 (stringToUtf16 s)
/-- a pool by its gaps: so many unusable entries, then the entry; so many at the end -/
def gap : Nat → List CpInfo → List CpInfo
  | 0, r => r
  | n + 1, r => .unusable :: gap n r
def poolList (es : List (Nat × CpInfo)) (last : Nat) : List CpInfo := es.foldr (fun e r => gap e.1 (e.2 :: r)) (gap last [])
def pool (es : List (Nat × CpInfo)) (last : Nat) : Array CpInfo := ⟨poolList es last⟩
def fileOf (pool : Array CpInfo) (this : Nat) (attrs : Array Attribute := #[]) (ms : Array MethodInfo := #[]) (fl : Nat := 33) (sup : Nat := 0) (ifs : Array Nat := #[]) (fds : Array FieldInfo := #[]) : ClassFile where
  minorVersion := 0
  majorVersion := 65
  constantPool := pool
  accessFlags := fl
  thisClass := this
  superClass := sup
  interfaces := ifs
  fields := fds
  methods := ms
  attributes := attrs
def plain (name : String) (sup : Option ClassId) : Class where
  name := name
  kind := .ordinary
  loader := none
  accessFlags := 33
  super := sup
  interfaces := #[]
  cf := none
  fields := #[]
  methods := #[]
  instanceTypes := #[]
  staticTypes := #[]
  resolved := #[]
  callSites := []
  init := .initialized
  statics := none
  mirror := none

def pool0 : Array CpInfo := pool [(5, u "<init>"), (0, u "()V"), (1, .class_ 10), (1, u "java/lang/Object")] 113

def k0c0 : Code := { maxStack := 0, maxLocals := 1, code := object_method_1_code, exceptionTable := #[], attributes := #[] }
def k0m0 : Method := { name := "<init>", desc := "()V", sig := { parameters := [], returnType := none }, accessFlags := 1, code := some k0c0 }
/-- java/lang/Object -/
def k0 : Class := { plain "java/lang/Object" none with
  accessFlags := 33
  interfaces := #[]
  cf := some (fileOf pool0 8 #[] #[{ accessFlags := 1, nameIndex := 5, descriptorIndex := 6, attributes := #[] }] 33 0 #[] #[])
  fields := #[]
  methods := #[k0m0]
  instanceTypes := #[]
  staticTypes := #[]
  resolved := Array.replicate 124 none
  statics := none }

def pool1 : Array CpInfo := pool [(2, .class_ 4), (0, .nameAndType 5 6), (0, u "java/lang/Object"), (0, u "<init>"), (0, u "()V"), (0, .class_ 8), (0, u "com/example/pointward/pointward/pointsto/SiteSet"), (0, .methodref 7 3), (0, .methodref 7 11), (0, .nameAndType 12 13), (0, u "isEmpty"), (0, u "()Z"), (0, .methodref 7 15), (0, .nameAndType 16 17), (0, u "add"), (0, u "(I)Z"), (0, .methodref 7 19), (0, .nameAndType 20 21), (0, u "toArray"), (0, u "()[I"), (0, .class_ 23), (0, u "com/example/pointward/pointward/pointsto/SiteSetIsEmptyPinLaw"), (2, u "law"), (0, u "(IIII)Z")] 3

def k1m0 : Method := { name := "<init>", desc := "()V", sig := { parameters := [], returnType := none }, accessFlags := 1, code := none }
def k1c1 : Code := { maxStack := 2, maxLocals := 9, code := code, exceptionTable := #[], attributes := #[] }
def k1m1 : Method := { name := "law", desc := "(IIII)Z", sig := { parameters := [.int, .int, .int, .int], returnType := some .boolean }, accessFlags := 9, code := some k1c1 }
/-- com/example/pointward/pointward/pointsto/SiteSetIsEmptyPinLaw -/
def k1 : Class := { plain "com/example/pointward/pointward/pointsto/SiteSetIsEmptyPinLaw" (some 0) with
  accessFlags := 49
  interfaces := #[]
  cf := some (fileOf pool1 22 #[] #[{ accessFlags := 1, nameIndex := 5, descriptorIndex := 6, attributes := #[] }, { accessFlags := 9, nameIndex := 26, descriptorIndex := 27, attributes := #[] }] 49 2 #[] #[])
  fields := #[]
  methods := #[k1m0, k1m1]
  instanceTypes := #[]
  staticTypes := #[]
  resolved := Array.replicate 31 none
  statics := none }

def pool2 : Array CpInfo := pool [(1, .methodref 2 3), (0, .class_ 4), (0, .nameAndType 5 6), (0, u "java/lang/Object"), (0, u "<init>"), (0, u "()V"), (0, .fieldref 8 9), (0, .class_ 10), (0, .nameAndType 11 12), (0, u "com/example/pointward/pointward/pointsto/SiteSet"), (0, u "NO_BLOCKS"), (0, u "[I"), (0, .fieldref 8 14), (0, .nameAndType 15 12), (0, u "blocks"), (0, .fieldref 8 17), (0, .nameAndType 18 19), (0, u "NO_WORDS"), (0, u "[J"), (0, .fieldref 8 21), (0, .nameAndType 22 19), (0, u "words"), (0, .fieldref 8 24), (0, .nameAndType 25 26), (0, u "used"), (0, u "I"), (0, .methodref 28 29), (0, .class_ 30), (0, .nameAndType 31 32), (0, u "java/util/Arrays"), (0, u "binarySearch"), (0, u "([IIII)I"), (0, .methodref 8 34), (0, .nameAndType 35 36), (0, u "bit"), (0, u "(I)J"), (0, .methodref 8 38), (0, .nameAndType 39 40), (0, u "insertBlock"), (0, u "(IIJ)V"), (6, .methodref 48 49), (0, .class_ 50), (0, .nameAndType 51 52), (0, u "java/lang/Long"), (0, u "bitCount"), (0, u "(J)I"), (0, .methodref 48 54), (0, .nameAndType 55 52), (0, u "numberOfTrailingZeros"), (0, .methodref 57 58), (0, .class_ 59), (0, .nameAndType 60 61), (0, u "java/lang/Math"), (0, u "max"), (0, u "(II)I"), (0, .methodref 28 63), (0, .nameAndType 64 65), (0, u "copyOf"), (0, u "([II)[I"), (0, .methodref 28 67), (0, .nameAndType 64 68), (0, u "([JI)[J"), (0, .methodref 70 71), (0, .class_ 72), (0, .nameAndType 73 74), (0, u "java/lang/System"), (0, u "arraycopy"), (0, u "(Ljava/lang/Object;ILjava/lang/Object;II)V"), (0, u "BLOCK_SHIFT"), (4, u "isEmpty"), (0, u "()Z"), (1, u "add"), (0, u "(I)Z"), (2, u "toArray"), (0, u "()[I")] 4

def k2c0 : Code := { maxStack := 2, maxLocals := 1, code := prog_17_method_1_code, exceptionTable := #[], attributes := #[] }
def k2m0 : Method := { name := "<init>", desc := "()V", sig := { parameters := [], returnType := none }, accessFlags := 0, code := some k2c0 }
def k2c1 : Code := { maxStack := 1, maxLocals := 1, code := prog_17_method_2_code, exceptionTable := #[], attributes := #[] }
def k2m1 : Method := { name := "isEmpty", desc := "()Z", sig := { parameters := [], returnType := some .boolean }, accessFlags := 0, code := some k2c1 }
def k2c2 : Code := { maxStack := 6, maxLocals := 6, code := prog_17_method_3_code, exceptionTable := #[], attributes := #[] }
def k2m2 : Method := { name := "add", desc := "(I)Z", sig := { parameters := [.int], returnType := some .boolean }, accessFlags := 0, code := some k2c2 }
def k2c3 : Code := { maxStack := 6, maxLocals := 7, code := prog_17_method_6_code, exceptionTable := #[], attributes := #[] }
def k2m3 : Method := { name := "toArray", desc := "()[I", sig := { parameters := [], returnType := some (.array .int) }, accessFlags := 0, code := some k2c3 }
def k2c4 : Code := { maxStack := 6, maxLocals := 6, code := prog_17_method_7_code, exceptionTable := #[], attributes := #[] }
def k2m4 : Method := { name := "insertBlock", desc := "(IIJ)V", sig := { parameters := [.int, .int, .long], returnType := none }, accessFlags := 2, code := some k2c4 }
def k2c5 : Code := { maxStack := 4, maxLocals := 1, code := prog_17_method_8_code, exceptionTable := #[], attributes := #[] }
def k2m5 : Method := { name := "bit", desc := "(I)J", sig := { parameters := [.int], returnType := some .long }, accessFlags := 10, code := some k2c5 }
/-- com/example/pointward/pointward/pointsto/SiteSet -/
def k2 : Class := { plain "com/example/pointward/pointward/pointsto/SiteSet" (some 0) with
  accessFlags := 48
  interfaces := #[]
  cf := some (fileOf pool2 8 #[] #[{ accessFlags := 0, nameIndex := 5, descriptorIndex := 6, attributes := #[] }, { accessFlags := 0, nameIndex := 80, descriptorIndex := 81, attributes := #[] }, { accessFlags := 0, nameIndex := 83, descriptorIndex := 84, attributes := #[] }, { accessFlags := 0, nameIndex := 87, descriptorIndex := 88, attributes := #[] }, { accessFlags := 2, nameIndex := 39, descriptorIndex := 40, attributes := #[] }, { accessFlags := 10, nameIndex := 35, descriptorIndex := 36, attributes := #[] }] 48 2 #[] #[{ accessFlags := 26, nameIndex := 75, descriptorIndex := 26, attributes := #[] }, { accessFlags := 26, nameIndex := 11, descriptorIndex := 12, attributes := #[] }, { accessFlags := 26, nameIndex := 18, descriptorIndex := 19, attributes := #[] }, { accessFlags := 2, nameIndex := 15, descriptorIndex := 12, attributes := #[] }, { accessFlags := 2, nameIndex := 22, descriptorIndex := 19, attributes := #[] }, { accessFlags := 2, nameIndex := 25, descriptorIndex := 26, attributes := #[] }])
  fields := #[{ name := "BLOCK_SHIFT", type := .int, accessFlags := 26, slot := 0, constantValue := 0 }, { name := "NO_BLOCKS", type := (.array .int), accessFlags := 26, slot := 1, constantValue := 0 }, { name := "NO_WORDS", type := (.array .long), accessFlags := 26, slot := 2, constantValue := 0 }, { name := "blocks", type := (.array .int), accessFlags := 2, slot := 0, constantValue := 0 }, { name := "words", type := (.array .long), accessFlags := 2, slot := 1, constantValue := 0 }, { name := "used", type := .int, accessFlags := 2, slot := 2, constantValue := 0 }]
  methods := #[k2m0, k2m1, k2m2, k2m3, k2m4, k2m5]
  instanceTypes := #[(.array .int), (.array .long), .int]
  staticTypes := #[.int, (.array .int), (.array .long)]
  resolved := Array.replicate 93 none
  statics := some 0 }

def pool3 : Array CpInfo := pool [(2, .class_ 4), (1, u "java/lang/Object"), (0, u "<init>"), (0, u "()V"), (6, .methodref 14 15), (0, .class_ 16), (0, .nameAndType 17 18), (0, u "java/util/Arrays"), (0, u "rangeCheck"), (0, u "(III)V"), (55, .class_ 76), (1, u "java/util/Arrays$NaturalOrder"), (36, .class_ 115), (1, u "java/util/Arrays$LegacyMergeSort"), (1, u "Z"), (32, .methodref 151 152), (0, .class_ 153), (0, .nameAndType 154 155), (0, u "java/lang/System"), (0, u "arraycopy"), (0, u "(Ljava/lang/Object;ILjava/lang/Object;II)V"), (51, u "binarySearch0"), (1, .methodref 14 210), (0, .nameAndType 207 211), (0, u "([IIII)I"), (90, u "copyOf"), (1, .methodref 305 306), (0, .class_ 307), (0, .nameAndType 308 309), (0, u "java/lang/Math"), (0, u "min"), (0, u "(II)I"), (65, .class_ 376), (0, u "java/util/Arrays$ArrayList"), (68, u "$assertionsDisabled"), (269, u "MIN_ARRAY_SORT_GRAN"), (0, u "I"), (2, u "INSERTIONSORT_THRESHOLD"), (74, u "binarySearch"), (76, u "([II)[I"), (0, u "([JI)[J"), (102, .class_ 976), (0, u "java/util/Arrays$ArrayItr")] 52

def k3m0 : Method := { name := "<init>", desc := "()V", sig := { parameters := [], returnType := none }, accessFlags := 2, code := none }
def k3c1 : Code := { maxStack := 4, maxLocals := 3, code := jdk_65_method_30_code, exceptionTable := #[], attributes := #[] }
def k3m1 : Method := { name := "rangeCheck", desc := "(III)V", sig := { parameters := [.int, .int, .int], returnType := none }, accessFlags := 8, code := some k3c1 }
def k3c2 : Code := { maxStack := 4, maxLocals := 4, code := jdk_65_method_58_code, exceptionTable := #[], attributes := #[] }
def k3m2 : Method := { name := "binarySearch", desc := "([IIII)I", sig := { parameters := [(.array .int), .int, .int, .int], returnType := some .int }, accessFlags := 9, code := some k3c2 }
def k3c3 : Code := { maxStack := 2, maxLocals := 8, code := jdk_65_method_59_code, exceptionTable := #[], attributes := #[] }
def k3m3 : Method := { name := "binarySearch0", desc := "([IIII)I", sig := { parameters := [(.array .int), .int, .int, .int], returnType := some .int }, accessFlags := 10, code := some k3c3 }
def k3c4 : Code := { maxStack := 6, maxLocals := 3, code := jdk_65_method_123_code, exceptionTable := #[], attributes := #[] }
def k3m4 : Method := { name := "copyOf", desc := "([II)[I", sig := { parameters := [(.array .int), .int], returnType := some (.array .int) }, accessFlags := 9, code := some k3c4 }
def k3c5 : Code := { maxStack := 6, maxLocals := 3, code := jdk_65_method_124_code, exceptionTable := #[], attributes := #[] }
def k3m5 : Method := { name := "copyOf", desc := "([JI)[J", sig := { parameters := [(.array .long), .int], returnType := some (.array .long) }, accessFlags := 9, code := some k3c5 }
/-- java/util/Arrays -/
def k3 : Class := { plain "java/util/Arrays" (some 0) with
  accessFlags := 49
  interfaces := #[]
  cf := some (fileOf pool3 14 #[.nestMembers #[975, 375, 113, 74]] #[{ accessFlags := 2, nameIndex := 5, descriptorIndex := 6, attributes := #[] }, { accessFlags := 8, nameIndex := 17, descriptorIndex := 18, attributes := #[] }, { accessFlags := 9, nameIndex := 794, descriptorIndex := 211, attributes := #[] }, { accessFlags := 10, nameIndex := 207, descriptorIndex := 211, attributes := #[] }, { accessFlags := 9, nameIndex := 302, descriptorIndex := 871, attributes := #[] }, { accessFlags := 9, nameIndex := 302, descriptorIndex := 872, attributes := #[] }] 49 2 #[] #[{ accessFlags := 26, nameIndex := 715, descriptorIndex := 716, attributes := #[] }, { accessFlags := 26, nameIndex := 719, descriptorIndex := 716, attributes := #[] }, { accessFlags := 4120, nameIndex := 445, descriptorIndex := 117, attributes := #[] }])
  fields := #[{ name := "MIN_ARRAY_SORT_GRAN", type := .int, accessFlags := 26, slot := 0, constantValue := 0 }, { name := "INSERTIONSORT_THRESHOLD", type := .int, accessFlags := 26, slot := 1, constantValue := 0 }, { name := "$assertionsDisabled", type := .boolean, accessFlags := 4120, slot := 2, constantValue := 0 }]
  methods := #[k3m0, k3m1, k3m2, k3m3, k3m4, k3m5]
  instanceTypes := #[]
  staticTypes := #[.int, .int, .boolean]
  resolved := Array.replicate 1029 none
  statics := none }

def pool4 : Array CpInfo := pool [(1, .class_ 2), (0, u "java/lang/Math"), (1, .class_ 6), (1, u "java/lang/Object"), (0, u "<init>"), (0, u "()V"), (89, .class_ 100), (1, u "java/lang/Math$RandomNumberGeneratorHolder"), (71, u "negativeZeroFloatBits"), (0, u "J"), (2, u "negativeZeroDoubleBits"), (21, u "max"), (2, u "min"), (43, u "$assertionsDisabled"), (0, u "Z"), (88, u "(II)I"), (2, u "twoToTheDoubleScaleDown"), (0, u "D"), (4, u "twoToTheDoubleScaleUp"), (9, u "E"), (3, u "PI"), (2, u "TAU"), (2, u "DEGREES_TO_RADIANS"), (0, u "RADIANS_TO_DEGREES")] 94

def k4m0 : Method := { name := "<init>", desc := "()V", sig := { parameters := [], returnType := none }, accessFlags := 2, code := none }
def k4c1 : Code := { maxStack := 2, maxLocals := 2, code := jdk_29_method_65_code, exceptionTable := #[], attributes := #[] }
def k4m1 : Method := { name := "max", desc := "(II)I", sig := { parameters := [.int, .int], returnType := some .int }, accessFlags := 9, code := some k4c1 }
def k4c2 : Code := { maxStack := 2, maxLocals := 2, code := jdk_29_method_69_code, exceptionTable := #[], attributes := #[] }
def k4m2 : Method := { name := "min", desc := "(II)I", sig := { parameters := [.int, .int], returnType := some .int }, accessFlags := 9, code := some k4c2 }
/-- java/lang/Math -/
def k4 : Class := { plain "java/lang/Math" (some 0) with
  accessFlags := 49
  interfaces := #[]
  cf := some (fileOf pool4 1 #[.nestMembers #[98]] #[{ accessFlags := 2, nameIndex := 7, descriptorIndex := 8, attributes := #[] }, { accessFlags := 9, nameIndex := 198, descriptorIndex := 335, attributes := #[] }, { accessFlags := 9, nameIndex := 201, descriptorIndex := 335, attributes := #[] }] 49 4 #[] #[{ accessFlags := 25, nameIndex := 354, descriptorIndex := 339, attributes := #[] }, { accessFlags := 25, nameIndex := 358, descriptorIndex := 339, attributes := #[] }, { accessFlags := 25, nameIndex := 361, descriptorIndex := 339, attributes := #[] }, { accessFlags := 26, nameIndex := 364, descriptorIndex := 339, attributes := #[] }, { accessFlags := 26, nameIndex := 365, descriptorIndex := 339, attributes := #[] }, { accessFlags := 26, nameIndex := 172, descriptorIndex := 173, attributes := #[] }, { accessFlags := 26, nameIndex := 176, descriptorIndex := 173, attributes := #[] }, { accessFlags := 8, nameIndex := 344, descriptorIndex := 339, attributes := #[] }, { accessFlags := 8, nameIndex := 338, descriptorIndex := 339, attributes := #[] }, { accessFlags := 4120, nameIndex := 245, descriptorIndex := 246, attributes := #[] }])
  fields := #[{ name := "E", type := .double, accessFlags := 25, slot := 0, constantValue := 0 }, { name := "PI", type := .double, accessFlags := 25, slot := 1, constantValue := 0 }, { name := "TAU", type := .double, accessFlags := 25, slot := 2, constantValue := 0 }, { name := "DEGREES_TO_RADIANS", type := .double, accessFlags := 26, slot := 3, constantValue := 0 }, { name := "RADIANS_TO_DEGREES", type := .double, accessFlags := 26, slot := 4, constantValue := 0 }, { name := "negativeZeroFloatBits", type := .long, accessFlags := 26, slot := 5, constantValue := 0 }, { name := "negativeZeroDoubleBits", type := .long, accessFlags := 26, slot := 6, constantValue := 0 }, { name := "twoToTheDoubleScaleUp", type := .double, accessFlags := 8, slot := 7, constantValue := 0 }, { name := "twoToTheDoubleScaleDown", type := .double, accessFlags := 8, slot := 8, constantValue := 0 }, { name := "$assertionsDisabled", type := .boolean, accessFlags := 4120, slot := 9, constantValue := 0 }]
  methods := #[k4m0, k4m1, k4m2]
  instanceTypes := #[]
  staticTypes := #[.double, .double, .double, .double, .double, .long, .long, .double, .double, .boolean]
  resolved := Array.replicate 460 none
  statics := none }

def pool5 : Array CpInfo := pool [(2, .class_ 4), (1, u "java/lang/Object"), (0, u "<init>"), (0, u "()V"), (1, .class_ 10), (1, u "java/lang/System"), (0, u "allowSecurityManager"), (0, u "I"), (16, u "cons"), (0, u "Ljava/io/Console;"), (77, .class_ 110), (1, u "java/lang/System$CallersHolder"), (43, u "initialErrStream"), (0, u "Ljava/io/PrintStream;"), (19, u "security"), (0, u "Ljava/lang/SecurityManager;"), (31, .class_ 209), (0, u "java/lang/System$1"), (7, u "props"), (0, u "Ljava/util/Properties;"), (2, u "lineSeparator"), (0, u "Ljava/lang/String;"), (96, .class_ 321), (1, u "java/lang/System$LoggerFinder"), (5, .class_ 328), (0, u "java/lang/System$Logger"), (67, u "err"), (2, u "out"), (91, u "notSupportedJnuEncoding"), (15, u "in"), (17, u "initialIn"), (0, u "Ljava/io/InputStream;"), (35, u "bootLayer"), (0, u "Ljava/lang/ModuleLayer;"), (99, .class_ 664), (0, u "java/lang/System$2"), (9, u "NEVER"), (2, u "MAYBE"), (49, u "arraycopy"), (0, u "(Ljava/lang/Object;ILjava/lang/Object;II)V"), (72, .class_ 802), (0, u "java/lang/System$Logger$Level")] 31

def k5m0 : Method := { name := "<init>", desc := "()V", sig := { parameters := [], returnType := none }, accessFlags := 2, code := none }
def k5m1 : Method := { name := "arraycopy", desc := "(Ljava/lang/Object;ILjava/lang/Object;II)V", sig := { parameters := [(.object "java/lang/Object"), .int, (.object "java/lang/Object"), .int, .int], returnType := none }, accessFlags := 265, code := none }
/-- java/lang/System -/
def k5 : Class := { plain "java/lang/System" (some 0) with
  accessFlags := 49
  interfaces := #[]
  cf := some (fileOf pool5 8 #[.nestMembers #[319, 327, 801, 108, 663, 208]] #[{ accessFlags := 2, nameIndex := 5, descriptorIndex := 6, attributes := #[] }, { accessFlags := 265, nameIndex := 727, descriptorIndex := 728, attributes := #[] }] 49 2 #[] #[{ accessFlags := 25, nameIndex := 507, descriptorIndex := 526, attributes := #[] }, { accessFlags := 25, nameIndex := 399, descriptorIndex := 155, attributes := #[] }, { accessFlags := 25, nameIndex := 396, descriptorIndex := 155, attributes := #[] }, { accessFlags := 10, nameIndex := 525, descriptorIndex := 526, attributes := #[] }, { accessFlags := 26, nameIndex := 674, descriptorIndex := 12, attributes := #[] }, { accessFlags := 26, nameIndex := 677, descriptorIndex := 12, attributes := #[] }, { accessFlags := 10, nameIndex := 11, descriptorIndex := 12, attributes := #[] }, { accessFlags := 74, nameIndex := 175, descriptorIndex := 176, attributes := #[] }, { accessFlags := 10, nameIndex := 491, descriptorIndex := 222, attributes := #[] }, { accessFlags := 74, nameIndex := 29, descriptorIndex := 30, attributes := #[] }, { accessFlags := 74, nameIndex := 154, descriptorIndex := 155, attributes := #[] }, { accessFlags := 10, nameIndex := 217, descriptorIndex := 218, attributes := #[] }, { accessFlags := 10, nameIndex := 221, descriptorIndex := 222, attributes := #[] }, { accessFlags := 8, nameIndex := 562, descriptorIndex := 563, attributes := #[] }])
  fields := #[{ name := "in", type := (.object "java/io/InputStream"), accessFlags := 25, slot := 0, constantValue := 0 }, { name := "out", type := (.object "java/io/PrintStream"), accessFlags := 25, slot := 1, constantValue := 0 }, { name := "err", type := (.object "java/io/PrintStream"), accessFlags := 25, slot := 2, constantValue := 0 }, { name := "initialIn", type := (.object "java/io/InputStream"), accessFlags := 10, slot := 3, constantValue := 0 }, { name := "NEVER", type := .int, accessFlags := 26, slot := 4, constantValue := 0 }, { name := "MAYBE", type := .int, accessFlags := 26, slot := 5, constantValue := 0 }, { name := "allowSecurityManager", type := .int, accessFlags := 10, slot := 6, constantValue := 0 }, { name := "security", type := (.object "java/lang/SecurityManager"), accessFlags := 74, slot := 7, constantValue := 0 }, { name := "notSupportedJnuEncoding", type := (.object "java/lang/String"), accessFlags := 10, slot := 8, constantValue := 0 }, { name := "cons", type := (.object "java/io/Console"), accessFlags := 74, slot := 9, constantValue := 0 }, { name := "initialErrStream", type := (.object "java/io/PrintStream"), accessFlags := 74, slot := 10, constantValue := 0 }, { name := "props", type := (.object "java/util/Properties"), accessFlags := 10, slot := 11, constantValue := 0 }, { name := "lineSeparator", type := (.object "java/lang/String"), accessFlags := 10, slot := 12, constantValue := 0 }, { name := "bootLayer", type := (.object "java/lang/ModuleLayer"), accessFlags := 8, slot := 13, constantValue := 0 }]
  methods := #[k5m0, k5m1]
  instanceTypes := #[]
  staticTypes := #[(.object "java/io/InputStream"), (.object "java/io/PrintStream"), (.object "java/io/PrintStream"), (.object "java/io/InputStream"), .int, .int, .int, (.object "java/lang/SecurityManager"), (.object "java/lang/String"), (.object "java/io/Console"), (.object "java/io/PrintStream"), (.object "java/util/Properties"), (.object "java/lang/String"), (.object "java/lang/ModuleLayer")]
  resolved := Array.replicate 834 none
  statics := none }

def pool6 : Array CpInfo := pool [(1, .class_ 2), (0, u "java/io/Serializable"), (0, .class_ 4), (0, u "java/lang/Object")] 2

/-- java/io/Serializable -/
def k6 : Class := { plain "java/io/Serializable" (some 0) with
  accessFlags := 1537
  interfaces := #[]
  cf := some (fileOf pool6 1 #[] #[] 1537 3 #[] #[])
  fields := #[]
  methods := #[]
  instanceTypes := #[]
  staticTypes := #[]
  resolved := Array.replicate 7 none
  statics := none }

def pool7 : Array CpInfo := pool [(2, .class_ 4), (1, u "java/lang/Object"), (0, u "<init>"), (0, u "()V"), (1, .class_ 10), (1, u "java/lang/Number"), (2, .class_ 14), (0, u "java/io/Serializable"), (0, u "serialVersionUID"), (0, u "J")] 20

def k7m0 : Method := { name := "<init>", desc := "()V", sig := { parameters := [], returnType := none }, accessFlags := 1, code := none }
/-- java/lang/Number -/
def k7 : Class := { plain "java/lang/Number" (some 0) with
  accessFlags := 1057
  interfaces := #[6]
  cf := some (fileOf pool7 8 #[] #[{ accessFlags := 1, nameIndex := 5, descriptorIndex := 6, attributes := #[] }] 1057 2 #[13] #[{ accessFlags := 26, nameIndex := 15, descriptorIndex := 16, attributes := #[] }])
  fields := #[{ name := "serialVersionUID", type := .long, accessFlags := 26, slot := 0, constantValue := 0 }]
  methods := #[k7m0]
  instanceTypes := #[]
  staticTypes := #[.long]
  resolved := Array.replicate 37 none
  statics := none }

def pool8 : Array CpInfo := pool [(1, .class_ 2), (0, u "java/lang/Comparable"), (0, .class_ 4), (0, u "java/lang/Object")] 7

/-- java/lang/Comparable -/
def k8 : Class := { plain "java/lang/Comparable" (some 0) with
  accessFlags := 1537
  interfaces := #[]
  cf := some (fileOf pool8 1 #[] #[] 1537 3 #[] #[])
  fields := #[]
  methods := #[]
  instanceTypes := #[]
  staticTypes := #[]
  resolved := Array.replicate 12 none
  statics := none }

def pool9 : Array CpInfo := pool [(1, .class_ 2), (0, u "java/lang/constant/Constable"), (0, .class_ 4), (0, u "java/lang/Object")] 6

/-- java/lang/constant/Constable -/
def k9 : Class := { plain "java/lang/constant/Constable" (some 0) with
  accessFlags := 1537
  interfaces := #[]
  cf := some (fileOf pool9 1 #[] #[] 1537 3 #[] #[])
  fields := #[]
  methods := #[]
  instanceTypes := #[]
  staticTypes := #[]
  resolved := Array.replicate 11 none
  statics := none }

def pool10 : Array CpInfo := pool [(1, .class_ 2), (0, u "java/lang/constant/ConstantDesc"), (0, .class_ 4), (0, u "java/lang/Object")] 32

/-- java/lang/constant/ConstantDesc -/
def k10 : Class := { plain "java/lang/constant/ConstantDesc" (some 0) with
  accessFlags := 1537
  interfaces := #[]
  cf := some (fileOf pool10 1 #[] #[] 1537 3 #[] #[])
  fields := #[]
  methods := #[]
  instanceTypes := #[]
  staticTypes := #[]
  resolved := Array.replicate 37 none
  statics := none }

def pool11 : Array CpInfo := pool [(1, .class_ 2), (0, u "java/lang/Long"), (15, .class_ 20), (1, u "java/lang/Integer"), (80, u "(J)I"), (133, .class_ 237), (1, u "java/lang/Long$LongCache"), (33, .class_ 272), (0, u "java/lang/Number"), (2, u "value"), (0, u "J"), (33, u "(I)I"), (0, .methodref 18 312), (0, .nameAndType 313 310), (0, u "numberOfTrailingZeros"), (0, .long 6148914691236517205), (1, .long 3689348814741910323), (1, .long 1085102592571150095), (42, u "TYPE"), (0, u "Ljava/lang/Class;"), (0, .class_ 364), (0, u "java/lang/Comparable"), (0, .class_ 366), (0, u "java/lang/constant/Constable"), (0, .class_ 368), (0, u "java/lang/constant/ConstantDesc"), (0, u "MIN_VALUE"), (1, u "MAX_VALUE"), (4, u "SIZE"), (0, u "I"), (1, u "BYTES"), (1, u "serialVersionUID"), (94, u "bitCount")] 47

def k11c0 : Code := { maxStack := 4, maxLocals := 3, code := jdk_35_method_49_code, exceptionTable := #[], attributes := #[] }
def k11m0 : Method := { name := "numberOfTrailingZeros", desc := "(J)I", sig := { parameters := [.long], returnType := some .int }, accessFlags := 9, code := some k11c0 }
def k11c1 : Code := { maxStack := 6, maxLocals := 2, code := jdk_35_method_50_code, exceptionTable := #[], attributes := #[] }
def k11m1 : Method := { name := "bitCount", desc := "(J)I", sig := { parameters := [.long], returnType := some .int }, accessFlags := 9, code := some k11c1 }
/-- java/lang/Long -/
def k11 : Class := { plain "java/lang/Long" (some 7) with
  accessFlags := 49
  interfaces := #[8, 9, 10]
  cf := some (fileOf pool11 1 #[.nestMembers #[235]] #[{ accessFlags := 9, nameIndex := 313, descriptorIndex := 101, attributes := #[] }, { accessFlags := 9, nameIndex := 476, descriptorIndex := 101, attributes := #[] }] 49 271 #[363, 365, 367] #[{ accessFlags := 25, nameIndex := 369, descriptorIndex := 276, attributes := #[] }, { accessFlags := 25, nameIndex := 371, descriptorIndex := 276, attributes := #[] }, { accessFlags := 25, nameIndex := 361, descriptorIndex := 362, attributes := #[] }, { accessFlags := 18, nameIndex := 275, descriptorIndex := 276, attributes := #[] }, { accessFlags := 25, nameIndex := 376, descriptorIndex := 377, attributes := #[] }, { accessFlags := 25, nameIndex := 379, descriptorIndex := 377, attributes := #[] }, { accessFlags := 26, nameIndex := 381, descriptorIndex := 276, attributes := #[] }])
  fields := #[{ name := "MIN_VALUE", type := .long, accessFlags := 25, slot := 0, constantValue := 0 }, { name := "MAX_VALUE", type := .long, accessFlags := 25, slot := 1, constantValue := 0 }, { name := "TYPE", type := (.object "java/lang/Class"), accessFlags := 25, slot := 2, constantValue := 0 }, { name := "value", type := .long, accessFlags := 18, slot := 0, constantValue := 0 }, { name := "SIZE", type := .int, accessFlags := 25, slot := 3, constantValue := 0 }, { name := "BYTES", type := .int, accessFlags := 25, slot := 4, constantValue := 0 }, { name := "serialVersionUID", type := .long, accessFlags := 26, slot := 5, constantValue := 0 }]
  methods := #[k11m0, k11m1]
  instanceTypes := #[.long]
  staticTypes := #[.long, .long, (.object "java/lang/Class"), .int, .int, .long]
  resolved := Array.replicate 524 none
  statics := none }

def pool12 : Array CpInfo := pool [(1, .class_ 2), (0, u "java/lang/Integer"), (16, u "digits"), (0, u "[C"), (33, u "(I)I"), (30, u "DigitOnes"), (0, u "[B"), (2, u "DigitTens"), (99, .class_ 190), (0, u "java/lang/Integer$IntegerCache"), (3, u "I"), (8, .class_ 204), (0, u "java/lang/Number"), (2, u "value"), (56, .integer 65536), (37, u "TYPE"), (0, u "Ljava/lang/Class;"), (0, .class_ 305), (0, u "java/lang/Comparable"), (0, .class_ 307), (0, u "java/lang/constant/Constable"), (0, .class_ 309), (0, u "java/lang/constant/ConstantDesc"), (0, u "MIN_VALUE"), (1, u "MAX_VALUE"), (3, u "SIZE"), (1, u "BYTES"), (1, u "serialVersionUID"), (0, u "J"), (84, u "numberOfTrailingZeros")] 46

def k12c0 : Code := { maxStack := 3, maxLocals := 2, code := jdk_33_method_48_code, exceptionTable := #[], attributes := #[] }
def k12m0 : Method := { name := "numberOfTrailingZeros", desc := "(I)I", sig := { parameters := [.int], returnType := some .int }, accessFlags := 9, code := some k12c0 }
/-- java/lang/Integer -/
def k12 : Class := { plain "java/lang/Integer" (some 7) with
  accessFlags := 49
  interfaces := #[8, 9, 10]
  cf := some (fileOf pool12 1 #[.nestMembers #[189]] #[{ accessFlags := 9, nameIndex := 406, descriptorIndex := 54, attributes := #[] }] 49 203 #[304, 306, 308] #[{ accessFlags := 25, nameIndex := 310, descriptorIndex := 194, attributes := #[] }, { accessFlags := 25, nameIndex := 312, descriptorIndex := 194, attributes := #[] }, { accessFlags := 25, nameIndex := 302, descriptorIndex := 303, attributes := #[] }, { accessFlags := 24, nameIndex := 19, descriptorIndex := 20, attributes := #[] }, { accessFlags := 24, nameIndex := 89, descriptorIndex := 86, attributes := #[] }, { accessFlags := 24, nameIndex := 85, descriptorIndex := 86, attributes := #[] }, { accessFlags := 18, nameIndex := 207, descriptorIndex := 194, attributes := #[] }, { accessFlags := 25, nameIndex := 316, descriptorIndex := 194, attributes := #[] }, { accessFlags := 25, nameIndex := 318, descriptorIndex := 194, attributes := #[] }, { accessFlags := 26, nameIndex := 320, descriptorIndex := 321, attributes := #[] }])
  fields := #[{ name := "MIN_VALUE", type := .int, accessFlags := 25, slot := 0, constantValue := 0 }, { name := "MAX_VALUE", type := .int, accessFlags := 25, slot := 1, constantValue := 0 }, { name := "TYPE", type := (.object "java/lang/Class"), accessFlags := 25, slot := 2, constantValue := 0 }, { name := "digits", type := (.array .char), accessFlags := 24, slot := 3, constantValue := 0 }, { name := "DigitTens", type := (.array .byte), accessFlags := 24, slot := 4, constantValue := 0 }, { name := "DigitOnes", type := (.array .byte), accessFlags := 24, slot := 5, constantValue := 0 }, { name := "value", type := .int, accessFlags := 18, slot := 0, constantValue := 0 }, { name := "SIZE", type := .int, accessFlags := 25, slot := 6, constantValue := 0 }, { name := "BYTES", type := .int, accessFlags := 25, slot := 7, constantValue := 0 }, { name := "serialVersionUID", type := .long, accessFlags := 26, slot := 8, constantValue := 0 }]
  methods := #[k12m0]
  instanceTypes := #[.int]
  staticTypes := #[.int, .int, (.object "java/lang/Class"), (.array .char), (.array .byte), (.array .byte), .int, .int, .long]
  resolved := Array.replicate 453 none
  statics := none }

def pool13 : Array CpInfo := pool [(1, u "java/lang/Cloneable"), (0, .class_ 1), (0, u "java/lang/Object"), (0, .class_ 3)] 3

/-- java/lang/Cloneable -/
def k13 : Class := { plain "java/lang/Cloneable" (some 0) with
  accessFlags := 1537
  interfaces := #[]
  cf := some (fileOf pool13 2 #[] #[] 1537 4 #[] #[])
  fields := #[]
  methods := #[]
  instanceTypes := #[]
  staticTypes := #[]
  resolved := Array.replicate 8 none
  statics := none }

/-- the primitive byte -/
def k14 : Class := { plain "byte" none with kind := .primitive 'B', accessFlags := 0x411 }
/-- [B -/
def k15 : Class := { plain "[B" (some 0) with kind := .array 14 .byte, interfaces := #[13, 6], accessFlags := 1041 }

/-- the primitive int -/
def k16 : Class := { plain "int" none with kind := .primitive 'I', accessFlags := 0x411 }
/-- [I -/
def k17 : Class := { plain "[I" (some 0) with kind := .array 16 .int, interfaces := #[13, 6], accessFlags := 1041 }

/-- the primitive long -/
def k18 : Class := { plain "long" none with kind := .primitive 'J', accessFlags := 0x411 }
/-- [J -/
def k19 : Class := { plain "[J" (some 0) with kind := .array 18 .long, interfaces := #[13, 6], accessFlags := 1041 }

def heap : Heap := #[{ cls := 2, slots := #[.int 0, .ref 1, .ref 2], vm := .statics 2 },
  { cls := 17, slots := #[], vm := .none },
  { cls := 19, slots := #[], vm := .none }]
def classes : Array Class := #[k0, k1, k2, k3, k4, k5, k6, k7, k8, k9, k10, k11, k12, k13, k14, k15, k16, k17, k18, k19]
def interned : List (Array UInt16 × Addr) := []
def slotsUsed : Nat := 3
def theMethod : MethodId := ⟨1, 1⟩
def args0 : Array Value := #[.int 5, .int 5, .int 5, .int 5]
def aboutOver (below : List Frame) : State where
  vm := { classes := classes, interned := interned.toArray }
  heap := heap
  slotsUsed := slotsUsed
  threads := #[{ frames := .invoking theMethod args0 :: below }]
def below0 : List Frame := [.native { method := ⟨0, 0⟩, args := #[] }]
def about1 : State := aboutOver below0
def p0 : Program := .bare "" "" ""
def e0 : Env := launch0.env 0 0 0
theorem w_frames : about1.frames = Frame.invoking theMethod args0 :: below0 := rfl
set_option maxRecDepth 65536 in
theorem w_args : argsFit about1.vm theMethod args0 = true := by decide +kernel
set_option maxRecDepth 65536 in
theorem w_heap : heapFits about1 = true := by decide +kernel
set_option maxRecDepth 65536 in
theorem w_runnable : about1.curStatus? = some .runnable := by decide +kernel
set_option maxRecDepth 65536 in
theorem w_alone : about1.alone = true := by decide +kernel
set_option maxRecDepth 65536 in
theorem w_named : about1.methodNamed? x = some theMethod := by decide +kernel
set_option maxRecDepth 65536 in
theorem w_hears : about1.hears theMethod below0 = true := by decide +kernel
set_option maxRecDepth 65536 in
theorem w_ripe : about1.ripe theMethod args0 below0 = true := by decide +kernel
theorem w_running : about1.status = .running := rfl
set_option maxRecDepth 65536 in
theorem w_room : about1.hasRoom e0.platform room_1 = true :=
  launch0.hasRoom_least _ room_1 (by decide +kernel) (by decide +kernel) (by decide +kernel) (by decide +kernel) (by decide +kernel) (by decide +kernel)
theorem allAtoms_all (ts : List Jvm.Cond) (a : Array Jvm.Value) (st : Jvm.State) : (allAtoms ts).before a st = ts.all (fun c => c.before a st) := by
  induction ts with
  | nil => rfl
  | cons c t ih =>
    show (Jvm.Cond.and c (allAtoms t)).before a st = _
    rw [Jvm.Cond.before_and, ih, List.all_cons]
def words1 : List Jvm.Cond := Jvm.Cond.code x code maxLocals ret :: tables_1
/-- a 'code' word, met by the world's own term for the bytes: nothing is compared byte by byte -/
theorem code_word {y : MethodName} {bytes : ByteArray} {mx : Nat} {rt : Option FieldType} {a : Array Value} {s : State} {m : MethodId} {meth : Method} {c : Code} (h1 : s.methodNamed? y = some m) (h2 : s.vm.method? m = some meth) (h3 : meth.code = some c) (h4 : c.code = bytes)
    (h5 : (c.maxLocals == mx && c.exceptionTable.isEmpty && decide (c.maxStack ≤ mostOperands) && decide (meth.sig.returnType = rt) && !meth.locks && decide (parseMethodDescriptor y.desc = some meth.sig)) = true) : (Jvm.Cond.code y bytes mx rt).before a s = true := by
  simp only [Bool.and_eq_true, beq_iff_eq, Bool.not_eq_true', decide_eq_true_eq] at h5
  obtain ⟨⟨⟨⟨⟨g1, g2⟩, g3⟩, g4⟩, g5⟩, g6⟩ := h5
  simp [Cond.before, Cond.holds, Cond.value, h1, h2, h3, h4, g1, g2, g3, g4, g5, g6]
def isCode : Jvm.Cond → Bool
  | .code _ _ _ _ => true
  | _ => false
theorem all_split {L : List Jvm.Cond} {P : Jvm.Cond → Bool} (h1 : L.all (fun c => isCode c || P c) = true) (h2 : ∀ c ∈ L.filter isCode, P c = true) : L.all P = true := by
  refine List.all_eq_true.mpr fun c hc => ?_
  have h := List.all_eq_true.mp h1 c hc
  rcases Bool.eq_false_or_eq_true (isCode c) with hi | hi
  · exact h2 c (List.mem_filter.mpr ⟨hc, hi⟩)
  · simpa [hi] using h
set_option maxRecDepth 65536 in
theorem w_c0 : (Jvm.Cond.code x code maxLocals ret).before args0 about1 = true := code_word (m := ⟨1, 1⟩) (meth := k1m1) (c := k1c1) (by decide +kernel) rfl rfl rfl (by decide +kernel)
set_option maxRecDepth 65536 in
theorem w_c1 : (Jvm.Cond.code ({ cls := "com/example/pointward/pointward/pointsto/SiteSet", name := "<init>", desc := "()V" } : Jvm.MethodName) prog_17_method_1_code (1 : Nat) (Option.none : Option Jvm.ClassFile.FieldType)).before args0 about1 = true := code_word (m := ⟨2, 0⟩) (meth := k2m0) (c := k2c0) (by decide +kernel) rfl rfl rfl (by decide +kernel)
set_option maxRecDepth 65536 in
theorem w_c2 : (Jvm.Cond.code ({ cls := "java/lang/Object", name := "<init>", desc := "()V" } : Jvm.MethodName) object_method_1_code (1 : Nat) (Option.none : Option Jvm.ClassFile.FieldType)).before args0 about1 = true := code_word (m := ⟨0, 0⟩) (meth := k0m0) (c := k0c0) (by decide +kernel) rfl rfl rfl (by decide +kernel)
set_option maxRecDepth 65536 in
theorem w_c3 : (Jvm.Cond.code ({ cls := "com/example/pointward/pointward/pointsto/SiteSet", name := "isEmpty", desc := "()Z" } : Jvm.MethodName) prog_17_method_2_code (1 : Nat) (Option.some Jvm.ClassFile.FieldType.boolean)).before args0 about1 = true := code_word (m := ⟨2, 1⟩) (meth := k2m1) (c := k2c1) (by decide +kernel) rfl rfl rfl (by decide +kernel)
set_option maxRecDepth 65536 in
theorem w_c4 : (Jvm.Cond.code ({ cls := "com/example/pointward/pointward/pointsto/SiteSet", name := "toArray", desc := "()[I" } : Jvm.MethodName) prog_17_method_6_code (7 : Nat) (Option.some (Jvm.ClassFile.FieldType.array Jvm.ClassFile.FieldType.int))).before args0 about1 = true := code_word (m := ⟨2, 3⟩) (meth := k2m3) (c := k2c3) (by decide +kernel) rfl rfl rfl (by decide +kernel)
set_option maxRecDepth 65536 in
theorem w_c5 : (Jvm.Cond.code ({ cls := "com/example/pointward/pointward/pointsto/SiteSet", name := "add", desc := "(I)Z" } : Jvm.MethodName) prog_17_method_3_code (6 : Nat) (Option.some Jvm.ClassFile.FieldType.boolean)).before args0 about1 = true := code_word (m := ⟨2, 2⟩) (meth := k2m2) (c := k2c2) (by decide +kernel) rfl rfl rfl (by decide +kernel)
set_option maxRecDepth 65536 in
theorem w_c6 : (Jvm.Cond.code ({ cls := "java/util/Arrays", name := "binarySearch", desc := "([IIII)I" } : Jvm.MethodName) jdk_65_method_58_code (4 : Nat) (Option.some Jvm.ClassFile.FieldType.int)).before args0 about1 = true := code_word (m := ⟨3, 2⟩) (meth := k3m2) (c := k3c2) (by decide +kernel) rfl rfl rfl (by decide +kernel)
set_option maxRecDepth 65536 in
theorem w_c7 : (Jvm.Cond.code ({ cls := "java/util/Arrays", name := "rangeCheck", desc := "(III)V" } : Jvm.MethodName) jdk_65_method_30_code (3 : Nat) (Option.none : Option Jvm.ClassFile.FieldType)).before args0 about1 = true := code_word (m := ⟨3, 1⟩) (meth := k3m1) (c := k3c1) (by decide +kernel) rfl rfl rfl (by decide +kernel)
set_option maxRecDepth 65536 in
theorem w_c8 : (Jvm.Cond.code ({ cls := "java/util/Arrays", name := "binarySearch0", desc := "([IIII)I" } : Jvm.MethodName) jdk_65_method_59_code (8 : Nat) (Option.some Jvm.ClassFile.FieldType.int)).before args0 about1 = true := code_word (m := ⟨3, 3⟩) (meth := k3m3) (c := k3c3) (by decide +kernel) rfl rfl rfl (by decide +kernel)
set_option maxRecDepth 65536 in
theorem w_c9 : (Jvm.Cond.code ({ cls := "com/example/pointward/pointward/pointsto/SiteSet", name := "bit", desc := "(I)J" } : Jvm.MethodName) prog_17_method_8_code (1 : Nat) (Option.some Jvm.ClassFile.FieldType.long)).before args0 about1 = true := code_word (m := ⟨2, 5⟩) (meth := k2m5) (c := k2c5) (by decide +kernel) rfl rfl rfl (by decide +kernel)
set_option maxRecDepth 65536 in
theorem w_c10 : (Jvm.Cond.code ({ cls := "com/example/pointward/pointward/pointsto/SiteSet", name := "insertBlock", desc := "(IIJ)V" } : Jvm.MethodName) prog_17_method_7_code (6 : Nat) (Option.none : Option Jvm.ClassFile.FieldType)).before args0 about1 = true := code_word (m := ⟨2, 4⟩) (meth := k2m4) (c := k2c4) (by decide +kernel) rfl rfl rfl (by decide +kernel)
set_option maxRecDepth 65536 in
theorem w_c11 : (Jvm.Cond.code ({ cls := "java/lang/Math", name := "max", desc := "(II)I" } : Jvm.MethodName) jdk_29_method_65_code (2 : Nat) (Option.some Jvm.ClassFile.FieldType.int)).before args0 about1 = true := code_word (m := ⟨4, 1⟩) (meth := k4m1) (c := k4c1) (by decide +kernel) rfl rfl rfl (by decide +kernel)
set_option maxRecDepth 65536 in
theorem w_c12 : (Jvm.Cond.code ({ cls := "java/util/Arrays", name := "copyOf", desc := "([II)[I" } : Jvm.MethodName) jdk_65_method_123_code (3 : Nat) (Option.some (Jvm.ClassFile.FieldType.array Jvm.ClassFile.FieldType.int))).before args0 about1 = true := code_word (m := ⟨3, 4⟩) (meth := k3m4) (c := k3c4) (by decide +kernel) rfl rfl rfl (by decide +kernel)
set_option maxRecDepth 65536 in
theorem w_c13 : (Jvm.Cond.code ({ cls := "java/lang/Math", name := "min", desc := "(II)I" } : Jvm.MethodName) jdk_29_method_69_code (2 : Nat) (Option.some Jvm.ClassFile.FieldType.int)).before args0 about1 = true := code_word (m := ⟨4, 2⟩) (meth := k4m2) (c := k4c2) (by decide +kernel) rfl rfl rfl (by decide +kernel)
set_option maxRecDepth 65536 in
theorem w_c14 : (Jvm.Cond.code ({ cls := "java/util/Arrays", name := "copyOf", desc := "([JI)[J" } : Jvm.MethodName) jdk_65_method_124_code (3 : Nat) (Option.some (Jvm.ClassFile.FieldType.array Jvm.ClassFile.FieldType.long))).before args0 about1 = true := code_word (m := ⟨3, 5⟩) (meth := k3m5) (c := k3c5) (by decide +kernel) rfl rfl rfl (by decide +kernel)
set_option maxRecDepth 65536 in
theorem w_c15 : (Jvm.Cond.code ({ cls := "java/lang/Long", name := "bitCount", desc := "(J)I" } : Jvm.MethodName) jdk_35_method_50_code (2 : Nat) (Option.some Jvm.ClassFile.FieldType.int)).before args0 about1 = true := code_word (m := ⟨11, 1⟩) (meth := k11m1) (c := k11c1) (by decide +kernel) rfl rfl rfl (by decide +kernel)
set_option maxRecDepth 65536 in
theorem w_c16 : (Jvm.Cond.code ({ cls := "java/lang/Long", name := "numberOfTrailingZeros", desc := "(J)I" } : Jvm.MethodName) jdk_35_method_49_code (3 : Nat) (Option.some Jvm.ClassFile.FieldType.int)).before args0 about1 = true := code_word (m := ⟨11, 0⟩) (meth := k11m0) (c := k11c0) (by decide +kernel) rfl rfl rfl (by decide +kernel)
set_option maxRecDepth 65536 in
theorem w_c17 : (Jvm.Cond.code ({ cls := "java/lang/Integer", name := "numberOfTrailingZeros", desc := "(I)I" } : Jvm.MethodName) jdk_33_method_48_code (2 : Nat) (Option.some Jvm.ClassFile.FieldType.int)).before args0 about1 = true := code_word (m := ⟨12, 0⟩) (meth := k12m0) (c := k12c0) (by decide +kernel) rfl rfl rfl (by decide +kernel)
def codes1 : List Jvm.Cond := [Jvm.Cond.code x code maxLocals ret, Jvm.Cond.code ({ cls := "com/example/pointward/pointward/pointsto/SiteSet", name := "<init>", desc := "()V" } : Jvm.MethodName) prog_17_method_1_code (1 : Nat) (Option.none : Option Jvm.ClassFile.FieldType), Jvm.Cond.code ({ cls := "java/lang/Object", name := "<init>", desc := "()V" } : Jvm.MethodName) object_method_1_code (1 : Nat) (Option.none : Option Jvm.ClassFile.FieldType), Jvm.Cond.code ({ cls := "com/example/pointward/pointward/pointsto/SiteSet", name := "isEmpty", desc := "()Z" } : Jvm.MethodName) prog_17_method_2_code (1 : Nat) (Option.some Jvm.ClassFile.FieldType.boolean), Jvm.Cond.code ({ cls := "com/example/pointward/pointward/pointsto/SiteSet", name := "toArray", desc := "()[I" } : Jvm.MethodName) prog_17_method_6_code (7 : Nat) (Option.some (Jvm.ClassFile.FieldType.array Jvm.ClassFile.FieldType.int)), Jvm.Cond.code ({ cls := "com/example/pointward/pointward/pointsto/SiteSet", name := "add", desc := "(I)Z" } : Jvm.MethodName) prog_17_method_3_code (6 : Nat) (Option.some Jvm.ClassFile.FieldType.boolean), Jvm.Cond.code ({ cls := "java/util/Arrays", name := "binarySearch", desc := "([IIII)I" } : Jvm.MethodName) jdk_65_method_58_code (4 : Nat) (Option.some Jvm.ClassFile.FieldType.int), Jvm.Cond.code ({ cls := "java/util/Arrays", name := "rangeCheck", desc := "(III)V" } : Jvm.MethodName) jdk_65_method_30_code (3 : Nat) (Option.none : Option Jvm.ClassFile.FieldType), Jvm.Cond.code ({ cls := "java/util/Arrays", name := "binarySearch0", desc := "([IIII)I" } : Jvm.MethodName) jdk_65_method_59_code (8 : Nat) (Option.some Jvm.ClassFile.FieldType.int), Jvm.Cond.code ({ cls := "com/example/pointward/pointward/pointsto/SiteSet", name := "bit", desc := "(I)J" } : Jvm.MethodName) prog_17_method_8_code (1 : Nat) (Option.some Jvm.ClassFile.FieldType.long), Jvm.Cond.code ({ cls := "com/example/pointward/pointward/pointsto/SiteSet", name := "insertBlock", desc := "(IIJ)V" } : Jvm.MethodName) prog_17_method_7_code (6 : Nat) (Option.none : Option Jvm.ClassFile.FieldType), Jvm.Cond.code ({ cls := "java/lang/Math", name := "max", desc := "(II)I" } : Jvm.MethodName) jdk_29_method_65_code (2 : Nat) (Option.some Jvm.ClassFile.FieldType.int), Jvm.Cond.code ({ cls := "java/util/Arrays", name := "copyOf", desc := "([II)[I" } : Jvm.MethodName) jdk_65_method_123_code (3 : Nat) (Option.some (Jvm.ClassFile.FieldType.array Jvm.ClassFile.FieldType.int)), Jvm.Cond.code ({ cls := "java/lang/Math", name := "min", desc := "(II)I" } : Jvm.MethodName) jdk_29_method_69_code (2 : Nat) (Option.some Jvm.ClassFile.FieldType.int), Jvm.Cond.code ({ cls := "java/util/Arrays", name := "copyOf", desc := "([JI)[J" } : Jvm.MethodName) jdk_65_method_124_code (3 : Nat) (Option.some (Jvm.ClassFile.FieldType.array Jvm.ClassFile.FieldType.long)), Jvm.Cond.code ({ cls := "java/lang/Long", name := "bitCount", desc := "(J)I" } : Jvm.MethodName) jdk_35_method_50_code (2 : Nat) (Option.some Jvm.ClassFile.FieldType.int), Jvm.Cond.code ({ cls := "java/lang/Long", name := "numberOfTrailingZeros", desc := "(J)I" } : Jvm.MethodName) jdk_35_method_49_code (3 : Nat) (Option.some Jvm.ClassFile.FieldType.int), Jvm.Cond.code ({ cls := "java/lang/Integer", name := "numberOfTrailingZeros", desc := "(I)I" } : Jvm.MethodName) jdk_33_method_48_code (2 : Nat) (Option.some Jvm.ClassFile.FieldType.int)]
set_option maxRecDepth 65536 in
theorem codes_eq : words1.filter isCode = codes1 := rfl
theorem w_codes : ∀ c ∈ words1.filter isCode, c.before args0 about1 = true := by
  rw [codes_eq]
  intro c hc
  simp only [codes1, List.mem_cons, List.not_mem_nil, or_false] at hc
  rcases hc with rfl | rfl | rfl | rfl | rfl | rfl | rfl | rfl | rfl | rfl | rfl | rfl | rfl | rfl | rfl | rfl | rfl | rfl
  · exact w_c0
  · exact w_c1
  · exact w_c2
  · exact w_c3
  · exact w_c4
  · exact w_c5
  · exact w_c6
  · exact w_c7
  · exact w_c8
  · exact w_c9
  · exact w_c10
  · exact w_c11
  · exact w_c12
  · exact w_c13
  · exact w_c14
  · exact w_c15
  · exact w_c16
  · exact w_c17
set_option maxRecDepth 65536 in
theorem w_t1 : (words1.take 24).all (fun c => isCode c || c.before args0 about1) = true := by decide +kernel
set_option maxRecDepth 65536 in
theorem w_t2 : ((words1.drop 24).take 24).all (fun c => isCode c || c.before args0 about1) = true := by decide +kernel
set_option maxRecDepth 65536 in
theorem w_t3 : (((words1.drop 24).drop 24).take 24).all (fun c => isCode c || c.before args0 about1) = true := by decide +kernel
set_option maxRecDepth 65536 in
theorem w_t4 : (((words1.drop 24).drop 24).drop 24).all (fun c => isCode c || c.before args0 about1) = true := by decide +kernel
theorem w_tables : (allAtoms (Jvm.Cond.code x code maxLocals ret :: tables_1)).before args0 about1 = true := by
  rw [allAtoms_all]
  show words1.all (fun c => c.before args0 about1) = true
  refine all_split ?_ w_codes
  rw [← List.take_append_drop 24 words1, List.all_append, w_t1, ← List.take_append_drop 24 (words1.drop 24), List.all_append, w_t2, ← List.take_append_drop 24 ((words1.drop 24).drop 24), List.all_append, w_t3, w_t4]
  rfl
set_option maxRecDepth 65536 in
theorem w_case : (Jvm.Cond.and given_1 narrow_1).before args0 about1 = true := by decide +kernel
theorem w_applies : (headSpec (Jvm.Cond.code x code maxLocals ret :: tables_1) room_1).applies x e0.platform about1 = true :=
  (Spec.applies_iff w_frames).mpr ⟨w_running, w_runnable, w_alone, w_named, w_hears, w_ripe, w_room, w_tables⟩
theorem atStart : AtStart classFile x code maxLocals ret World_1 tables_1 room_1 Calls_1 rest_1 Pre_1 launch0 p0 e0 about1 theMethod args0 below0 :=
  ⟨lists_1, trivial, launch0.admits_env _ _ _, launch0.least_env, fairChoices_fair.cas, fairChoices_fair.clock, w_frames, w_args, w_heap, w_applies, trivial, trivial, w_case⟩
end start1
theorem witness_1 : WitnessClaimed_1 := ⟨start1.p0, start1.e0, start1.about1, start1.theMethod, start1.args0, start1.below0, start1.atStart⟩
end Jvm.Pilot.@@N@@
