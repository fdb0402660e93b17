import JvmDerived
import JvmDerived.Pilot.@@N@@Statement
import JvmDerived.Pilot.@@N@@Code
set_option linter.unusedVariables false
set_option linter.unusedSimpArgs false
set_option maxRecDepth 65536
set_option maxHeartbeats 40000000
namespace Jvm.RoadKit
open Sem ClassFile Op Lib Jvm.Stand Jvm.Free Jvm.LawKit
section New
variable {p : Program} {l : Launch} {e : Env} {R : Room} {s : State} {m : MethodId} {args : Array Value} {below : List Frame} {meth : Method} {c : Code} {T : State} {locs : List Loc} {cells slots : Nat}
theorem retI (X : Stand p l e R s m args below meth c T locs cells slots) (hx : p.tables.exec = Jvm.exec) {pc : Nat} {Ls : Array Slot} {z : Int32} {rest : List Value} (hret : meth.sig.returnType = some .int) (hd : decode c.code pc = .ok (.ireturn, 1)) {fs : List Frame}
    (hl : ∀ (f : JFrame) (acts : List Action), f.method = m → f.locked = none → f.entered = [] → (doReturn e (T.setTop f) acts (some (.int z))).1 = T.setFrames fs) : Steps p.tables e below (T.setTop (mkF m pc Ls (.int z :: rest))) (T.setFrames fs) := by
  have hm' : T.vm.method? m = some meth := X.method'
  have hn : narrow .int (.int z) = .int z := rfl
  show Steps p.tables e below (T.setTop { method := m, pc := pc, locals := Ls, stack := _ :: rest, locked := none }) _
  jvm_step X.here [X.here.top, hx, hd, hm', hret, hn]
  first | (intro acts; rw [hl _ acts rfl rfl rfl]) | rw [hl _ _ rfl rfl rfl]
  exact Steps.refl _
end New
end Jvm.RoadKit
namespace Jvm.Pilot.@@N@@
open Jvm Jvm.ClassFile Sem Op Lib Jvm.Free Jvm.Stand Jvm.LawKit Jvm.RoadKit Bundle Jvm.Pilot.@@N@@.Jvm.D
theorem own_w {Z : State} {a0 : Array Value} (hw : ∀ d ∈ tables_1, d.before a0 Z = true) (k : Nat) {d : Jvm.Cond} (h : tables_1[k]? = some d) : d.before a0 Z = true := hw _ (List.mem_of_getElem? h)
abbrev own_R (f c s l : Nat) : Room := { frames := f, cells := c, slots := s, locals := l }
abbrev vU : Slot := .unset
abbrev vS : Slot := .second
abbrev vN : Slot := .val .null
abbrev vI (x : Int32) : Slot := .val (.int x)
abbrev vJ (x : Int64) : Slot := .val (.long x)
abbrev vR (x : Addr) : Slot := .val (.ref x)
abbrev vV (x : Value) : Slot := .val x
abbrev Go (p : Program) (e : Env) (below : List Frame) (T : State) (f : JFrame) (t : State) : Prop := Steps p.tables e below (T.setTop f) t
theorem own_and255L (x : Int32) : ¬ (x &&& (255 : Int32)) < 0 ∧ ¬ (255 : Int32) < (x &&& (255 : Int32)) := by
  have h1 := c_mask x 255 8 (by decide) (by decide)
  have e1 : (255 : Int32).toInt = 255 := rfl
  rw [Int32.lt_iff_toInt_lt, Int32.lt_iff_toInt_lt, Int32.toInt_zero]
  constructor <;> omega
theorem own_narR {v : Value} (t : FieldType) (ht : t.isReference = true) (hv : v.isRef = true) : narrow t v = v := by cases t <;> cases v <;> simp_all [narrow, FieldType.isReference, Value.isRef]
abbrev OwnMet (l : Launch) (y : MethodName) (ws : List Jvm.Cond) (rm : Room) (A : Array Value) (Z : State) (h0 : Heap) (Q : Option Value → Heap → List Loc → Prop) : Prop :=
  MetFree l y (head1 ws rm) (fun a U => a = A ∧ Z.Warmed39 U.vm ∧ U.heap = h0) (fun _ _ _ _ _ => True) (fun _ U o U' => ∃ v L, o = .returned v ∧ Q v U'.heap L ∧ FrameEnd U o U' L rm.cells rm.slots)
theorem own_body {l : Launch} {y : MethodName} {ws : List Jvm.Cond} {rm : Room} {bytes : ByteArray} {maxL : Nat} {ret : Option FieldType} {A : Array Value} {Z : State} {h0 : Heap} {Q : Option Value → Heap → List Loc → Prop} (hp : plainFor y = true)
    (his : ∀ args (s : State) m, (head1 ws rm).pre.before args s = true → s.methodNamed? y = some m → ∃ meth c, s.vm.method? m = some meth ∧ meth.code = some c ∧ c.code = bytes ∧ c.maxLocals = maxL ∧ meth.sig.returnType = ret ∧ meth.locks = false)
    (body : ∀ (p : Program) (e : Env) (s : State) (m : MethodId) (below : List Frame) (meth : Method) (c : Code) (s₁ : State), p.tables.exec = Jvm.exec → c.code = bytes → c.maxLocals = maxL → s.vm.findClass y.cls = some m.cls → meth.name = y.name → meth.sig.returnType = ret → Z.Warmed39 s.vm → Stand p l e rm s m A below meth c s₁ [] 0 0 → s₁.heap = h0 →
      ∃ (v : Option Value) (T : State) (locs : List Loc) (cells slots : Nat) (f : JFrame), Stand p l e rm s m A below meth c T locs cells slots ∧ cells ≤ rm.cells ∧ slots ≤ rm.slots ∧ (ret = none → v = none) ∧ (∀ t, Go p e below T f t → Go p e below s₁ (entryFrame m A maxL) t) ∧
        (∀ fs, (∀ (f : JFrame) (acts : List Action), f.method = m → f.locked = none → f.entered = [] → (doReturn e (T.setTop f) acts v).1 = T.setFrames fs) → Go p e below T f (T.setFrames fs)) ∧ Q v T.heap locs) :
    MetFree l y (head1 ws rm) (fun a U => a = A ∧ Z.Warmed39 U.vm ∧ U.heap = h0) (fun _ _ _ _ _ => True) (fun _ U o U' => ∃ v L, o = .returned v ∧ Q v U'.heap L ∧ FrameEnd U o U' L rm.cells rm.slots) := by
  refine MetFree.of_bodySF hp his ?_
  intro p e s m args below meth c s₁ Bd hml0 hP hK
  obtain ⟨rfl, hZ, hh⟩ := hP
  obtain ⟨v, T, locs, cells, slots, f, X, hc, hs, hv, q, hf, hQ⟩ := body p e s m below meth c s₁ Bd.exec Bd.bytes hml0 (findClass_of_methodNamed Bd.named) (name_of_methodNamed Bd.named Bd.method).1 Bd.returns hZ (Stand.of_body Bd) (by rw [← hh, Bd.state]; rfl)
  obtain ⟨fs, hr, hrun, hended, hW, hsame⟩ := X.leave (v := v) (fun h => hv (Bd.returns ▸ h))
  exact ⟨_, _, q _ (hf fs hr), hrun, hended, v, locs, rfl, hQ, ⟨_, rfl⟩, hW, hsame.mono hc hs⟩
theorem own_eqI {args : Array Value} {Z : State} {t : Term} {k : Int32} (h : (Jvm.Cond.eq t (Term.int k)).value args Z none Z [] = some true) : t.eval args Z none [] Z = some (.int k) := by
  obtain ⟨x, y, e1, e2, k1, k2⟩ := cmp_v (Or.inl h)
  rw [Term.int_eval] at e2; cases Option.some.inj e2
  cases x <;> first | (obtain ⟨z, hz⟩ := k2; cases hz; simp [Cond.value, e1, Term.int_eval] at h; rw [e1, h]) | (obtain ⟨z, hz⟩ := k2; cases hz)
theorem own_fldI {args : Array Value} {Z : State} {t : Term} {k : Int32} {C n d : String} {w : Addr} (ht : t.eval args Z none [] Z = some (.ref w)) (h : (Jvm.Cond.eq (Term.field t C n d) (Term.int k)).value args Z none Z [] = some true) : Fld Z Z.heap w C n d (.int k) :=
  Fld.start ((fld_at ht).symm.trans (own_eqI h))
/-- the datum d is the number n / 2 -/
def DV (d : FP.Core.Datum) (n : Int) : Prop := ∃ (s : Bool) (c : Nat) (q : Int), d = .fin s c q ∧ -2000 ≤ q ∧ FP.Core.signed s c * 2 ^ (q + 2000).toNat = n * 2 ^ 1999
theorem dv_nn {d : FP.Core.Datum} {n : Int} (h : DV d n) : d ≠ .nan := by obtain ⟨s, c, q, rfl, -⟩ := h; intro e; cases e
theorem own_pw (a b : Nat) : (2 : Int) ^ (a + b) = 2 ^ a * 2 ^ b := Int.pow_add 2 a b
theorem own_pwpos (a : Nat) : (0 : Int) < 2 ^ a := Int.pow_pos (by decide)
theorem own_can {x y : Int} (k : Nat) (h : x * 2 ^ k = y * 2 ^ k) : x = y := Int.eq_of_mul_eq_mul_right (Int.ne_of_gt (own_pwpos k)) h
theorem dv_ratio {s : Bool} {A B : Nat} {e : Int} {n : Int} (hB : 0 < B) (he : -2000 ≤ e) (hn : n.natAbs < 2 ^ 53) (h : FP.Core.signed s A * 2 ^ (e + 2000).toNat = n * 2 ^ 1999 * (B : Int)) : DV (FP.Core.roundRatio FP.Core.b64 s A B e) n := by
  by_cases h0 : A = 0
  · subst h0
    have hz : n = 0 := by
      rw [FP.Core.signed_zero, Int.zero_mul] at h
      have h1 := Int.mul_eq_zero.mp h.symm
      rcases h1 with h1 | h1
      · rcases Int.mul_eq_zero.mp h1 with h2 | h2
        · exact h2
        · exact absurd h2 (Int.ne_of_gt (own_pwpos _))
      · omega
    subst hz
    refine ⟨s, 0, FP.Core.b64.qmin, by simp [FP.Core.roundRatio], by decide, by rw [FP.Core.signed_zero]; simp⟩
  · obtain ⟨m, hm⟩ : ∃ m, m = n.natAbs := ⟨_, rfl⟩
    have hA : A * 2 ^ (e + 2000).toNat = m * 2 ^ 1999 * B := by
      have h1 := congrArg Int.natAbs h
      rw [Int.natAbs_mul, Int.natAbs_mul, Int.natAbs_mul, FP.Core.natAbs_signed, Int.natAbs_pow, Int.natAbs_pow] at h1
      rw [hm]; simpa using h1
    have hm0 : m ≠ 0 := by
      intro z
      rw [z] at hA
      have h2 := Nat.pow_pos (n := (e + 2000).toNat) (show 0 < 2 by decide)
      have := Nat.mul_pos (Nat.pos_of_ne_zero h0) h2
      omega
    obtain ⟨L, hL⟩ : ∃ L, L = m.log2 := ⟨_, rfl⟩
    have l1 : 2 ^ L ≤ m := hL ▸ Nat.log2_self_le hm0
    have l2 : m < 2 ^ (L + 1) := hL ▸ Nat.lt_log2_self
    have l3 : L ≤ 52 := by
      apply Nat.le_of_lt_succ
      exact (Nat.pow_lt_pow_iff_right (by decide : 1 < 2)).mp (Nat.lt_of_le_of_lt l1 (hm ▸ hn))
    obtain ⟨k, hk⟩ : ∃ k, k + L = 52 := ⟨52 - L, by omega⟩
    have c1 : m * 2 ^ k < 2 ^ 53 := by
      have : 2 ^ 53 = 2 ^ (L + 1) * 2 ^ k := by rw [← Nat.pow_add]; congr 1; omega
      rw [this]; exact Nat.mul_lt_mul_of_pos_right l2 (Nat.pow_pos (by decide))
    have c2 : 2 ^ 52 ≤ m * 2 ^ k := by
      have : 2 ^ 52 = 2 ^ L * 2 ^ k := by rw [← Nat.pow_add]; congr 1; omega
      rw [this]; exact Nat.mul_le_mul_right _ l1
    have hf : FP.Core.fits FP.Core.b64 (.fin s (m * 2 ^ k) (-1 - (k : Int))) := by
      refine ⟨c1, ?_, ?_, Or.inr c2⟩
      · show (-1074 : Int) ≤ _; omega
      · show _ ≤ (971 : Int); omega
    have hx : A * 2 ^ (e - (-1 - (k : Int))).toNat = (m * 2 ^ k) * B * 2 ^ ((-1 - (k : Int)) - e).toNat := by
      by_cases g : (-1 - (k : Int)) ≤ e
      · have e1 : (e + 2000).toNat = (e - (-1 - (k : Int))).toNat + (1999 - k) := by omega
        have e2 : ((-1 - (k : Int)) - e).toNat = 0 := by omega
        have e3 : (1999 : Nat) = k + (1999 - k) := by omega
        rw [e1, Nat.pow_add, e3, Nat.pow_add, ← e3] at hA
        rw [e2, Nat.pow_zero, Nat.mul_one]
        apply Nat.eq_of_mul_eq_mul_right (Nat.pow_pos (n := 1999 - k) (show 0 < 2 by decide))
        rw [Nat.mul_assoc, hA]
        simp only [Nat.mul_assoc, Nat.mul_comm, Nat.mul_left_comm]
      · have e1 : (e - (-1 - (k : Int))).toNat = 0 := by omega
        have e3 : (1999 : Nat) = (e + 2000).toNat + (((-1 - (k : Int)) - e).toNat + k) := by omega
        rw [e3, Nat.pow_add] at hA
        rw [e1, Nat.pow_zero, Nat.mul_one]
        apply Nat.eq_of_mul_eq_mul_right (Nat.pow_pos (n := (e + 2000).toNat) (show 0 < 2 by decide))
        rw [hA, Nat.pow_add]
        simp only [Nat.mul_assoc, Nat.mul_comm, Nat.mul_left_comm]
    refine ⟨s, m * 2 ^ k, -1 - (k : Int), FP.Core.roundRatio_exact FP.Core.good_b64 hB hf hx, by omega, ?_⟩
    have e4 : (-1 - (k : Int) + 2000).toNat = 1999 - k := by omega
    have e5 : (1999 : Nat) = k + (1999 - k) := by omega
    have sg : FP.Core.signed s m = n := by
      have hApos : (0 : Int) < (A : Int) * 2 ^ (e + 2000).toNat := Int.mul_pos (by omega) (own_pwpos _)
      have hBp : (0 : Int) < 2 ^ 1999 * (B : Int) := Int.mul_pos (own_pwpos _) (by omega)
      cases s with
      | false =>
        have : FP.Core.signed false A = (A : Int) := rfl
        rw [this, Int.mul_assoc] at h
        show (m : Int) = n
        have hp : 0 < n := by
          refine Int.lt_of_not_ge fun hle => ?_
          have := Int.mul_le_mul_of_nonneg_right hle (Int.le_of_lt hBp)
          rw [Int.zero_mul, ← h] at this; omega
        omega
      | true =>
        have : FP.Core.signed true A = -(A : Int) := rfl
        rw [this, Int.mul_assoc, Int.neg_mul] at h
        show -(m : Int) = n
        have hp : 0 < -n := by
          refine Int.lt_of_not_ge fun hle => ?_
          have := Int.mul_le_mul_of_nonneg_right hle (Int.le_of_lt hBp)
          rw [Int.zero_mul, Int.neg_mul, ← h] at this; omega
        omega
    rw [e4, e5, own_pw, ← e5, FP.Core.signed_mul, sg]
    have : ((2 ^ k : Nat) : Int) = 2 ^ k := by simp
    rw [this, Int.mul_assoc]
theorem dv_round {d : FP.Core.Datum} {n : Int} (h : DV d n) (hn : n.natAbs < 2 ^ 53) : DV (FP.Core.round FP.Core.b64 d) n := by
  obtain ⟨s, c, q, rfl, h1, h2⟩ := h
  exact dv_ratio (by decide) h1 hn (by rw [h2]; simp)
theorem dv_neg {d : FP.Core.Datum} {n : Int} (h : DV d n) : DV (FP.Core.negate d) (-n) := by
  obtain ⟨s, c, q, rfl, h1, h2⟩ := h
  refine ⟨!s, c, q, rfl, h1, ?_⟩
  have : FP.Core.signed (!s) c = - FP.Core.signed s c := by cases s <;> simp [FP.Core.signed]
  rw [this, Int.neg_mul, h2, Int.neg_mul]
theorem own_units {s : Bool} {c : Nat} {q m : Int} (h1 : -2000 ≤ m) (h2 : m ≤ q) : FP.Core.signed s (FP.Core.inUnits c q m) * 2 ^ (m + 2000).toNat = FP.Core.signed s c * 2 ^ (q + 2000).toNat := by
  unfold FP.Core.inUnits
  have e : (q + 2000).toNat = (q - m).toNat + (m + 2000).toNat := by omega
  rw [FP.Core.signed_mul, e, own_pw, Int.mul_assoc]
  simp
theorem dv_sum {d e : FP.Core.Datum} {n k : Int} (h : DV d n) (h' : DV e k) : DV (FP.Core.exactSum d e) (n + k) := by
  obtain ⟨s, c, q, rfl, h1, h2⟩ := h
  obtain ⟨t, b, r, rfl, g1, g2⟩ := h'
  refine ⟨_, _, _, rfl, by omega, ?_⟩
  have hs : ∀ v : Int, FP.Core.signed (FP.Core.sumSign s t v) v.natAbs = v := fun v => by
    unfold FP.Core.sumSign FP.Core.signed
    by_cases z : v = 0
    · subst z; simp
    · rw [if_neg z]
      by_cases y : v < 0
      · rw [decide_eq_true y]; simp; omega
      · rw [decide_eq_false y]; simp; omega
  rw [hs]
  unfold FP.Core.sumUnits
  rw [Int.add_mul, own_units (by omega) (by omega), own_units (by omega) (by omega), h2, g2, Int.add_mul]
theorem dv_cmp {d e : FP.Core.Datum} {n : Int} (h : DV d n) (h' : DV e n) : FP.Core.order d e = some .eq := by
  obtain ⟨s, c, q, rfl, h1, h2⟩ := h
  obtain ⟨t, b, r, rfl, g1, g2⟩ := h'
  show some (compare _ _) = _
  have : FP.Core.signed s (FP.Core.inUnits c q (min q r)) = FP.Core.signed t (FP.Core.inUnits b r (min q r)) := by
    apply own_can (min q r + 2000).toNat
    rw [own_units (by omega) (by omega), own_units (by omega) (by omega), h2, g2]
  rw [this]
  congr 1
  exact Int.compare_eq_eq.mpr rfl
def Hf (a : UInt64) (n : Int) : Prop := DV (FP.Core.val64 a) n
theorem own_two : FP.Core.val64 4611686018427387904 = .fin false (2 ^ 52) (-51) := by decide +kernel
theorem hf_l2d {x : Int64} (hx : x.toInt.natAbs < 2 ^ 52) : Hf (FP.l2d x) (2 * x.toInt) := by
  show DV (FP.Core.val64 (FP.Core.l2d x)) _
  rw [FP.Core.val64_l2d]
  refine dv_round ⟨_, _, 0, rfl, by decide, ?_⟩ (by omega)
  have : FP.Core.signed (decide (x.toInt < 0)) x.toInt.natAbs = x.toInt := by
    unfold FP.Core.signed
    by_cases y : x.toInt < 0
    · rw [decide_eq_true y]; simp; omega
    · rw [decide_eq_false y]; simp; omega
  rw [this]
  show x.toInt * 2 ^ 2000 = _
  rw [show (2000 : Nat) = 1 + 1999 from rfl, own_pw]
  rw [← Int.mul_assoc, Int.mul_comm x.toInt]; rfl
theorem hf_add {a b : UInt64} {n k : Int} (ha : Hf a n) (hb : Hf b k) (h : (n + k).natAbs < 2 ^ 53) : Hf (FP.dadd a b) (n + k) := by
  show DV (FP.Core.val64 (FP.Core.dadd a b)) _
  rw [FP.Core.val64_dadd]; exact dv_round (dv_sum ha hb) h
theorem hf_sub {a b : UInt64} {n k : Int} (ha : Hf a n) (hb : Hf b k) (h : (n - k).natAbs < 2 ^ 53) : Hf (FP.dsub a b) (n - k) := by
  show DV (FP.Core.val64 (FP.Core.dsub a b)) _
  rw [FP.Core.val64_dsub]; exact dv_round (dv_sum ha (dv_neg hb)) h
theorem hf_dbl {a : UInt64} {n : Int} (ha : Hf a n) (h : (2 * n).natAbs < 2 ^ 53) : Hf (FP.dmul a 4611686018427387904) (2 * n) := by
  show DV (FP.Core.val64 (FP.Core.dmul a _)) _
  rw [FP.Core.val64_dmul, own_two]
  have hf := FP.Core.val64_fits a
  obtain ⟨s, c, q, e, h1, h2⟩ := ha
  rw [e] at hf ⊢
  have hq : (-1074 : Int) ≤ q := hf.2.1
  refine dv_round ⟨_, _, _, rfl, by omega, ?_⟩ h
  have e1 : (q + -51 + 2000).toNat = (q + 1949).toNat := by omega
  have e2 : (q + 2000).toNat = (q + 1949).toNat + 51 := by omega
  rw [e2, own_pw] at h2
  have e3 : (s != false) = s := by cases s <;> rfl
  rw [e1, FP.Core.signed_mul, e3]
  have e4 : ((2 ^ 52 : Nat) : Int) = 2 * 2 ^ 51 := by decide
  rw [e4, Int.mul_assoc 2 n, ← h2]
  simp only [Int.mul_assoc, Int.mul_comm, Int.mul_left_comm]
theorem hf_half {a : UInt64} {n : Int} (ha : Hf a (2 * n)) (h : n.natAbs < 2 ^ 53) : Hf (FP.ddiv a 4611686018427387904) n := by
  show DV (FP.Core.val64 (FP.Core.ddiv a _)) _
  rw [FP.Core.val64_ddiv, own_two]
  have hf := FP.Core.val64_fits a
  obtain ⟨s, c, q, e, h1, h2⟩ := ha
  rw [e] at hf ⊢
  have hq : (-1074 : Int) ≤ q := hf.2.1
  have e3 : (s != false) = s := by cases s <;> rfl
  have e0 : FP.Core.quotient FP.Core.b64 (.fin s c q) (.fin false (2 ^ 52) (-51)) = FP.Core.roundRatio FP.Core.b64 s c (2 ^ 52) (q - -51) := by
    rw [show FP.Core.quotient FP.Core.b64 (.fin s c q) (.fin false (2 ^ 52) (-51)) = if (2 ^ 52 : Nat) = 0 then (if c = 0 then .nan else .inf (s != false)) else FP.Core.roundRatio FP.Core.b64 (s != false) c (2 ^ 52) (q - -51) from rfl, if_neg (by decide), e3]
  rw [e0]
  refine dv_ratio (by decide) (by omega) h ?_
  have e1 : (q - -51 + 2000).toNat = (q + 2000).toNat + 51 := by omega
  rw [e1, own_pw, ← Int.mul_assoc, h2]
  have e4 : ((2 ^ 52 : Nat) : Int) = 2 * 2 ^ 51 := by decide
  rw [e4]
  simp only [Int.mul_assoc, Int.mul_comm, Int.mul_left_comm]
theorem hf_cmp {a b : UInt64} {n : Int} (ha : Hf a n) (hb : Hf b n) (o : CmpOp) : cmpValue (FP.dcmp a b) o = 0 := by
  have : FP.dcmp a b = some .eq := dv_cmp ha hb
  rw [this]; rfl
theorem hf_nn {a : UInt64} {n : Int} (ha : Hf a n) : Jvm.Free.Fl.NoNaN64 a := by
  exact Jvm.Free.Fl.val64_no.mpr (dv_nn ha)
theorem own_mid (p1 p2 : Int32) : Jvm.Free.Fl.NoNaN64 (FP.dadd (FP.l2d p1.toInt64) (FP.l2d p2.toInt64)) ∧ Jvm.Free.Fl.NoNaN64 (FP.ddiv (FP.dadd (FP.l2d p1.toInt64) (FP.l2d p2.toInt64)) (4611686018427387904 : UInt64)) ∧ Jvm.Free.Fl.NoNaN64 (FP.dmul (FP.ddiv (FP.dadd (FP.l2d p1.toInt64) (FP.l2d p2.toInt64)) (4611686018427387904 : UInt64)) (4611686018427387904 : UInt64)) ∧ cmpValue (FP.dcmp (FP.dmul (FP.ddiv (FP.dadd (FP.l2d p1.toInt64) (FP.l2d p2.toInt64)) (4611686018427387904 : UInt64)) (4611686018427387904 : UInt64)) (FP.l2d (p1.toInt64 + p2.toInt64))) .l = 0 ∧ Jvm.Free.Fl.NoNaN64 (FP.dsub (FP.ddiv (FP.dadd (FP.l2d p1.toInt64) (FP.l2d p2.toInt64)) (4611686018427387904 : UInt64)) (FP.l2d p1.toInt64)) ∧ Jvm.Free.Fl.NoNaN64 (FP.dsub (FP.l2d p2.toInt64) (FP.ddiv (FP.dadd (FP.l2d p1.toInt64) (FP.l2d p2.toInt64)) (4611686018427387904 : UInt64))) ∧ cmpValue (FP.dcmp (FP.dsub (FP.ddiv (FP.dadd (FP.l2d p1.toInt64) (FP.l2d p2.toInt64)) (4611686018427387904 : UInt64)) (FP.l2d p1.toInt64)) (FP.dsub (FP.l2d p2.toInt64) (FP.ddiv (FP.dadd (FP.l2d p1.toInt64) (FP.l2d p2.toInt64)) (4611686018427387904 : UInt64)))) .l = 0 := by
  have a1 := rng32 p1
  have a2 := rng32 p2
  have b1 := c_i2l p1
  have b2 := c_i2l p2
  have b3 := c_ladd p1.toInt64 p2.toInt64
  have b4 := rng64 (p1.toInt64 + p2.toInt64)
  have w : (2 : Nat) ^ 53 = 9007199254740992 := by decide
  have w' : (2 : Nat) ^ 52 = 4503599627370496 := by decide
  have hX : Hf (FP.l2d p1.toInt64) (2 * p1.toInt) := by have := hf_l2d (x := p1.toInt64) (by omega); rw [b1] at this; exact this
  have hY : Hf (FP.l2d p2.toInt64) (2 * p2.toInt) := by have := hf_l2d (x := p2.toInt64) (by omega); rw [b2] at this; exact this
  have hS : Hf (FP.dadd (FP.l2d p1.toInt64) (FP.l2d p2.toInt64)) (2 * (p1.toInt + p2.toInt)) := by have := hf_add hX hY (by omega); rw [← Int.mul_add] at this; exact this
  have hM := hf_half hS (by omega)
  have hD := hf_dbl hM (by omega)
  have hL : Hf (FP.l2d (p1.toInt64 + p2.toInt64)) (2 * (p1.toInt + p2.toInt)) := by
    have e : (p1.toInt64 + p2.toInt64).toInt = p1.toInt + p2.toInt := by omega
    have := hf_l2d (x := p1.toInt64 + p2.toInt64) (by omega); rw [e] at this; exact this
  have hA := hf_sub hM hX (by omega)
  have hB : Hf (FP.dsub (FP.l2d p2.toInt64) (FP.ddiv (FP.dadd (FP.l2d p1.toInt64) (FP.l2d p2.toInt64)) (4611686018427387904 : UInt64))) (p1.toInt + p2.toInt - 2 * p1.toInt) := by
    have := hf_sub hY hM (by omega)
    rw [show 2 * p2.toInt - (p1.toInt + p2.toInt) = p1.toInt + p2.toInt - 2 * p1.toInt by omega] at this; exact this
  exact ⟨hf_nn hS, hf_nn hM, hf_nn hD, hf_cmp hD hL _, hf_nn hA, hf_nn hB, hf_cmp hA hB _⟩
theorem ef_1_RDD (m : MethodId) (x0 : Addr) (x1 : UInt64) (x2 : UInt64) : entryFrame m #[(.ref x0), (.double x1), (.double x2)] 5 = mkF m 0 #[.val (.ref x0), .val (.double x1), .second, .val (.double x2), .second] [] := by first | (simp [entryFrame, mkF, argsToLocals, Value.category]; done) | rfl
theorem pn_1 : plainName "com/example/sloth/sloth/mdp/Bounds" = true := by first | (simp [plainName, overriddenIn]; done) | decide +kernel
theorem d1_0 : decode prog_21_method_1_code 0 = .ok (.aload_n 0, 1) := by decide +kernel
theorem d1_1 : decode prog_21_method_1_code 1 = .ok (.invokespecial 1, 3) := by decide +kernel
theorem d1_4 : decode prog_21_method_1_code 4 = .ok (.aload_n 0, 1) := by decide +kernel
theorem d1_5 : decode prog_21_method_1_code 5 = .ok (.dload_n 1, 1) := by decide +kernel
theorem d1_6 : decode prog_21_method_1_code 6 = .ok (.putfield 7, 3) := by decide +kernel
theorem d1_9 : decode prog_21_method_1_code 9 = .ok (.aload_n 0, 1) := by decide +kernel
theorem d1_10 : decode prog_21_method_1_code 10 = .ok (.dload_n 3, 1) := by decide +kernel
theorem d1_11 : decode prog_21_method_1_code 11 = .ok (.putfield 13, 3) := by decide +kernel
theorem d1_14 : decode prog_21_method_1_code 14 = .ok (.return_, 1) := by decide +kernel
def Q_rm1 (Z : State) (a1 : Addr) (u1 : UInt64) (u2 : UInt64) (h0 : Heap) (n0 : Nat) (v : Option Value) (h : Heap) (L : List Loc) : Prop := v = none ∧ Fr n0 L ∧ Keep h0 h [a1] ∧ Fld Z h a1 "com/example/sloth/sloth/mdp/Bounds" "lower" "D" (.double u1) ∧ Fld Z h a1 "com/example/sloth/sloth/mdp/Bounds" "upper" "D" (.double u2)
theorem rm1 (l : Launch) (Z : State) (a0 : Array Value) (hw : ∀ d ∈ tables_1, d.before a0 Z = true) (ws : List Jvm.Cond) (a1 : Addr) (u1 : UInt64) (u2 : UInt64) (h0 : Heap) (n0 : Nat) (O0 : Old Z n0 h0) (E1 : Exa Z h0 a1 "com/example/sloth/sloth/mdp/Bounds") (F1 : Fld Z h0 a1 "com/example/sloth/sloth/mdp/Bounds" "lower" "D" (.double (0 : UInt64))) (F2 : Fld Z h0 a1 "com/example/sloth/sloth/mdp/Bounds" "upper" "D" (.double (0 : UInt64))) (g_a1 : n0 ≤ a1) :
    OwnMet l (⟨"com/example/sloth/sloth/mdp/Bounds", "<init>", "(DD)V"⟩ : MethodName) (Jvm.Cond.code (⟨"com/example/sloth/sloth/mdp/Bounds", "<init>", "(DD)V"⟩ : MethodName) prog_21_method_1_code 5 none :: ws) (own_R 1 0 0 12) #[(.ref a1), (.double u1), (.double u2)] Z h0 (Q_rm1 Z a1 u1 u2 h0 n0) := by
  refine own_body (plainFor_of_name pn_1) hisR fun p e s m below meth c s₁ hx hby hml hown hnm hret hZ X0 e0 => ?_
  have N0 := Fr.nil n0
  have K0 : Keep h0 h0 [a1] := Keep.refl _ _
  have pre0 : ∀ t, Go p e below s₁ (mkF m 0 #[.val (.ref a1), .val (.double u1), .second, .val (.double u2), .second] []) t → Go p e below s₁ (entryFrame m #[(.ref a1), (.double u1), (.double u2)] 5) t := fun t k => castTop (ef_1_RDD m a1 u1 u2) k
  have q21 := fun t (kt : Go p e below s₁ (mkF m 1 #[.val (.ref a1), .val (.double u1), .second, .val (.double u2), .second] [(.ref a1)]) t) => pre0 t (by
    show Go p e below s₁ (mkF m 0 #[.val (.ref a1), .val (.double u1), .second, .val (.double u2), .second] []) _
    refine XS.aloadN X0.here hx rfl (hb hby d1_0) rfl rfl ?_
    exact kt)
  obtain ⟨T22, X22, e22, st22⟩ := initO X0 hx hZ hown (own_w hw 6 rfl) (own_w hw 7 rfl) (own_w hw 8 rfl) e0 (g := (mkF m 1 #[.val (.ref a1), .val (.double u1), .second, .val (.double u2), .second] [(.ref a1)])) rfl (by rw [hml]; rfl) rfl (hb hby d1_1) (by decide) (W := 0) (by show 2 * 0 + _ ≤ _; exact Nat.le_of_eq rfl) (by decide)
  have q23 := fun t (kt : Go p e below T22 (mkF m 4 #[.val (.ref a1), .val (.double u1), .second, .val (.double u2), .second] []) t) => q21 t (st22 t kt)
  have q24 := fun t (kt : Go p e below T22 (mkF m 6 #[.val (.ref a1), .val (.double u1), .second, .val (.double u2), .second] [(.double u1), (.ref a1)]) t) => q23 t (by
    show Go p e below T22 (mkF m 4 #[.val (.ref a1), .val (.double u1), .second, .val (.double u2), .second] []) _
    refine XS.aloadN X22.here hx rfl (hb hby d1_4) rfl rfl ?_
    show Go p e below T22 (mkF m 5 #[.val (.ref a1), .val (.double u1), .second, .val (.double u2), .second] [(.ref a1)]) _
    refine XS.dloadN X22.here hx rfl (hb hby d1_5) rfl ?_
    exact kt)
  obtain ⟨T25, h25, X25, e25, W25, st25⟩ := putF X22 hx hZ hown (host := "") (Or.inl (own_w hw 9 rfl)) Via.refl e22 F1 E1 (Or.inr ⟨(own_w hw 10 rfl), rfl, hnm⟩) (own_w hw 1 rfl) (ty := .double) (by decide) rfl rfl (g := (mkF m 6 #[.val (.ref a1), .val (.double u1), .second, .val (.double u2), .second] [(.double u1), (.ref a1)])) rfl rfl (hb hby d1_6)
  have q26 := fun t (kt : Go p e below T25 (mkF m 9 #[.val (.ref a1), .val (.double u1), .second, .val (.double u2), .second] []) t) => q24 t (st25 t kt)
  have f27 : Fld Z h25 a1 "com/example/sloth/sloth/mdp/Bounds" "lower" "D" (.double u1) := F1.same W25
  have N28 := Fr.snoc X25 N0 g_a1
  have O29 : Old Z n0 h25 := O0.wr W25 g_a1
  have K30 : Keep h0 h25 [a1] := K0.wr W25 (Or.inl (List.mem_of_getElem? (i := 0) rfl))
  have f31 : Exa Z h25 a1 "com/example/sloth/sloth/mdp/Bounds" := (E1.wr W25)
  have f32 : Fld Z h25 a1 "com/example/sloth/sloth/mdp/Bounds" "upper" "D" (.double (0 : UInt64)) := (F2.other W25 (Or.inr (slot_ne (Or.inr (own_w hw 12 rfl)) (Or.inr (own_w hw 10 rfl)) (by decide) (t := .double) (t' := .double) (by decide) (by decide))))
  have q33 := fun t (kt : Go p e below T25 (mkF m 11 #[.val (.ref a1), .val (.double u1), .second, .val (.double u2), .second] [(.double u2), (.ref a1)]) t) => q26 t (by
    show Go p e below T25 (mkF m 9 #[.val (.ref a1), .val (.double u1), .second, .val (.double u2), .second] []) _
    refine XS.aloadN X25.here hx rfl (hb hby d1_9) rfl rfl ?_
    show Go p e below T25 (mkF m 10 #[.val (.ref a1), .val (.double u1), .second, .val (.double u2), .second] [(.ref a1)]) _
    refine XS.dloadN X25.here hx rfl (hb hby d1_10) rfl ?_
    exact kt)
  obtain ⟨T34, h34, X34, e34, W34, st34⟩ := putF X25 hx hZ hown (host := "") (Or.inl (own_w hw 11 rfl)) Via.refl e25 f32 f31 (Or.inr ⟨(own_w hw 12 rfl), rfl, hnm⟩) (own_w hw 1 rfl) (ty := .double) (by decide) rfl rfl (g := (mkF m 11 #[.val (.ref a1), .val (.double u1), .second, .val (.double u2), .second] [(.double u2), (.ref a1)])) rfl rfl (hb hby d1_11)
  have q35 := fun t (kt : Go p e below T34 (mkF m 14 #[.val (.ref a1), .val (.double u1), .second, .val (.double u2), .second] []) t) => q33 t (st34 t kt)
  have f36 : Fld Z h34 a1 "com/example/sloth/sloth/mdp/Bounds" "upper" "D" (.double u2) := f32.same W34
  have N37 := Fr.snoc X34 N28 g_a1
  have O38 : Old Z n0 h34 := O29.wr W34 g_a1
  have K39 : Keep h0 h34 [a1] := K30.wr W34 (Or.inl (List.mem_of_getElem? (i := 0) rfl))
  have f40 : Fld Z h34 a1 "com/example/sloth/sloth/mdp/Bounds" "lower" "D" (.double u1) := (f27.other W34 (Or.inr (slot_ne (Or.inr (own_w hw 10 rfl)) (Or.inr (own_w hw 12 rfl)) (by decide) (t := .double) (t' := .double) (by decide) (by decide))))
  exact ⟨none, T34, _, _, _, _, X34, by decide, by decide, fun _ => rfl, q35, fun fs hr => X34.returnOut hx hret (hb hby d1_14) hr, by rw [e34]; exact ⟨rfl, N37, K39, f40, f36⟩⟩
theorem ef_3_R (m : MethodId) (x0 : Addr) : entryFrame m #[(.ref x0)] 1 = mkF m 0 #[.val (.ref x0)] [] := by first | (simp [entryFrame, mkF, argsToLocals, Value.category]; done) | rfl
theorem pn_3 : plainName "com/example/sloth/sloth/mdp/Bounds" = true := by first | (simp [plainName, overriddenIn]; done) | decide +kernel
theorem d3_0 : decode prog_21_method_5_code 0 = .ok (.aload_n 0, 1) := by decide +kernel
theorem d3_1 : decode prog_21_method_5_code 1 = .ok (.getfield 7, 3) := by decide +kernel
theorem d3_4 : decode prog_21_method_5_code 4 = .ok (.aload_n 0, 1) := by decide +kernel
theorem d3_5 : decode prog_21_method_5_code 5 = .ok (.getfield 13, 3) := by decide +kernel
theorem d3_8 : decode prog_21_method_5_code 8 = .ok (.dadd, 1) := by decide +kernel
theorem d3_9 : decode prog_21_method_5_code 9 = .ok (.ldc2_w 16, 3) := by decide +kernel
theorem d3_12 : decode prog_21_method_5_code 12 = .ok (.ddiv, 1) := by decide +kernel
theorem d3_13 : decode prog_21_method_5_code 13 = .ok (.dreturn, 1) := by decide +kernel
def Q_rm3 (Z : State) (a1 : Addr) (u1 : UInt64) (u2 : UInt64) (h0 : Heap) (n0 : Nat) (v : Option Value) (h : Heap) (L : List Loc) : Prop := v = some (.double (FP.ddiv (FP.dadd u1 u2) (4611686018427387904 : UInt64))) ∧ Fr n0 L ∧ h = h0
theorem rm3 (l : Launch) (Z : State) (a0 : Array Value) (hw : ∀ d ∈ tables_1, d.before a0 Z = true) (ws : List Jvm.Cond) (a1 : Addr) (u1 : UInt64) (u2 : UInt64) (h0 : Heap) (n0 : Nat) (O0 : Old Z n0 h0) (F1 : Fld Z h0 a1 "com/example/sloth/sloth/mdp/Bounds" "lower" "D" (.double u1)) (F2 : Fld Z h0 a1 "com/example/sloth/sloth/mdp/Bounds" "upper" "D" (.double u2)) (h1 : Jvm.Free.Fl.NoNaN64 (FP.dadd u1 u2)) (h2 : Jvm.Free.Fl.NoNaN64 (FP.ddiv (FP.dadd u1 u2) (4611686018427387904 : UInt64))) :
    OwnMet l (⟨"com/example/sloth/sloth/mdp/Bounds", "midpoint", "()D"⟩ : MethodName) (Jvm.Cond.code (⟨"com/example/sloth/sloth/mdp/Bounds", "midpoint", "()D"⟩ : MethodName) prog_21_method_5_code 1 (some .double) :: ws) (own_R 0 0 0 0) #[(.ref a1)] Z h0 (Q_rm3 Z a1 u1 u2 h0 n0) := by
  refine own_body (plainFor_of_name pn_3) hisR fun p e s m below meth c s₁ hx hby hml hown hnm hret hZ X0 e0 => ?_
  have N0 := Fr.nil n0
  have pre0 : ∀ t, Go p e below s₁ (mkF m 0 #[.val (.ref a1)] []) t → Go p e below s₁ (entryFrame m #[(.ref a1)] 1) t := fun t k => castTop (ef_3_R m a1) k
  have q21 := fun t (kt : Go p e below s₁ (mkF m 1 #[.val (.ref a1)] [(.ref a1)]) t) => pre0 t (by
    show Go p e below s₁ (mkF m 0 #[.val (.ref a1)] []) _
    refine XS.aloadN X0.here hx rfl (hb hby d3_0) rfl rfl ?_
    exact kt)
  obtain ⟨T22, X22, e22, st22⟩ := getF X0 hx hZ hown (host := "") (Or.inl (own_w hw 9 rfl)) Via.refl e0 F1 (g := (mkF m 1 #[.val (.ref a1)] [(.ref a1)])) rfl rfl (hb hby d3_1)
  have q23 := fun t (kt : Go p e below T22 (mkF m 4 #[.val (.ref a1)] [(.double u1)]) t) => q21 t (st22 t kt)
  have q24 := fun t (kt : Go p e below T22 (mkF m 5 #[.val (.ref a1)] [(.ref a1), (.double u1)]) t) => q23 t (by
    show Go p e below T22 (mkF m 4 #[.val (.ref a1)] [(.double u1)]) _
    refine XS.aloadN X22.here hx rfl (hb hby d3_4) rfl rfl ?_
    exact kt)
  obtain ⟨T25, X25, e25, st25⟩ := getF X22 hx hZ hown (host := "") (Or.inl (own_w hw 11 rfl)) Via.refl e22 F2 (g := (mkF m 5 #[.val (.ref a1)] [(.ref a1), (.double u1)])) rfl rfl (hb hby d3_5)
  have q26 := fun t (kt : Go p e below T25 (mkF m 8 #[.val (.ref a1)] [(.double u2), (.double u1)]) t) => q24 t (st25 t kt)
  have q27 := fun t (kt : Go p e below T25 (mkF m 13 #[.val (.ref a1)] [(.double (FP.ddiv (FP.dadd u1 u2) (4611686018427387904 : UInt64)))]) t) => q26 t (by
    show Go p e below T25 (mkF m 8 #[.val (.ref a1)] [(.double u2), (.double u1)]) _
    refine XS.daddS X25.here hx rfl (hb hby d3_8) rfl h1 rfl ?_
    show Go p e below T25 (mkF m 9 #[.val (.ref a1)] [(.double (FP.dadd u1 u2))]) _
    refine X25.ldc2DoubleC hx hown (mvT hZ (own_w hw 18 rfl)) (g := (mkF m 9 #[.val (.ref a1)] [(.double (FP.dadd u1 u2))])) rfl (hb hby d3_9) _ ?_
    show Go p e below T25 (mkF m 12 #[.val (.ref a1)] [(.double (4611686018427387904 : UInt64)), (.double (FP.dadd u1 u2))]) _
    refine XS.ddivS X25.here hx rfl (hb hby d3_12) rfl h2 rfl ?_
    exact kt)
  exact ⟨some (.double (FP.ddiv (FP.dadd u1 u2) (4611686018427387904 : UInt64))), T25, _, _, _, _, X25, by decide, by decide, nofun, q27, fun fs hr => retOut X25 hx hret rfl (Or.inr (Or.inr (Or.inl ⟨rfl, rfl, _, rfl⟩))) (hb hby d3_13) hr, by rw [e25]; exact ⟨rfl, N0, rfl⟩⟩
theorem ef_0_II (m : MethodId) (x0 : Int32) (x1 : Int32) : entryFrame m #[(.int x0), (.int x1)] maxLocals = mkF m 0 #[.val (.int x0), .val (.int x1), .unset, .unset, .unset, .unset, .unset, .unset, .unset, .unset, .unset, .unset, .unset] [] := by first | (simp [entryFrame, mkF, argsToLocals, Value.category, maxLocals]; done) | rfl
theorem pn_0 : plainName "com/example/sloth/sloth/mdp/BoundsMidpointPinLaw" = true := by first | (simp [plainName, overriddenIn]; done) | decide +kernel
theorem pd_0 : parseMethodDescriptor "(DD)V" = some ⟨[.double, .double], none⟩ := by decide +kernel
theorem pd_1 : parseMethodDescriptor "()D" = some ⟨[], some .double⟩ := by decide +kernel
def Q_rm0 (Z : State) (p1 : Int32) (p2 : Int32) (h0 : Heap) (n0 : Nat) (v : Option Value) (h : Heap) (L : List Loc) : Prop := v = some (.int (1 : Int32)) ∧ Fr n0 L
theorem rm0 (l : Launch) (Z : State) (a0 : Array Value) (hw : ∀ d ∈ tables_1, d.before a0 Z = true) (ws : List Jvm.Cond) (p1 : Int32) (p2 : Int32) (h0 : Heap) (n0 : Nat) (O0 : Old Z n0 h0) :
    OwnMet l x (Jvm.Cond.code x code maxLocals ret :: ws) room_1 #[(.int p1), (.int p2)] Z h0 (Q_rm0 Z p1 p2 h0 n0) := by
  refine own_body (plainFor_of_name pn_0) hisR fun p e s m below meth c s₁ hx hby hml hown hnm hret hZ X0 e0 => ?_
  have N0 := Fr.nil n0
  have pre0 : ∀ t, Go p e below s₁ (mkF m 0 #[.val (.int p1), .val (.int p2), .unset, .unset, .unset, .unset, .unset, .unset, .unset, .unset, .unset, .unset, .unset] []) t → Go p e below s₁ (entryFrame m #[(.int p1), (.int p2)] maxLocals) t := fun t k => castTop (ef_0_II m p1 p2) k
  have q21 := fun t (kt : Go p e below s₁ (mkF m 7 #[.val (.int p1), .val (.int p2), .val (.double (FP.l2d p1.toInt64)), .second, .val (.double (FP.l2d p2.toInt64)), .second, .unset, .unset, .unset, .unset, .unset, .unset, .unset] []) t) => pre0 t (by
    show Go p e below s₁ (mkF m 0 #[.val (.int p1), .val (.int p2), .unset, .unset, .unset, .unset, .unset, .unset, .unset, .unset, .unset, .unset, .unset] []) _
    refine XS.iloadN X0.here hx rfl (hb hby at_0) rfl ?_
    show Go p e below s₁ (mkF m 1 #[.val (.int p1), .val (.int p2), .unset, .unset, .unset, .unset, .unset, .unset, .unset, .unset, .unset, .unset, .unset] [(.int p1)]) _
    refine XS.i2dS X0.here hx rfl (hb hby at_1) rfl (i2d_w _) ?_
    show Go p e below s₁ (mkF m 2 #[.val (.int p1), .val (.int p2), .unset, .unset, .unset, .unset, .unset, .unset, .unset, .unset, .unset, .unset, .unset] [(.double (FP.l2d p1.toInt64))]) _
    refine XS.dstoreN X0.here hx rfl (hb hby at_2) rfl (l' := #[.val (.int p1), .val (.int p2), .val (.double (FP.l2d p1.toInt64)), .second, .unset, .unset, .unset, .unset, .unset, .unset, .unset, .unset, .unset]) rfl ?_
    show Go p e below s₁ (mkF m 3 #[.val (.int p1), .val (.int p2), .val (.double (FP.l2d p1.toInt64)), .second, .unset, .unset, .unset, .unset, .unset, .unset, .unset, .unset, .unset] []) _
    refine XS.iloadN X0.here hx rfl (hb hby at_3) rfl ?_
    show Go p e below s₁ (mkF m 4 #[.val (.int p1), .val (.int p2), .val (.double (FP.l2d p1.toInt64)), .second, .unset, .unset, .unset, .unset, .unset, .unset, .unset, .unset, .unset] [(.int p2)]) _
    refine XS.i2dS X0.here hx rfl (hb hby at_4) rfl (i2d_w _) ?_
    show Go p e below s₁ (mkF m 5 #[.val (.int p1), .val (.int p2), .val (.double (FP.l2d p1.toInt64)), .second, .unset, .unset, .unset, .unset, .unset, .unset, .unset, .unset, .unset] [(.double (FP.l2d p2.toInt64))]) _
    refine XS.dstore X0.here hx rfl (hb hby at_5) rfl (l' := #[.val (.int p1), .val (.int p2), .val (.double (FP.l2d p1.toInt64)), .second, .val (.double (FP.l2d p2.toInt64)), .second, .unset, .unset, .unset, .unset, .unset, .unset, .unset]) rfl ?_
    exact kt)
  obtain ⟨T22, h22, X22, e22, E22, A22, D22, U22, st22⟩ := newO X0 hx hZ hown (own_w hw 0 rfl) (own_w hw 1 rfl) (own_w hw 2 rfl) e0 (g := (mkF m 7 #[.val (.int p1), .val (.int p2), .val (.double (FP.l2d p1.toInt64)), .second, .val (.double (FP.l2d p2.toInt64)), .second, .unset, .unset, .unset, .unset, .unset, .unset, .unset] [])) rfl (hb hby at_7) (by decide) (by decide)
  obtain ⟨b22, g22⟩ : ∃ z, z = h0.size := ⟨_, rfl⟩
  rw [← g22] at A22 D22 st22
  have gg23 : n0 ≤ b22 := Nat.le_trans (O0.1 ▸ O0.2.1) (Nat.le_of_eq g22.symm)
  have q24 := fun t (kt : Go p e below T22 (mkF m 10 #[.val (.int p1), .val (.int p2), .val (.double (FP.l2d p1.toInt64)), .second, .val (.double (FP.l2d p2.toInt64)), .second, .unset, .unset, .unset, .unset, .unset, .unset, .unset] [(.ref b22)]) t) => q21 t (st22 t kt)
  have O25 : Old Z n0 h22 := O0.ext E22
  have F22_lower : Fld Z h22 b22 "com/example/sloth/sloth/mdp/Bounds" "lower" "D" (.double (0 : UInt64)) := D22 (Or.inr (own_w hw 10 rfl)) (ty := .double) (by decide)
  have F22_upper : Fld Z h22 b22 "com/example/sloth/sloth/mdp/Bounds" "upper" "D" (.double (0 : UInt64)) := D22 (Or.inr (own_w hw 12 rfl)) (ty := .double) (by decide)
  have q26 := fun t (kt : Go p e below T22 (mkF m 14 #[.val (.int p1), .val (.int p2), .val (.double (FP.l2d p1.toInt64)), .second, .val (.double (FP.l2d p2.toInt64)), .second, .unset, .unset, .unset, .unset, .unset, .unset, .unset] [(.double (FP.l2d p2.toInt64)), (.double (FP.l2d p1.toInt64)), (.ref b22), (.ref b22)]) t) => q24 t (by
    show Go p e below T22 (mkF m 10 #[.val (.int p1), .val (.int p2), .val (.double (FP.l2d p1.toInt64)), .second, .val (.double (FP.l2d p2.toInt64)), .second, .unset, .unset, .unset, .unset, .unset, .unset, .unset] [(.ref b22)]) _
    refine XS.dup X22.here hx rfl (hb hby at_10) rfl rfl ?_
    show Go p e below T22 (mkF m 11 #[.val (.int p1), .val (.int p2), .val (.double (FP.l2d p1.toInt64)), .second, .val (.double (FP.l2d p2.toInt64)), .second, .unset, .unset, .unset, .unset, .unset, .unset, .unset] [(.ref b22), (.ref b22)]) _
    refine XS.dloadN X22.here hx rfl (hb hby at_11) rfl ?_
    show Go p e below T22 (mkF m 12 #[.val (.int p1), .val (.int p2), .val (.double (FP.l2d p1.toInt64)), .second, .val (.double (FP.l2d p2.toInt64)), .second, .unset, .unset, .unset, .unset, .unset, .unset, .unset] [(.double (FP.l2d p1.toInt64)), (.ref b22), (.ref b22)]) _
    refine XS.dload X22.here hx rfl (hb hby at_12) rfl ?_
    exact kt)
  obtain ⟨_, _, ⟨T27, L27, k27, n27⟩, -, X27, ⟨Lc27, hQ27, l27, y27, z27⟩, st27⟩ := X22.specialBack hx (y := (⟨"com/example/sloth/sloth/mdp/Bounds", "<init>", "(DD)V"⟩ : MethodName)) rfl hown (mvT hZ (own_w hw 3 rfl)) (mvT hZ (own_w hw 4 rfl)) (mvT hZ (own_w hw 5 rfl)) (by decide) (backOf (W := 1) (rm1 l Z a0 hw [] b22 (FP.l2d p1.toInt64) (FP.l2d p2.toInt64) h22 n0 O25 A22 F22_lower F22_upper gg23) hZ (own_w hw 5 rfl) (own_w hw 2 rfl) (by decide) (by decide)) (g := (mkF m 14 #[.val (.int p1), .val (.int p2), .val (.double (FP.l2d p1.toInt64)), .second, .val (.double (FP.l2d p2.toInt64)), .second, .unset, .unset, .unset, .unset, .unset, .unset, .unset] [(.double (FP.l2d p2.toInt64)), (.double (FP.l2d p1.toInt64)), (.ref b22), (.ref b22)])) rfl (by rw [hml]; rfl) (Steps.refl _) (a := b22) (argsL := [(.double (FP.l2d p1.toInt64)), (.double (FP.l2d p2.toInt64))]) (rest := [(.ref b22)]) (lenOf pd_0 rfl) rfl (by show 2 * 0 + _ ≤ _; exact Nat.le_of_eq rfl) (hb hby at_14) (fun _ _ => ⟨rfl, e22, (by decide : 1 + 0 ≤ _), (by decide : 2 + 0 ≤ _)⟩)
  dsimp only [Pt.U, Pt.locs, Pt.cells, Pt.slots] at X27 l27 y27 z27 st27 hQ27
  subst l27 y27 z27
  obtain ⟨rfl, Nq27, Kq27, fq27_0, fq27_1⟩ := hQ27
  have N28 := Fr.app N0 Nq27
  have q29 := fun t (kt : Go p e below T27 (mkF m 17 #[.val (.int p1), .val (.int p2), .val (.double (FP.l2d p1.toInt64)), .second, .val (.double (FP.l2d p2.toInt64)), .second, .unset, .unset, .unset, .unset, .unset, .unset, .unset] [(.ref b22)]) t) => q26 t (st27.trans kt)
  have O30 : Old Z n0 T27.heap := O25.keep Kq27 (allS gg23 all0)
  have q31 := fun t (kt : Go p e below T27 (mkF m 21 #[.val (.int p1), .val (.int p2), .val (.double (FP.l2d p1.toInt64)), .second, .val (.double (FP.l2d p2.toInt64)), .second, .val (.ref b22), .unset, .unset, .unset, .unset, .unset, .unset] [(.ref b22)]) t) => q29 t (by
    show Go p e below T27 (mkF m 17 #[.val (.int p1), .val (.int p2), .val (.double (FP.l2d p1.toInt64)), .second, .val (.double (FP.l2d p2.toInt64)), .second, .unset, .unset, .unset, .unset, .unset, .unset, .unset] [(.ref b22)]) _
    refine XS.astore X27.here hx rfl (hb hby at_17) rfl rfl (l' := #[.val (.int p1), .val (.int p2), .val (.double (FP.l2d p1.toInt64)), .second, .val (.double (FP.l2d p2.toInt64)), .second, .val (.ref b22), .unset, .unset, .unset, .unset, .unset, .unset]) rfl ?_
    show Go p e below T27 (mkF m 19 #[.val (.int p1), .val (.int p2), .val (.double (FP.l2d p1.toInt64)), .second, .val (.double (FP.l2d p2.toInt64)), .second, .val (.ref b22), .unset, .unset, .unset, .unset, .unset, .unset] []) _
    refine XS.aload X27.here hx rfl (hb hby at_19) rfl rfl ?_
    exact kt)
  have f34 : Exa Z T27.heap b22 "com/example/sloth/sloth/mdp/Bounds" := (A22.keep Kq27)
  obtain ⟨cq33, kq33, q33a, q33b, q33c⟩ := isOf hZ rfl f34
  obtain ⟨_, _, ⟨T32, L32, k32, n32⟩, -, X32, ⟨Lc32, hQ32, l32, y32, z32⟩, st32⟩ := X27.virtualBack hx (y := (⟨"com/example/sloth/sloth/mdp/Bounds", "midpoint", "()D"⟩ : MethodName)) (z := (⟨"com/example/sloth/sloth/mdp/Bounds", "midpoint", "()D"⟩ : MethodName)) hown (mvT hZ (own_w hw 13 rfl)) (mvT hZ (own_w hw 14 rfl)) (notFace_of_selects (args := #[]) (mvT hZ (own_w hw 16 rfl))) (mvT hZ (own_w hw 16 rfl)) (mvT hZ (own_w hw 15 rfl)) (by decide) (backOf (W := 0) (rm3 l Z a0 hw [] b22 (FP.l2d p1.toInt64) (FP.l2d p2.toInt64) T27.heap n0 O30 fq27_0 fq27_1 (own_mid p1 p2).1 (own_mid p1 p2).2.1) hZ (own_w hw 17 rfl) (own_w hw 2 rfl) (by decide) (by decide)) q33a q33c (g := (mkF m 21 #[.val (.int p1), .val (.int p2), .val (.double (FP.l2d p1.toInt64)), .second, .val (.double (FP.l2d p2.toInt64)), .second, .val (.ref b22), .unset, .unset, .unset, .unset, .unset, .unset] [(.ref b22)])) rfl (by rw [hml]; rfl) (Steps.refl _) (argsL := []) (rest := []) (lenOf pd_1 rfl) rfl (by show 2 * 0 + _ ≤ _; exact Nat.le_of_eq rfl) (hb hby at_21) (fun _ _ => ⟨rfl, rfl, (by decide : 1 + 0 ≤ _), (by decide : 2 + 0 ≤ _)⟩)
  dsimp only [Pt.U, Pt.locs, Pt.cells, Pt.slots] at X32 l32 y32 z32 st32 hQ32
  subst l32 y32 z32
  obtain ⟨rfl, Nq32, eq32⟩ := hQ32
  have N35 := Fr.app N28 Nq32
  have q36 := fun t (kt : Go p e below T32 (mkF m 24 #[.val (.int p1), .val (.int p2), .val (.double (FP.l2d p1.toInt64)), .second, .val (.double (FP.l2d p2.toInt64)), .second, .val (.ref b22), .unset, .unset, .unset, .unset, .unset, .unset] [(.double (FP.ddiv (FP.dadd (FP.l2d p1.toInt64) (FP.l2d p2.toInt64)) (4611686018427387904 : UInt64)))]) t) => q31 t (st32.trans kt)
  have q37 := fun t (kt : Go p e below T32 (mkF m 88 #[.val (.int p1), .val (.int p2), .val (.double (FP.l2d p1.toInt64)), .second, .val (.double (FP.l2d p2.toInt64)), .second, .val (.ref b22), .val (.double (FP.ddiv (FP.dadd (FP.l2d p1.toInt64) (FP.l2d p2.toInt64)) (4611686018427387904 : UInt64))), .second, .val (.long ((p1.toInt64) + (p2.toInt64))), .second, .val (.int (1 : Int32)), .val (.int (1 : Int32))] [(.int (1 : Int32))]) t) => q36 t (by
    show Go p e below T32 (mkF m 24 #[.val (.int p1), .val (.int p2), .val (.double (FP.l2d p1.toInt64)), .second, .val (.double (FP.l2d p2.toInt64)), .second, .val (.ref b22), .unset, .unset, .unset, .unset, .unset, .unset] [(.double (FP.ddiv (FP.dadd (FP.l2d p1.toInt64) (FP.l2d p2.toInt64)) (4611686018427387904 : UInt64)))]) _
    refine XS.dstore X32.here hx rfl (hb hby at_24) rfl (l' := #[.val (.int p1), .val (.int p2), .val (.double (FP.l2d p1.toInt64)), .second, .val (.double (FP.l2d p2.toInt64)), .second, .val (.ref b22), .val (.double (FP.ddiv (FP.dadd (FP.l2d p1.toInt64) (FP.l2d p2.toInt64)) (4611686018427387904 : UInt64))), .second, .unset, .unset, .unset, .unset]) rfl ?_
    show Go p e below T32 (mkF m 26 #[.val (.int p1), .val (.int p2), .val (.double (FP.l2d p1.toInt64)), .second, .val (.double (FP.l2d p2.toInt64)), .second, .val (.ref b22), .val (.double (FP.ddiv (FP.dadd (FP.l2d p1.toInt64) (FP.l2d p2.toInt64)) (4611686018427387904 : UInt64))), .second, .unset, .unset, .unset, .unset] []) _
    refine XS.iloadN X32.here hx rfl (hb hby at_26) rfl ?_
    show Go p e below T32 (mkF m 27 #[.val (.int p1), .val (.int p2), .val (.double (FP.l2d p1.toInt64)), .second, .val (.double (FP.l2d p2.toInt64)), .second, .val (.ref b22), .val (.double (FP.ddiv (FP.dadd (FP.l2d p1.toInt64) (FP.l2d p2.toInt64)) (4611686018427387904 : UInt64))), .second, .unset, .unset, .unset, .unset] [(.int p1)]) _
    refine XS.i2l X32.here hx rfl (hb hby at_27) rfl ?_
    show Go p e below T32 (mkF m 28 #[.val (.int p1), .val (.int p2), .val (.double (FP.l2d p1.toInt64)), .second, .val (.double (FP.l2d p2.toInt64)), .second, .val (.ref b22), .val (.double (FP.ddiv (FP.dadd (FP.l2d p1.toInt64) (FP.l2d p2.toInt64)) (4611686018427387904 : UInt64))), .second, .unset, .unset, .unset, .unset] [(.long (p1.toInt64))]) _
    refine XS.iloadN X32.here hx rfl (hb hby at_28) rfl ?_
    show Go p e below T32 (mkF m 29 #[.val (.int p1), .val (.int p2), .val (.double (FP.l2d p1.toInt64)), .second, .val (.double (FP.l2d p2.toInt64)), .second, .val (.ref b22), .val (.double (FP.ddiv (FP.dadd (FP.l2d p1.toInt64) (FP.l2d p2.toInt64)) (4611686018427387904 : UInt64))), .second, .unset, .unset, .unset, .unset] [(.int p2), (.long (p1.toInt64))]) _
    refine XS.i2l X32.here hx rfl (hb hby at_29) rfl ?_
    show Go p e below T32 (mkF m 30 #[.val (.int p1), .val (.int p2), .val (.double (FP.l2d p1.toInt64)), .second, .val (.double (FP.l2d p2.toInt64)), .second, .val (.ref b22), .val (.double (FP.ddiv (FP.dadd (FP.l2d p1.toInt64) (FP.l2d p2.toInt64)) (4611686018427387904 : UInt64))), .second, .unset, .unset, .unset, .unset] [(.long (p2.toInt64)), (.long (p1.toInt64))]) _
    refine XS.ladd X32.here hx rfl (hb hby at_30) rfl ?_
    show Go p e below T32 (mkF m 31 #[.val (.int p1), .val (.int p2), .val (.double (FP.l2d p1.toInt64)), .second, .val (.double (FP.l2d p2.toInt64)), .second, .val (.ref b22), .val (.double (FP.ddiv (FP.dadd (FP.l2d p1.toInt64) (FP.l2d p2.toInt64)) (4611686018427387904 : UInt64))), .second, .unset, .unset, .unset, .unset] [(.long ((p1.toInt64) + (p2.toInt64)))]) _
    refine XS.lstore X32.here hx rfl (hb hby at_31) rfl (l' := #[.val (.int p1), .val (.int p2), .val (.double (FP.l2d p1.toInt64)), .second, .val (.double (FP.l2d p2.toInt64)), .second, .val (.ref b22), .val (.double (FP.ddiv (FP.dadd (FP.l2d p1.toInt64) (FP.l2d p2.toInt64)) (4611686018427387904 : UInt64))), .second, .val (.long ((p1.toInt64) + (p2.toInt64))), .second, .unset, .unset]) rfl ?_
    show Go p e below T32 (mkF m 33 #[.val (.int p1), .val (.int p2), .val (.double (FP.l2d p1.toInt64)), .second, .val (.double (FP.l2d p2.toInt64)), .second, .val (.ref b22), .val (.double (FP.ddiv (FP.dadd (FP.l2d p1.toInt64) (FP.l2d p2.toInt64)) (4611686018427387904 : UInt64))), .second, .val (.long ((p1.toInt64) + (p2.toInt64))), .second, .unset, .unset] []) _
    refine XS.dload X32.here hx rfl (hb hby at_33) rfl ?_
    show Go p e below T32 (mkF m 35 #[.val (.int p1), .val (.int p2), .val (.double (FP.l2d p1.toInt64)), .second, .val (.double (FP.l2d p2.toInt64)), .second, .val (.ref b22), .val (.double (FP.ddiv (FP.dadd (FP.l2d p1.toInt64) (FP.l2d p2.toInt64)) (4611686018427387904 : UInt64))), .second, .val (.long ((p1.toInt64) + (p2.toInt64))), .second, .unset, .unset] [(.double (FP.ddiv (FP.dadd (FP.l2d p1.toInt64) (FP.l2d p2.toInt64)) (4611686018427387904 : UInt64)))]) _
    refine X32.ldc2DoubleC hx hown (mvT hZ (own_w hw 19 rfl)) (g := (mkF m 35 #[.val (.int p1), .val (.int p2), .val (.double (FP.l2d p1.toInt64)), .second, .val (.double (FP.l2d p2.toInt64)), .second, .val (.ref b22), .val (.double (FP.ddiv (FP.dadd (FP.l2d p1.toInt64) (FP.l2d p2.toInt64)) (4611686018427387904 : UInt64))), .second, .val (.long ((p1.toInt64) + (p2.toInt64))), .second, .unset, .unset] [(.double (FP.ddiv (FP.dadd (FP.l2d p1.toInt64) (FP.l2d p2.toInt64)) (4611686018427387904 : UInt64)))])) rfl (hb hby at_35) _ ?_
    show Go p e below T32 (mkF m 38 #[.val (.int p1), .val (.int p2), .val (.double (FP.l2d p1.toInt64)), .second, .val (.double (FP.l2d p2.toInt64)), .second, .val (.ref b22), .val (.double (FP.ddiv (FP.dadd (FP.l2d p1.toInt64) (FP.l2d p2.toInt64)) (4611686018427387904 : UInt64))), .second, .val (.long ((p1.toInt64) + (p2.toInt64))), .second, .unset, .unset] [(.double (4611686018427387904 : UInt64)), (.double (FP.ddiv (FP.dadd (FP.l2d p1.toInt64) (FP.l2d p2.toInt64)) (4611686018427387904 : UInt64)))]) _
    refine XS.dmulS X32.here hx rfl (hb hby at_38) rfl (own_mid p1 p2).2.2.1 rfl ?_
    show Go p e below T32 (mkF m 39 #[.val (.int p1), .val (.int p2), .val (.double (FP.l2d p1.toInt64)), .second, .val (.double (FP.l2d p2.toInt64)), .second, .val (.ref b22), .val (.double (FP.ddiv (FP.dadd (FP.l2d p1.toInt64) (FP.l2d p2.toInt64)) (4611686018427387904 : UInt64))), .second, .val (.long ((p1.toInt64) + (p2.toInt64))), .second, .unset, .unset] [(.double (FP.dmul (FP.ddiv (FP.dadd (FP.l2d p1.toInt64) (FP.l2d p2.toInt64)) (4611686018427387904 : UInt64)) (4611686018427387904 : UInt64)))]) _
    refine XS.lload X32.here hx rfl (hb hby at_39) rfl ?_
    show Go p e below T32 (mkF m 41 #[.val (.int p1), .val (.int p2), .val (.double (FP.l2d p1.toInt64)), .second, .val (.double (FP.l2d p2.toInt64)), .second, .val (.ref b22), .val (.double (FP.ddiv (FP.dadd (FP.l2d p1.toInt64) (FP.l2d p2.toInt64)) (4611686018427387904 : UInt64))), .second, .val (.long ((p1.toInt64) + (p2.toInt64))), .second, .unset, .unset] [(.long ((p1.toInt64) + (p2.toInt64))), (.double (FP.dmul (FP.ddiv (FP.dadd (FP.l2d p1.toInt64) (FP.l2d p2.toInt64)) (4611686018427387904 : UInt64)) (4611686018427387904 : UInt64)))]) _
    refine XS.l2dS X32.here hx rfl (hb hby at_41) rfl rfl ?_
    show Go p e below T32 (mkF m 42 #[.val (.int p1), .val (.int p2), .val (.double (FP.l2d p1.toInt64)), .second, .val (.double (FP.l2d p2.toInt64)), .second, .val (.ref b22), .val (.double (FP.ddiv (FP.dadd (FP.l2d p1.toInt64) (FP.l2d p2.toInt64)) (4611686018427387904 : UInt64))), .second, .val (.long ((p1.toInt64) + (p2.toInt64))), .second, .unset, .unset] [(.double (FP.l2d ((p1.toInt64) + (p2.toInt64)))), (.double (FP.dmul (FP.ddiv (FP.dadd (FP.l2d p1.toInt64) (FP.l2d p2.toInt64)) (4611686018427387904 : UInt64)) (4611686018427387904 : UInt64)))]) _
    refine XS.dcmpS X32.here hx rfl (hb hby at_42) rfl (own_mid p1 p2).2.2.2.1 ?_
    show Go p e below T32 (mkF m 43 #[.val (.int p1), .val (.int p2), .val (.double (FP.l2d p1.toInt64)), .second, .val (.double (FP.l2d p2.toInt64)), .second, .val (.ref b22), .val (.double (FP.ddiv (FP.dadd (FP.l2d p1.toInt64) (FP.l2d p2.toInt64)) (4611686018427387904 : UInt64))), .second, .val (.long ((p1.toInt64) + (p2.toInt64))), .second, .unset, .unset] [(.int (0 : Int32))]) _
    refine XS.ifNo X32.here hx rfl (hb hby at_43) rfl ((if0 _ _).trans (teq (rfl : (0 : Int32) = (0 : Int32))).2) ?_
    show Go p e below T32 (mkF m 46 #[.val (.int p1), .val (.int p2), .val (.double (FP.l2d p1.toInt64)), .second, .val (.double (FP.l2d p2.toInt64)), .second, .val (.ref b22), .val (.double (FP.ddiv (FP.dadd (FP.l2d p1.toInt64) (FP.l2d p2.toInt64)) (4611686018427387904 : UInt64))), .second, .val (.long ((p1.toInt64) + (p2.toInt64))), .second, .unset, .unset] []) _
    refine XS.iconst X32.here hx rfl (hb hby at_46) ?_
    show Go p e below T32 (mkF m 47 #[.val (.int p1), .val (.int p2), .val (.double (FP.l2d p1.toInt64)), .second, .val (.double (FP.l2d p2.toInt64)), .second, .val (.ref b22), .val (.double (FP.ddiv (FP.dadd (FP.l2d p1.toInt64) (FP.l2d p2.toInt64)) (4611686018427387904 : UInt64))), .second, .val (.long ((p1.toInt64) + (p2.toInt64))), .second, .unset, .unset] [(.int (1 : Int32))]) _
    refine XS.goto X32.here hx rfl (pc0 := 47) (pc' := 51) rfl (hb hby at_47) (by decide) (by decide) ?_
    show Go p e below T32 (mkF m 51 #[.val (.int p1), .val (.int p2), .val (.double (FP.l2d p1.toInt64)), .second, .val (.double (FP.l2d p2.toInt64)), .second, .val (.ref b22), .val (.double (FP.ddiv (FP.dadd (FP.l2d p1.toInt64) (FP.l2d p2.toInt64)) (4611686018427387904 : UInt64))), .second, .val (.long ((p1.toInt64) + (p2.toInt64))), .second, .unset, .unset] [(.int (1 : Int32))]) _
    refine XS.istore X32.here hx rfl (hb hby at_51) rfl (l' := #[.val (.int p1), .val (.int p2), .val (.double (FP.l2d p1.toInt64)), .second, .val (.double (FP.l2d p2.toInt64)), .second, .val (.ref b22), .val (.double (FP.ddiv (FP.dadd (FP.l2d p1.toInt64) (FP.l2d p2.toInt64)) (4611686018427387904 : UInt64))), .second, .val (.long ((p1.toInt64) + (p2.toInt64))), .second, .val (.int (1 : Int32)), .unset]) rfl ?_
    show Go p e below T32 (mkF m 53 #[.val (.int p1), .val (.int p2), .val (.double (FP.l2d p1.toInt64)), .second, .val (.double (FP.l2d p2.toInt64)), .second, .val (.ref b22), .val (.double (FP.ddiv (FP.dadd (FP.l2d p1.toInt64) (FP.l2d p2.toInt64)) (4611686018427387904 : UInt64))), .second, .val (.long ((p1.toInt64) + (p2.toInt64))), .second, .val (.int (1 : Int32)), .unset] []) _
    refine XS.dload X32.here hx rfl (hb hby at_53) rfl ?_
    show Go p e below T32 (mkF m 55 #[.val (.int p1), .val (.int p2), .val (.double (FP.l2d p1.toInt64)), .second, .val (.double (FP.l2d p2.toInt64)), .second, .val (.ref b22), .val (.double (FP.ddiv (FP.dadd (FP.l2d p1.toInt64) (FP.l2d p2.toInt64)) (4611686018427387904 : UInt64))), .second, .val (.long ((p1.toInt64) + (p2.toInt64))), .second, .val (.int (1 : Int32)), .unset] [(.double (FP.ddiv (FP.dadd (FP.l2d p1.toInt64) (FP.l2d p2.toInt64)) (4611686018427387904 : UInt64)))]) _
    refine XS.dloadN X32.here hx rfl (hb hby at_55) rfl ?_
    show Go p e below T32 (mkF m 56 #[.val (.int p1), .val (.int p2), .val (.double (FP.l2d p1.toInt64)), .second, .val (.double (FP.l2d p2.toInt64)), .second, .val (.ref b22), .val (.double (FP.ddiv (FP.dadd (FP.l2d p1.toInt64) (FP.l2d p2.toInt64)) (4611686018427387904 : UInt64))), .second, .val (.long ((p1.toInt64) + (p2.toInt64))), .second, .val (.int (1 : Int32)), .unset] [(.double (FP.l2d p1.toInt64)), (.double (FP.ddiv (FP.dadd (FP.l2d p1.toInt64) (FP.l2d p2.toInt64)) (4611686018427387904 : UInt64)))]) _
    refine XS.dsubS X32.here hx rfl (hb hby at_56) rfl (own_mid p1 p2).2.2.2.2.1 rfl ?_
    show Go p e below T32 (mkF m 57 #[.val (.int p1), .val (.int p2), .val (.double (FP.l2d p1.toInt64)), .second, .val (.double (FP.l2d p2.toInt64)), .second, .val (.ref b22), .val (.double (FP.ddiv (FP.dadd (FP.l2d p1.toInt64) (FP.l2d p2.toInt64)) (4611686018427387904 : UInt64))), .second, .val (.long ((p1.toInt64) + (p2.toInt64))), .second, .val (.int (1 : Int32)), .unset] [(.double (FP.dsub (FP.ddiv (FP.dadd (FP.l2d p1.toInt64) (FP.l2d p2.toInt64)) (4611686018427387904 : UInt64)) (FP.l2d p1.toInt64)))]) _
    refine XS.dload X32.here hx rfl (hb hby at_57) rfl ?_
    show Go p e below T32 (mkF m 59 #[.val (.int p1), .val (.int p2), .val (.double (FP.l2d p1.toInt64)), .second, .val (.double (FP.l2d p2.toInt64)), .second, .val (.ref b22), .val (.double (FP.ddiv (FP.dadd (FP.l2d p1.toInt64) (FP.l2d p2.toInt64)) (4611686018427387904 : UInt64))), .second, .val (.long ((p1.toInt64) + (p2.toInt64))), .second, .val (.int (1 : Int32)), .unset] [(.double (FP.l2d p2.toInt64)), (.double (FP.dsub (FP.ddiv (FP.dadd (FP.l2d p1.toInt64) (FP.l2d p2.toInt64)) (4611686018427387904 : UInt64)) (FP.l2d p1.toInt64)))]) _
    refine XS.dload X32.here hx rfl (hb hby at_59) rfl ?_
    show Go p e below T32 (mkF m 61 #[.val (.int p1), .val (.int p2), .val (.double (FP.l2d p1.toInt64)), .second, .val (.double (FP.l2d p2.toInt64)), .second, .val (.ref b22), .val (.double (FP.ddiv (FP.dadd (FP.l2d p1.toInt64) (FP.l2d p2.toInt64)) (4611686018427387904 : UInt64))), .second, .val (.long ((p1.toInt64) + (p2.toInt64))), .second, .val (.int (1 : Int32)), .unset] [(.double (FP.ddiv (FP.dadd (FP.l2d p1.toInt64) (FP.l2d p2.toInt64)) (4611686018427387904 : UInt64))), (.double (FP.l2d p2.toInt64)), (.double (FP.dsub (FP.ddiv (FP.dadd (FP.l2d p1.toInt64) (FP.l2d p2.toInt64)) (4611686018427387904 : UInt64)) (FP.l2d p1.toInt64)))]) _
    refine XS.dsubS X32.here hx rfl (hb hby at_61) rfl (own_mid p1 p2).2.2.2.2.2.1 rfl ?_
    show Go p e below T32 (mkF m 62 #[.val (.int p1), .val (.int p2), .val (.double (FP.l2d p1.toInt64)), .second, .val (.double (FP.l2d p2.toInt64)), .second, .val (.ref b22), .val (.double (FP.ddiv (FP.dadd (FP.l2d p1.toInt64) (FP.l2d p2.toInt64)) (4611686018427387904 : UInt64))), .second, .val (.long ((p1.toInt64) + (p2.toInt64))), .second, .val (.int (1 : Int32)), .unset] [(.double (FP.dsub (FP.l2d p2.toInt64) (FP.ddiv (FP.dadd (FP.l2d p1.toInt64) (FP.l2d p2.toInt64)) (4611686018427387904 : UInt64)))), (.double (FP.dsub (FP.ddiv (FP.dadd (FP.l2d p1.toInt64) (FP.l2d p2.toInt64)) (4611686018427387904 : UInt64)) (FP.l2d p1.toInt64)))]) _
    refine XS.dcmpS X32.here hx rfl (hb hby at_62) rfl (own_mid p1 p2).2.2.2.2.2.2 ?_
    show Go p e below T32 (mkF m 63 #[.val (.int p1), .val (.int p2), .val (.double (FP.l2d p1.toInt64)), .second, .val (.double (FP.l2d p2.toInt64)), .second, .val (.ref b22), .val (.double (FP.ddiv (FP.dadd (FP.l2d p1.toInt64) (FP.l2d p2.toInt64)) (4611686018427387904 : UInt64))), .second, .val (.long ((p1.toInt64) + (p2.toInt64))), .second, .val (.int (1 : Int32)), .unset] [(.int (0 : Int32))]) _
    refine XS.ifNo X32.here hx rfl (hb hby at_63) rfl ((if0 _ _).trans (teq (rfl : (0 : Int32) = (0 : Int32))).2) ?_
    show Go p e below T32 (mkF m 66 #[.val (.int p1), .val (.int p2), .val (.double (FP.l2d p1.toInt64)), .second, .val (.double (FP.l2d p2.toInt64)), .second, .val (.ref b22), .val (.double (FP.ddiv (FP.dadd (FP.l2d p1.toInt64) (FP.l2d p2.toInt64)) (4611686018427387904 : UInt64))), .second, .val (.long ((p1.toInt64) + (p2.toInt64))), .second, .val (.int (1 : Int32)), .unset] []) _
    refine XS.iconst X32.here hx rfl (hb hby at_66) ?_
    show Go p e below T32 (mkF m 67 #[.val (.int p1), .val (.int p2), .val (.double (FP.l2d p1.toInt64)), .second, .val (.double (FP.l2d p2.toInt64)), .second, .val (.ref b22), .val (.double (FP.ddiv (FP.dadd (FP.l2d p1.toInt64) (FP.l2d p2.toInt64)) (4611686018427387904 : UInt64))), .second, .val (.long ((p1.toInt64) + (p2.toInt64))), .second, .val (.int (1 : Int32)), .unset] [(.int (1 : Int32))]) _
    refine XS.goto X32.here hx rfl (pc0 := 67) (pc' := 71) rfl (hb hby at_67) (by decide) (by decide) ?_
    show Go p e below T32 (mkF m 71 #[.val (.int p1), .val (.int p2), .val (.double (FP.l2d p1.toInt64)), .second, .val (.double (FP.l2d p2.toInt64)), .second, .val (.ref b22), .val (.double (FP.ddiv (FP.dadd (FP.l2d p1.toInt64) (FP.l2d p2.toInt64)) (4611686018427387904 : UInt64))), .second, .val (.long ((p1.toInt64) + (p2.toInt64))), .second, .val (.int (1 : Int32)), .unset] [(.int (1 : Int32))]) _
    refine XS.istore X32.here hx rfl (hb hby at_71) rfl (l' := #[.val (.int p1), .val (.int p2), .val (.double (FP.l2d p1.toInt64)), .second, .val (.double (FP.l2d p2.toInt64)), .second, .val (.ref b22), .val (.double (FP.ddiv (FP.dadd (FP.l2d p1.toInt64) (FP.l2d p2.toInt64)) (4611686018427387904 : UInt64))), .second, .val (.long ((p1.toInt64) + (p2.toInt64))), .second, .val (.int (1 : Int32)), .val (.int (1 : Int32))]) rfl ?_
    show Go p e below T32 (mkF m 73 #[.val (.int p1), .val (.int p2), .val (.double (FP.l2d p1.toInt64)), .second, .val (.double (FP.l2d p2.toInt64)), .second, .val (.ref b22), .val (.double (FP.ddiv (FP.dadd (FP.l2d p1.toInt64) (FP.l2d p2.toInt64)) (4611686018427387904 : UInt64))), .second, .val (.long ((p1.toInt64) + (p2.toInt64))), .second, .val (.int (1 : Int32)), .val (.int (1 : Int32))] []) _
    refine XS.iload X32.here hx rfl (hb hby at_73) rfl ?_
    show Go p e below T32 (mkF m 75 #[.val (.int p1), .val (.int p2), .val (.double (FP.l2d p1.toInt64)), .second, .val (.double (FP.l2d p2.toInt64)), .second, .val (.ref b22), .val (.double (FP.ddiv (FP.dadd (FP.l2d p1.toInt64) (FP.l2d p2.toInt64)) (4611686018427387904 : UInt64))), .second, .val (.long ((p1.toInt64) + (p2.toInt64))), .second, .val (.int (1 : Int32)), .val (.int (1 : Int32))] [(.int (1 : Int32))]) _
    refine XS.ifNo X32.here hx rfl (hb hby at_75) rfl ((if0 _ _).trans (feq (by decide : ¬ ((1 : Int32) = (0 : Int32)))).1) ?_
    show Go p e below T32 (mkF m 78 #[.val (.int p1), .val (.int p2), .val (.double (FP.l2d p1.toInt64)), .second, .val (.double (FP.l2d p2.toInt64)), .second, .val (.ref b22), .val (.double (FP.ddiv (FP.dadd (FP.l2d p1.toInt64) (FP.l2d p2.toInt64)) (4611686018427387904 : UInt64))), .second, .val (.long ((p1.toInt64) + (p2.toInt64))), .second, .val (.int (1 : Int32)), .val (.int (1 : Int32))] []) _
    refine XS.iload X32.here hx rfl (hb hby at_78) rfl ?_
    show Go p e below T32 (mkF m 80 #[.val (.int p1), .val (.int p2), .val (.double (FP.l2d p1.toInt64)), .second, .val (.double (FP.l2d p2.toInt64)), .second, .val (.ref b22), .val (.double (FP.ddiv (FP.dadd (FP.l2d p1.toInt64) (FP.l2d p2.toInt64)) (4611686018427387904 : UInt64))), .second, .val (.long ((p1.toInt64) + (p2.toInt64))), .second, .val (.int (1 : Int32)), .val (.int (1 : Int32))] [(.int (1 : Int32))]) _
    refine XS.ifNo X32.here hx rfl (hb hby at_80) rfl ((if0 _ _).trans (feq (by decide : ¬ ((1 : Int32) = (0 : Int32)))).1) ?_
    show Go p e below T32 (mkF m 83 #[.val (.int p1), .val (.int p2), .val (.double (FP.l2d p1.toInt64)), .second, .val (.double (FP.l2d p2.toInt64)), .second, .val (.ref b22), .val (.double (FP.ddiv (FP.dadd (FP.l2d p1.toInt64) (FP.l2d p2.toInt64)) (4611686018427387904 : UInt64))), .second, .val (.long ((p1.toInt64) + (p2.toInt64))), .second, .val (.int (1 : Int32)), .val (.int (1 : Int32))] []) _
    refine XS.iconst X32.here hx rfl (hb hby at_83) ?_
    show Go p e below T32 (mkF m 84 #[.val (.int p1), .val (.int p2), .val (.double (FP.l2d p1.toInt64)), .second, .val (.double (FP.l2d p2.toInt64)), .second, .val (.ref b22), .val (.double (FP.ddiv (FP.dadd (FP.l2d p1.toInt64) (FP.l2d p2.toInt64)) (4611686018427387904 : UInt64))), .second, .val (.long ((p1.toInt64) + (p2.toInt64))), .second, .val (.int (1 : Int32)), .val (.int (1 : Int32))] [(.int (1 : Int32))]) _
    refine XS.goto X32.here hx rfl (pc0 := 84) (pc' := 88) rfl (hb hby at_84) (by decide) (by decide) ?_
    exact kt)
  exact ⟨some (.int (1 : Int32)), T32, _, _, _, _, X32, by decide, by decide, nofun, q37, fun fs hr => retN X32 hx (t := .boolean) hret (by simp) (hb hby at_88) hr, by rw [eq32]; exact ⟨rfl, N35⟩⟩
theorem comes_1 {Post : Tables → Env → Array Value → State → Outcome → State → Prop} (hpost : ∀ tb e args s v u, (limb_1_1.after args s (.returned v) u = true ∧ limb_1_2.after args s (.returned v) u = true ∧ True) → FrameEnd s (.returned v) u (Jvm.fieldLocs frame_1_writes args s ++ Jvm.arrayLocs frame_1_arrays args s ++ Jvm.staticLocs frame_1_statics s) 16 128 → Post tb e args s (.returned v) u) :
    ArmFor flags0 classFile x code maxLocals ret World_1 tables_1 room_1 Calls_1 rest_1 Pre_1 Post := by
  intro l hfl _ _ p e ha hc hk s m args below hf hA hF happ hP
  obtain ⟨hcalls, hrest, hpre⟩ := hP
  obtain ⟨-, -, -, hnamed, -, -, -, hat⟩ := (Spec.applies_iff hf).mp happ
  obtain ⟨hg, hn⟩ := and_e (Cond.before_iff.mp (show (Jvm.Cond.and given_1 narrow_1).before args s = true from hpre))
  obtain ⟨gg1, gg2⟩ := and_e hg
  obtain ⟨gg3, gg4⟩ := and_e gg2
  obtain ⟨w0, w1, rfl⟩ : ∃ w0 w1 : Value, args = #[w0, w1] := by
    have hs : args.size = 2 := by simpa [Cond.value, given_1] using gg1
    obtain ⟨L⟩ := args
    match L, hs with
    | [w0, w1], _ => exact ⟨w0, w1, rfl⟩
  have hw := fun d (hd : d ∈ tables_1) => atoms_spec (ws := Jvm.Cond.code x code maxLocals ret :: tables_1) hat d (List.mem_cons_of_mem _ hd)
  have hfit : Fit s := fun {y c} hc i hi => by
    obtain ⟨ha, rfl⟩ := Array.getElem?_eq_some_iff.mp hc
    have q := List.all_eq_true.mp ((Array.all_eq_true_iff_forall_mem.mp hF) _ (Array.getElem_mem ha)) i (List.mem_range.mpr hi)
    simpa [Array.getElem?_eq_getElem hi] using q
  obtain ⟨i0, ei0⟩ := is_v gg3
  obtain rfl : w0 = (.int i0) := Option.some.inj ei0
  obtain ⟨i1, ei1⟩ := is_v gg4
  obtain rfl : w1 = (.int i1) := Option.some.inj ei1
  obtain ⟨n, o, h1, h2, h3, _, L, rfl, ⟨rfl, N⟩, hq⟩ := rm0 l s _ hw tables_1 i0 i1 s.heap s.heap.size (Old.start s)  p e ha hc hk s m _ below hf ((Spec.applies_iff_loose hf).mp happ).1 ⟨rfl, State.Warmed39.refl s, rfl⟩ trivial
  refine ⟨n, _, h1, h2, h3, hpost _ _ _ _ _ _ ⟨Cond.after_iff.mpr rfl, Cond.after_iff.mpr (eq_i res_at (Term.int_eval (1)) rfl), trivial⟩ ⟨hq.1, hq.2.1, (hq.2.2.sift fun y hy => Or.inr (N y hy)).mono (by decide) (by decide)⟩⟩
theorem main_1_1 : Claimed_1_1 := comes_1 fun _ _ _ _ _ _ h hF => ⟨h.1, hF⟩
theorem main_1_2 : Claimed_1_2 := comes_1 fun _ _ _ _ _ _ h hF => ⟨h.2.1, hF⟩
end Jvm.Pilot.@@N@@
namespace Jvm.Pilot.@@N@@
open Jvm Jvm.ClassFile Sem Op Lib Jvm.Free Jvm.Stand Jvm.Pilot.@@N@@.Jvm.D
/-! MADE BY PROGRAM (witnessworld.py) out of the Statement's table words and the real class files: 9 classes; the members and pool entries that the words name. The judged class is class 1, her method 1. -/
namespace start1
open Jvm.ClassFile
def u (s : String) : CpInfo := .utf8 (stringToUtf16 s)
/-- a pool by its gaps: so many unusable entries, then the entry; so many at the end -/
def gap : Nat → List CpInfo → List CpInfo
  | 0, r => r
  | n + 1, r => .unusable :: gap n r
def poolList (es : List (Nat × CpInfo)) (last : Nat) : List CpInfo := es.foldr (fun e r => gap e.1 (e.2 :: r)) (gap last [])
def pool (es : List (Nat × CpInfo)) (last : Nat) : Array CpInfo := ⟨poolList es last⟩
def fileOf (pool : Array CpInfo) (this : Nat) (attrs : Array Attribute := #[]) (ms : Array MethodInfo := #[]) (fl : Nat := 33) (sup : Nat := 0) (ifs : Array Nat := #[]) (fds : Array FieldInfo := #[]) : ClassFile where
  minorVersion := 0
  majorVersion := 65
  constantPool := pool
  accessFlags := fl
  thisClass := this
  superClass := sup
  interfaces := ifs
  fields := fds
  methods := ms
  attributes := attrs
def plain (name : String) (sup : Option ClassId) : Class where
  name := name
  kind := .ordinary
  loader := none
  accessFlags := 33
  super := sup
  interfaces := #[]
  cf := none
  fields := #[]
  methods := #[]
  instanceTypes := #[]
  staticTypes := #[]
  resolved := #[]
  callSites := []
  init := .initialized
  statics := none
  mirror := none

def pool0 : Array CpInfo := pool [(5, u "<init>"), (0, u "()V"), (1, .class_ 10), (1, u "java/lang/Object")] 113

def k0c0 : Code := { maxStack := 0, maxLocals := 1, code := object_method_1_code, exceptionTable := #[], attributes := #[] }
def k0m0 : Method := { name := "<init>", desc := "()V", sig := { parameters := [], returnType := none }, accessFlags := 1, code := some k0c0 }
/-- java/lang/Object -/
def k0 : Class := { plain "java/lang/Object" none with
  accessFlags := 33
  interfaces := #[]
  cf := some (fileOf pool0 8 #[] #[{ accessFlags := 1, nameIndex := 5, descriptorIndex := 6, attributes := #[] }] 33 0 #[] #[])
  fields := #[]
  methods := #[k0m0]
  instanceTypes := #[]
  staticTypes := #[]
  resolved := Array.replicate 124 none
  statics := none }

def pool1 : Array CpInfo := pool [(2, .class_ 4), (1, u "java/lang/Object"), (0, u "<init>"), (0, u "()V"), (0, .class_ 8), (0, u "com/example/sloth/sloth/mdp/Bounds"), (0, .methodref 7 10), (0, .nameAndType 5 11), (0, u "(DD)V"), (0, .methodref 7 13), (0, .nameAndType 14 15), (0, u "midpoint"), (0, u "()D"), (0, .double 4611686018427387904), (1, .class_ 19), (0, u "com/example/sloth/sloth/mdp/BoundsMidpointPinLaw"), (2, u "law"), (0, u "(II)Z")] 3

def k1m0 : Method := { name := "<init>", desc := "()V", sig := { parameters := [], returnType := none }, accessFlags := 1, code := none }
def k1c1 : Code := { maxStack := 6, maxLocals := 13, code := code, exceptionTable := #[], attributes := #[] }
def k1m1 : Method := { name := "law", desc := "(II)Z", sig := { parameters := [.int, .int], returnType := some .boolean }, accessFlags := 9, code := some k1c1 }
/-- com/example/sloth/sloth/mdp/BoundsMidpointPinLaw -/
def k1 : Class := { plain "com/example/sloth/sloth/mdp/BoundsMidpointPinLaw" (some 0) with
  accessFlags := 49
  interfaces := #[]
  cf := some (fileOf pool1 18 #[] #[{ accessFlags := 1, nameIndex := 5, descriptorIndex := 6, attributes := #[] }, { accessFlags := 9, nameIndex := 22, descriptorIndex := 23, attributes := #[] }] 49 2 #[] #[])
  fields := #[]
  methods := #[k1m0, k1m1]
  instanceTypes := #[]
  staticTypes := #[]
  resolved := Array.replicate 27 none
  statics := none }

def pool2 : Array CpInfo := pool [(1, .methodref 2 3), (0, .class_ 4), (0, .nameAndType 5 6), (0, u "java/lang/Object"), (0, u "<init>"), (0, u "()V"), (0, .fieldref 8 9), (0, .class_ 10), (0, .nameAndType 11 12), (0, u "com/example/sloth/sloth/mdp/Bounds"), (0, u "lower"), (0, u "D"), (0, .fieldref 8 14), (0, .nameAndType 15 12), (0, u "upper"), (0, .double 4611686018427387904), (1, u "(DD)V"), (2, u "()D"), (1, u "midpoint")] 2

def k2c0 : Code := { maxStack := 3, maxLocals := 5, code := prog_21_method_1_code, exceptionTable := #[], attributes := #[] }
def k2m0 : Method := { name := "<init>", desc := "(DD)V", sig := { parameters := [.double, .double], returnType := none }, accessFlags := 1, code := some k2c0 }
def k2c1 : Code := { maxStack := 4, maxLocals := 1, code := prog_21_method_5_code, exceptionTable := #[], attributes := #[] }
def k2m1 : Method := { name := "midpoint", desc := "()D", sig := { parameters := [], returnType := some .double }, accessFlags := 1, code := some k2c1 }
/-- com/example/sloth/sloth/mdp/Bounds -/
def k2 : Class := { plain "com/example/sloth/sloth/mdp/Bounds" (some 0) with
  accessFlags := 33
  interfaces := #[]
  cf := some (fileOf pool2 8 #[] #[{ accessFlags := 1, nameIndex := 5, descriptorIndex := 18, attributes := #[] }, { accessFlags := 1, nameIndex := 23, descriptorIndex := 21, attributes := #[] }] 33 2 #[] #[{ accessFlags := 18, nameIndex := 11, descriptorIndex := 12, attributes := #[] }, { accessFlags := 18, nameIndex := 15, descriptorIndex := 12, attributes := #[] }])
  fields := #[{ name := "lower", type := .double, accessFlags := 18, slot := 0, constantValue := 0 }, { name := "upper", type := .double, accessFlags := 18, slot := 1, constantValue := 0 }]
  methods := #[k2m0, k2m1]
  instanceTypes := #[.double, .double]
  staticTypes := #[]
  resolved := Array.replicate 26 none
  statics := none }

def pool3 : Array CpInfo := pool [(1, u "java/lang/Cloneable"), (0, .class_ 1), (0, u "java/lang/Object"), (0, .class_ 3)] 3

/-- java/lang/Cloneable -/
def k3 : Class := { plain "java/lang/Cloneable" (some 0) with
  accessFlags := 1537
  interfaces := #[]
  cf := some (fileOf pool3 2 #[] #[] 1537 4 #[] #[])
  fields := #[]
  methods := #[]
  instanceTypes := #[]
  staticTypes := #[]
  resolved := Array.replicate 8 none
  statics := none }

def pool4 : Array CpInfo := pool [(1, u "java/io/Serializable"), (0, .class_ 1), (0, u "java/lang/Object"), (0, .class_ 3)] 3

/-- java/io/Serializable -/
def k4 : Class := { plain "java/io/Serializable" (some 0) with
  accessFlags := 1537
  interfaces := #[]
  cf := some (fileOf pool4 2 #[] #[] 1537 4 #[] #[])
  fields := #[]
  methods := #[]
  instanceTypes := #[]
  staticTypes := #[]
  resolved := Array.replicate 8 none
  statics := none }

/-- the primitive byte -/
def k5 : Class := { plain "byte" none with kind := .primitive 'B', accessFlags := 0x411 }
/-- [B -/
def k6 : Class := { plain "[B" (some 0) with kind := .array 5 .byte, interfaces := #[3, 4], accessFlags := 1041 }

/-- the primitive int -/
def k7 : Class := { plain "int" none with kind := .primitive 'I', accessFlags := 0x411 }
/-- [I -/
def k8 : Class := { plain "[I" (some 0) with kind := .array 7 .int, interfaces := #[3, 4], accessFlags := 1041 }

def heap : Heap := #[]
def classes : Array Class := #[k0, k1, k2, k3, k4, k5, k6, k7, k8]
def interned : List (Array UInt16 × Addr) := []
def slotsUsed : Nat := 0
def theMethod : MethodId := ⟨1, 1⟩
def args0 : Array Value := #[.int 5, .int 5]
def aboutOver (below : List Frame) : State where
  vm := { classes := classes, interned := interned.toArray }
  heap := heap
  slotsUsed := slotsUsed
  threads := #[{ frames := .invoking theMethod args0 :: below }]
def below0 : List Frame := [.native { method := ⟨0, 0⟩, args := #[] }]
def about1 : State := aboutOver below0
def p0 : Program := .bare "" "" ""
def e0 : Env := launch0.env 0 0 0
theorem w_frames : about1.frames = Frame.invoking theMethod args0 :: below0 := rfl
set_option maxRecDepth 65536 in
theorem w_args : argsFit about1.vm theMethod args0 = true := by decide +kernel
set_option maxRecDepth 65536 in
theorem w_heap : heapFits about1 = true := by decide +kernel
set_option maxRecDepth 65536 in
theorem w_runnable : about1.curStatus? = some .runnable := by decide +kernel
set_option maxRecDepth 65536 in
theorem w_alone : about1.alone = true := by decide +kernel
set_option maxRecDepth 65536 in
theorem w_named : about1.methodNamed? x = some theMethod := by decide +kernel
set_option maxRecDepth 65536 in
theorem w_hears : about1.hears theMethod below0 = true := by decide +kernel
set_option maxRecDepth 65536 in
theorem w_ripe : about1.ripe theMethod args0 below0 = true := by decide +kernel
theorem w_running : about1.status = .running := rfl
set_option maxRecDepth 65536 in
theorem w_room : about1.hasRoom e0.platform room_1 = true :=
  launch0.hasRoom_least _ room_1 (by decide +kernel) (by decide +kernel) (by decide +kernel) (by decide +kernel) (by decide +kernel) (by decide +kernel)
theorem allAtoms_all (ts : List Jvm.Cond) (a : Array Jvm.Value) (st : Jvm.State) : (allAtoms ts).before a st = ts.all (fun c => c.before a st) := by
  induction ts with
  | nil => rfl
  | cons c t ih =>
    show (Jvm.Cond.and c (allAtoms t)).before a st = _
    rw [Jvm.Cond.before_and, ih, List.all_cons]
def words1 : List Jvm.Cond := Jvm.Cond.code x code maxLocals ret :: tables_1
/-- a 'code' word, met by the world's own term for the bytes: nothing is compared byte by byte -/
theorem code_word {y : MethodName} {bytes : ByteArray} {mx : Nat} {rt : Option FieldType} {a : Array Value} {s : State} {m : MethodId} {meth : Method} {c : Code} (h1 : s.methodNamed? y = some m) (h2 : s.vm.method? m = some meth) (h3 : meth.code = some c) (h4 : c.code = bytes)
    (h5 : (c.maxLocals == mx && c.exceptionTable.isEmpty && decide (c.maxStack ≤ mostOperands) && decide (meth.sig.returnType = rt) && !meth.locks && decide (parseMethodDescriptor y.desc = some meth.sig)) = true) : (Jvm.Cond.code y bytes mx rt).before a s = true := by
  simp only [Bool.and_eq_true, beq_iff_eq, Bool.not_eq_true', decide_eq_true_eq] at h5
  obtain ⟨⟨⟨⟨⟨g1, g2⟩, g3⟩, g4⟩, g5⟩, g6⟩ := h5
  simp [Cond.before, Cond.holds, Cond.value, h1, h2, h3, h4, g1, g2, g3, g4, g5, g6]
def isCode : Jvm.Cond → Bool
  | .code _ _ _ _ => true
  | _ => false
theorem all_split {L : List Jvm.Cond} {P : Jvm.Cond → Bool} (h1 : L.all (fun c => isCode c || P c) = true) (h2 : ∀ c ∈ L.filter isCode, P c = true) : L.all P = true := by
  refine List.all_eq_true.mpr fun c hc => ?_
  have h := List.all_eq_true.mp h1 c hc
  rcases Bool.eq_false_or_eq_true (isCode c) with hi | hi
  · exact h2 c (List.mem_filter.mpr ⟨hc, hi⟩)
  · simpa [hi] using h
set_option maxRecDepth 65536 in
theorem w_c0 : (Jvm.Cond.code x code maxLocals ret).before args0 about1 = true := code_word (m := ⟨1, 1⟩) (meth := k1m1) (c := k1c1) (by decide +kernel) rfl rfl rfl (by decide +kernel)
set_option maxRecDepth 65536 in
theorem w_c1 : (Jvm.Cond.code ({ cls := "com/example/sloth/sloth/mdp/Bounds", name := "<init>", desc := "(DD)V" } : Jvm.MethodName) prog_21_method_1_code (5 : Nat) (Option.none : Option Jvm.ClassFile.FieldType)).before args0 about1 = true := code_word (m := ⟨2, 0⟩) (meth := k2m0) (c := k2c0) (by decide +kernel) rfl rfl rfl (by decide +kernel)
set_option maxRecDepth 65536 in
theorem w_c2 : (Jvm.Cond.code ({ cls := "java/lang/Object", name := "<init>", desc := "()V" } : Jvm.MethodName) object_method_1_code (1 : Nat) (Option.none : Option Jvm.ClassFile.FieldType)).before args0 about1 = true := code_word (m := ⟨0, 0⟩) (meth := k0m0) (c := k0c0) (by decide +kernel) rfl rfl rfl (by decide +kernel)
set_option maxRecDepth 65536 in
theorem w_c3 : (Jvm.Cond.code ({ cls := "com/example/sloth/sloth/mdp/Bounds", name := "midpoint", desc := "()D" } : Jvm.MethodName) prog_21_method_5_code (1 : Nat) (Option.some Jvm.ClassFile.FieldType.double)).before args0 about1 = true := code_word (m := ⟨2, 1⟩) (meth := k2m1) (c := k2c1) (by decide +kernel) rfl rfl rfl (by decide +kernel)
def codes1 : List Jvm.Cond := [Jvm.Cond.code x code maxLocals ret, Jvm.Cond.code ({ cls := "com/example/sloth/sloth/mdp/Bounds", name := "<init>", desc := "(DD)V" } : Jvm.MethodName) prog_21_method_1_code (5 : Nat) (Option.none : Option Jvm.ClassFile.FieldType), Jvm.Cond.code ({ cls := "java/lang/Object", name := "<init>", desc := "()V" } : Jvm.MethodName) object_method_1_code (1 : Nat) (Option.none : Option Jvm.ClassFile.FieldType), Jvm.Cond.code ({ cls := "com/example/sloth/sloth/mdp/Bounds", name := "midpoint", desc := "()D" } : Jvm.MethodName) prog_21_method_5_code (1 : Nat) (Option.some Jvm.ClassFile.FieldType.double)]
set_option maxRecDepth 65536 in
theorem codes_eq : words1.filter isCode = codes1 := rfl
theorem w_codes : ∀ c ∈ words1.filter isCode, c.before args0 about1 = true := by
  rw [codes_eq]
  intro c hc
  simp only [codes1, List.mem_cons, List.not_mem_nil, or_false] at hc
  rcases hc with rfl | rfl | rfl | rfl
  · exact w_c0
  · exact w_c1
  · exact w_c2
  · exact w_c3
set_option maxRecDepth 65536 in
theorem w_t1 : words1.all (fun c => isCode c || c.before args0 about1) = true := by decide +kernel
theorem w_tables : (allAtoms (Jvm.Cond.code x code maxLocals ret :: tables_1)).before args0 about1 = true := by
  rw [allAtoms_all]
  show words1.all (fun c => c.before args0 about1) = true
  refine all_split ?_ w_codes
  rw [w_t1]
set_option maxRecDepth 65536 in
theorem w_case : (Jvm.Cond.and given_1 narrow_1).before args0 about1 = true := by decide +kernel
theorem w_applies : (headSpec (Jvm.Cond.code x code maxLocals ret :: tables_1) room_1).applies x e0.platform about1 = true :=
  (Spec.applies_iff w_frames).mpr ⟨w_running, w_runnable, w_alone, w_named, w_hears, w_ripe, w_room, w_tables⟩
theorem atStart : AtStart classFile x code maxLocals ret World_1 tables_1 room_1 Calls_1 rest_1 Pre_1 launch0 p0 e0 about1 theMethod args0 below0 :=
  ⟨lists_1, trivial, launch0.admits_env _ _ _, launch0.least_env, fairChoices_fair.cas, fairChoices_fair.clock, w_frames, w_args, w_heap, w_applies, trivial, trivial, w_case⟩
end start1
theorem witness_1 : WitnessClaimed_1 := ⟨start1.p0, start1.e0, start1.about1, start1.theMethod, start1.args0, start1.below0, start1.atStart⟩
end Jvm.Pilot.@@N@@
