import JvmDerived
import JvmDerived.Pilot.@@N@@Statement
import JvmDerived.Pilot.@@N@@Code
set_option linter.unusedVariables false
set_option linter.unusedSimpArgs false
set_option maxRecDepth 65536
set_option maxHeartbeats 40000000
namespace Jvm.RoadKit
open Sem ClassFile Op Lib Jvm.Stand Jvm.Free Jvm.LawKit
section New
variable {p : Program} {l : Launch} {e : Env} {R : Room} {s : State} {m : MethodId} {args : Array Value} {below : List Frame} {meth : Method} {c : Code} {T : State} {locs : List Loc} {cells slots : Nat}
theorem retI (X : Stand p l e R s m args below meth c T locs cells slots) (hx : p.tables.exec = Jvm.exec) {pc : Nat} {Ls : Array Slot} {z : Int32} {rest : List Value} (hret : meth.sig.returnType = some .int) (hd : decode c.code pc = .ok (.ireturn, 1)) {fs : List Frame}
    (hl : ∀ (f : JFrame) (acts : List Action), f.method = m → f.locked = none → f.entered = [] → (doReturn e (T.setTop f) acts (some (.int z))).1 = T.setFrames fs) : Steps p.tables e below (T.setTop (mkF m pc Ls (.int z :: rest))) (T.setFrames fs) := by
  have hm' : T.vm.method? m = some meth := X.method'
  have hn : narrow .int (.int z) = .int z := rfl
  show Steps p.tables e below (T.setTop { method := m, pc := pc, locals := Ls, stack := _ :: rest, locked := none }) _
  jvm_step X.here [X.here.top, hx, hd, hm', hret, hn]
  first | (intro acts; rw [hl _ acts rfl rfl rfl]) | rw [hl _ _ rfl rfl rfl]
  exact Steps.refl _
end New
end Jvm.RoadKit
/- laws to paste: Road.backV, Road.eqW, Road.empW, Road.codOf (cut by pick.py; bodies as the Statement names them) -/
namespace Jvm.Pilot.@@N@@
namespace StrChars
open Jvm Sem ClassFile Op Lib Jvm.Stand Jvm.Free.XT Jvm.Free.ALB Jvm.Free.JM Jvm.Free
open Jvm.Lib.Cold (StaticIs)
/-- a char array whose places are chars -/
def Ch (a : Addr) (A : Cell) (U : State) : Prop := Arr .char a A U ∧ Typed .char A
theorem Ch.mv {a : Addr} {A : Cell} {U U' : State} (h : Ch a A U) (hal : U.vm.Alike U'.vm) (hh : U'.heap = U.heap) : Ch a A U' := ⟨h.1.mv hal hh, h.2⟩
theorem Ch.keep {a : Addr} {A : Cell} {U U' : State} (h : Ch a A U) (hal : U.vm.Alike U'.vm) (hk : U'.heap[a]? = some A) : Ch a A U' := ⟨h.1.keep hal hk, h.2⟩
/-- what place i of a char[]'s cell holds -/
def cv (A : Cell) (i : Nat) : Int32 := match A.slots[i]? with | some (.int x) => x | _ => 0
theorem Ch.get {a : Addr} {A : Cell} {U : State} (h : Ch a A U) {i : Nat} (hi : i < A.slots.size) : A.slots[i]? = some (.int (cv A i)) := by
  have e := Array.getElem?_eq_getElem hi
  have f := h.2 i _ e
  unfold cv; rw [e]
  generalize A.slots[i] = v at f
  cases v <;> simp [fits] at f ⊢
/-- the byte that i2b leaves of a char -/
def lo8 (x : Int32) : Int32 := x.toInt8.toInt32
theorem fits_lo8 (y : Int32) : fits .byte (.int (lo8 y)) = true := by
  have h1 := y.toInt8.le_toInt
  have h2 := y.toInt8.toInt_lt
  simp only [lo8, fits, Bool.and_eq_true, decide_eq_true_eq, Int32.le_iff_toInt_le, Int8.toInt_toInt32, show (-128 : Int32).toInt = -128 from by decide, show (127 : Int32).toInt = 127 from by decide]
  omega
/-- A' is A but that each place j of lo .. hi - 1 holds f j -/
def Laid (A A' : Cell) (lo hi : Nat) (f : Nat → Value) : Prop := A'.cls = A.cls ∧ A'.vm = A.vm ∧ A'.slots.size = A.slots.size ∧ ∀ i, A'.slots[i]? = if lo ≤ i ∧ i < hi then some (f i) else A.slots[i]?
theorem Laid.zero (A : Cell) (lo : Nat) (f : Nat → Value) : Laid A A lo (lo + 0) f := ⟨rfl, rfl, rfl, fun i => by rw [if_neg (by omega)]⟩
theorem Laid.step {A Ak : Cell} {lo k : Nat} {f : Nat → Value} {v : Value} (h : Laid A Ak lo k f) (hlo : lo ≤ k) (hk : k < Ak.slots.size) (hv : v = f k) : Laid A (Ak.setSlot k v) lo (k + 1) f := by
  refine ⟨h.1, h.2.1, by simpa [Cell.setSlot] using h.2.2.1, fun i => ?_⟩
  by_cases e : k = i
  · subst e; rw [Cell.slots_setSlot_self v hk, if_pos (by omega), hv]
  · rw [Cell.slots_setSlot_ne v e, h.2.2.2 i]
    by_cases q : lo ≤ i ∧ i < k
    · rw [if_pos q, if_pos (by omega)]
    · rw [if_neg q, if_neg (by omega)]
def U16 : String := "java/lang/StringUTF16"
namespace Cmp5
def yN : MethodName := ⟨"java/lang/StringUTF16", "compress", "([CI[BII)I"⟩
abbrev yB : ByteArray := jdk_52_method_21_code
theorem d0 : decode yB 0 = .ok (.iconst 0, 1) := by decide +kernel
theorem d1 : decode yB 1 = .ok (.istore 5, 2) := by decide +kernel
theorem d3 : decode yB 3 = .ok (.iload 5, 2) := by decide +kernel
theorem d5 : decode yB 5 = .ok (.iload 4, 2) := by decide +kernel
theorem d7 : decode yB 7 = .ok (.if_icmp (.ge) 37, 3) := by decide +kernel
theorem d10 : decode yB 10 = .ok (.aload_n 0, 1) := by decide +kernel
theorem d11 : decode yB 11 = .ok (.iload_n 1, 1) := by decide +kernel
theorem d12 : decode yB 12 = .ok (.caload, 1) := by decide +kernel
theorem d13 : decode yB 13 = .ok (.istore 6, 2) := by decide +kernel
theorem d15 : decode yB 15 = .ok (.iload 6, 2) := by decide +kernel
theorem d17 : decode yB 17 = .ok (.sipush 255, 3) := by decide +kernel
theorem d20 : decode yB 20 = .ok (.if_icmp (.le) 6, 3) := by decide +kernel
theorem d26 : decode yB 26 = .ok (.aload_n 2, 1) := by decide +kernel
theorem d27 : decode yB 27 = .ok (.iload_n 3, 1) := by decide +kernel
theorem d28 : decode yB 28 = .ok (.iload 6, 2) := by decide +kernel
theorem d30 : decode yB 30 = .ok (.i2b, 1) := by decide +kernel
theorem d31 : decode yB 31 = .ok (.bastore, 1) := by decide +kernel
theorem d32 : decode yB 32 = .ok (.iinc 1 1, 3) := by decide +kernel
theorem d35 : decode yB 35 = .ok (.iinc 3 1, 3) := by decide +kernel
theorem d38 : decode yB 38 = .ok (.iinc 5 1, 3) := by decide +kernel
theorem d41 : decode yB 41 = .ok (.goto (-38), 3) := by decide +kernel
theorem d44 : decode yB 44 = .ok (.iload 4, 2) := by decide +kernel
theorem d46 : decode yB 46 = .ok (.ireturn, 1) := by decide +kernel
def site : List Cond := []
def tab : Cond := tabOf yN yB 7 (some .int) site
def P (b : Addr) (A : Cell) (d : Addr) (B : Cell) (o q len : Nat) (args : Array Value) (s : State) : Prop := args = #[.ref b, .int (Int32.ofNat o), .ref d, .int (Int32.ofNat q), .int (Int32.ofNat len)] ∧ Ch b A s ∧ Arr .byte d B s ∧ b ≠ d ∧ o + len ≤ A.slots.size ∧ q + len ≤ B.slots.size ∧ ∀ i, i < len → ¬ 255 < cv A (o + i)
def E (b : Addr) (A : Cell) (d : Addr) (B : Cell) (o q len : Nat) (r : Option Value) (s u : State) : Prop := r = some (.int (Int32.ofNat len)) ∧ ∃ B', Put d B' s u ∧ Laid B B' q (q + len) (fun j => Value.int (lo8 (cv A (o + (j - q)))))
/-- no char of the range above 255: len; the places written hold each char's low byte -/
theorem law (l : Launch) (b : Addr) (A : Cell) (d : Addr) (B : Cell) (o q len : Nat) : Law l yN 5 5 0 0 yB 7 (some .int) site (P b A d B o q len) (E b A d B o q len) (copyLocs d q len) 0 0 := by
  refine Law.of_walk (plainFor_of_name (by decide +kernel)) (by decide +kernel) (by decide +kernel) (by decide) (fun _ _ h => by rw [h.1]; rfl) (fun _ U U' hal hh h => ⟨h.1, h.2.1.mv hal hh, h.2.2.1.mv hal hh, h.2.2.2⟩) (fun r U U' V V' h1 hal h2 h => ⟨h.1, h.2.elim fun B' q => ⟨B', q.1.mv h1 h2, q.2⟩⟩) ?_
  intro p e s m args below meth c s₁ X0 hexec hbytes hml hret hlk hnm hown hh0 W hP
  obtain ⟨rfl, hA, hB, hne, l1, l2, hp⟩ := hP
  have c1 : Steps p.tables e below (s₁.setTop (entryFrame m #[.ref b, .int (Int32.ofNat o), .ref d, .int (Int32.ofNat q), .int (Int32.ofNat len)] 7)) (s₁.setTop (mkF m 0 #[.val (.ref b), .val (.int (Int32.ofNat o)), .val (.ref d), .val (.int (Int32.ofNat q)), .val (.int (Int32.ofNat len)), .unset, .unset] [])) := entry rfl
  have hA0 := hA.1.mv X0.warmed.alike hh0
  have hB0 := hB.mv X0.warmed.alike hh0
  have a31 := hA.1.2.2.2
  have c2 : Steps p.tables e below (s₁.setTop (entryFrame m #[.ref b, .int (Int32.ofNat o), .ref d, .int (Int32.ofNat q), .int (Int32.ofNat len)] 7)) (s₁.setTop (mkF m 3 #[.val (.ref b), .val (.int (Int32.ofNat o)), .val (.ref d), .val (.int (Int32.ofNat q)), .val (.int (Int32.ofNat len)), .val (.int 0), .unset] [])) := c1.trans (by
    refine iconstV X0.here hexec rfl 0 (hb hbytes d0) (by decide) ?_
    refine XS.istore X0.here hexec rfl (hb hbytes d1) rfl rfl ?_
    exact Steps.refl _)
  have loop : ∀ (r i : Nat), i + r = len → ∀ (z : Slot), (z = .unset ∨ ∃ w, z = .val w ∧ w.category = 1) → ∀ (Tl : State) (Bk : Cell), Stand p l e { frames := 0, locals := 0, cells := 0, slots := 0 } s m #[.ref b, .int (Int32.ofNat o), .ref d, .int (Int32.ofNat q), .int (Int32.ofNat len)] below meth c Tl ([] ++ copyLocs d q i) 0 0 → Put d Bk s₁ Tl → Laid B Bk q (q + i) (fun j => Value.int (lo8 (cv A (o + (j - q))))) →
      Steps p.tables e below (s₁.setTop (entryFrame m #[.ref b, .int (Int32.ofNat o), .ref d, .int (Int32.ofNat q), .int (Int32.ofNat len)] 7)) (Tl.setTop (mkF m 3 #[.val (.ref b), .val (.int (Int32.ofNat (o + i))), .val (.ref d), .val (.int (Int32.ofNat (q + i))), .val (.int (Int32.ofNat len)), .val (.int (Int32.ofNat i)), z] [])) → ∃ (T' : State) (B' : Cell) (z' : Slot), Stand p l e { frames := 0, locals := 0, cells := 0, slots := 0 } s m #[.ref b, .int (Int32.ofNat o), .ref d, .int (Int32.ofNat q), .int (Int32.ofNat len)] below meth c T' ([] ++ copyLocs d q len) 0 0 ∧ Put d B' s₁ T' ∧ Laid B B' q (q + len) (fun j => Value.int (lo8 (cv A (o + (j - q))))) ∧
      Steps p.tables e below (s₁.setTop (entryFrame m #[.ref b, .int (Int32.ofNat o), .ref d, .int (Int32.ofNat q), .int (Int32.ofNat len)] 7)) (T'.setTop (mkF m 3 #[.val (.ref b), .val (.int (Int32.ofNat (o + len))), .val (.ref d), .val (.int (Int32.ofNat (q + len))), .val (.int (Int32.ofNat len)), .val (.int (Int32.ofNat len)), z'] [])) := by
    intro r
    induction r with
    | zero =>
      intro i hi z hz Tl Bk Xl pl fl cl
      have hil : i = len := by omega
      rw [hil] at Xl fl cl
      exact ⟨Tl, Bk, z, Xl, pl, fl, cl⟩
    | succ r ih =>
      intro i hi z hz Tl Bk Xl pl fl cl
      have all := X0.warmed.alike.symm.trans Xl.warmed.alike
      have hAl := hA0.keep all (pl.other hne hA0.1)
      have hBk := hB0.like all pl.1 fl.1 fl.2.1 fl.2.2.1
      have hlt : q + i < Bk.slots.size := by rw [fl.2.2.1]; omega
      have c3 : Steps p.tables e below (s₁.setTop (entryFrame m #[.ref b, .int (Int32.ofNat o), .ref d, .int (Int32.ofNat q), .int (Int32.ofNat len)] 7)) (Tl.setTop (mkF m 12 #[.val (.ref b), .val (.int (Int32.ofNat (o + i))), .val (.ref d), .val (.int (Int32.ofNat (q + i))), .val (.int (Int32.ofNat len)), .val (.int (Int32.ofNat i)), z] [.int (Int32.ofNat (o + i)), .ref b])) := cl.trans (by
        refine XS.iload Xl.here hexec rfl (hb hbytes d3) rfl ?_
        refine XS.iload Xl.here hexec rfl (hb hbytes d5) rfl ?_
        refine XS.icmpNo Xl.here hexec rfl (hb hbytes d7) rfl (ii_ge_f (lt32 (by omega) (by omega))) ?_
        refine XS.aloadN Xl.here hexec rfl (hb hbytes d10) rfl rfl ?_
        refine XS.iloadN Xl.here hexec rfl (hb hbytes d11) rfl ?_
        exact Steps.refl _)
      have c4 : Steps p.tables e below (s₁.setTop (entryFrame m #[.ref b, .int (Int32.ofNat o), .ref d, .int (Int32.ofNat q), .int (Int32.ofNat len)] 7)) (Tl.setTop (mkF m 13 #[.val (.ref b), .val (.int (Int32.ofNat (o + i))), .val (.ref d), .val (.int (Int32.ofNat (q + i))), .val (.int (Int32.ofNat len)), .val (.int (Int32.ofNat i)), z] [.int (cv A (o + i))])) := c3.trans (by
        refine Xl.aget hexec hAl rfl (hA.get (i := o + i) (by omega)) rfl rfl (hb hbytes d12) ?_
        exact Steps.refl _)
      have c5 : Steps p.tables e below (s₁.setTop (entryFrame m #[.ref b, .int (Int32.ofNat o), .ref d, .int (Int32.ofNat q), .int (Int32.ofNat len)] 7)) (Tl.setTop (mkF m 15 #[.val (.ref b), .val (.int (Int32.ofNat (o + i))), .val (.ref d), .val (.int (Int32.ofNat (q + i))), .val (.int (Int32.ofNat len)), .val (.int (Int32.ofNat i)), .val (.int (cv A (o + i)))] [])) := c4.trans (by
        refine XS.istoreS Xl.here hexec rfl (hb hbytes d13) rfl rfl hz ?_
        exact Steps.refl _)
      have c6 : Steps p.tables e below (s₁.setTop (entryFrame m #[.ref b, .int (Int32.ofNat o), .ref d, .int (Int32.ofNat q), .int (Int32.ofNat len)] 7)) (Tl.setTop (mkF m 31 #[.val (.ref b), .val (.int (Int32.ofNat (o + i))), .val (.ref d), .val (.int (Int32.ofNat (q + i))), .val (.int (Int32.ofNat len)), .val (.int (Int32.ofNat i)), .val (.int (cv A (o + i)))] [.int (lo8 (cv A (o + i))), .int (Int32.ofNat (q + i)), .ref d])) := c5.trans (by
        refine XS.iload Xl.here hexec rfl (hb hbytes d15) rfl ?_
        refine sipushV Xl.here hexec rfl 255 (hb hbytes d17) (by decide) ?_
        refine XS.icmpYes Xl.here hexec rfl (pc0 := 20) rfl (hb hbytes d20) rfl (ii_le_t (hp i (by omega))) (by decide) rfl ?_
        refine XS.aloadN Xl.here hexec rfl (hb hbytes d26) rfl rfl ?_
        refine XS.iloadN Xl.here hexec rfl (hb hbytes d27) rfl ?_
        refine XS.iload Xl.here hexec rfl (hb hbytes d28) rfl ?_
        refine i2b Xl.here hexec rfl (hb hbytes d30) rfl ?_
        exact Steps.refl _)
      obtain ⟨T7, X7, p7, st7⟩ := Xl.aput hexec hBk rfl hlt rfl (fits_lo8 (cv A (o + i))) (g := (mkF m 31 #[.val (.ref b), .val (.int (Int32.ofNat (o + i))), .val (.ref d), .val (.int (Int32.ofNat (q + i))), .val (.int (Int32.ofNat len)), .val (.int (Int32.ofNat i)), .val (.int (cv A (o + i)))] [.int (lo8 (cv A (o + i))), .int (Int32.ofNat (q + i)), .ref d])) rfl (rest := []) rfl (hb hbytes d31)
      have c8 : Steps p.tables e below (s₁.setTop (entryFrame m #[.ref b, .int (Int32.ofNat o), .ref d, .int (Int32.ofNat q), .int (Int32.ofNat len)] 7)) (T7.setTop (mkF m 32 #[.val (.ref b), .val (.int (Int32.ofNat (o + i))), .val (.ref d), .val (.int (Int32.ofNat (q + i))), .val (.int (Int32.ofNat len)), .val (.int (Int32.ofNat i)), .val (.int (cv A (o + i)))] [])) := c6.trans (st7 _ (Steps.refl _))
      have c9 : Steps p.tables e below (s₁.setTop (entryFrame m #[.ref b, .int (Int32.ofNat o), .ref d, .int (Int32.ofNat q), .int (Int32.ofNat len)] 7)) (T7.setTop (mkF m 3 #[.val (.ref b), .val (.int (Int32.ofNat (o + i) + 1)), .val (.ref d), .val (.int (Int32.ofNat (q + i) + 1)), .val (.int (Int32.ofNat len)), .val (.int (Int32.ofNat i + 1)), .val (.int (cv A (o + i)))] [])) := c8.trans (by
        refine iincV X7.here hexec rfl 1 (hb hbytes d32) (by decide) rfl rfl ?_
        refine iincV X7.here hexec rfl 1 (hb hbytes d35) (by decide) rfl rfl ?_
        refine iincV X7.here hexec rfl 1 (hb hbytes d38) (by decide) rfl rfl ?_
        refine XS.goto X7.here hexec rfl (pc0 := 41) rfl (hb hbytes d41) (by decide) rfl ?_
        exact Steps.refl _)
      have c10 : Steps p.tables e below (s₁.setTop (entryFrame m #[.ref b, .int (Int32.ofNat o), .ref d, .int (Int32.ofNat q), .int (Int32.ofNat len)] 7)) (T7.setTop (mkF m 3 #[.val (.ref b), .val (.int (Int32.ofNat (o + (i + 1)))), .val (.ref d), .val (.int (Int32.ofNat (q + (i + 1)))), .val (.int (Int32.ofNat len)), .val (.int (Int32.ofNat (i + 1))), .val (.int (cv A (o + i)))] [])) := by
        have := c9
        rw [succ32, succ32, succ32] at this
        exact this
      exact ih (i + 1) (by omega) _ (Or.inr ⟨_, rfl, rfl⟩) T7 _ (by rw [copyLocs_step, ← List.append_assoc]; exact X7) (pl.trans p7) (fl.step (by omega) hlt (by simp)) c10
  obtain ⟨T9, B9, z9, X9, p9, f9, g9⟩ := loop len 0 (by omega) .unset (Or.inl rfl) s₁ B (by simpa [copyLocs] using X0) ⟨hB0.1, fun _ _ => rfl, rfl⟩ (Laid.zero _ _ _) c2
  have c11 : Steps p.tables e below (s₁.setTop (entryFrame m #[.ref b, .int (Int32.ofNat o), .ref d, .int (Int32.ofNat q), .int (Int32.ofNat len)] 7)) (T9.setTop (mkF m 46 #[.val (.ref b), .val (.int (Int32.ofNat (o + len))), .val (.ref d), .val (.int (Int32.ofNat (q + len))), .val (.int (Int32.ofNat len)), .val (.int (Int32.ofNat len)), z9] [.int (Int32.ofNat len)])) := g9.trans (by
    refine XS.iload X9.here hexec rfl (hb hbytes d3) rfl ?_
    refine XS.iload X9.here hexec rfl (hb hbytes d5) rfl ?_
    refine XS.icmpYes X9.here hexec rfl (pc0 := 7) rfl (hb hbytes d7) rfl (ii_ge_t (nlt32 (by omega) (Nat.le_refl _))) (by decide) rfl ?_
    refine XS.iload X9.here hexec rfl (hb hbytes d44) rfl ?_
    exact Steps.refl _)
  exact ⟨T9, some (.int (Int32.ofNat len)), _, _, _, X9, by simp, rfl, rfl, (fun h => by cases h), ⟨rfl, B9, p9.from hh0, f9⟩, fun fs hl => c11.trans (X9.ireturnOut hexec hret rfl (Or.inl rfl) (hb hbytes d46) hl)⟩
end Cmp5
namespace Cmp3
def yN : MethodName := ⟨"java/lang/StringUTF16", "compress", "([CII)[B"⟩
abbrev yB : ByteArray := jdk_52_method_16_code
theorem d0 : decode yB 0 = .ok (.iload_n 2, 1) := by decide +kernel
theorem d1 : decode yB 1 = .ok (.newarray .byte, 2) := by decide +kernel
theorem d3 : decode yB 3 = .ok (.astore_n 3, 1) := by decide +kernel
theorem d4 : decode yB 4 = .ok (.aload_n 0, 1) := by decide +kernel
theorem d5 : decode yB 5 = .ok (.iload_n 1, 1) := by decide +kernel
theorem d6 : decode yB 6 = .ok (.aload_n 3, 1) := by decide +kernel
theorem d7 : decode yB 7 = .ok (.iconst 0, 1) := by decide +kernel
theorem d8 : decode yB 8 = .ok (.iload_n 2, 1) := by decide +kernel
theorem d9 : decode yB 9 = .ok (.invokestatic 115, 3) := by decide +kernel
theorem d12 : decode yB 12 = .ok (.istore 4, 2) := by decide +kernel
theorem d14 : decode yB 14 = .ok (.iload 4, 2) := by decide +kernel
theorem d16 : decode yB 16 = .ok (.iload_n 2, 1) := by decide +kernel
theorem d17 : decode yB 17 = .ok (.if_icmp (.eq) 40, 3) := by decide +kernel
theorem d57 : decode yB 57 = .ok (.aload_n 3, 1) := by decide +kernel
theorem d58 : decode yB 58 = .ok (.areturn, 1) := by decide +kernel
def site : List Cond := [.arrayClass .byte, Cmp5.tab] ++ staticW U16 115 Cmp5.yN
def tab : Cond := tabOf yN yB 6 (some (.array .byte)) site
def P (b : Addr) (A : Cell) (o len : Nat) (args : Array Value) (s : State) : Prop := args = #[.ref b, .int (Int32.ofNat o), .int (Int32.ofNat len)] ∧ Ch b A s ∧ o + len ≤ A.slots.size ∧ len ≤ 536870912 ∧ ∀ i, i < len → ¬ 255 < cv A (o + i)
def E (b : Addr) (A : Cell) (o len : Nat) (r : Option Value) (s u : State) : Prop := NewArr .byte "[B" len (fun j => .int (lo8 (cv A (o + j)))) r s u ∧ u.heap.size = s.heap.size + 1
/-- no char of the range above 255: a new byte[] of their low bytes -/
theorem law (l : Launch) (b : Addr) (A : Cell) (o len : Nat) : Law l yN 3 3 1 18 yB 6 (some (.array .byte)) site (P b A o len) (E b A o len) [] 1 len := by
  refine Law.of_walk (plainFor_of_name (by decide +kernel)) (by decide +kernel) (by decide +kernel) (by decide) (fun _ _ h => by rw [h.1]; rfl) (fun _ U U' hal hh h => ⟨h.1, h.2.1.mv hal hh, h.2.2⟩) (fun r U U' V V' h1 hal h2 h => ⟨NewArr.mv r U U' V V' h1 hal h2 h.1, by rw [h1, h2]; exact h.2⟩) ?_
  intro p e s m args below meth c s₁ X0 hexec hbytes hml hret hlk hnm hown hh0 W hP
  obtain ⟨rfl, hA, l1, l2, hp⟩ := hP
  have a31 := hA.1.2.2.2
  have c1 : Steps p.tables e below (s₁.setTop (entryFrame m #[.ref b, .int (Int32.ofNat o), .int (Int32.ofNat len)] 6)) (s₁.setTop (mkF m 0 #[.val (.ref b), .val (.int (Int32.ofNat o)), .val (.int (Int32.ofNat len)), .unset, .unset, .unset] [])) := entry rfl
  have c2 : Steps p.tables e below (s₁.setTop (entryFrame m #[.ref b, .int (Int32.ofNat o), .int (Int32.ofNat len)] 6)) (s₁.setTop (mkF m 1 #[.val (.ref b), .val (.int (Int32.ofNat o)), .val (.int (Int32.ofNat len)), .unset, .unset, .unset] [.int (Int32.ofNat len)])) := c1.trans (by
    refine XS.iloadN X0.here hexec rfl (hb hbytes d0) rfl ?_
    exact Steps.refl _)
  obtain ⟨T3, B3, X3, ba3, bs3, bv3, bh3, bf3, st3⟩ := X0.anew hexec (atype := .byte) (wk W (.arrayClass .byte)) rfl (by show len * 1 ≤ _; omega) (by omega) (g := (mkF m 1 #[.val (.ref b), .val (.int (Int32.ofNat o)), .val (.int (Int32.ofNat len)), .unset, .unset, .unset] [.int (Int32.ofNat len)])) rfl (hb hbytes d1) (rest := []) rfl (Nat.le_refl _) (by show 0 + len ≤ len; omega)
  rw [hh0] at ba3 st3
  have kp3 : XT.Kept s T3 := (XT.Kept.of_eq hh0).push bh3
  have hA3 := hA.keep X3.warmed.alike (kp3 _ _ hA.1.1)
  have hne : b ≠ s.heap.size := hA.1.ne
  have c4 : Steps p.tables e below (s₁.setTop (entryFrame m #[.ref b, .int (Int32.ofNat o), .int (Int32.ofNat len)] 6)) (T3.setTop (mkF m 3 #[.val (.ref b), .val (.int (Int32.ofNat o)), .val (.int (Int32.ofNat len)), .unset, .unset, .unset] [.ref s.heap.size])) := c2.trans (st3 _ (Steps.refl _))
  have c5 : Steps p.tables e below (s₁.setTop (entryFrame m #[.ref b, .int (Int32.ofNat o), .int (Int32.ofNat len)] 6)) (T3.setTop (mkF m 9 #[.val (.ref b), .val (.int (Int32.ofNat o)), .val (.int (Int32.ofNat len)), .val (.ref s.heap.size), .unset, .unset] [.int (Int32.ofNat len), .int 0, .ref s.heap.size, .int (Int32.ofNat o), .ref b])) := c4.trans (by
    refine XS.astoreN X3.here hexec rfl (hb hbytes d3) rfl rfl rfl ?_
    refine XS.aloadN X3.here hexec rfl (hb hbytes d4) rfl rfl ?_
    refine XS.iloadN X3.here hexec rfl (hb hbytes d5) rfl ?_
    refine XS.aloadN X3.here hexec rfl (hb hbytes d6) rfl rfl ?_
    refine iconstV X3.here hexec rfl 0 (hb hbytes d7) (by decide) ?_
    refine XS.iloadN X3.here hexec rfl (hb hbytes d8) rfl ?_
    exact Steps.refl _)
  obtain ⟨v6, T6, X6, E6, g6⟩ := X3.callS hexec (Cmp5.law l b A s.heap.size B3 o 0 len) hown (wks W (staticW U16 115 Cmp5.yN)) (wk W Cmp5.tab) (W := 0) (Nat.le_of_ble_eq_true rfl) (Nat.le_of_ble_eq_true rfl) (Nat.le_refl _) (by show 0 + len + 0 ≤ len; omega) (g := (mkF m 9 #[.val (.ref b), .val (.int (Int32.ofNat o)), .val (.int (Int32.ofNat len)), .val (.ref s.heap.size), .unset, .unset] [.int (Int32.ofNat len), .int (Int32.ofNat 0), .ref s.heap.size, .int (Int32.ofNat o), .ref b])) rfl (by rw [hml]; rfl) c5 (argsL := [.ref b, .int (Int32.ofNat o), .ref s.heap.size, .int (Int32.ofNat 0), .int (Int32.ofNat len)]) (rest := []) rfl rfl (by show 2 * 0 + 0 ≤ _; decide) (hb hbytes d9) (⟨rfl, hA3, ba3, hne, l1, by rw [bs3]; simp, hp⟩)
  obtain ⟨rfl, B6, p6, f6⟩ := E6
  have c7 : Steps p.tables e below (s₁.setTop (entryFrame m #[.ref b, .int (Int32.ofNat o), .int (Int32.ofNat len)] 6)) (T6.setTop (mkF m 12 #[.val (.ref b), .val (.int (Int32.ofNat o)), .val (.int (Int32.ofNat len)), .val (.ref s.heap.size), .unset, .unset] [.int (Int32.ofNat len)])) := g6
  have c8 : Steps p.tables e below (s₁.setTop (entryFrame m #[.ref b, .int (Int32.ofNat o), .int (Int32.ofNat len)] 6)) (T6.setTop (mkF m 58 #[.val (.ref b), .val (.int (Int32.ofNat o)), .val (.int (Int32.ofNat len)), .val (.ref s.heap.size), .val (.int (Int32.ofNat len)), .unset] [.ref s.heap.size])) := c7.trans (by
    refine XS.istore X6.here hexec rfl (hb hbytes d12) rfl rfl ?_
    refine XS.iload X6.here hexec rfl (hb hbytes d14) rfl ?_
    refine XS.iloadN X6.here hexec rfl (hb hbytes d16) rfl ?_
    refine XS.icmpYes X6.here hexec rfl (pc0 := 17) rfl (hb hbytes d17) rfl (ii_eq_t rfl) (by decide) rfl ?_
    refine XS.aloadN X6.here hexec rfl (hb hbytes d57) rfl rfl ?_
    exact Steps.refl _)
  have X8 := X6.wide (L' := []) (cells' := 1) (slots' := len) (fun x hx hlt => by
    simp only [List.nil_append, copyLocs, List.mem_map, List.mem_range] at hx
    obtain ⟨i, -, rfl⟩ := hx
    exact absurd hlt (Nat.lt_irrefl _)) (Nat.le_refl _) (by omega)
  exact ⟨T6, some (.ref s.heap.size), _, _, _, X8, rfl, rfl, rfl, (fun h => by cases h), ⟨⟨rfl, B6, ba3.like (X3.warmed.alike.symm.trans X6.warmed.alike) p6.1 f6.1 f6.2.1 f6.2.2.1, f6.2.1.trans bv3, by rw [X6.warmed.alike.findClass, f6.1]; exact bf3, by rw [f6.2.2.1, bs3]; simp, fun j hj => by rw [f6.2.2.2 j, if_pos (by omega)]; rfl, kp3.put p6 (Nat.le_refl _)⟩, by rw [p6.2.2, bh3, hh0]; simp⟩, fun fs hl => c8.trans (X8.areturnOut hexec rfl hret rfl (hb hbytes d58) hl)⟩
end Cmp3
namespace CodL
def yN : MethodName := ⟨"java/lang/StringUTF16", "coderFromArrayLen", "([BI)B"⟩
abbrev yB : ByteArray := jdk_52_method_15_code
theorem d0 : decode yB 0 = .ok (.iload_n 1, 1) := by decide +kernel
theorem d1 : decode yB 1 = .ok (.aload_n 0, 1) := by decide +kernel
theorem d2 : decode yB 2 = .ok (.arraylength, 1) := by decide +kernel
theorem d3 : decode yB 3 = .ok (.isub, 1) := by decide +kernel
theorem d4 : decode yB 4 = .ok (.bipush 31, 2) := by decide +kernel
theorem d6 : decode yB 6 = .ok (.iushr, 1) := by decide +kernel
theorem d7 : decode yB 7 = .ok (.i2b, 1) := by decide +kernel
theorem d8 : decode yB 8 = .ok (.ireturn, 1) := by decide +kernel
def site : List Cond := []
def tab : Cond := tabOf yN yB 2 (some .byte) site
def P (d : Addr) (B : Cell) (args : Array Value) (s : State) : Prop := args = #[.ref d, .int (Int32.ofNat B.slots.size)] ∧ Arr .byte d B s
def E (r : Option Value) (s u : State) : Prop := XT.PureE (some (.int 0)) r s u
/-- an array as long as the number of chars: LATIN1 -/
theorem law (l : Launch) (d : Addr) (B : Cell) : Law l yN 2 2 0 0 yB 2 (some .byte) site (P d B) E [] 0 0 := by
  refine Law.of_walk (plainFor_of_name (by decide +kernel)) (by decide +kernel) (by decide +kernel) (by decide) (fun _ _ h => by rw [h.1]; rfl) (fun _ U U' hal hh h => ⟨h.1, h.2.mv hal hh⟩) (fun r U U' V V' h1 hal h2 h => XT.PureE.mv r U U' V V' h1 hal h2 h) ?_
  intro p e s m args below meth c s₁ X0 hexec hbytes hml hret hlk hnm hown hh0 W hP
  obtain ⟨rfl, hB⟩ := hP
  have hB0 := hB.mv X0.warmed.alike hh0
  have c1 : Steps p.tables e below (s₁.setTop (entryFrame m #[.ref d, .int (Int32.ofNat B.slots.size)] 2)) (s₁.setTop (mkF m 0 #[.val (.ref d), .val (.int (Int32.ofNat B.slots.size))] [])) := entry rfl
  have c2 : Steps p.tables e below (s₁.setTop (entryFrame m #[.ref d, .int (Int32.ofNat B.slots.size)] 2)) (s₁.setTop (mkF m 2 #[.val (.ref d), .val (.int (Int32.ofNat B.slots.size))] [.ref d, .int (Int32.ofNat B.slots.size)])) := c1.trans (by
    refine XS.iloadN X0.here hexec rfl (hb hbytes d0) rfl ?_
    refine XS.aloadN X0.here hexec rfl (hb hbytes d1) rfl rfl ?_
    exact Steps.refl _)
  have c3 : Steps p.tables e below (s₁.setTop (entryFrame m #[.ref d, .int (Int32.ofNat B.slots.size)] 2)) (s₁.setTop (mkF m 8 #[.val (.ref d), .val (.int (Int32.ofNat B.slots.size))] [.int (lo8 (ushr (Int32.ofNat B.slots.size - Int32.ofNat B.slots.size) 31))])) := c2.trans (by
    refine X0.alen hexec hB0 rfl rfl (hb hbytes d2) ?_
    refine XS.isub X0.here hexec rfl (hb hbytes d3) rfl ?_
    refine bipushV X0.here hexec rfl 31 (hb hbytes d4) (by decide) ?_
    refine iushr X0.here hexec rfl (hb hbytes d6) rfl ?_
    refine i2b X0.here hexec rfl (hb hbytes d7) rfl ?_
    exact Steps.refl _)
  have e0 : lo8 (ushr (Int32.ofNat B.slots.size - Int32.ofNat B.slots.size) 31) = 0 := by rw [Int32.sub_self]; decide
  rw [e0] at c3
  exact ⟨s₁, some (.int 0), _, _, _, X0, rfl, rfl, rfl, (fun h => by cases h), ⟨rfl, hh0⟩, fun fs hl => c3.trans (X0.ireturnOut hexec hret rfl (Or.inr (Or.inr (Or.inl rfl))) (hb hbytes d8) hl)⟩
end CodL
/-- the String at a is Latin-1 over a new byte[] (the heap's one new cell): the low bytes of the len chars of A from o on; every cell but a is kept -/
def Got (a : Addr) (D : Cell) (fV fC : Field) (A : Cell) (o len : Nat) (r : Option Value) (s u : State) : Prop := r = none ∧ ∃ D' V : Cell, Blank "java/lang/String" a D' u ∧ Same D D' [fV.slot, fC.slot] ∧ D'.slots[fV.slot]? = some (.ref s.heap.size) ∧ D'.slots[fC.slot]? = some (.int 0) ∧ Arr .byte s.heap.size V u ∧ V.vm = .none ∧ u.vm.findClass "[B" = some V.cls ∧ V.slots.size = len ∧ (∀ j, j < len → V.slots[j]? = some (.int (lo8 (cv A (o + j))))) ∧ (∀ (y : Addr) (c : Cell), y ≠ a → s.heap[y]? = some c → u.heap[y]? = some c) ∧ u.heap.size = s.heap.size + 1
theorem Got.mv {a : Addr} {D A : Cell} {fV fC : Field} {o len : Nat} : ∀ r (U U' V V' : State), U'.heap = U.heap → V.vm.Alike V'.vm → V'.heap = V.heap → Got a D fV fC A o len r U V → Got a D fV fC A o len r U' V' :=
  fun r U U' V V' h1 hal h2 ⟨e0, D', X, a1, a2, a3, a4, a5, a6, a7, a8, a9, a10, a11⟩ => ⟨e0, D', X, a1.mv hal h2, a2, by rw [h1]; exact a3, a4, by rw [h1]; exact a5.mv hal h2, a6, by rw [hal.findClass]; exact a7, a8, a9, by rw [h1, h2]; exact a10, by rw [h1, h2]; exact a11⟩
namespace New4
def yN : MethodName := ⟨"java/lang/String", "<init>", "([CIILjava/lang/Void;)V"⟩
abbrev yB : ByteArray := jdk_42_method_149_code
theorem d0 : decode yB 0 = .ok (.aload_n 0, 1) := by decide +kernel
theorem d1 : decode yB 1 = .ok (.invokespecial 1, 3) := by decide +kernel
theorem d4 : decode yB 4 = .ok (.iload_n 3, 1) := by decide +kernel
theorem d5 : decode yB 5 = .ok (.ifCond (.ne) 22, 3) := by decide +kernel
theorem d27 : decode yB 27 = .ok (.getstatic 38, 3) := by decide +kernel
theorem d30 : decode yB 30 = .ok (.ifCond (.eq) 28, 3) := by decide +kernel
theorem d33 : decode yB 33 = .ok (.aload_n 1, 1) := by decide +kernel
theorem d34 : decode yB 34 = .ok (.iload_n 2, 1) := by decide +kernel
theorem d35 : decode yB 35 = .ok (.iload_n 3, 1) := by decide +kernel
theorem d36 : decode yB 36 = .ok (.invokestatic 177, 3) := by decide +kernel
theorem d39 : decode yB 39 = .ok (.astore 5, 2) := by decide +kernel
theorem d41 : decode yB 41 = .ok (.aload_n 0, 1) := by decide +kernel
theorem d42 : decode yB 42 = .ok (.aload 5, 2) := by decide +kernel
theorem d44 : decode yB 44 = .ok (.iload_n 3, 1) := by decide +kernel
theorem d45 : decode yB 45 = .ok (.invokestatic 47, 3) := by decide +kernel
theorem d48 : decode yB 48 = .ok (.putfield 15, 3) := by decide +kernel
theorem d51 : decode yB 51 = .ok (.aload_n 0, 1) := by decide +kernel
theorem d52 : decode yB 52 = .ok (.aload 5, 2) := by decide +kernel
theorem d54 : decode yB 54 = .ok (.putfield 9, 3) := by decide +kernel
theorem d57 : decode yB 57 = .ok (.return_, 1) := by decide +kernel
def site : List Cond := [.fieldLink "java/lang/String" 38 "java/lang/String" "COMPACT_STRINGS" "Z", Cmp3.tab, CodL.tab, .laysFinal "java/lang/String" "java/lang/String" "value" "[B", .fieldLink "java/lang/String" 9 "java/lang/String" "value" "[B", .laysFinal "java/lang/String" "java/lang/String" "coder" "B", .fieldLink "java/lang/String" 15 "java/lang/String" "coder" "B"] ++ objW "java/lang/String" 1 ++ staticW "java/lang/String" 177 Cmp3.yN ++ staticW "java/lang/String" 47 CodL.yN
def tab : Cond := tabOf yN yB 6 none site
def P (a : Addr) (D : Cell) (fV fC : Field) (b : Addr) (A : Cell) (z : Int32) (o len : Nat) (args : Array Value) (s : State) : Prop := args = #[.ref a, .ref b, .int (Int32.ofNat o), .int (Int32.ofNat len), .null] ∧ Blank "java/lang/String" a D s ∧ Found "java/lang/String" "value" "[B" fV s ∧ Found "java/lang/String" "coder" "B" fC s ∧ Ch b A s ∧ StaticIs s "java/lang/String" "COMPACT_STRINGS" "Z" (.int z) ∧ ¬ z = 0 ∧ 0 < len ∧ o + len ≤ A.slots.size ∧ len ≤ 536870912 ∧ ∀ i, i < len → ¬ 255 < cv A (o + i)
def E (a : Addr) (D : Cell) (fV fC : Field) (A : Cell) (o len : Nat) (r : Option Value) (s u : State) : Prop := Got a D fV fC A o len r s u
/-- len > 0, no char of the range above 255: a Latin-1 String of their low bytes -/
theorem law (l : Launch) (a : Addr) (D : Cell) (fV fC : Field) (b : Addr) (A : Cell) (z : Int32) (o len : Nat) : Law l yN 5 4 2 35 yB 6 none site (P a D fV fC b A z o len) (E a D fV fC A o len) [⟨a, fC.slot⟩, ⟨a, fV.slot⟩] 1 len := by
  refine Law.of_walk (plainFor_of_name (by decide +kernel)) (by decide +kernel) (by decide +kernel) (by decide) (fun _ _ h => by rw [h.1]; rfl) (fun _ U U' hal hh h => ⟨h.1, h.2.1.mv hal hh, h.2.2.1.al hal, h.2.2.2.1.al hal, h.2.2.2.2.1.mv hal hh, h.2.2.2.2.2.1.there hal hh, h.2.2.2.2.2.2⟩) (fun r U U' V V' h1 hal h2 h => Got.mv r U U' V V' h1 hal h2 h) ?_
  intro p e s m args below meth c s₁ X0 hexec hbytes hml hret hlk hnm hown hh0 W hP
  obtain ⟨rfl, hB, f1, f2, hA, s1, hz, l0, l1, l2, hp⟩ := hP
  have a31 := hA.1.2.2.2
  have c1 : Steps p.tables e below (s₁.setTop (entryFrame m #[.ref a, .ref b, .int (Int32.ofNat o), .int (Int32.ofNat len), .null] 6)) (s₁.setTop (mkF m 0 #[.val (.ref a), .val (.ref b), .val (.int (Int32.ofNat o)), .val (.int (Int32.ofNat len)), .val .null, .unset] [])) := entry rfl
  have c2 : Steps p.tables e below (s₁.setTop (entryFrame m #[.ref a, .ref b, .int (Int32.ofNat o), .int (Int32.ofNat len), .null] 6)) (s₁.setTop (mkF m 1 #[.val (.ref a), .val (.ref b), .val (.int (Int32.ofNat o)), .val (.int (Int32.ofNat len)), .val .null, .unset] [.ref a])) := c1.trans (by
    refine XS.aloadN X0.here hexec rfl (hb hbytes d0) rfl rfl ?_
    exact Steps.refl _)
  obtain ⟨T3, X3, q3, st3⟩ := X0.oinit hexec hown (wks W (objW "java/lang/String" 1)) (g := (mkF m 1 #[.val (.ref a), .val (.ref b), .val (.int (Int32.ofNat o)), .val (.int (Int32.ofNat len)), .val .null, .unset] [.ref a])) rfl (by rw [hml]; rfl) (rest := []) rfl (hb hbytes d1) (W := 0) (by show 2 * 0 + 0 ≤ _; decide) (Nat.le_of_ble_eq_true rfl) (Nat.le_of_ble_eq_true rfl)
  have hh3 := q3.trans hh0
  have c4 : Steps p.tables e below (s₁.setTop (entryFrame m #[.ref a, .ref b, .int (Int32.ofNat o), .int (Int32.ofNat len), .null] 6)) (T3.setTop (mkF m 27 #[.val (.ref a), .val (.ref b), .val (.int (Int32.ofNat o)), .val (.int (Int32.ofNat len)), .val .null, .unset] [])) := (c2.trans (st3 _ (Steps.refl _))).trans (by
    refine XS.iloadN X3.here hexec rfl (hb hbytes d4) rfl ?_
    refine XS.ifYes X3.here hexec rfl (pc0 := 5) rfl (hb hbytes d5) rfl (i0_ne_t (nz32 (by omega) l0)) (by decide) rfl ?_
    exact Steps.refl _)
  obtain ⟨T5, X5, q5, st5⟩ := X3.sget hexec hown (wk W (.fieldLink "java/lang/String" 38 "java/lang/String" "COMPACT_STRINGS" "Z")) s1 (fun _ _ h => by rw [hh3]; exact h) (g := (mkF m 27 #[.val (.ref a), .val (.ref b), .val (.int (Int32.ofNat o)), .val (.int (Int32.ofNat len)), .val .null, .unset] [])) rfl (hb hbytes d27)
  have hh5 := q5.trans hh3
  have c6 : Steps p.tables e below (s₁.setTop (entryFrame m #[.ref a, .ref b, .int (Int32.ofNat o), .int (Int32.ofNat len), .null] 6)) (T5.setTop (mkF m 30 #[.val (.ref a), .val (.ref b), .val (.int (Int32.ofNat o)), .val (.int (Int32.ofNat len)), .val .null, .unset] [.int z])) := c4.trans (st5 _ (Steps.refl _))
  have c7 : Steps p.tables e below (s₁.setTop (entryFrame m #[.ref a, .ref b, .int (Int32.ofNat o), .int (Int32.ofNat len), .null] 6)) (T5.setTop (mkF m 36 #[.val (.ref a), .val (.ref b), .val (.int (Int32.ofNat o)), .val (.int (Int32.ofNat len)), .val .null, .unset] [.int (Int32.ofNat len), .int (Int32.ofNat o), .ref b])) := c6.trans (by
    refine XS.ifNo X5.here hexec rfl (hb hbytes d30) rfl (i0_eq_f hz) ?_
    refine XS.aloadN X5.here hexec rfl (hb hbytes d33) rfl rfl ?_
    refine XS.iloadN X5.here hexec rfl (hb hbytes d34) rfl ?_
    refine XS.iloadN X5.here hexec rfl (hb hbytes d35) rfl ?_
    exact Steps.refl _)
  obtain ⟨v8, T8, X8, E8, g8⟩ := X5.callS hexec (Cmp3.law l b A o len) hown (wks W (staticW "java/lang/String" 177 Cmp3.yN)) (wk W Cmp3.tab) (W := 0) (Nat.le_of_ble_eq_true rfl) (Nat.le_of_ble_eq_true rfl) (Nat.le_refl _) (by show 0 + len ≤ len; omega) (g := (mkF m 36 #[.val (.ref a), .val (.ref b), .val (.int (Int32.ofNat o)), .val (.int (Int32.ofNat len)), .val .null, .unset] [.int (Int32.ofNat len), .int (Int32.ofNat o), .ref b])) rfl (by rw [hml]; rfl) c7 (argsL := [.ref b, .int (Int32.ofNat o), .int (Int32.ofNat len)]) (rest := []) rfl rfl (by show 2 * 0 + 0 ≤ _; decide) (hb hbytes d36) (⟨rfl, hA.mv X5.warmed.alike hh5, l1, l2, hp⟩)
  obtain ⟨e8, z8⟩ := E8
  obtain ⟨rfl, N, n1, n2, n3, n4, n5, n6⟩ := NewArr.mv _ T5 s _ _ hh5.symm (Vm.Alike.refl _) rfl e8
  rw [hh5] at z8
  have hB1 := hB.keep X8.warmed.alike (n6 _ _ hB.1)
  have hne : s.heap.size ≠ a := (Nat.ne_of_lt (Array.getElem?_eq_some_iff.mp hB.1).1).symm
  have c9 : Steps p.tables e below (s₁.setTop (entryFrame m #[.ref a, .ref b, .int (Int32.ofNat o), .int (Int32.ofNat len), .null] 6)) (T8.setTop (mkF m 39 #[.val (.ref a), .val (.ref b), .val (.int (Int32.ofNat o)), .val (.int (Int32.ofNat len)), .val .null, .unset] [.ref s.heap.size])) := g8
  have c10 : Steps p.tables e below (s₁.setTop (entryFrame m #[.ref a, .ref b, .int (Int32.ofNat o), .int (Int32.ofNat len), .null] 6)) (T8.setTop (mkF m 45 #[.val (.ref a), .val (.ref b), .val (.int (Int32.ofNat o)), .val (.int (Int32.ofNat len)), .val .null, .val (.ref s.heap.size)] [.int (Int32.ofNat N.slots.size), .ref s.heap.size, .ref a])) := by
    have hc : Steps p.tables e below (s₁.setTop (entryFrame m #[.ref a, .ref b, .int (Int32.ofNat o), .int (Int32.ofNat len), .null] 6)) (T8.setTop (mkF m 45 #[.val (.ref a), .val (.ref b), .val (.int (Int32.ofNat o)), .val (.int (Int32.ofNat len)), .val .null, .val (.ref s.heap.size)] [.int (Int32.ofNat len), .ref s.heap.size, .ref a])) := c9.trans (by
      refine XS.astore X8.here hexec rfl (hb hbytes d39) rfl rfl rfl ?_
      refine XS.aloadN X8.here hexec rfl (hb hbytes d41) rfl rfl ?_
      refine XS.aload X8.here hexec rfl (hb hbytes d42) rfl rfl ?_
      refine XS.iloadN X8.here hexec rfl (hb hbytes d44) rfl ?_
      exact Steps.refl _)
    rw [n4]; exact hc
  obtain ⟨v11, T11, X11, E11, g11⟩ := X8.callS hexec (CodL.law l s.heap.size N) hown (wks W (staticW "java/lang/String" 47 CodL.yN)) (wk W CodL.tab) (W := 1) (Nat.le_of_ble_eq_true rfl) (Nat.le_of_ble_eq_true rfl) (Nat.le_refl _) (by show 0 + len + 0 ≤ len; omega) (g := (mkF m 45 #[.val (.ref a), .val (.ref b), .val (.int (Int32.ofNat o)), .val (.int (Int32.ofNat len)), .val .null, .val (.ref s.heap.size)] [.int (Int32.ofNat N.slots.size), .ref s.heap.size, .ref a])) rfl (by rw [hml]; rfl) c10 (argsL := [.ref s.heap.size, .int (Int32.ofNat N.slots.size)]) (rest := [.ref a]) rfl rfl (by show 2 * 0 + (1 + 0) ≤ _; decide) (hb hbytes d45) (⟨rfl, n1⟩)
  obtain ⟨rfl, q11⟩ := E11
  have hB11 := hB1.mv (X8.warmed.alike.symm.trans X11.warmed.alike) q11
  have c12 : Steps p.tables e below (s₁.setTop (entryFrame m #[.ref a, .ref b, .int (Int32.ofNat o), .int (Int32.ofNat len), .null] 6)) (T11.setTop (mkF m 48 #[.val (.ref a), .val (.ref b), .val (.int (Int32.ofNat o)), .val (.int (Int32.ofNat len)), .val .null, .val (.ref s.heap.size)] [.int 0, .ref a])) := g11
  obtain ⟨T13, X13, p13, bl13, sl13, st13⟩ := X11.finit hexec hown (wk W (.fieldLink "java/lang/String" 15 "java/lang/String" "coder" "B")) (Or.inr ⟨_, (wk W (.laysFinal "java/lang/String" "java/lang/String" "coder" "B"))⟩) (Or.inl ⟨rfl, hnm⟩) f2 (Or.inl rfl) hB11 (t := .byte) (by decide +kernel) rfl (g := (mkF m 48 #[.val (.ref a), .val (.ref b), .val (.int (Int32.ofNat o)), .val (.int (Int32.ofNat len)), .val .null, .val (.ref s.heap.size)] [.int 0, .ref a])) rfl (rest := []) rfl (hb hbytes d48)
  have c14 : Steps p.tables e below (s₁.setTop (entryFrame m #[.ref a, .ref b, .int (Int32.ofNat o), .int (Int32.ofNat len), .null] 6)) (T13.setTop (mkF m 54 #[.val (.ref a), .val (.ref b), .val (.int (Int32.ofNat o)), .val (.int (Int32.ofNat len)), .val .null, .val (.ref s.heap.size)] [.ref s.heap.size, .ref a])) := (c12.trans (st13 _ (Steps.refl _))).trans (by
    refine XS.aloadN X13.here hexec rfl (hb hbytes d51) rfl rfl ?_
    refine XS.aload X13.here hexec rfl (hb hbytes d52) rfl rfl ?_
    exact Steps.refl _)
  obtain ⟨T15, X15, p15, bl15, sl15, st15⟩ := X13.finit hexec hown (wk W (.fieldLink "java/lang/String" 9 "java/lang/String" "value" "[B")) (Or.inr ⟨_, (wk W (.laysFinal "java/lang/String" "java/lang/String" "value" "[B"))⟩) (Or.inl ⟨rfl, hnm⟩) f1 (Or.inl rfl) bl13 (t := (.array .byte)) (by decide +kernel) rfl (g := (mkF m 54 #[.val (.ref a), .val (.ref b), .val (.int (Int32.ofNat o)), .val (.int (Int32.ofNat len)), .val .null, .val (.ref s.heap.size)] [.ref s.heap.size, .ref a])) rfl (rest := []) rfl (hb hbytes d54)
  have c16 : Steps p.tables e below (s₁.setTop (entryFrame m #[.ref a, .ref b, .int (Int32.ofNat o), .int (Int32.ofNat len), .null] 6)) (T15.setTop (mkF m 57 #[.val (.ref a), .val (.ref b), .val (.int (Int32.ofNat o)), .val (.int (Int32.ofNat len)), .val .null, .val (.ref s.heap.size)] [])) := c14.trans (st15 _ (Steps.refl _))
  have ap := apart (Or.inr ⟨_, (wk W (.laysFinal "java/lang/String" "java/lang/String" "value" "[B"))⟩) (Or.inr ⟨_, (wk W (.laysFinal "java/lang/String" "java/lang/String" "coder" "B"))⟩) f1 f2 (t₁ := .array .byte) (t₂ := .byte) (by decide +kernel) (by decide +kernel) (by decide)
  have al := X8.warmed.alike.symm.trans X15.warmed.alike
  have n7 : T11.heap[s.heap.size]? = some N := by rw [q11]; exact n1.1
  exact ⟨T15, none, _, _, _, X15, by simp, rfl, by omega, (fun _ => rfl), ⟨rfl, _, N, bl15, ((Same.refl D _).set _ (by simp)).set _ (by simp), sl15, (Cell.slots_setSlot_ne _ ap).trans sl13, n1.keep al (p15.other hne (p13.other hne n7)), n2, by rw [al.findClass]; exact n3, n4, n5, fun y c h1 h2 => p15.other h1 (p13.other h1 (by rw [q11]; exact n6 y c h2)), by rw [p15.2.2, p13.2.2, q11]; exact z8⟩, fun fs hl => c16.trans (X15.returnOut hexec hret (hb hbytes d57) hl)⟩
end New4
namespace New1
def yN : MethodName := ⟨"java/lang/String", "<init>", "([C)V"⟩
abbrev yB : ByteArray := jdk_42_method_3_code
theorem d0 : decode yB 0 = .ok (.aload_n 0, 1) := by decide +kernel
theorem d1 : decode yB 1 = .ok (.aload_n 1, 1) := by decide +kernel
theorem d2 : decode yB 2 = .ok (.iconst 0, 1) := by decide +kernel
theorem d3 : decode yB 3 = .ok (.aload_n 1, 1) := by decide +kernel
theorem d4 : decode yB 4 = .ok (.arraylength, 1) := by decide +kernel
theorem d5 : decode yB 5 = .ok (.aconst_null, 1) := by decide +kernel
theorem d6 : decode yB 6 = .ok (.invokespecial 27, 3) := by decide +kernel
theorem d9 : decode yB 9 = .ok (.return_, 1) := by decide +kernel
def site : List Cond := [New4.tab] ++ initW "java/lang/String" 27 New4.yN
def tab : Cond := tabOf yN yB 2 none site
def P (a : Addr) (D : Cell) (fV fC : Field) (b : Addr) (A : Cell) (z : Int32) (args : Array Value) (s : State) : Prop := args = #[.ref a, .ref b] ∧ Blank "java/lang/String" a D s ∧ Found "java/lang/String" "value" "[B" fV s ∧ Found "java/lang/String" "coder" "B" fC s ∧ Ch b A s ∧ StaticIs s "java/lang/String" "COMPACT_STRINGS" "Z" (.int z) ∧ ¬ z = 0 ∧ 0 < A.slots.size ∧ A.slots.size ≤ 536870912 ∧ ∀ i, i < A.slots.size → ¬ 255 < cv A i
def E (a : Addr) (D : Cell) (fV fC : Field) (A : Cell) (r : Option Value) (s u : State) : Prop := Got a D fV fC A 0 A.slots.size r s u
/-- new String(chars), not empty, no char above 255: a Latin-1 String of their low bytes -/
theorem law (l : Launch) (a : Addr) (D : Cell) (fV fC : Field) (b : Addr) (A : Cell) (z : Int32) : Law l yN 2 1 3 52 yB 2 none site (P a D fV fC b A z) (E a D fV fC A) [⟨a, fC.slot⟩, ⟨a, fV.slot⟩] 1 A.slots.size := by
  refine Law.of_walk (plainFor_of_name (by decide +kernel)) (by decide +kernel) (by decide +kernel) (by decide) (fun _ _ h => by rw [h.1]; rfl) (fun _ U U' hal hh h => ⟨h.1, h.2.1.mv hal hh, h.2.2.1.al hal, h.2.2.2.1.al hal, h.2.2.2.2.1.mv hal hh, h.2.2.2.2.2.1.there hal hh, h.2.2.2.2.2.2⟩) (fun r U U' V V' h1 hal h2 h => Got.mv r U U' V V' h1 hal h2 h) ?_
  intro p e s m args below meth c s₁ X0 hexec hbytes hml hret hlk hnm hown hh0 W hP
  obtain ⟨rfl, hB, f1, f2, hA, s1, hz, l0, l2, hp⟩ := hP
  have c1 : Steps p.tables e below (s₁.setTop (entryFrame m #[.ref a, .ref b] 2)) (s₁.setTop (mkF m 0 #[.val (.ref a), .val (.ref b)] [])) := entry rfl
  have c2 : Steps p.tables e below (s₁.setTop (entryFrame m #[.ref a, .ref b] 2)) (s₁.setTop (mkF m 6 #[.val (.ref a), .val (.ref b)] [.null, .int (Int32.ofNat A.slots.size), .int 0, .ref b, .ref a])) := c1.trans (by
    refine XS.aloadN X0.here hexec rfl (hb hbytes d0) rfl rfl ?_
    refine XS.aloadN X0.here hexec rfl (hb hbytes d1) rfl rfl ?_
    refine iconstV X0.here hexec rfl 0 (hb hbytes d2) (by decide) ?_
    refine XS.aloadN X0.here hexec rfl (hb hbytes d3) rfl rfl ?_
    refine X0.alen hexec (hA.1.mv X0.warmed.alike hh0) rfl rfl (hb hbytes d4) ?_
    refine XS.aconstNull X0.here hexec rfl (hb hbytes d5) ?_
    exact Steps.refl _)
  obtain ⟨v3, T3, X3, E3, g3⟩ := X0.callN hexec (New4.law l a D fV fC b A z 0 A.slots.size) rfl hown (wks W (initW "java/lang/String" 27 New4.yN)) (W New4.tab (by simp only [site, List.mem_cons, List.mem_append, true_or, or_true])) (W := 0) (Nat.le_of_ble_eq_true rfl) (Nat.le_of_ble_eq_true rfl) (Nat.le_refl _) (by show 0 + A.slots.size ≤ A.slots.size; omega) (g := (mkF m 6 #[.val (.ref a), .val (.ref b)] [.null, .int (Int32.ofNat A.slots.size), .int (Int32.ofNat 0), .ref b, .ref a])) rfl (by rw [hml]; rfl) c2 (argsL := [.ref b, .int (Int32.ofNat 0), .int (Int32.ofNat A.slots.size), .null]) (rest := []) rfl rfl (by show 2 * 0 + 0 ≤ _; decide) (hb hbytes d6) (⟨rfl, hB.mv X0.warmed.alike hh0, f1.al X0.warmed.alike, f2.al X0.warmed.alike, hA.mv X0.warmed.alike hh0, s1.there X0.warmed.alike hh0, hz, l0, by omega, l2, fun i hi => by rw [Nat.zero_add]; exact hp i hi⟩)
  have e0 := Got.mv _ s₁ s _ _ hh0.symm (Vm.Alike.refl _) rfl E3
  obtain rfl := e0.1
  have c4 : Steps p.tables e below (s₁.setTop (entryFrame m #[.ref a, .ref b] 2)) (T3.setTop (mkF m 9 #[.val (.ref a), .val (.ref b)] [])) := g3
  exact ⟨T3, none, _, _, _, X3, by simp, rfl, by omega, (fun _ => rfl), e0, fun fs hl => c4.trans (X3.returnOut hexec hret (hb hbytes d9) hl)⟩
theorem pays {l : Launch} {R : Room} {p : Program} {e : Env} {below : List Frame} {s : State} {sargs : Array Value} {len W : Nat} (a : Addr) (D : Cell) (fV fC : Field) (b : Addr) (A : Cell) (z : Int32) (htab : tab.before sargs s = true) (hfr : 4 ≤ R.frames) (hlo : W + 65 ≤ R.locals) :
    Back l R p e below s sargs yN len W (fun A₁ a₁ => A₁.cells + 1 ≤ R.cells ∧ A₁.slots + A.slots.size ≤ R.slots ∧ P a D fV fC b A z a₁ A₁.U) (fun A₁ _ v₁ B₁ => E a D fV fC A v₁ A₁.U B₁.U ∧ B₁.locs = A₁.locs ++ [⟨a, fC.slot⟩, ⟨a, fV.slot⟩] ∧ B₁.cells = A₁.cells + 1 ∧ B₁.slots = A₁.slots + A.slots.size) :=
  (law l a D fV fC b A z).pays htab hfr (by omega)
end New1
/-- the byte, read back as charAt reads it, is the char -/
theorem lo8_mask {x : Int32} (h0 : ¬ x < 0) (h1 : ¬ 255 < x) : lo8 x &&& 255 = x := by
  have t : ∀ k : Fin 256, lo8 (Int32.ofNat k.val) &&& 255 = Int32.ofNat k.val := by decide +kernel
  rw [Int32.lt_iff_toInt_lt] at h0 h1
  have e0 : (0 : Int32).toInt = 0 := rfl
  have e1 : (255 : Int32).toInt = 255 := rfl
  obtain ⟨k, hk⟩ : ∃ k : Nat, x.toInt = k := ⟨x.toInt.toNat, by omega⟩
  have hx : x = Int32.ofNat k := Int32.toInt_inj.mp (by rw [hk, Int32.toInt_ofNat_small (by omega)])
  rw [hx]
  exact t ⟨k, by omega⟩
end StrChars
namespace StrChars.Road
open Jvm Sem ClassFile Op Lib Jvm.Stand Jvm.Free Jvm.Free.XT
open Jvm.Lib.Cold (StaticIs)
abbrev ST : String := "java/lang/String"
/-- every table word that New1's law asks, flat -/
abbrev words : List Jvm.Cond := [.code New1.yN New1.yB 2 none, .initialized ST, .methodLink ST 27 New4.yN, .instanceMethod New4.yN,
  .code New4.yN New4.yB 6 none, .fieldLink ST 38 ST "COMPACT_STRINGS" "Z", .laysFinal ST ST "value" "[B", .fieldLink ST 9 ST "value" "[B", .laysFinal ST ST "coder" "B", .fieldLink ST 15 ST "coder" "B",
  .methodLink ST 1 Lib.objectInit, .instanceMethod Lib.objectInit, .code Lib.objectInit ⟨#[0xb1]⟩ 1 none, .methodLink ST 177 Cmp3.yN, .static Cmp3.yN, .methodLink ST 47 CodL.yN, .static CodL.yN,
  .code Cmp3.yN Cmp3.yB 6 (some (.array .byte)), .initialized U16, .arrayClass .byte, .methodLink U16 115 Cmp5.yN, .static Cmp5.yN, .code Cmp5.yN Cmp5.yB 7 (some .int), .code CodL.yN CodL.yB 2 (some .byte)]
theorem tab_of {a : Array Value} {s : State} (h : ∀ w ∈ words, w.before a s = true) : New1.tab.before a s = true := by
  have h5 : Cmp5.tab.before a s = true := unparts (wk h (.code Cmp5.yN Cmp5.yB 7 (some .int))) (wks h (.initialized Cmp5.yN.cls :: Cmp5.site))
  have hc : CodL.tab.before a s = true := unparts (wk h (.code CodL.yN CodL.yB 2 (some .byte))) (wks h (.initialized CodL.yN.cls :: CodL.site))
  have q5 : ∀ w ∈ Cmp5.tab :: words, w.before a s = true := fun w hw => (List.mem_cons.mp hw).elim (fun e => e ▸ h5) (h w)
  have h3 : Cmp3.tab.before a s = true := unparts (wk q5 (.code Cmp3.yN Cmp3.yB 6 (some (.array .byte)))) (wks q5 (.initialized Cmp3.yN.cls :: Cmp3.site))
  have q3 : ∀ w ∈ Cmp3.tab :: CodL.tab :: words, w.before a s = true := fun w hw => (List.mem_cons.mp hw).elim (fun e => e ▸ h3) fun hw => (List.mem_cons.mp hw).elim (fun e => e ▸ hc) (h w)
  have h4 : New4.tab.before a s = true := unparts (wk q3 (.code New4.yN New4.yB 6 none)) (wks q3 (.initialized New4.yN.cls :: New4.site))
  have q4 : ∀ w ∈ New4.tab :: words, w.before a s = true := fun w hw => (List.mem_cons.mp hw).elim (fun e => e ▸ h4) (h w)
  exact unparts (wk q4 (.code New1.yN New1.yB 2 none)) (wks q4 (.initialized New1.yN.cls :: New1.site))
/-- the words ride from the start Z to the walk's own state -/
theorem moved {Z s : State} {a0 args : Array Value} (hZ : Z.Warmed39 s.vm) (hw : ∀ d ∈ words, d.before a0 Z = true) : ∀ d ∈ words, d.before args s = true := fun d hd => by
  have q := hw d hd
  have t : ∀ d ∈ words, d = .arrayClass .byte ∨ (d.onTables && d.keepsFace) = true := by decide +kernel
  rcases t d hd with rfl | t
  · exact RoadKit.mvA hZ q
  · exact RoadKit.mv hZ q t
/-- WHAT COMES BACK, over the tables of the start Z: h the heap at the call, h' behind it -/
def Q (Z : State) (x : Addr) (A : Cell) (h : Heap) (v : Option Value) (h' : Heap) (L : List Loc) : Prop := v = none ∧ (∀ y ∈ L, y.base = x) ∧ RoadKit.Keep h h' [x] ∧ h'.size = h.size + 1 ∧ RoadKit.Exa Z h' x ST ∧ RoadKit.Fld Z h' x ST "value" "[B" (.ref h.size) ∧ RoadKit.Fld Z h' x ST "coder" "B" (.int 0) ∧
  (∃ V : Cell, RoadKit.Arr Z h' h.size V .byte ∧ V.vm = .none ∧ Z.vm.findClass "[B" = some V.cls ∧ V.slots.size = A.slots.size ∧ ∀ j, j < A.slots.size → V.slots[j]? = some (.int (lo8 (cv A j)))) ∧
  ∀ (O n d : String) (w : Value), RoadKit.Fld Z h x O n d w → RoadKit.slotOf Z O n d ≠ RoadKit.slotOf Z ST "value" "[B" → RoadKit.slotOf Z O n d ≠ RoadKit.slotOf Z ST "coder" "B" → RoadKit.Fld Z h' x O n d w
/-- **new String(chars) AT A CALL, IN THE ROAD'S FORM**: for specialBack behind newO: x the fresh String, b the char[] with the cell A -/
theorem back {p : Program} {l : Launch} {e : Env} {R : Room} {s : State} {args : Array Value} {below : List Frame} {len W : Nat} {Z : State} {a0 : Array Value} {h : Heap} (hZ : Z.Warmed39 s.vm) (hw : ∀ d ∈ words, d.before a0 Z = true) {kI : Nat} (wi : (Jvm.Cond.instantiable ST kI).before a0 Z = true)
    {x b : Addr} {A : Cell} {z : Int32} {v0 c0 : Value} (E : RoadKit.Exa Z h x ST) (V : RoadKit.Fld Z h x ST "value" "[B" v0) (C : RoadKit.Fld Z h x ST "coder" "B" c0) (K : RoadKit.Arr Z h b A .char) (hty : Typed .char A) (S : RoadKit.Sta Z h ST "COMPACT_STRINGS" "Z" (.int z)) (hz : ¬ z = 0)
    (l0 : 0 < A.slots.size) (l2 : A.slots.size ≤ 536870912) (hp : ∀ i, i < A.slots.size → ¬ 255 < cv A i) (hfr : 4 ≤ R.frames) (hlo : W + 65 ≤ R.locals) :
    Back l R p e below s args New1.yN len W (fun P a => a = #[.ref x, .ref b] ∧ P.U.heap = h ∧ P.cells + 1 ≤ R.cells ∧ P.slots + A.slots.size ≤ R.slots)
      (fun P _ v B => ∃ L, Q Z x A h v B.U.heap L ∧ B.locs = P.locs ++ L ∧ B.cells = P.cells + 1 ∧ B.slots = P.slots + A.slots.size) := by
  intro m meth c P g ig mk a X hg hsize hdg hW hn hp'
  obtain ⟨rfl, rfl, r1, r2⟩ := hp'
  have al : Z.vm.Alike P.U.vm := hZ.alike.trans X.warmed.alike
  obtain ⟨D, cfV, kV, iV, fV, hD, gV, stV, knV, obV, asV, slV⟩ := id V
  obtain ⟨D', cfC, kC, iC, fC, hD', gC, stC, -, -, asC, slC⟩ := id C
  cases hD.symm.trans hD'
  obtain ⟨D2, kD, e1, e2, e3, e4, e5⟩ := id E
  cases hD.symm.trans e1
  obtain ⟨c2, k2, i1, i2, i3, -⟩ := Cond.instantiable_spec wi
  cases e2.symm.trans i1
  cases e3.symm.trans i2
  obtain ⟨kU, u1, u2⟩ := al.2.2 _ _ e3
  have hB : Blank ST x D P.U := ⟨hD, ⟨knV, fun q hq => by rw [hq] at obV; cases obV⟩, by rw [al.findClass]; exact e2, kU, u1, by rw [u2]; exact i3, by rw [u2]; exact e5 i3⟩
  have F1 : Found ST "value" "[B" fV P.U := ⟨SBG.found_only al ⟨cfV, kV, iV, gV⟩, stV⟩
  have F2 : Found ST "coder" "B" fC P.U := ⟨SBG.found_only al ⟨cfC, kC, iC, gC⟩, stC⟩
  have hA : Ch b A P.U := ⟨⟨K.1, State.isArrayOf_alike al K.2.1, K.2.2, by omega⟩, hty⟩
  have hS : StaticIs P.U ST "COMPACT_STRINGS" "Z" (.int z) := by
    obtain ⟨cfS, iS, kS, fS, st, cS, t1, t2, t3, t4, t5, t6, t7⟩ := S
    exact StaticIs.there (s := { Z with heap := P.U.heap }) ⟨cfS, iS, kS, fS, st, cS, t1, t2, t3, t4, t5, (fun q => by rw [q] at t6; cases t6), t7⟩ al rfl
  obtain ⟨v, B, X', ⟨⟨hv, E', V', q1, q2, q3, q4, q5, q6, q7, q8, q9, q10, q11⟩, hl, hc, hs⟩, st⟩ := New1.pays x D fV fC b A z (tab_of (moved hZ hw)) hfr hlo m meth c P g ig mk _ X hg hsize hdg hW hn ⟨r1, r2, rfl, hB, F1, F2, hA, hS, hz, l0, l2, hp⟩
  have al' : Z.vm.Alike B.U.vm := hZ.alike.trans X'.warmed.alike
  have hsz : E'.slots.size = D.slots.size := by
    obtain ⟨-, -, -, kB, w1, w2, w3⟩ := q1
    obtain ⟨kB', y1, y2⟩ := al'.2.2 _ _ e3
    rw [q2.2.1] at w1
    cases w1.symm.trans y1
    rw [w3, e5 i3, y2]
  refine ⟨v, B, X', ⟨_, ⟨hv, ?_, ⟨by omega, fun y cy hy hn' => q10 y cy (by simpa using hn') hy, fun y cy hy => ?_⟩, q11, ⟨E', _, q1.1, by rw [q2.2.1]; exact e2, by rw [q2.2.1]; exact e3, by rw [q2.1]; exact obV, fun _ => by rw [hsz]; exact e5 i3⟩,
    ⟨E', cfV, kV, iV, fV, q1.1, gV, stV, by rw [q2.1]; exact knV, by rw [q2.1]; exact obV, by rw [q2.2.1]; exact asV, q3⟩, ⟨E', cfC, kC, iC, fC, q1.1, gC, stC, by rw [q2.1]; exact knV, by rw [q2.1]; exact obV, by rw [q2.2.1]; exact asC, q4⟩,
    ⟨V', ⟨q5.1, State.isArrayOf_alike al'.symm q5.2.1, q5.2.2.1⟩, q6, by rw [← al'.findClass]; exact q7, q8, fun j hj => by have := q9 j hj; rwa [Nat.zero_add] at this⟩, fun O n d w F n1 n2 => ?_⟩, hl, hc, hs⟩, st⟩
  · intro y hy
    simp only [List.mem_cons, List.not_mem_nil, or_false] at hy
    rcases hy with rfl | rfl <;> rfl
  · by_cases q : y = x
    · subst q
      cases hD.symm.trans hy
      exact ⟨E', q1.1, q2.2.1, q2.1, hsz⟩
    · exact ⟨cy, q10 y cy q hy, rfl, rfl, rfl⟩
  · obtain ⟨D3, cf, k, i, f, g1, g2, g3, g4, g5, g6, g7⟩ := F
    cases hD.symm.trans g1
    simp only [RoadKit.slotOf, g2, gV, gC, Option.map_some, Option.getD_some] at n1 n2
    exact ⟨E', cf, k, i, f, q1.1, g2, g3, by rw [q2.1]; exact g4, by rw [q2.1]; exact g5, by rw [q2.2.1]; exact g6, by rw [q2.2.2 f.slot (by simp [n1, n2])]; exact g7⟩
end StrChars.Road
namespace StrChars.Road
open Jvm Sem ClassFile Op Lib Jvm.Stand Jvm.Free Jvm.Free.XT
/-- WHAT COMES BACK, the byte[] as a list of values -/
def QA (Z : State) (x : Addr) (zn : Int32) (cs : List Int32) (h : Heap) (v : Option Value) (h' : Heap) (L : List Loc) : Prop := v = none ∧ (∀ y ∈ L, y.base = x) ∧ RoadKit.Keep h h' [x] ∧ h'.size = h.size + 1 ∧ RoadKit.Exa Z h' x ST ∧ RoadKit.Fld Z h' x ST "value" "[B" (.ref h.size) ∧ RoadKit.Fld Z h' x ST "coder" "B" (.int 0) ∧
  (∃ kb, Z.vm.findClass "[B" = some kb ∧ RoadKit.Arv Z h' h.size kb .byte zn (cs.map fun c => .int (lo8 c)) (.int 0)) ∧
  ∀ (O n d : String) (w : Value), RoadKit.Fld Z h x O n d w → RoadKit.slotOf Z O n d ≠ RoadKit.slotOf Z ST "value" "[B" → RoadKit.slotOf Z O n d ≠ RoadKit.slotOf Z ST "coder" "B" → RoadKit.Fld Z h' x O n d w
/-- **new String(chars) AT A CALL, THE ARRAYS AS LISTS**: the char[] at b holds cs, not empty, no char above 255 -/
theorem backArv {p : Program} {l : Launch} {e : Env} {R : Room} {s : State} {args : Array Value} {below : List Frame} {len W : Nat} {Z : State} {a0 : Array Value} {h : Heap} (hZ : Z.Warmed39 s.vm) (hw : ∀ d ∈ words, d.before a0 Z = true) {kI : Nat} (wi : (Jvm.Cond.instantiable ST kI).before a0 Z = true)
    {x b : Addr} {k : ClassId} {zn z : Int32} {cs : List Int32} {dv v0 c0 : Value} (E : RoadKit.Exa Z h x ST) (V : RoadKit.Fld Z h x ST "value" "[B" v0) (C : RoadKit.Fld Z h x ST "coder" "B" c0) (K : RoadKit.Arv Z h b k .char zn (cs.map Value.int) dv) (S : RoadKit.Sta Z h ST "COMPACT_STRINGS" "Z" (.int z)) (hz : ¬ z = 0)
    (hlen : zn.toNatClampNeg = cs.length) (h0 : 0 < cs.length) (hbig : cs.length ≤ 536870912) (hall : ∀ c ∈ cs, ¬ 255 < c) (hfr : 4 ≤ R.frames) (hlo : W + 65 ≤ R.locals) :
    Back l R p e below s args New1.yN len W (fun P a => a = #[.ref x, .ref b] ∧ P.U.heap = h ∧ P.cells + 1 ≤ R.cells ∧ P.slots + cs.length ≤ R.slots)
      (fun P _ v B => ∃ L, QA Z x zn cs h v B.U.heap L ∧ B.locs = P.locs ++ L ∧ B.cells = P.cells + 1 ∧ B.slots = P.slots + cs.length) := by
  obtain ⟨A, K1, K2, K3, K4, K5, K6⟩ := K
  have e : A.slots.size = cs.length := K3.trans hlen
  have hat : ∀ (i : Nat) (hi : i < cs.length), A.slots[i]? = some (.int cs[i]) := fun i hi => by rw [K5 i (by omega)]; simp [List.getD_eq_getElem?_getD, hi]
  have hcv : ∀ (i : Nat) (hi : i < cs.length), cv A i = cs[i] := fun i hi => by unfold cv; rw [hat i hi]
  have hty : Typed .char A := fun i v hv => by
    have hi : i < A.slots.size := (Array.getElem?_eq_some_iff.mp hv).1
    have q := K5 i hi
    rw [hv] at q
    rw [Option.some.inj q]
    exact K6 i hi
  refine Back.mono (back hZ hw wi E V C K1 hty S hz (by omega) (by omega) (fun i hi => by rw [hcv i (by omega)]; exact hall _ (List.getElem_mem _)) hfr hlo) (fun P a hp => ⟨hp.1, hp.2.1, hp.2.2.1, by rw [e]; exact hp.2.2.2⟩) (fun P a v B hp hq => ?_)
  obtain ⟨L, ⟨q1, q2, q3, q4, q5, q6, q7, ⟨V', v1, v2, v3, v4, v5⟩, q9⟩, hl, hc, hs⟩ := hq
  refine ⟨L, ⟨q1, q2, q3, q4, q5, q6, q7, ⟨V'.cls, v3, V', v1, rfl, by rw [v4, e, hlen], K4, fun i hi => ?_, fun i hi => ?_⟩, q9⟩, hl, hc, by rw [hs, e]⟩
  · have hi' : i < cs.length := by omega
    rw [v5 i (by omega), hcv i hi']; simp [List.getD_eq_getElem?_getD, hi']
  · have hi' : i < cs.length := by omega
    simp only [List.getD_eq_getElem?_getD, List.getElem?_map, List.getElem?_eq_getElem hi', Option.map_some, Option.getD_some]
    exact fits_lo8 _
end StrChars.Road
namespace StrChars.Road
open Jvm Sem ClassFile Op Lib Jvm.Stand Jvm.Free Jvm.Free.XT
/-- WHAT COMES BACK, in the writer's own shape -/
def QV (Z : State) (x : Addr) (N : Int32) (bs : List Int32) (h : Heap) (n0 : Nat) (v : Option Value) (h' : Heap) (L : List Loc) : Prop := v = none ∧ RoadKit.Fr n0 L ∧ RoadKit.Keep h h' [x] ∧ RoadKit.Exa Z h' x ST ∧ RoadKit.Fld Z h' x ST "coder" "B" (.int 0) ∧
  ∃ (t : Addr) (kb : ClassId), n0 ≤ t ∧ h.size ≤ t ∧ ¬ t = x ∧ RoadKit.Fld Z h' x ST "value" "[B" (.ref t) ∧ RoadKit.Arv Z h' t kb .byte N (bs.map Value.int) (.int 0)
/-- **new String(chars) AT A CALL, FOR THE WRITER**: a char[] of n known ints, each 0 to 255 -/
theorem backV {p : Program} {l : Launch} {e : Env} {R : Room} {s : State} {args : Array Value} {below : List Frame} {len W : Nat} {Z : State} {a0 : Array Value} {h : Heap} (hZ : Z.Warmed39 s.vm) (hw : ∀ d ∈ words, d.before a0 Z = true) {kI : Nat} (wi : (Jvm.Cond.instantiable ST kI).before a0 Z = true)
    {x b : Addr} {kC : ClassId} {cs bs : List Int32} {d v0 c0 : Value} {z N : Int32} {n n0 : Nat} (hx0 : n0 ≤ x) (hh0 : n0 ≤ h.size) (E : RoadKit.Exa Z h x ST) (V : RoadKit.Fld Z h x ST "value" "[B" v0) (C : RoadKit.Fld Z h x ST "coder" "B" c0) (K : RoadKit.Arv Z h b kC .char N (cs.map Value.int) d) (S : RoadKit.Sta Z h ST "COMPACT_STRINGS" "Z" (.int z)) (hz : ¬ z = 0)
    (hn : cs.length = n) (hN : N = Int32.ofNat n) (l0 : 0 < n) (l2 : n ≤ 4000) (hp : ∀ c ∈ cs, ¬ c < 0 ∧ ¬ (255 : Int32) < c) (hb : bs = cs.map (fun c => c.toInt8.toInt32)) (hfr : 4 ≤ R.frames) (hlo : W + 65 ≤ R.locals) :
    Back l R p e below s args (⟨"java/lang/String", "<init>", "([C)V"⟩ : MethodName) len W (fun P a => a = #[.ref x, .ref b] ∧ P.U.heap = h ∧ P.cells + 1 ≤ R.cells ∧ P.slots + n ≤ R.slots)
      (fun P _ v B => ∃ L, QV Z x N bs h n0 v B.U.heap L ∧ B.locs = P.locs ++ L ∧ B.cells = P.cells + 1 ∧ B.slots = P.slots + n) := by
  subst hn hN hb
  refine Back.mono (backArv hZ hw wi E V C K S hz (n32 (by omega)) l0 (by omega) (fun c hc => (hp c hc).2) hfr hlo) (fun P a hp => hp) (fun P a v B hp hq => ?_)
  obtain ⟨L, ⟨q1, q2, q3, q4, q5, q6, q7, ⟨kb, v1, v2⟩, q9⟩, hl, hc, hs⟩ := hq
  exact ⟨L, ⟨q1, fun y hy => by rw [q2 y hy]; exact hx0, q3, q5, q7, h.size, kb, hh0, Nat.le_refl _, Nat.ne_of_gt E.lt, q6, by rw [List.map_map]; exact v2⟩, hl, hc, hs⟩
end StrChars.Road
namespace StrChars
open Jvm Sem ClassFile Op Lib Jvm.Stand Jvm.Free.XT Jvm.Free.ALB Jvm.Free.JM Jvm.Free
open Jvm.Lib.Cold (StaticIs)
def hi8 (x : Int32) : Int32 := lo8 (x >>> ((8 : Int32) &&& 31))
/-- what StringUTF16.getChar makes of two bytes -/
def pairCh (u v : Int32) : Int32 := (((u &&& 255) <<< ((0 : Int32) &&& 31)) ||| ((v &&& 255) <<< ((8 : Int32) &&& 31))).toUInt32.toUInt16.toUInt32.toInt32
theorem lo8_and (x : Int32) : (lo8 x &&& 255).toBitVec.toNat = x.toBitVec.toNat % 256 := by
  have h : (lo8 x).toBitVec = (x.toBitVec.signExtend 8).signExtend 32 := by rw [lo8, Int8.toBitVec_toInt32, Int32.toBitVec_toInt8]
  rw [Int32.toBitVec_and, BitVec.toNat_and, h]
  have e : ((x.toBitVec.signExtend 8).signExtend 32).toNat % 256 = x.toBitVec.toNat % 256 := by
    rw [BitVec.toNat_signExtend]
    have hlt := x.toBitVec.isLt
    simp only [BitVec.toNat_setWidth, BitVec.toNat_signExtend]
    split <;> split <;> omega
  rw [← e]
  exact Nat.and_two_pow_sub_one_eq_mod _ 8
theorem pair_says {c : Int32} (h0 : ¬ c < 0) (h1 : ¬ 65535 < c) : pairCh (lo8 c) (hi8 c) = c := by
  rw [Int32.lt_iff_toInt_lt] at h0 h1
  have e0 : (0 : Int32).toInt = 0 := rfl
  have e1 : (65535 : Int32).toInt = 65535 := rfl
  have hc : c.toInt = c.toBitVec.toNat := by
    have := c.toBitVec.isLt
    have e : c.toInt = c.toBitVec.toInt := rfl
    rw [e] at h0 h1
    rw [e]
    rw [BitVec.toInt_eq_toNat_cond] at h0 h1 ⊢
    split at h0 <;> split <;> omega
  have hn : c.toBitVec.toNat < 65536 := by omega
  have a1 := lo8_and c
  have a2 : (hi8 c &&& 255).toBitVec.toNat = c.toBitVec.toNat / 256 := by
    rw [hi8, lo8_and]
    have e : ((8 : Int32) &&& 31) = 8 := by decide
    rw [e, Int32.toBitVec_shiftRight]
    have e2 : ((8 : Int32).toBitVec.smod 32) = 8#32 := by decide
    rw [e2, BitVec.sshiftRight_eq', BitVec.toNat_sshiftRight_of_msb_false (by rw [BitVec.msb_eq_false_iff_two_mul_lt]; omega)]
    show c.toBitVec.toNat >>> 8 % 256 = _
    rw [Nat.shiftRight_eq_div_pow]
    omega
  unfold pairCh
  apply Int32.toBitVec_inj.mp
  apply BitVec.eq_of_toNat_eq
  have f0 : ((0 : Int32) &&& 31) = 0 := by decide
  have f8 : ((8 : Int32) &&& 31) = 8 := by decide
  rw [f0, f8]
  have g : (((lo8 c &&& 255) <<< (0 : Int32)) ||| ((hi8 c &&& 255) <<< (8 : Int32))).toBitVec.toNat = c.toBitVec.toNat := by
    rw [Int32.toBitVec_or, Int32.toBitVec_shiftLeft, Int32.toBitVec_shiftLeft]
    have s0 : ((0 : Int32).toBitVec.smod 32) = 0#32 := by decide
    have s8 : ((8 : Int32).toBitVec.smod 32) = 8#32 := by decide
    rw [s0, s8, BitVec.toNat_or]
    simp only [BitVec.shiftLeft_eq', BitVec.toNat_shiftLeft, a1, a2]
    show (c.toBitVec.toNat % 256) <<< 0 % 2 ^ 32 ||| (c.toBitVec.toNat / 256) <<< 8 % 2 ^ 32 = _
    rw [Nat.shiftLeft_zero, Nat.mod_eq_of_lt (show c.toBitVec.toNat % 256 < 2 ^ 32 by omega), Nat.mod_eq_of_lt (show (c.toBitVec.toNat / 256) <<< 8 < 2 ^ 32 by rw [Nat.shiftLeft_eq]; omega), Nat.or_comm, ← Nat.shiftLeft_add_eq_or_of_lt (by omega), Nat.shiftLeft_eq]
    omega
  show BitVec.toNat (((((lo8 c &&& 255) <<< (0 : Int32)) ||| ((hi8 c &&& 255) <<< (8 : Int32))).toBitVec.setWidth 16).setWidth 32) = _
  rw [BitVec.toNat_setWidth, BitVec.toNat_setWidth, g]
  omega
end StrChars
namespace StrChars
open Jvm Sem ClassFile Op Lib Jvm.Stand Jvm.Free.XT Jvm.Free.ALB Jvm.Free.JM Jvm.Free
open Jvm.Lib.Cold (StaticIs)
/-- the array's cell V codes the n chars f 0 .. f (n - 1) by the coder cd, as the JDK does: coder 1 just where some char is above 255 -/
def Cod (cd : Int32) (n : Nat) (f : Nat → Int32) (V : Cell) : Prop := (cd = 0 ∧ V.slots.size = n ∧ ∀ j, j < n → V.slots[j]? = some (.int (lo8 (f j))) ∧ ¬ 255 < f j) ∨ (cd = 1 ∧ V.slots.size = 2 * n ∧ (∀ j, j < n → V.slots[2 * j]? = some (.int (lo8 (f j))) ∧ V.slots[2 * j + 1]? = some (.int (hi8 (f j)))) ∧ ∃ j, j < n ∧ 255 < f j)
/-- **x is a String of the n chars f 0 .. f (n - 1)**, Latin-1 or UTF-16; its array at t has the cell V -/
def Txt (x t : Addr) (V : Cell) (cd : Int32) (n : Nat) (f : Nat → Int32) (U : State) : Prop := Exact "java/lang/String" x U ∧ Has x "java/lang/String" "value" "[B" (.ref t) U ∧ Has x "java/lang/String" "coder" "B" (.int cd) U ∧ XT.Arr .byte t V U ∧ Cod cd n f V ∧ ∀ j, j < n → ¬ f j < 0 ∧ ¬ 65535 < f j
theorem Txt.mv {x t : Addr} {V : Cell} {cd : Int32} {n : Nat} {f : Nat → Int32} {U U' : State} (h : Txt x t V cd n f U) (hal : U.vm.Alike U'.vm) (hh : U'.heap = U.heap) : Txt x t V cd n f U' := ⟨h.1.mv hal hh, h.2.1.mv hal hh, h.2.2.1.mv hal hh, h.2.2.2.1.mv hal hh, h.2.2.2.2⟩
end StrChars
namespace StrChars.Road
open Jvm Sem ClassFile Op Lib Jvm.Stand Jvm.Free Jvm.Free.XT
open Jvm.Lib.Cold (StaticIs)
theorem consq {a : Array Value} {s : State} {c : Jvm.Cond} {L : List Jvm.Cond} (h0 : c.before a s = true) (h : ∀ w ∈ L, w.before a s = true) : ∀ w ∈ c :: L, w.before a s = true := fun w hw => (List.mem_cons.mp hw).elim (fun e => e ▸ h0) (h w)
/-- the bytes of the chars cs, low before high -/
def wideBytes : List Int32 → List Value
  | [] => []
  | c :: cs => .int (lo8 c) :: .int (hi8 c) :: wideBytes cs
theorem wide_lo (d : Value) : ∀ (cs : List Int32) (j : Nat), j < cs.length → (wideBytes cs).getD (2 * j) d = .int (lo8 (cs.getD j 0))
  | [], j, h => absurd h (Nat.not_lt_zero j)
  | c :: cs, 0, _ => rfl
  | c :: cs, j + 1, h => by
    have q := wide_lo d cs j (by simpa using h)
    rw [show 2 * (j + 1) = 2 * j + 1 + 1 from by omega]
    simpa [wideBytes] using q
theorem wide_hi (d : Value) : ∀ (cs : List Int32) (j : Nat), j < cs.length → (wideBytes cs).getD (2 * j + 1) d = .int (hi8 (cs.getD j 0))
  | [], j, h => absurd h (Nat.not_lt_zero j)
  | c :: cs, 0, _ => rfl
  | c :: cs, j + 1, h => by
    have q := wide_hi d cs j (by simpa using h)
    rw [show 2 * (j + 1) + 1 = 2 * j + 1 + 1 + 1 from by omega]
    simpa [wideBytes] using q
theorem low_at (d : Value) (cs : List Int32) (j : Nat) (h : j < cs.length) : (cs.map fun c => Value.int (lo8 c)).getD j d = .int (lo8 (cs.getD j 0)) := by
  simp [List.getD_eq_getElem?_getD, h]
/-- an array of N2 bytes vs codes the chars cs by the coder cd -/
def CodA (cs : List Int32) (cd N2 : Int32) (vs : List Value) : Prop := (cd = 0 ∧ N2 = Int32.ofNat cs.length ∧ vs = (cs.map fun c => Value.int (lo8 c)) ∧ ∀ c ∈ cs, ¬ 255 < c) ∨ (cd = 1 ∧ N2 = Int32.ofNat (2 * cs.length) ∧ vs = wideBytes cs ∧ ∃ c ∈ cs, 255 < c)
theorem CodA.cod {cs : List Int32} {cd N2 : Int32} {vs : List Value} {V : Cell} (h : CodA cs cd N2 vs) (hn : 2 * cs.length < 2 ^ 31) (hs : V.slots.size = N2.toNatClampNeg) (hv : RoadKit.Has V vs (.int 0)) : Cod cd cs.length (fun j => cs.getD j 0) V := by
  rcases h with ⟨rfl, rfl, rfl, h⟩ | ⟨rfl, rfl, rfl, c, hc, hw⟩
  · rw [n32 (by omega)] at hs
    exact Or.inl ⟨rfl, hs, fun j hj => ⟨by rw [hv j (by omega), low_at _ _ _ hj], by
      have e : cs.getD j 0 = cs[j] := by simp [List.getD_eq_getElem?_getD, hj]
      show ¬ 255 < cs.getD j 0
      rw [e]; exact h _ (List.getElem_mem _)⟩⟩
  · rw [n32 (by omega)] at hs
    obtain ⟨j, hj, rfl⟩ := List.getElem_of_mem hc
    exact Or.inr ⟨rfl, hs, fun j hj => ⟨by rw [hv _ (by omega), wide_lo _ _ _ hj], by rw [hv _ (by omega), wide_hi _ _ _ hj]⟩, j, hj, by
      have e : cs.getD j 0 = cs[j] := by simp [List.getD_eq_getElem?_getD, hj]
      show 255 < cs.getD j 0
      rw [e]; exact hw⟩
/-- an object of exactly java/lang/String, its two fields found: as the laws ask it -/
theorem strObj {Z U : State} {a0 : Array Value} {kI : Nat} (wi : (Jvm.Cond.instantiable ST kI).before a0 Z = true) (al : Z.vm.Alike U.vm) {x : Addr} {v0 c0 : Value} (E : RoadKit.Exa Z U.heap x ST) (V : RoadKit.Fld Z U.heap x ST "value" "[B" v0) (C : RoadKit.Fld Z U.heap x ST "coder" "B" c0) :
    ∃ (D : Cell) (fV fC : Field), Blank ST x D U ∧ Found ST "value" "[B" fV U ∧ Found ST "coder" "B" fC U ∧ D.slots[fV.slot]? = some v0 ∧ D.slots[fC.slot]? = some c0 ∧ RoadKit.slotOf Z ST "value" "[B" = fV.slot ∧ RoadKit.slotOf Z ST "coder" "B" = fC.slot := by
  obtain ⟨D, cfV, kV, iV, fV, hD, gV, stV, knV, obV, asV, slV⟩ := V
  obtain ⟨D', cfC, kC, iC, fC, hD', gC, stC, -, -, asC, slC⟩ := C
  cases hD.symm.trans hD'
  obtain ⟨D2, kD, e1, e2, e3, e4, e5⟩ := E
  cases hD.symm.trans e1
  obtain ⟨c2, k2, i1, i2, i3, -⟩ := Cond.instantiable_spec wi
  cases e2.symm.trans i1
  cases e3.symm.trans i2
  obtain ⟨kU, u1, u2⟩ := al.2.2 _ _ e3
  exact ⟨D, fV, fC, ⟨hD, ⟨knV, fun q hq => by rw [hq] at obV; cases obV⟩, by rw [al.findClass]; exact e2, kU, u1, by rw [u2]; exact i3, by rw [u2]; exact e5 i3⟩, ⟨SBG.found_only al ⟨cfV, kV, iV, gV⟩, stV⟩, ⟨SBG.found_only al ⟨cfC, kC, iC, gC⟩, stC⟩, slV, slC, by simp [RoadKit.slotOf, gV], by simp [RoadKit.slotOf, gC]⟩
theorem sta_is {Z U : State} (al : Z.vm.Alike U.vm) {C n d : String} {v : Value} (S : RoadKit.Sta Z U.heap C n d v) : StaticIs U C n d v := by
  obtain ⟨cfS, iS, kS, fS, st, cS, t1, t2, t3, t4, t5, t6, t7⟩ := S
  exact StaticIs.there (s := { Z with heap := U.heap }) ⟨cfS, iS, kS, fS, st, cS, t1, t2, t3, t4, t5, (fun q => by rw [q] at t6; cases t6), t7⟩ al rfl
end StrChars.Road
namespace StrChars
open Jvm Sem ClassFile Op Lib Jvm.Stand Jvm.Free.XT Jvm.Free.ALB Jvm.Free.JM Jvm.Free
open Jvm.Lib.Cold (StaticIs)
namespace Emp
def yN : MethodName := ⟨"java/lang/String", "isEmpty", "()Z"⟩
abbrev yB : ByteArray := jdk_42_method_55_code
theorem d0 : decode yB 0 = .ok (.aload_n 0, 1) := by decide +kernel
theorem d1 : decode yB 1 = .ok (.getfield 9, 3) := by decide +kernel
theorem d4 : decode yB 4 = .ok (.arraylength, 1) := by decide +kernel
theorem d5 : decode yB 5 = .ok (.ifCond (.ne) 7, 3) := by decide +kernel
theorem d8 : decode yB 8 = .ok (.iconst 1, 1) := by decide +kernel
theorem d9 : decode yB 9 = .ok (.goto 4, 3) := by decide +kernel
theorem d12 : decode yB 12 = .ok (.iconst 0, 1) := by decide +kernel
theorem d13 : decode yB 13 = .ok (.ireturn, 1) := by decide +kernel
def site : List Cond := [.fieldLink "java/lang/String" 9 "java/lang/String" "value" "[B"]
def tab : Cond := tabOf yN yB 1 (some .boolean) site
def P (x t : Addr) (V : Cell) (cd : Int32) (n : Nat) (f : Nat → Int32) (args : Array Value) (s : State) : Prop := args = #[.ref x] ∧ Txt x t V cd n f s
def E (n : Nat) (r : Option Value) (s u : State) : Prop := XT.PureE (some (.int (if n = 0 then 1 else 0))) r s u
/-- isEmpty() of a String of n chars -/
theorem law (l : Launch) (x t : Addr) (V : Cell) (cd : Int32) (n : Nat) (f : Nat → Int32) : Law l yN 1 0 0 0 yB 1 (some .boolean) site (P x t V cd n f) (E n) [] 0 0 := by
  refine Law.of_walk (plainFor_of_name (by decide +kernel)) (by decide +kernel) (by decide +kernel) (by decide) (fun _ _ h => by rw [h.1]; rfl) (fun _ U U' hal hh h => ⟨h.1, h.2.mv hal hh⟩) (fun r U U' V V' h1 hal h2 h => XT.PureE.mv r U U' V V' h1 hal h2 h) ?_
  intro p e s m args below meth c s₁ X0 hexec hbytes hml hret hlk hnm hown hh0 W hP
  obtain ⟨rfl, hx⟩ := hP
  have v31 := hx.2.2.2.1.2.2.2
  have c1 : Steps p.tables e below (s₁.setTop (entryFrame m #[.ref x] 1)) (s₁.setTop (mkF m 1 #[.val (.ref x)] [.ref x])) := Steps.trans (entry rfl) (by
    show Steps p.tables e below (s₁.setTop (mkF m 0 #[.val (.ref x)] [])) _
    refine XS.aloadN X0.here hexec rfl (hb hbytes d0) rfl rfl ?_
    exact Steps.refl _)
  obtain ⟨T2, X2, q2, st2⟩ := X0.hget hexec hown (wk W (.fieldLink "java/lang/String" 9 "java/lang/String" "value" "[B")) (hx.mv X0.warmed.alike hh0).2.1 (g := (mkF m 1 #[.val (.ref x)] [.ref x])) rfl (rest := []) rfl (hb hbytes d1)
  have hh2 := q2.trans hh0
  have hx2 := hx.mv X2.warmed.alike hh2
  have c3 : Steps p.tables e below (s₁.setTop (entryFrame m #[.ref x] 1)) (T2.setTop (mkF m 5 #[.val (.ref x)] [.int (Int32.ofNat V.slots.size)])) := (c1.trans (st2 _ (Steps.refl _))).trans (by
    refine X2.alen hexec hx2.2.2.2.1 rfl rfl (hb hbytes d4) ?_
    exact Steps.refl _)
  have hz : V.slots.size = 0 ↔ n = 0 := by
    rcases hx.2.2.2.2.1 with ⟨-, q, -⟩ | ⟨-, q, -⟩ <;> omega
  by_cases h0 : n = 0
  · have c4 : Steps p.tables e below (s₁.setTop (entryFrame m #[.ref x] 1)) (T2.setTop (mkF m 13 #[.val (.ref x)] [.int 1])) := c3.trans (by
      refine XS.ifNo X2.here hexec rfl (hb hbytes d5) rfl (i0_ne_f (by rw [hz.mpr h0]; rfl)) ?_
      refine iconstV X2.here hexec rfl 1 (hb hbytes d8) (by decide) ?_
      refine XS.goto X2.here hexec rfl (pc0 := 9) rfl (hb hbytes d9) (by decide) rfl ?_
      exact Steps.refl _)
    exact ⟨T2, some (.int 1), _, _, _, X2, rfl, rfl, rfl, (fun h => by cases h), ⟨by rw [if_pos h0], hh2⟩, fun fs hl => c4.trans (X2.ireturnOut hexec hret rfl (Or.inr (Or.inl rfl)) (hb hbytes d13) hl)⟩
  · have c4 : Steps p.tables e below (s₁.setTop (entryFrame m #[.ref x] 1)) (T2.setTop (mkF m 13 #[.val (.ref x)] [.int 0])) := c3.trans (by
      refine XS.ifYes X2.here hexec rfl (pc0 := 5) rfl (hb hbytes d5) rfl (i0_ne_t (nz32 v31 (by omega))) (by decide) rfl ?_
      refine iconstV X2.here hexec rfl 0 (hb hbytes d12) (by decide) ?_
      exact Steps.refl _)
    exact ⟨T2, some (.int 0), _, _, _, X2, rfl, rfl, rfl, (fun h => by cases h), ⟨by rw [if_neg h0], hh2⟩, fun fs hl => c4.trans (X2.ireturnOut hexec hret rfl (Or.inr (Or.inl rfl)) (hb hbytes d13) hl)⟩
theorem pays {l : Launch} {R : Room} {p : Program} {e : Env} {below : List Frame} {s : State} {sargs : Array Value} {len W : Nat} (x t : Addr) (V : Cell) (cd : Int32) (n : Nat) (f : Nat → Int32) (htab : tab.before sargs s = true) (hfr : 1 ≤ R.frames) (hlo : W + 12 ≤ R.locals) :
    Back l R p e below s sargs yN len W (fun A₁ a₁ => A₁.cells + 0 ≤ R.cells ∧ A₁.slots + 0 ≤ R.slots ∧ P x t V cd n f a₁ A₁.U) (fun A₁ _ v₁ B₁ => E n v₁ A₁.U B₁.U ∧ B₁.locs = A₁.locs ++ [] ∧ B₁.cells = A₁.cells + 0 ∧ B₁.slots = A₁.slots + 0) :=
  (law l x t V cd n f).pays htab hfr (by omega)
end Emp
/-- what place i of a byte[]'s cell holds -/
def yv (A : Cell) (i : Nat) : Int32 := match A.slots[i]? with | some (.int x) => x | _ => 0
theorem yv_get {a : Addr} {A : Cell} {U : State} (h : XT.Arr .byte a A U) (ht : Typed .byte A) {i : Nat} (hi : i < A.slots.size) : A.slots[i]? = some (.int (yv A i)) := by
  have e := Array.getElem?_eq_getElem hi
  have f := ht i _ e
  unfold yv; rw [e]
  generalize A.slots[i] = v at f
  cases v <;> simp [fits] at f ⊢
/-- the two arrays are equal, place for place -/
def EqC (A B : Cell) : Prop := A.slots.size = B.slots.size ∧ ∀ i, i < A.slots.size → yv A i = yv B i
/-- a boolean that says whether p -/
def Says01 (q : Prop) (r : Option Value) (s u : State) : Prop := ∃ v : Int32, r = some (.int v) ∧ u.heap = s.heap ∧ ((v = 1 ∧ q) ∨ (v = 0 ∧ ¬ q))
theorem Says01.mv {q : Prop} : ∀ r (U U' V V' : State), U'.heap = U.heap → V.vm.Alike V'.vm → V'.heap = V.heap → Says01 q r U V → Says01 q r U' V' :=
  fun r U U' V V' h1 _ h2 ⟨v, a, b, c⟩ => ⟨v, a, by rw [h1, h2]; exact b, c⟩
namespace LEq
def yN : MethodName := ⟨"java/lang/StringLatin1", "equals", "([B[B)Z"⟩
abbrev yB : ByteArray := jdk_43_method_13_code
theorem d0 : decode yB 0 = .ok (.aload_n 0, 1) := by decide +kernel
theorem d1 : decode yB 1 = .ok (.arraylength, 1) := by decide +kernel
theorem d2 : decode yB 2 = .ok (.aload_n 1, 1) := by decide +kernel
theorem d3 : decode yB 3 = .ok (.arraylength, 1) := by decide +kernel
theorem d4 : decode yB 4 = .ok (.if_icmp (.ne) 30, 3) := by decide +kernel
theorem d7 : decode yB 7 = .ok (.iconst 0, 1) := by decide +kernel
theorem d8 : decode yB 8 = .ok (.istore_n 2, 1) := by decide +kernel
theorem d9 : decode yB 9 = .ok (.iload_n 2, 1) := by decide +kernel
theorem d10 : decode yB 10 = .ok (.aload_n 0, 1) := by decide +kernel
theorem d11 : decode yB 11 = .ok (.arraylength, 1) := by decide +kernel
theorem d12 : decode yB 12 = .ok (.if_icmp (.ge) 20, 3) := by decide +kernel
theorem d15 : decode yB 15 = .ok (.aload_n 0, 1) := by decide +kernel
theorem d16 : decode yB 16 = .ok (.iload_n 2, 1) := by decide +kernel
theorem d17 : decode yB 17 = .ok (.baload, 1) := by decide +kernel
theorem d18 : decode yB 18 = .ok (.aload_n 1, 1) := by decide +kernel
theorem d19 : decode yB 19 = .ok (.iload_n 2, 1) := by decide +kernel
theorem d20 : decode yB 20 = .ok (.baload, 1) := by decide +kernel
theorem d21 : decode yB 21 = .ok (.if_icmp (.eq) 5, 3) := by decide +kernel
theorem d24 : decode yB 24 = .ok (.iconst 0, 1) := by decide +kernel
theorem d25 : decode yB 25 = .ok (.ireturn, 1) := by decide +kernel
theorem d26 : decode yB 26 = .ok (.iinc 2 1, 3) := by decide +kernel
theorem d29 : decode yB 29 = .ok (.goto (-20), 3) := by decide +kernel
theorem d32 : decode yB 32 = .ok (.iconst 1, 1) := by decide +kernel
theorem d33 : decode yB 33 = .ok (.ireturn, 1) := by decide +kernel
theorem d34 : decode yB 34 = .ok (.iconst 0, 1) := by decide +kernel
theorem d35 : decode yB 35 = .ok (.ireturn, 1) := by decide +kernel
def site : List Cond := []
def tab : Cond := tabOf yN yB 3 (some .boolean) site
def P (a : Addr) (A : Cell) (b : Addr) (B : Cell) (args : Array Value) (s : State) : Prop := args = #[.ref a, .ref b] ∧ XT.Arr .byte a A s ∧ Typed .byte A ∧ XT.Arr .byte b B s ∧ Typed .byte B
/-- whether two byte[] are equal, place for place -/
theorem law (l : Launch) (a : Addr) (A : Cell) (b : Addr) (B : Cell) : Law l yN 2 2 0 0 yB 3 (some .boolean) site (P a A b B) (Says01 (EqC A B)) [] 0 0 := by
  refine Law.of_walk (plainFor_of_name (by decide +kernel)) (by decide +kernel) (by decide +kernel) (by decide) (fun _ _ h => by rw [h.1]; rfl) (fun _ U U' hal hh h => ⟨h.1, h.2.1.mv hal hh, h.2.2.1, h.2.2.2.1.mv hal hh, h.2.2.2.2⟩) (fun r U U' V V' h1 hal h2 h => Says01.mv r U U' V V' h1 hal h2 h) ?_
  intro p e s m args below meth c s₁ X0 hexec hbytes hml hret hlk hnm hown hh0 W hP
  obtain ⟨rfl, hA, tA, hB, tB⟩ := hP
  have a31 := hA.2.2.2
  have b31 := hB.2.2.2
  have hA0 := hA.mv X0.warmed.alike hh0
  have hB0 := hB.mv X0.warmed.alike hh0
  have c1 : Steps p.tables e below (s₁.setTop (entryFrame m #[.ref a, .ref b] 3)) (s₁.setTop (mkF m 0 #[.val (.ref a), .val (.ref b), .unset] [])) := entry rfl
  have c2 : Steps p.tables e below (s₁.setTop (entryFrame m #[.ref a, .ref b] 3)) (s₁.setTop (mkF m 4 #[.val (.ref a), .val (.ref b), .unset] [.int (Int32.ofNat B.slots.size), .int (Int32.ofNat A.slots.size)])) := c1.trans (by
    refine XS.aloadN X0.here hexec rfl (hb hbytes d0) rfl rfl ?_
    refine X0.alen hexec hA0 rfl rfl (hb hbytes d1) ?_
    refine XS.aloadN X0.here hexec rfl (hb hbytes d2) rfl rfl ?_
    refine X0.alen hexec hB0 rfl rfl (hb hbytes d3) ?_
    exact Steps.refl _)
  by_cases hs : A.slots.size = B.slots.size
  · have c3 : Steps p.tables e below (s₁.setTop (entryFrame m #[.ref a, .ref b] 3)) (s₁.setTop (mkF m 9 #[.val (.ref a), .val (.ref b), .val (.int 0)] [])) := c2.trans (by
      refine XS.icmpNo X0.here hexec rfl (hb hbytes d4) rfl (ii_ne_f (by rw [hs])) ?_
      refine iconstV X0.here hexec rfl 0 (hb hbytes d7) (by decide) ?_
      refine XS.istoreN X0.here hexec rfl (hb hbytes d8) rfl rfl ?_
      exact Steps.refl _)
    have loop : ∀ (r i : Nat), i + r = A.slots.size → (∀ j, j < i → yv A j = yv B j) → Steps p.tables e below (s₁.setTop (entryFrame m #[.ref a, .ref b] 3)) (s₁.setTop (mkF m 9 #[.val (.ref a), .val (.ref b), .val (.int (Int32.ofNat i))] [])) → ∃ (pc : Nat) (Ls : Array Slot) (v : Int32), (pc = 25 ∨ pc = 33) ∧ ((v = 1 ∧ EqC A B) ∨ (v = 0 ∧ ¬ EqC A B)) ∧ Steps p.tables e below (s₁.setTop (entryFrame m #[.ref a, .ref b] 3)) (s₁.setTop (mkF m pc Ls [.int v])) := by
      intro r
      induction r with
      | zero =>
        intro i hi he cl
        exact ⟨33, _, 1, Or.inr rfl, Or.inl ⟨rfl, hs, fun j hj => he j (by omega)⟩, cl.trans (by
          refine XS.iloadN X0.here hexec rfl (hb hbytes d9) rfl ?_
          refine XS.aloadN X0.here hexec rfl (hb hbytes d10) rfl rfl ?_
          refine X0.alen hexec hA0 rfl rfl (hb hbytes d11) ?_
          refine XS.icmpYes X0.here hexec rfl (pc0 := 12) rfl (hb hbytes d12) rfl (ii_ge_t (nlt32 (by omega) (by omega))) (by decide) rfl ?_
          refine iconstV X0.here hexec rfl 1 (hb hbytes d32) (by decide) ?_
          exact Steps.refl _)⟩
      | succ r ih =>
        intro i hi he cl
        have c4 : Steps p.tables e below (s₁.setTop (entryFrame m #[.ref a, .ref b] 3)) (s₁.setTop (mkF m 21 #[.val (.ref a), .val (.ref b), .val (.int (Int32.ofNat i))] [.int (yv B i), .int (yv A i)])) := cl.trans (by
          refine XS.iloadN X0.here hexec rfl (hb hbytes d9) rfl ?_
          refine XS.aloadN X0.here hexec rfl (hb hbytes d10) rfl rfl ?_
          refine X0.alen hexec hA0 rfl rfl (hb hbytes d11) ?_
          refine XS.icmpNo X0.here hexec rfl (hb hbytes d12) rfl (ii_ge_f (lt32 (by omega) (by omega))) ?_
          refine XS.aloadN X0.here hexec rfl (hb hbytes d15) rfl rfl ?_
          refine XS.iloadN X0.here hexec rfl (hb hbytes d16) rfl ?_
          refine X0.aget hexec hA0 rfl (yv_get hA tA (i := i) (by omega)) rfl rfl (hb hbytes d17) ?_
          refine XS.aloadN X0.here hexec rfl (hb hbytes d18) rfl rfl ?_
          refine XS.iloadN X0.here hexec rfl (hb hbytes d19) rfl ?_
          refine X0.aget hexec hB0 rfl (yv_get hB tB (i := i) (by omega)) rfl rfl (hb hbytes d20) ?_
          exact Steps.refl _)
        by_cases hv : yv A i = yv B i
        · have c5 : Steps p.tables e below (s₁.setTop (entryFrame m #[.ref a, .ref b] 3)) (s₁.setTop (mkF m 9 #[.val (.ref a), .val (.ref b), .val (.int (Int32.ofNat i + 1))] [])) := c4.trans (by
            refine XS.icmpYes X0.here hexec rfl (pc0 := 21) rfl (hb hbytes d21) rfl (ii_eq_t hv) (by decide) rfl ?_
            refine iincV X0.here hexec rfl 1 (hb hbytes d26) (by decide) rfl rfl ?_
            refine XS.goto X0.here hexec rfl (pc0 := 29) rfl (hb hbytes d29) (by decide) rfl ?_
            exact Steps.refl _)
          rw [succ32] at c5
          exact ih (i + 1) (by omega) (fun j hj => by
            by_cases e : j = i
            · rw [e]; exact hv
            · exact he j (by omega)) c5
        · exact ⟨25, _, 0, Or.inl rfl, Or.inr ⟨rfl, fun q => hv (q.2 i (by omega))⟩, c4.trans (by
            refine XS.icmpNo X0.here hexec rfl (hb hbytes d21) rfl (ii_eq_f hv) ?_
            refine iconstV X0.here hexec rfl 0 (hb hbytes d24) (by decide) ?_
            exact Steps.refl _)⟩
    obtain ⟨pc, Ls, v, hpc, hv, cz⟩ := loop A.slots.size 0 (by omega) (fun j hj => absurd hj (Nat.not_lt_zero j)) c3
    have nv : narrow .boolean (.int v) = .int v := by rcases hv with ⟨rfl, -⟩ | ⟨rfl, -⟩ <;> rfl
    rcases hpc with rfl | rfl
    · exact ⟨s₁, some (.int v), _, _, _, X0, rfl, rfl, rfl, (fun h => by cases h), ⟨v, rfl, hh0, hv⟩, fun fs hl => cz.trans (X0.ireturnOut hexec hret nv (Or.inr (Or.inl rfl)) (hb hbytes d25) hl)⟩
    · exact ⟨s₁, some (.int v), _, _, _, X0, rfl, rfl, rfl, (fun h => by cases h), ⟨v, rfl, hh0, hv⟩, fun fs hl => cz.trans (X0.ireturnOut hexec hret nv (Or.inr (Or.inl rfl)) (hb hbytes d33) hl)⟩
  · have c3 : Steps p.tables e below (s₁.setTop (entryFrame m #[.ref a, .ref b] 3)) (s₁.setTop (mkF m 35 #[.val (.ref a), .val (.ref b), .unset] [.int 0])) := c2.trans (by
      refine XS.icmpYes X0.here hexec rfl (pc0 := 4) rfl (hb hbytes d4) rfl (ii_ne_t (ne32 a31 b31 hs)) (by decide) rfl ?_
      refine iconstV X0.here hexec rfl 0 (hb hbytes d34) (by decide) ?_
      exact Steps.refl _)
    exact ⟨s₁, some (.int 0), _, _, _, X0, rfl, rfl, rfl, (fun h => by cases h), ⟨0, rfl, hh0, Or.inr ⟨rfl, fun q => hs q.1⟩⟩, fun fs hl => c3.trans (X0.ireturnOut hexec hret rfl (Or.inr (Or.inl rfl)) (hb hbytes d35) hl)⟩
end LEq
theorem Cod.ty {cd : Int32} {n : Nat} {f : Nat → Int32} {V : Cell} (h : Cod cd n f V) : Typed .byte V := fun i v hv => by
  have hi : i < V.slots.size := (Array.getElem?_eq_some_iff.mp hv).1
  rcases h with ⟨-, k1, k2⟩ | ⟨-, k1, k2, -⟩
  · rw [(k2 i (by omega)).1] at hv; cases hv; exact fits_lo8 _
  · rcases Nat.mod_two_eq_zero_or_one i with e | e
    · obtain ⟨j, rfl⟩ : ∃ j, i = 2 * j := ⟨i / 2, by omega⟩
      rw [(k2 j (by omega)).1] at hv; cases hv; exact fits_lo8 _
    · obtain ⟨j, rfl⟩ : ∃ j, i = 2 * j + 1 := ⟨i / 2, by omega⟩
      rw [(k2 j (by omega)).2] at hv; cases hv; exact fits_lo8 _
/-- the same text -/
def SameT (n : Nat) (f : Nat → Int32) (k : Nat) (g : Nat → Int32) : Prop := n = k ∧ ∀ j, j < n → f j = g j
theorem lo8_inj {x y : Int32} (h0 : ¬ x < 0) (h1 : ¬ 255 < x) (k0 : ¬ y < 0) (k1 : ¬ 255 < y) (h : lo8 x = lo8 y) : x = y := by
  rw [← lo8_mask h0 h1, ← lo8_mask k0 k1, h]
/-- arrays coded by one coder are equal just where the texts are -/
theorem Cod.eqv {cd : Int32} {n k : Nat} {f g : Nat → Int32} {V V' : Cell} (h : Cod cd n f V) (h' : Cod cd k g V') (hf : ∀ j, j < n → ¬ f j < 0 ∧ ¬ 65535 < f j) (hg : ∀ j, j < k → ¬ g j < 0 ∧ ¬ 65535 < g j) : EqC V V' ↔ SameT n f k g := by
  have yvv : ∀ {W : Cell} {i : Nat} {x : Int32}, W.slots[i]? = some (.int x) → yv W i = x := fun q => by unfold yv; rw [q]
  rcases h with ⟨rfl, k1, k2⟩ | ⟨rfl, k1, k2, -⟩
  · rcases h' with ⟨-, m1, m2⟩ | ⟨e, -⟩
    · constructor
      · rintro ⟨e1, e2⟩
        refine ⟨by omega, fun j hj => ?_⟩
        have q := e2 j (by omega)
        rw [yvv (k2 j hj).1, yvv (m2 j (by omega)).1] at q
        exact lo8_inj (hf j hj).1 (k2 j hj).2 (hg j (by omega)).1 (m2 j (by omega)).2 q
      · rintro ⟨rfl, e2⟩
        refine ⟨by omega, fun j hj => ?_⟩
        rw [yvv (k2 j (by omega)).1, yvv (m2 j (by omega)).1, e2 j (by omega)]
    · exact absurd e (by decide)
  · rcases h' with ⟨e, -⟩ | ⟨-, m1, m2, -⟩
    · exact absurd e (by decide)
    · constructor
      · rintro ⟨e1, e2⟩
        refine ⟨by omega, fun j hj => ?_⟩
        have q1 := e2 (2 * j) (by omega)
        have q2 := e2 (2 * j + 1) (by omega)
        rw [yvv (k2 j hj).1, yvv (m2 j (by omega)).1] at q1
        rw [yvv (k2 j hj).2, yvv (m2 j (by omega)).2] at q2
        rw [← pair_says (hf j hj).1 (hf j hj).2, ← pair_says (hg j (by omega)).1 (hg j (by omega)).2, q1, q2]
      · rintro ⟨rfl, e2⟩
        refine ⟨by omega, fun i hi => ?_⟩
        rcases Nat.mod_two_eq_zero_or_one i with e | e
        · obtain ⟨j, rfl⟩ : ∃ j, i = 2 * j := ⟨i / 2, by omega⟩
          rw [yvv (k2 j (by omega)).1, yvv (m2 j (by omega)).1, e2 j (by omega)]
        · obtain ⟨j, rfl⟩ : ∃ j, i = 2 * j + 1 := ⟨i / 2, by omega⟩
          rw [yvv (k2 j (by omega)).2, yvv (m2 j (by omega)).2, e2 j (by omega)]
/-- two codings differ: so do the texts -/
theorem Cod.dif {cd cd' : Int32} {n k : Nat} {f g : Nat → Int32} {V V' : Cell} (h : Cod cd n f V) (h' : Cod cd' k g V') (hne : ¬ cd = cd') : ¬ SameT n f k g := by
  rintro ⟨rfl, e⟩
  rcases h with ⟨rfl, -, k2⟩ | ⟨rfl, -, -, j, hj, hw⟩
  · rcases h' with ⟨rfl, -⟩ | ⟨-, -, -, j, hj, hw⟩
    · exact hne rfl
    · exact (k2 j hj).2 (by rw [e j hj]; exact hw)
  · rcases h' with ⟨-, -, m2⟩ | ⟨rfl, -⟩
    · exact (m2 j hj).2 (by rw [← e j hj]; exact hw)
    · exact hne rfl
/-- an object of exactly C is an instance of C -/
theorem cinst {p : Program} {l : Launch} {e : Env} {R : Room} {s : State} {m : MethodId} {args : Array Value} {below : List Frame} {meth : Method} {c : Code} {T : State} {locs : List Loc} {cells slots : Nat} (X : Stand p l e R s m args below meth c T locs cells slots) (hexec : p.tables.exec = Jvm.exec) {own C : String} {index : Nat} (hown : s.vm.findClass own = some m.cls) (hlink : (Cond.classLink own index C).before args s = true) {a : Addr} (hE : Exact C a T)
    {g : JFrame} (hg : g.method = m) {rest : List Value} (hstack : g.stack = .ref a :: rest) (hdg : decode c.code g.pc = .ok (.instanceof index, 3)) :
    ∃ T', Stand p l e R s m args below meth c T' locs cells slots ∧ T'.heap = T.heap ∧ ∀ target, Steps p.tables e below (T'.setTop { g with pc := g.pc + 3, stack := .int 1 :: rest }) target → Steps p.tables e below (T.setTop g) target := by
  obtain ⟨cB, h1, D, h2, h3, h4⟩ := hE
  have h1' : s.vm.findClass C = some cB := by rw [← X.warmed.alike.findClass]; exact h1
  obtain ⟨vm', X', st⟩ := X.instanceofYes hexec hown hlink h2 h4 h1' (by rw [h3]; exact Jvm.Free.SB.assignable_self _ _) hg hstack hdg
  exact ⟨_, X', rfl, st⟩
theorem cself {p : Program} {l : Launch} {e : Env} {R : Room} {s : State} {m : MethodId} {args : Array Value} {below : List Frame} {meth : Method} {c : Code} {T : State} {locs : List Loc} {cells slots : Nat} (X : Stand p l e R s m args below meth c T locs cells slots) (hexec : p.tables.exec = Jvm.exec) {own C : String} {index : Nat} (hown : s.vm.findClass own = some m.cls) (hlink : (Cond.classLink own index C).before args s = true) {a : Addr} (hE : Exact C a T)
    {g : JFrame} (hg : g.method = m) {rest : List Value} (hstack : g.stack = .ref a :: rest) (hdg : decode c.code g.pc = .ok (.checkcast index, 3)) :
    ∃ T', Stand p l e R s m args below meth c T' locs cells slots ∧ T'.heap = T.heap ∧ ∀ target, Steps p.tables e below (T'.setTop { g with pc := g.pc + 3, stack := .ref a :: rest }) target → Steps p.tables e below (T.setTop g) target := by
  obtain ⟨cB, h1, D, h2, h3, h4⟩ := hE
  have h1' : s.vm.findClass C = some cB := by rw [← X.warmed.alike.findClass]; exact h1
  obtain ⟨vm', X', st⟩ := X.checkcastYes hexec hown hlink h2 h4 h1' (by rw [h3]; exact Jvm.Free.SB.assignable_self _ _) hg hstack hdg
  exact ⟨_, X', rfl, fun t h => st t (by rw [← hstack] at h; exact h)⟩
namespace SEq
def yN : MethodName := ⟨"java/lang/String", "equals", "(Ljava/lang/Object;)Z"⟩
abbrev yB : ByteArray := jdk_42_method_66_code
theorem d0 : decode yB 0 = .ok (.aload_n 0, 1) := by decide +kernel
theorem d1 : decode yB 1 = .ok (.aload_n 1, 1) := by decide +kernel
theorem d2 : decode yB 2 = .ok (.if_acmp (.ne) 5, 3) := by decide +kernel
theorem d5 : decode yB 5 = .ok (.iconst 1, 1) := by decide +kernel
theorem d6 : decode yB 6 = .ok (.ireturn, 1) := by decide +kernel
theorem d7 : decode yB 7 = .ok (.aload_n 1, 1) := by decide +kernel
theorem d8 : decode yB 8 = .ok (.instanceof 10, 3) := by decide +kernel
theorem d11 : decode yB 11 = .ok (.ifCond (.eq) 43, 3) := by decide +kernel
theorem d14 : decode yB 14 = .ok (.aload_n 1, 1) := by decide +kernel
theorem d15 : decode yB 15 = .ok (.checkcast 10, 3) := by decide +kernel
theorem d18 : decode yB 18 = .ok (.astore_n 2, 1) := by decide +kernel
theorem d19 : decode yB 19 = .ok (.getstatic 38, 3) := by decide +kernel
theorem d22 : decode yB 22 = .ok (.ifCond (.eq) 14, 3) := by decide +kernel
theorem d25 : decode yB 25 = .ok (.aload_n 0, 1) := by decide +kernel
theorem d26 : decode yB 26 = .ok (.getfield 15, 3) := by decide +kernel
theorem d29 : decode yB 29 = .ok (.aload_n 2, 1) := by decide +kernel
theorem d30 : decode yB 30 = .ok (.getfield 15, 3) := by decide +kernel
theorem d33 : decode yB 33 = .ok (.if_icmp (.ne) 21, 3) := by decide +kernel
theorem d36 : decode yB 36 = .ok (.aload_n 0, 1) := by decide +kernel
theorem d37 : decode yB 37 = .ok (.getfield 9, 3) := by decide +kernel
theorem d40 : decode yB 40 = .ok (.aload_n 2, 1) := by decide +kernel
theorem d41 : decode yB 41 = .ok (.getfield 9, 3) := by decide +kernel
theorem d44 : decode yB 44 = .ok (.invokestatic 541, 3) := by decide +kernel
theorem d47 : decode yB 47 = .ok (.ifCond (.eq) 7, 3) := by decide +kernel
theorem d50 : decode yB 50 = .ok (.iconst 1, 1) := by decide +kernel
theorem d51 : decode yB 51 = .ok (.goto 4, 3) := by decide +kernel
theorem d54 : decode yB 54 = .ok (.iconst 0, 1) := by decide +kernel
theorem d55 : decode yB 55 = .ok (.ireturn, 1) := by decide +kernel
def site : List Cond := [.classLink "java/lang/String" 10 "java/lang/String", .fieldLink "java/lang/String" 38 "java/lang/String" "COMPACT_STRINGS" "Z", .fieldLink "java/lang/String" 15 "java/lang/String" "coder" "B", .fieldLink "java/lang/String" 9 "java/lang/String" "value" "[B", LEq.tab] ++ staticW "java/lang/String" 541 LEq.yN
def tab : Cond := tabOf yN yB 3 (some .boolean) site
def P (x t : Addr) (V : Cell) (cd : Int32) (n : Nat) (f : Nat → Int32) (y t' : Addr) (V' : Cell) (cd' : Int32) (k : Nat) (g : Nat → Int32) (z : Int32) (args : Array Value) (s : State) : Prop := args = #[.ref x, .ref y] ∧ Txt x t V cd n f s ∧ Txt y t' V' cd' k g s ∧ StaticIs s "java/lang/String" "COMPACT_STRINGS" "Z" (.int z) ∧ ¬ z = 0
/-- equals(Object) of two Strings: whether the texts are the same -/
theorem law (l : Launch) (x t : Addr) (V : Cell) (cd : Int32) (n : Nat) (f : Nat → Int32) (y t' : Addr) (V' : Cell) (cd' : Int32) (k : Nat) (g : Nat → Int32) (z : Int32) : Law l yN 2 1 1 14 yB 3 (some .boolean) site (P x t V cd n f y t' V' cd' k g z) (Says01 (SameT n f k g)) [] 0 0 := by
  refine Law.of_walk (plainFor_of_name (by decide +kernel)) (by decide +kernel) (by decide +kernel) (by decide) (fun _ _ h => by rw [h.1]; rfl) (fun _ U U' hal hh h => ⟨h.1, h.2.1.mv hal hh, h.2.2.1.mv hal hh, h.2.2.2.1.there hal hh, h.2.2.2.2⟩) (fun r U U' V V' h1 hal h2 h => Says01.mv r U U' V V' h1 hal h2 h) ?_
  intro p e s m args below meth c s₁ X0 hexec hbytes hml hret hlk hnm hown hh0 W hP
  obtain ⟨rfl, hx, hy, s1, hz⟩ := hP
  have c1 : Steps p.tables e below (s₁.setTop (entryFrame m #[.ref x, .ref y] 3)) (s₁.setTop (mkF m 2 #[.val (.ref x), .val (.ref y), .unset] [.ref y, .ref x])) := Steps.trans (entry rfl) (by
    show Steps p.tables e below (s₁.setTop (mkF m 0 #[.val (.ref x), .val (.ref y), .unset] [])) _
    refine XS.aloadN X0.here hexec rfl (hb hbytes d0) rfl rfl ?_
    refine XS.aloadN X0.here hexec rfl (hb hbytes d1) rfl rfl ?_
    exact Steps.refl _)
  by_cases hxy : x = y
  · have c2 : Steps p.tables e below (s₁.setTop (entryFrame m #[.ref x, .ref y] 3)) (s₁.setTop (mkF m 6 #[.val (.ref x), .val (.ref y), .unset] [.int 1])) := c1.trans (by
      refine acmpNo X0.here hexec rfl (hb hbytes d2) rfl rfl rfl (by simp [acmp, hxy]) ?_
      refine iconstV X0.here hexec rfl 1 (hb hbytes d5) (by decide) ?_
      exact Steps.refl _)
    subst hxy
    have ec : cd = cd' := by
      obtain ⟨D, fd, a1, a2, a3⟩ := hx.2.2.1
      obtain ⟨D', fd', b1, b2, b3⟩ := hy.2.2.1
      cases a1.symm.trans b1
      obtain ⟨q1, q2, q3, q4⟩ := a2.1
      obtain ⟨r1, r2, r3, r4⟩ := b2.1
      cases q4.symm.trans r4
      cases a3.symm.trans b3; rfl
    have et : t = t' := by
      obtain ⟨D, fd, a1, a2, a3⟩ := hx.2.1
      obtain ⟨D', fd', b1, b2, b3⟩ := hy.2.1
      cases a1.symm.trans b1
      obtain ⟨q1, q2, q3, q4⟩ := a2.1
      obtain ⟨r1, r2, r3, r4⟩ := b2.1
      cases q4.symm.trans r4
      cases a3.symm.trans b3; rfl
    subst ec et
    have ev : V = V' := by cases hx.2.2.2.1.1.symm.trans hy.2.2.2.1.1; rfl
    subst ev
    have hs : SameT n f k g := (Cod.eqv hx.2.2.2.2.1 hy.2.2.2.2.1 hx.2.2.2.2.2 hy.2.2.2.2.2).mp ⟨rfl, fun _ _ => rfl⟩
    exact ⟨s₁, some (.int 1), _, _, _, X0, rfl, rfl, rfl, (fun h => by cases h), ⟨1, rfl, hh0, Or.inl ⟨rfl, hs⟩⟩, fun fs hl => c2.trans (X0.ireturnOut hexec hret rfl (Or.inr (Or.inl rfl)) (hb hbytes d6) hl)⟩
  · have c2 : Steps p.tables e below (s₁.setTop (entryFrame m #[.ref x, .ref y] 3)) (s₁.setTop (mkF m 8 #[.val (.ref x), .val (.ref y), .unset] [.ref y])) := c1.trans (by
      refine acmpYes X0.here hexec rfl (pc0 := 2) rfl (hb hbytes d2) rfl rfl rfl (by simp [acmp, hxy]) (by decide) rfl ?_
      refine XS.aloadN X0.here hexec rfl (hb hbytes d7) rfl rfl ?_
      exact Steps.refl _)
    obtain ⟨T3, X3, q3, st3⟩ := cinst X0 hexec hown (wk W (.classLink "java/lang/String" 10 "java/lang/String")) (hy.mv X0.warmed.alike hh0).1 (g := (mkF m 8 #[.val (.ref x), .val (.ref y), .unset] [.ref y])) rfl (rest := []) rfl (hb hbytes d8)
    have hh3 := q3.trans hh0
    have c4 : Steps p.tables e below (s₁.setTop (entryFrame m #[.ref x, .ref y] 3)) (T3.setTop (mkF m 15 #[.val (.ref x), .val (.ref y), .unset] [.ref y])) := (c2.trans (st3 _ (Steps.refl _))).trans (by
      refine XS.ifNo X3.here hexec rfl (hb hbytes d11) rfl (i0_eq_f (by decide)) ?_
      refine XS.aloadN X3.here hexec rfl (hb hbytes d14) rfl rfl ?_
      exact Steps.refl _)
    obtain ⟨T5, X5, q5, st5⟩ := cself X3 hexec hown (wk W (.classLink "java/lang/String" 10 "java/lang/String")) (hy.mv X3.warmed.alike hh3).1 (g := (mkF m 15 #[.val (.ref x), .val (.ref y), .unset] [.ref y])) rfl (rest := []) rfl (hb hbytes d15)
    have hh5 := q5.trans hh3
    have c6 : Steps p.tables e below (s₁.setTop (entryFrame m #[.ref x, .ref y] 3)) (T5.setTop (mkF m 19 #[.val (.ref x), .val (.ref y), .val (.ref y)] [])) := (c4.trans (st5 _ (Steps.refl _))).trans (by
      refine XS.astoreN X5.here hexec rfl (hb hbytes d18) rfl rfl rfl ?_
      exact Steps.refl _)
    obtain ⟨T7, X7, q7, st7⟩ := X5.sget hexec hown (wk W (.fieldLink "java/lang/String" 38 "java/lang/String" "COMPACT_STRINGS" "Z")) s1 (fun _ _ h => by rw [hh5]; exact h) (g := (mkF m 19 #[.val (.ref x), .val (.ref y), .val (.ref y)] [])) rfl (hb hbytes d19)
    have hh7 := q7.trans hh5
    have c8 : Steps p.tables e below (s₁.setTop (entryFrame m #[.ref x, .ref y] 3)) (T7.setTop (mkF m 26 #[.val (.ref x), .val (.ref y), .val (.ref y)] [.ref x])) := (c6.trans (st7 _ (Steps.refl _))).trans (by
      refine XS.ifNo X7.here hexec rfl (hb hbytes d22) rfl (i0_eq_f hz) ?_
      refine XS.aloadN X7.here hexec rfl (hb hbytes d25) rfl rfl ?_
      exact Steps.refl _)
    obtain ⟨T9, X9, q9, st9⟩ := X7.hget hexec hown (wk W (.fieldLink "java/lang/String" 15 "java/lang/String" "coder" "B")) (hx.mv X7.warmed.alike hh7).2.2.1 (g := (mkF m 26 #[.val (.ref x), .val (.ref y), .val (.ref y)] [.ref x])) rfl (rest := []) rfl (hb hbytes d26)
    have hh9 := q9.trans hh7
    have c10 : Steps p.tables e below (s₁.setTop (entryFrame m #[.ref x, .ref y] 3)) (T9.setTop (mkF m 30 #[.val (.ref x), .val (.ref y), .val (.ref y)] [.ref y, .int cd])) := (c8.trans (st9 _ (Steps.refl _))).trans (by
      refine XS.aloadN X9.here hexec rfl (hb hbytes d29) rfl rfl ?_
      exact Steps.refl _)
    obtain ⟨T11, X11, q11, st11⟩ := X9.hget hexec hown (wk W (.fieldLink "java/lang/String" 15 "java/lang/String" "coder" "B")) (hy.mv X9.warmed.alike hh9).2.2.1 (g := (mkF m 30 #[.val (.ref x), .val (.ref y), .val (.ref y)] [.ref y, .int cd])) rfl (rest := [.int cd]) rfl (hb hbytes d30)
    have hh11 := q11.trans hh9
    have c12 : Steps p.tables e below (s₁.setTop (entryFrame m #[.ref x, .ref y] 3)) (T11.setTop (mkF m 33 #[.val (.ref x), .val (.ref y), .val (.ref y)] [.int cd', .int cd])) := c10.trans (st11 _ (Steps.refl _))
    by_cases hcd : cd = cd'
    · subst hcd
      have c13 : Steps p.tables e below (s₁.setTop (entryFrame m #[.ref x, .ref y] 3)) (T11.setTop (mkF m 37 #[.val (.ref x), .val (.ref y), .val (.ref y)] [.ref x])) := c12.trans (by
        refine XS.icmpNo X11.here hexec rfl (hb hbytes d33) rfl (ii_ne_f rfl) ?_
        refine XS.aloadN X11.here hexec rfl (hb hbytes d36) rfl rfl ?_
        exact Steps.refl _)
      obtain ⟨T14, X14, q14, st14⟩ := X11.hget hexec hown (wk W (.fieldLink "java/lang/String" 9 "java/lang/String" "value" "[B")) (hx.mv X11.warmed.alike hh11).2.1 (g := (mkF m 37 #[.val (.ref x), .val (.ref y), .val (.ref y)] [.ref x])) rfl (rest := []) rfl (hb hbytes d37)
      have hh14 := q14.trans hh11
      have c15 : Steps p.tables e below (s₁.setTop (entryFrame m #[.ref x, .ref y] 3)) (T14.setTop (mkF m 41 #[.val (.ref x), .val (.ref y), .val (.ref y)] [.ref y, .ref t])) := (c13.trans (st14 _ (Steps.refl _))).trans (by
        refine XS.aloadN X14.here hexec rfl (hb hbytes d40) rfl rfl ?_
        exact Steps.refl _)
      obtain ⟨T16, X16, q16, st16⟩ := X14.hget hexec hown (wk W (.fieldLink "java/lang/String" 9 "java/lang/String" "value" "[B")) (hy.mv X14.warmed.alike hh14).2.1 (g := (mkF m 41 #[.val (.ref x), .val (.ref y), .val (.ref y)] [.ref y, .ref t])) rfl (rest := [.ref t]) rfl (hb hbytes d41)
      have hh16 := q16.trans hh14
      have c17 : Steps p.tables e below (s₁.setTop (entryFrame m #[.ref x, .ref y] 3)) (T16.setTop (mkF m 44 #[.val (.ref x), .val (.ref y), .val (.ref y)] [.ref t', .ref t])) := c15.trans (st16 _ (Steps.refl _))
      obtain ⟨v18, T18, X18, E18, g18⟩ := X16.callS hexec (LEq.law l t V t' V') hown (wks W (staticW "java/lang/String" 541 LEq.yN)) (wk W LEq.tab) (W := 0) (Nat.le_of_ble_eq_true rfl) (Nat.le_of_ble_eq_true rfl) (Nat.le_refl _) (Nat.le_refl _) (g := (mkF m 44 #[.val (.ref x), .val (.ref y), .val (.ref y)] [.ref t', .ref t])) rfl (by rw [hml]; rfl) c17 (argsL := [.ref t, .ref t']) (rest := []) rfl rfl (by show 2 * 0 + 0 ≤ _; decide) (hb hbytes d44) (⟨rfl, hx.2.2.2.1.mv X16.warmed.alike hh16, hx.2.2.2.2.1.ty, hy.2.2.2.1.mv X16.warmed.alike hh16, hy.2.2.2.2.1.ty⟩)
      obtain ⟨v, rfl, q18, hv⟩ := E18
      have iff := Cod.eqv hx.2.2.2.2.1 hy.2.2.2.2.1 hx.2.2.2.2.2 hy.2.2.2.2.2
      rcases hv with ⟨rfl, he⟩ | ⟨rfl, he⟩
      · have c19 : Steps p.tables e below (s₁.setTop (entryFrame m #[.ref x, .ref y] 3)) (T18.setTop (mkF m 55 #[.val (.ref x), .val (.ref y), .val (.ref y)] [.int 1])) := Steps.trans g18 (by
          refine XS.ifNo X18.here hexec rfl (hb hbytes d47) rfl (i0_eq_f (by decide)) ?_
          refine iconstV X18.here hexec rfl 1 (hb hbytes d50) (by decide) ?_
          refine XS.goto X18.here hexec rfl (pc0 := 51) rfl (hb hbytes d51) (by decide) rfl ?_
          exact Steps.refl _)
        exact ⟨T18, some (.int 1), _, _, _, X18, rfl, rfl, rfl, (fun h => by cases h), ⟨1, rfl, q18.trans hh16, Or.inl ⟨rfl, iff.mp he⟩⟩, fun fs hl => c19.trans (X18.ireturnOut hexec hret rfl (Or.inr (Or.inl rfl)) (hb hbytes d55) hl)⟩
      · have c19 : Steps p.tables e below (s₁.setTop (entryFrame m #[.ref x, .ref y] 3)) (T18.setTop (mkF m 55 #[.val (.ref x), .val (.ref y), .val (.ref y)] [.int 0])) := Steps.trans g18 (by
          refine XS.ifYes X18.here hexec rfl (pc0 := 47) rfl (hb hbytes d47) rfl (i0_eq_t rfl) (by decide) rfl ?_
          refine iconstV X18.here hexec rfl 0 (hb hbytes d54) (by decide) ?_
          exact Steps.refl _)
        exact ⟨T18, some (.int 0), _, _, _, X18, rfl, rfl, rfl, (fun h => by cases h), ⟨0, rfl, q18.trans hh16, Or.inr ⟨rfl, fun q => he (iff.mpr q)⟩⟩, fun fs hl => c19.trans (X18.ireturnOut hexec hret rfl (Or.inr (Or.inl rfl)) (hb hbytes d55) hl)⟩
    · have c13 : Steps p.tables e below (s₁.setTop (entryFrame m #[.ref x, .ref y] 3)) (T11.setTop (mkF m 55 #[.val (.ref x), .val (.ref y), .val (.ref y)] [.int 0])) := c12.trans (by
        refine XS.icmpYes X11.here hexec rfl (pc0 := 33) rfl (hb hbytes d33) rfl (ii_ne_t hcd) (by decide) rfl ?_
        refine iconstV X11.here hexec rfl 0 (hb hbytes d54) (by decide) ?_
        exact Steps.refl _)
      exact ⟨T11, some (.int 0), _, _, _, X11, rfl, rfl, rfl, (fun h => by cases h), ⟨0, rfl, hh11, Or.inr ⟨rfl, Cod.dif hx.2.2.2.2.1 hy.2.2.2.2.1 hcd⟩⟩, fun fs hl => c13.trans (X11.ireturnOut hexec hret rfl (Or.inr (Or.inl rfl)) (hb hbytes d55) hl)⟩
theorem pays {l : Launch} {R : Room} {p : Program} {e : Env} {below : List Frame} {s : State} {sargs : Array Value} {len W : Nat} (x t : Addr) (V : Cell) (cd : Int32) (n : Nat) (f : Nat → Int32) (y t' : Addr) (V' : Cell) (cd' : Int32) (k : Nat) (g : Nat → Int32) (z : Int32) (htab : tab.before sargs s = true) (hfr : 2 ≤ R.frames) (hlo : W + 28 ≤ R.locals) :
    Back l R p e below s sargs yN len W (fun A₁ a₁ => A₁.cells + 0 ≤ R.cells ∧ A₁.slots + 0 ≤ R.slots ∧ P x t V cd n f y t' V' cd' k g z a₁ A₁.U) (fun A₁ _ v₁ B₁ => Says01 (SameT n f k g) v₁ A₁.U B₁.U ∧ B₁.locs = A₁.locs ++ [] ∧ B₁.cells = A₁.cells + 0 ∧ B₁.slots = A₁.slots + 0) :=
  (law l x t V cd n f y t' V' cd' k g z).pays htab hfr (by omega)
end SEq
end StrChars
namespace StrChars.Road
open Jvm Sem ClassFile Op Lib Jvm.Stand Jvm.Free Jvm.Free.XT
open Jvm.Lib.Cold (StaticIs)
/-- the words of String.isEmpty() -/
abbrev wordsEmp : List Jvm.Cond := [.code Emp.yN Emp.yB 1 (some .boolean), .initialized ST, .fieldLink ST 9 ST "value" "[B"]
theorem tabEmp_of {a : Array Value} {s : State} (h : ∀ w ∈ wordsEmp, w.before a s = true) : Emp.tab.before a s = true := unparts (wk h (.code Emp.yN Emp.yB 1 (some .boolean))) (wks h (.initialized Emp.yN.cls :: Emp.site))
theorem movedEmp {Z s : State} {a0 args : Array Value} (hZ : Z.Warmed39 s.vm) (hw : ∀ d ∈ wordsEmp, d.before a0 Z = true) : ∀ d ∈ wordsEmp, d.before args s = true := fun d hd => by
  have t : ∀ d ∈ wordsEmp, (d.onTables && d.keepsFace) = true := by decide +kernel
  exact RoadKit.mv hZ (hw d hd) (t d hd)
/-- the words of String.equals(Object) -/
abbrev wordsEq : List Jvm.Cond := [.code SEq.yN SEq.yB 3 (some .boolean), .initialized ST, .classLink ST 10 ST, .fieldLink ST 38 ST "COMPACT_STRINGS" "Z", .fieldLink ST 15 ST "coder" "B", .fieldLink ST 9 ST "value" "[B", .methodLink ST 541 LEq.yN, .static LEq.yN, .code LEq.yN LEq.yB 3 (some .boolean), .initialized "java/lang/StringLatin1"]
theorem tabEq_of {a : Array Value} {s : State} (h : ∀ w ∈ wordsEq, w.before a s = true) : SEq.tab.before a s = true := by
  have hl : LEq.tab.before a s = true := unparts (wk h (.code LEq.yN LEq.yB 3 (some .boolean))) (wks h (.initialized LEq.yN.cls :: LEq.site))
  have q := consq hl h
  exact unparts (wk q (.code SEq.yN SEq.yB 3 (some .boolean))) (wks q (.initialized SEq.yN.cls :: SEq.site))
theorem movedEq {Z s : State} {a0 args : Array Value} (hZ : Z.Warmed39 s.vm) (hw : ∀ d ∈ wordsEq, d.before a0 Z = true) : ∀ d ∈ wordsEq, d.before args s = true := fun d hd => by
  have t : ∀ d ∈ wordsEq, (d.onTables && d.keepsFace) = true := by decide +kernel
  exact RoadKit.mv hZ (hw d hd) (t d hd)
/-- the road's facts of a String, as the laws ask it -/
theorem txt_of {Z U : State} {a0 : Array Value} {kI : Nat} (wi : (Jvm.Cond.instantiable ST kI).before a0 Z = true) (al : Z.vm.Alike U.vm) {x t : Addr} {kb : ClassId} {cs : List Int32} {cd N2 : Int32} {vs : List Value} (E : RoadKit.Exa Z U.heap x ST) (V : RoadKit.Fld Z U.heap x ST "value" "[B" (.ref t)) (C : RoadKit.Fld Z U.heap x ST "coder" "B" (.int cd)) (K : RoadKit.Arv Z U.heap t kb .byte N2 vs (.int 0)) (hc : CodA cs cd N2 vs) (hb : ∀ c ∈ cs, ¬ c < 0 ∧ ¬ (65535 : Int32) < c) (l2 : cs.length ≤ 4000) :
    ∃ A, Txt x t A cd cs.length (fun j => cs.getD j 0) U := by
  obtain ⟨A, K1, K2, K3, K4, K5, K6⟩ := K
  have hcod := hc.cod (by omega) K3 K5
  obtain ⟨D, fV, fC, hB, F1, F2, g1, g2, -, -⟩ := strObj wi al E V C
  exact ⟨A, ⟨_, hB.2.2.1, D, hB.1, rfl, by cases q : D.vm <;> first | rfl | exact absurd q (hB.2.1.2 _)⟩, Has.of hB F1 g1, Has.of hB F2 g2, ⟨K1.1, State.isArrayOf_alike al K1.2.1, K1.2.2, by rcases hcod with ⟨-, q, -⟩ | ⟨-, q, -⟩ <;> omega⟩, hcod, fun j hj => by
    have e : cs.getD j 0 = cs[j] := by simp [List.getD_eq_getElem?_getD, hj]
    show ¬ cs.getD j 0 < 0 ∧ ¬ 65535 < cs.getD j 0
    rw [e]; exact hb _ (List.getElem_mem _)⟩
theorem same_list (cs ds : List Int32) : SameT cs.length (fun j => cs.getD j 0) ds.length (fun j => ds.getD j 0) ↔ cs = ds := by
  constructor
  · rintro ⟨e, q⟩
    refine List.ext_getElem e fun j h1 h2 => ?_
    have := q j h1
    simpa [List.getD_eq_getElem?_getD, h1, h2] using this
  · rintro rfl
    exact ⟨rfl, fun _ _ => rfl⟩
/-- **isEmpty() OF SUCH A STRING** -/
theorem empW {p : Program} {l : Launch} {e : Env} {R : Room} {s : State} {args : Array Value} {below : List Frame} {len W : Nat} {Z : State} {a0 : Array Value} {h : Heap} (hZ : Z.Warmed39 s.vm) (hw : ∀ d ∈ wordsEmp, d.before a0 Z = true) {kI : Nat} (wi : (Jvm.Cond.instantiable ST kI).before a0 Z = true)
    {x t : Addr} {kb : ClassId} {cs : List Int32} {cd N2 : Int32} {vs : List Value} (E : RoadKit.Exa Z h x ST) (V : RoadKit.Fld Z h x ST "value" "[B" (.ref t)) (C : RoadKit.Fld Z h x ST "coder" "B" (.int cd)) (K : RoadKit.Arv Z h t kb .byte N2 vs (.int 0)) (hc : CodA cs cd N2 vs) (hb : ∀ c ∈ cs, ¬ c < 0 ∧ ¬ (65535 : Int32) < c) (l2 : cs.length ≤ 4000) (hfr : 1 ≤ R.frames) (hlo : W + 12 ≤ R.locals) :
    Back l R p e below s args (⟨"java/lang/String", "isEmpty", "()Z"⟩ : MethodName) len W (fun P a => a = #[.ref x] ∧ P.U.heap = h ∧ P.cells + 0 ≤ R.cells ∧ P.slots + 0 ≤ R.slots)
      (fun P _ v B => ∃ L, (v = some (.int (if cs.length = 0 then 1 else 0)) ∧ L = [] ∧ B.U.heap = h) ∧ B.locs = P.locs ++ L ∧ B.cells = P.cells + 0 ∧ B.slots = P.slots + 0) := by
  intro m meth c P g ig mk a X hg hsize hdg hW hn hp'
  obtain ⟨rfl, rfl, r1, r2⟩ := hp'
  have al : Z.vm.Alike P.U.vm := hZ.alike.trans X.warmed.alike
  obtain ⟨A, hx⟩ := txt_of wi al E V C K hc hb l2
  obtain ⟨v, B, X', ⟨⟨hv, hh⟩, hl, hk, hs⟩, st⟩ := Emp.pays x t A cd cs.length (fun j => cs.getD j 0) (tabEmp_of (movedEmp hZ hw)) hfr hlo m meth c P g ig mk _ X hg hsize hdg hW hn ⟨r1, r2, rfl, hx⟩
  exact ⟨v, B, X', ⟨[], ⟨hv, rfl, hh⟩, hl, hk, hs⟩, st⟩
/-- **equals(Object) OF TWO SUCH STRINGS**: 1 just where the chars are the same -/
theorem eqW {p : Program} {l : Launch} {e : Env} {R : Room} {s : State} {args : Array Value} {below : List Frame} {len W : Nat} {Z : State} {a0 : Array Value} {h : Heap} (hZ : Z.Warmed39 s.vm) (hw : ∀ d ∈ wordsEq, d.before a0 Z = true) {kI : Nat} (wi : (Jvm.Cond.instantiable ST kI).before a0 Z = true)
    {x t : Addr} {kb : ClassId} {cs : List Int32} {cd N2 : Int32} {vs : List Value} (E : RoadKit.Exa Z h x ST) (V : RoadKit.Fld Z h x ST "value" "[B" (.ref t)) (C : RoadKit.Fld Z h x ST "coder" "B" (.int cd)) (K : RoadKit.Arv Z h t kb .byte N2 vs (.int 0)) (hc : CodA cs cd N2 vs) (hb : ∀ c ∈ cs, ¬ c < 0 ∧ ¬ (65535 : Int32) < c) (l2 : cs.length ≤ 4000)
    {y t' : Addr} {kb' : ClassId} {ds : List Int32} {cd' N2' : Int32} {vs' : List Value} (E' : RoadKit.Exa Z h y ST) (V' : RoadKit.Fld Z h y ST "value" "[B" (.ref t')) (C' : RoadKit.Fld Z h y ST "coder" "B" (.int cd')) (K' : RoadKit.Arv Z h t' kb' .byte N2' vs' (.int 0)) (hc' : CodA ds cd' N2' vs') (hb' : ∀ c ∈ ds, ¬ c < 0 ∧ ¬ (65535 : Int32) < c) (l2' : ds.length ≤ 4000)
    {z : Int32} (S : RoadKit.Sta Z h ST "COMPACT_STRINGS" "Z" (.int z)) (hz : ¬ z = 0) (hfr : 2 ≤ R.frames) (hlo : W + 28 ≤ R.locals) :
    Back l R p e below s args (⟨"java/lang/String", "equals", "(Ljava/lang/Object;)Z"⟩ : MethodName) len W (fun P a => a = #[.ref x, .ref y] ∧ P.U.heap = h ∧ P.cells + 0 ≤ R.cells ∧ P.slots + 0 ≤ R.slots)
      (fun P _ v B => ∃ L, (((v = some (.int 1) ∧ cs = ds) ∨ (v = some (.int 0) ∧ ¬ cs = ds)) ∧ L = [] ∧ B.U.heap = h) ∧ B.locs = P.locs ++ L ∧ B.cells = P.cells + 0 ∧ B.slots = P.slots + 0) := by
  intro m meth c P g ig mk a X hg hsize hdg hW hn hp'
  obtain ⟨rfl, rfl, r1, r2⟩ := hp'
  have al : Z.vm.Alike P.U.vm := hZ.alike.trans X.warmed.alike
  obtain ⟨A, hx⟩ := txt_of wi al E V C K hc hb l2
  obtain ⟨A', hy⟩ := txt_of wi al E' V' C' K' hc' hb' l2'
  obtain ⟨v, B, X', ⟨⟨w, hv, hh, hq⟩, hl, hk, hs⟩, st⟩ := SEq.pays x t A cd cs.length (fun j => cs.getD j 0) y t' A' cd' ds.length (fun j => ds.getD j 0) z (tabEq_of (movedEq hZ hw)) hfr hlo m meth c P g ig mk _ X hg hsize hdg hW hn ⟨r1, r2, rfl, hx, hy, sta_is al S, hz⟩
  refine ⟨v, B, X', ⟨[], ⟨?_, rfl, hh⟩, hl, hk, hs⟩, st⟩
  rcases hq with ⟨rfl, q⟩ | ⟨rfl, q⟩
  · exact Or.inl ⟨hv, (same_list cs ds).mp q⟩
  · exact Or.inr ⟨hv, fun e => q ((same_list cs ds).mpr e)⟩
end StrChars.Road
namespace StrChars.Road
open Jvm Sem ClassFile Op Lib Jvm.Stand Jvm.Free Jvm.Free.XT
open Jvm.Lib.Cold (StaticIs)
/-- what backV says of its String, as the contracts of this text ask it: cs's low bytes, coder 0 -/
theorem codOf {cs : List Int32} {n : Nat} (hn : cs.length = n) (hb : ∀ c ∈ cs, ¬ 255 < c) : CodA cs 0 (Int32.ofNat n) ((cs.map lo8).map Value.int) := Or.inl ⟨rfl, by rw [hn], by simp [List.map_map, Function.comp_def], hb⟩
end StrChars.Road
end Jvm.Pilot.@@N@@
namespace Jvm.Pilot.@@N@@
open Jvm Jvm.ClassFile Sem Op Lib Jvm.Free Jvm.Stand Jvm.LawKit Jvm.RoadKit Bundle Jvm.Pilot.@@N@@.Jvm.D
theorem own_w {Z : State} {a0 : Array Value} (hw : ∀ d ∈ tables_1, d.before a0 Z = true) (k : Nat) {d : Jvm.Cond} (h : tables_1[k]? = some d) : d.before a0 Z = true := hw _ (List.mem_of_getElem? h)
abbrev own_R (f c s l : Nat) : Room := { frames := f, cells := c, slots := s, locals := l }
abbrev vU : Slot := .unset
abbrev vS : Slot := .second
abbrev vN : Slot := .val .null
abbrev vI (x : Int32) : Slot := .val (.int x)
abbrev vJ (x : Int64) : Slot := .val (.long x)
abbrev vR (x : Addr) : Slot := .val (.ref x)
abbrev vV (x : Value) : Slot := .val x
abbrev Go (p : Program) (e : Env) (below : List Frame) (T : State) (f : JFrame) (t : State) : Prop := Steps p.tables e below (T.setTop f) t
theorem own_and255L (x : Int32) : ¬ (x &&& (255 : Int32)) < 0 ∧ ¬ (255 : Int32) < (x &&& (255 : Int32)) := by
  have h1 := c_mask x 255 8 (by decide) (by decide)
  have e1 : (255 : Int32).toInt = 255 := rfl
  rw [Int32.lt_iff_toInt_lt, Int32.lt_iff_toInt_lt, Int32.toInt_zero]
  constructor <;> omega
theorem own_narR {v : Value} (t : FieldType) (ht : t.isReference = true) (hv : v.isRef = true) : narrow t v = v := by cases t <;> cases v <;> simp_all [narrow, FieldType.isReference, Value.isRef]
abbrev OwnMet (l : Launch) (y : MethodName) (ws : List Jvm.Cond) (rm : Room) (A : Array Value) (Z : State) (h0 : Heap) (Q : Option Value → Heap → List Loc → Prop) : Prop :=
  MetFree l y (head1 ws rm) (fun a U => a = A ∧ Z.Warmed39 U.vm ∧ U.heap = h0) (fun _ _ _ _ _ => True) (fun _ U o U' => ∃ v L, o = .returned v ∧ Q v U'.heap L ∧ FrameEnd U o U' L rm.cells rm.slots)
theorem own_body {l : Launch} {y : MethodName} {ws : List Jvm.Cond} {rm : Room} {bytes : ByteArray} {maxL : Nat} {ret : Option FieldType} {A : Array Value} {Z : State} {h0 : Heap} {Q : Option Value → Heap → List Loc → Prop} (hp : plainFor y = true)
    (his : ∀ args (s : State) m, (head1 ws rm).pre.before args s = true → s.methodNamed? y = some m → ∃ meth c, s.vm.method? m = some meth ∧ meth.code = some c ∧ c.code = bytes ∧ c.maxLocals = maxL ∧ meth.sig.returnType = ret ∧ meth.locks = false)
    (body : ∀ (p : Program) (e : Env) (s : State) (m : MethodId) (below : List Frame) (meth : Method) (c : Code) (s₁ : State), p.tables.exec = Jvm.exec → c.code = bytes → c.maxLocals = maxL → s.vm.findClass y.cls = some m.cls → meth.name = y.name → meth.sig.returnType = ret → Z.Warmed39 s.vm → Stand p l e rm s m A below meth c s₁ [] 0 0 → s₁.heap = h0 →
      ∃ (v : Option Value) (T : State) (locs : List Loc) (cells slots : Nat) (f : JFrame), Stand p l e rm s m A below meth c T locs cells slots ∧ cells ≤ rm.cells ∧ slots ≤ rm.slots ∧ (ret = none → v = none) ∧ (∀ t, Go p e below T f t → Go p e below s₁ (entryFrame m A maxL) t) ∧
        (∀ fs, (∀ (f : JFrame) (acts : List Action), f.method = m → f.locked = none → f.entered = [] → (doReturn e (T.setTop f) acts v).1 = T.setFrames fs) → Go p e below T f (T.setFrames fs)) ∧ Q v T.heap locs) :
    MetFree l y (head1 ws rm) (fun a U => a = A ∧ Z.Warmed39 U.vm ∧ U.heap = h0) (fun _ _ _ _ _ => True) (fun _ U o U' => ∃ v L, o = .returned v ∧ Q v U'.heap L ∧ FrameEnd U o U' L rm.cells rm.slots) := by
  refine MetFree.of_bodySF hp his ?_
  intro p e s m args below meth c s₁ Bd hml0 hP hK
  obtain ⟨rfl, hZ, hh⟩ := hP
  obtain ⟨v, T, locs, cells, slots, f, X, hc, hs, hv, q, hf, hQ⟩ := body p e s m below meth c s₁ Bd.exec Bd.bytes hml0 (findClass_of_methodNamed Bd.named) (name_of_methodNamed Bd.named Bd.method).1 Bd.returns hZ (Stand.of_body Bd) (by rw [← hh, Bd.state]; rfl)
  obtain ⟨fs, hr, hrun, hended, hW, hsame⟩ := X.leave (v := v) (fun h => hv (Bd.returns ▸ h))
  exact ⟨_, _, q _ (hf fs hr), hrun, hended, v, locs, rfl, hQ, ⟨_, rfl⟩, hW, hsame.mono hc hs⟩
theorem own_eqI {args : Array Value} {Z : State} {t : Term} {k : Int32} (h : (Jvm.Cond.eq t (Term.int k)).value args Z none Z [] = some true) : t.eval args Z none [] Z = some (.int k) := by
  obtain ⟨x, y, e1, e2, k1, k2⟩ := cmp_v (Or.inl h)
  rw [Term.int_eval] at e2; cases Option.some.inj e2
  cases x <;> first | (obtain ⟨z, hz⟩ := k2; cases hz; simp [Cond.value, e1, Term.int_eval] at h; rw [e1, h]) | (obtain ⟨z, hz⟩ := k2; cases hz)
theorem own_fldI {args : Array Value} {Z : State} {t : Term} {k : Int32} {C n d : String} {w : Addr} (ht : t.eval args Z none [] Z = some (.ref w)) (h : (Jvm.Cond.eq (Term.field t C n d) (Term.int k)).value args Z none Z [] = some true) : Fld Z Z.heap w C n d (.int k) :=
  Fld.start ((fld_at ht).symm.trans (own_eqI h))
theorem own_up (cs : List Int32) (h : ∀ c ∈ cs, ¬ c < 0 ∧ ¬ (255 : Int32) < c) : ∀ c ∈ cs, ¬ c < 0 ∧ ¬ (65535 : Int32) < c := fun c hc => ⟨(h c hc).1, fun q => (h c hc).2 (by rw [Int32.lt_iff_toInt_lt] at q ⊢; have e1 : (65535 : Int32).toInt = 65535 := rfl; have e2 : (255 : Int32).toInt = 255 := rfl; omega)⟩
/-- x is a String that spells cs; its bytes lie at t -/
def Str (Z : State) (h : Heap) (x t : Addr) (cs : List Int32) : Prop := ∃ (kb : ClassId) (cd N2 : Int32) (vs : List Value), Exa Z h x "java/lang/String" ∧ Fld Z h x "java/lang/String" "value" "[B" (.ref t) ∧ Fld Z h x "java/lang/String" "coder" "B" (.int cd) ∧ Arv Z h t kb .byte N2 vs (.int 0) ∧ StrChars.Road.CodA cs cd N2 vs ∧ (∀ c ∈ cs, ¬ c < 0 ∧ ¬ (65535 : Int32) < c) ∧ cs.length ≤ 4000
theorem Str.ext {Z : State} {h h' : Heap} {x t : Addr} {cs : List Int32} (F : Str Z h x t cs) (E : Ext h h') : Str Z h' x t cs := by
  obtain ⟨kb, cd, N2, vs, a1, a2, a3, a4, r⟩ := F; exact ⟨kb, cd, N2, vs, a1.ext E, a2.ext E, a3.ext E, a4.ext E, r⟩
theorem Str.keep {Z : State} {h h' : Heap} {x t : Addr} {cs : List Int32} {ws : List Addr} (F : Str Z h x t cs) (K : Keep h h' ws) (q1 : x ∉ ws) (q2 : t ∉ ws) : Str Z h' x t cs := by
  obtain ⟨kb, cd, N2, vs, a1, a2, a3, a4, r⟩ := F; exact ⟨kb, cd, N2, vs, a1.keep K, a2.keep K q1, a3.keep K q1, a4.keep K q2, r⟩
theorem Str.lt {Z : State} {h : Heap} {x t : Addr} {cs : List Int32} (F : Str Z h x t cs) : x < h.size := by obtain ⟨_, _, _, _, a1, _⟩ := F; exact a1.lt
theorem Str.ltt {Z : State} {h : Heap} {x t : Addr} {cs : List Int32} (F : Str Z h x t cs) : t < h.size := by obtain ⟨_, _, _, _, _, _, _, a4, _⟩ := F; exact a4.lt
theorem Str.exa {Z : State} {h : Heap} {x t : Addr} {cs : List Int32} (F : Str Z h x t cs) : Exa Z h x "java/lang/String" := by obtain ⟨_, _, _, _, a1, _⟩ := F; exact a1
def Cx (Z : State) (z_cs : Int32) : Prop := Sta Z Z.heap "java/lang/String" "COMPACT_STRINGS" "Z" (.int z_cs) ∧ ¬ (z_cs = (0 : Int32))
theorem own_mod3 (a : Int32) : ((a &&& (2147483647 : Int32)) % (3 : Int32)) = (0 : Int32) ∨ ((a &&& (2147483647 : Int32)) % (3 : Int32)) = (1 : Int32) ∨ ((a &&& (2147483647 : Int32)) % (3 : Int32)) = (2 : Int32) := by
  have h1 := c_mask a 2147483647 31 (by decide) (by decide)
  have h2 := (c_irem (a &&& 2147483647) 3 3 (by decide)).1 (by omega)
  have h3 : ((a &&& 2147483647) % 3).toInt = 0 ∨ ((a &&& 2147483647) % 3).toInt = 1 ∨ ((a &&& 2147483647) % 3).toInt = 2 := by omega
  rcases h3 with h | h | h
  · exact Or.inl (Int32.toInt_inj.mp (by rw [h]; decide))
  · exact Or.inr (Or.inl (Int32.toInt_inj.mp (by rw [h]; decide)))
  · exact Or.inr (Or.inr (Int32.toInt_inj.mp (by rw [h]; decide)))
theorem own_port (p : Int32) : ¬ (((1 : Int32) + ((p &&& (2147483647 : Int32)) % (65535 : Int32))) < (1 : Int32)) ∧ ¬ ((65535 : Int32) < ((1 : Int32) + ((p &&& (2147483647 : Int32)) % (65535 : Int32)))) := by
  have h1 := c_mask p 2147483647 31 (by decide) (by decide)
  have h2 := (c_irem (p &&& 2147483647) 65535 65535 (by decide)).1 (by omega)
  have h3 := c_iadd 1 ((p &&& 2147483647) % 65535)
  have h4 : (1 : Int32).toInt = 1 := by decide
  have h5 : (65535 : Int32).toInt = 65535 := by decide
  have h6 := rng32 (1 + ((p &&& 2147483647) % 65535))
  rw [Int32.lt_iff_toInt_lt, Int32.lt_iff_toInt_lt, h4, h5]
  rw [h4] at h3
  omega
theorem own_ne0 {cs : List Int32} (h : ¬ (cs.length = 0)) : ¬ ((0 : Int32) < (if cs.length = 0 then 1 else 0 : Int32)) ∧ (if cs.length = 0 then 1 else 0 : Int32) = (0 : Int32) := by
  rw [if_neg h]; decide
theorem ef_8_RR (m : MethodId) (x0 : Addr) (x1 : Addr) : entryFrame m #[(.ref x0), (.ref x1)] 2 = mkF m 0 #[.val (.ref x0), .val (.ref x1)] [] := by first | (simp [entryFrame, mkF, argsToLocals, Value.category]; done) | rfl
theorem pn_8 : plainName "java/util/Objects" = true := by first | (simp [plainName, overriddenIn]; done) | decide +kernel
theorem d8_0 : decode jdk_31_method_11_code 0 = .ok (.aload_n 0, 1) := by decide +kernel
theorem d8_1 : decode jdk_31_method_11_code 1 = .ok (.ifnonnull 12, 3) := by decide +kernel
theorem d8_13 : decode jdk_31_method_11_code 13 = .ok (.aload_n 0, 1) := by decide +kernel
theorem d8_14 : decode jdk_31_method_11_code 14 = .ok (.areturn, 1) := by decide +kernel
def Q_rm8 (Z : State) (a1 : Addr) (a2 : Addr) (z_cs : Int32) (h0 : Heap) (n0 : Nat) (v : Option Value) (h : Heap) (L : List Loc) : Prop := v = some (.ref a1) ∧ Fr n0 L ∧ h = h0
theorem rm8 (l : Launch) (Z : State) (a0 : Array Value) (hw : ∀ d ∈ tables_1, d.before a0 Z = true) (ws : List Jvm.Cond) {z_cs : Int32} (cx : Cx Z z_cs) (a1 : Addr) (a2 : Addr) (h0 : Heap) (n0 : Nat) (O0 : Old Z n0 h0) :
    OwnMet l (⟨"java/util/Objects", "requireNonNull", "(Ljava/lang/Object;Ljava/lang/String;)Ljava/lang/Object;"⟩ : MethodName) (Jvm.Cond.code (⟨"java/util/Objects", "requireNonNull", "(Ljava/lang/Object;Ljava/lang/String;)Ljava/lang/Object;"⟩ : MethodName) jdk_31_method_11_code 2 (some (.object "java/lang/Object")) :: ws) (own_R 0 0 0 0) #[(.ref a1), (.ref a2)] Z h0 (Q_rm8 Z a1 a2 z_cs h0 n0) := by
  refine own_body (plainFor_of_name pn_8) hisR fun p e s m below meth c s₁ hx hby hml hown hnm hret hZ X0 e0 => ?_
  have N0 := Fr.nil n0
  have pre0 : ∀ t, Go p e below s₁ (mkF m 0 #[.val (.ref a1), .val (.ref a2)] []) t → Go p e below s₁ (entryFrame m #[(.ref a1), (.ref a2)] 2) t := fun t k => castTop (ef_8_RR m a1 a2) k
  have q21 := fun t (kt : Go p e below s₁ (mkF m 14 #[.val (.ref a1), .val (.ref a2)] [(.ref a1)]) t) => pre0 t (by
    show Go p e below s₁ (mkF m 0 #[.val (.ref a1), .val (.ref a2)] []) _
    refine XS.aloadN X0.here hx rfl (hb hby d8_0) rfl rfl ?_
    show Go p e below s₁ (mkF m 1 #[.val (.ref a1), .val (.ref a2)] [(.ref a1)]) _
    refine XS.ifnonnullYes X0.here hx rfl (pc0 := 1) (pc' := 13) rfl (hb hby d8_1) rfl (by decide) (by decide) ?_
    show Go p e below s₁ (mkF m 13 #[.val (.ref a1), .val (.ref a2)] []) _
    refine XS.aloadN X0.here hx rfl (hb hby d8_13) rfl rfl ?_
    exact kt)
  exact ⟨some (.ref a1), s₁, _, _, _, _, X0, by decide, by decide, nofun, q21, fun fs hr => retOut X0 hx hret rfl (Or.inr (Or.inr (Or.inr (Or.inr ⟨rfl, rfl, rfl⟩)))) (hb hby d8_14) hr, by rw [e0]; exact ⟨rfl, N0, rfl⟩⟩
theorem ef_10_RRI (m : MethodId) (x0 : Addr) (x1 : Addr) (x2 : Int32) : entryFrame m #[(.ref x0), (.ref x1), (.int x2)] 3 = mkF m 0 #[.val (.ref x0), .val (.ref x1), .val (.int x2)] [] := by first | (simp [entryFrame, mkF, argsToLocals, Value.category]; done) | rfl
theorem pn_10 : plainName "com/example/cerrojo/cerrojo/config/ServerAddress" = true := by first | (simp [plainName, overriddenIn]; done) | decide +kernel
theorem d10_0 : decode prog_3_method_1_code 0 = .ok (.aload_n 0, 1) := by decide +kernel
theorem d10_1 : decode prog_3_method_1_code 1 = .ok (.invokespecial 1, 3) := by decide +kernel
theorem d10_4 : decode prog_3_method_1_code 4 = .ok (.aload_n 0, 1) := by decide +kernel
theorem d10_5 : decode prog_3_method_1_code 5 = .ok (.aload_n 1, 1) := by decide +kernel
theorem d10_6 : decode prog_3_method_1_code 6 = .ok (.putfield 7, 3) := by decide +kernel
theorem d10_9 : decode prog_3_method_1_code 9 = .ok (.aload_n 0, 1) := by decide +kernel
theorem d10_10 : decode prog_3_method_1_code 10 = .ok (.iload_n 2, 1) := by decide +kernel
theorem d10_11 : decode prog_3_method_1_code 11 = .ok (.putfield 13, 3) := by decide +kernel
theorem d10_14 : decode prog_3_method_1_code 14 = .ok (.return_, 1) := by decide +kernel
def Q_rm10 (Z : State) (a1 : Addr) (a2 : Addr) (p3 : Int32) (z_cs : Int32) (h0 : Heap) (n0 : Nat) (v : Option Value) (h : Heap) (L : List Loc) : Prop := v = none ∧ Fr n0 L ∧ Keep h0 h [a1] ∧ Exa Z h a1 "com/example/cerrojo/cerrojo/config/ServerAddress" ∧ Fld Z h a1 "com/example/cerrojo/cerrojo/config/ServerAddress" "host" "Ljava/lang/String;" (.ref a2) ∧ Fld Z h a1 "com/example/cerrojo/cerrojo/config/ServerAddress" "port" "I" (.int p3)
theorem rm10 (l : Launch) (Z : State) (a0 : Array Value) (hw : ∀ d ∈ tables_1, d.before a0 Z = true) (ws : List Jvm.Cond) {z_cs : Int32} (cx : Cx Z z_cs) (a1 : Addr) (a2 : Addr) (p3 : Int32) (h0 : Heap) (n0 : Nat) (O0 : Old Z n0 h0) (E1 : Exa Z h0 a1 "com/example/cerrojo/cerrojo/config/ServerAddress") (F1 : Fld Z h0 a1 "com/example/cerrojo/cerrojo/config/ServerAddress" "host" "Ljava/lang/String;" .null) (F2 : Fld Z h0 a1 "com/example/cerrojo/cerrojo/config/ServerAddress" "port" "I" (.int (0 : Int32))) (g_a1 : n0 ≤ a1) :
    OwnMet l (⟨"com/example/cerrojo/cerrojo/config/ServerAddress", "<init>", "(Ljava/lang/String;I)V"⟩ : MethodName) (Jvm.Cond.code (⟨"com/example/cerrojo/cerrojo/config/ServerAddress", "<init>", "(Ljava/lang/String;I)V"⟩ : MethodName) prog_3_method_1_code 3 none :: ws) (own_R 1 0 0 12) #[(.ref a1), (.ref a2), (.int p3)] Z h0 (Q_rm10 Z a1 a2 p3 z_cs h0 n0) := by
  refine own_body (plainFor_of_name pn_10) hisR fun p e s m below meth c s₁ hx hby hml hown hnm hret hZ X0 e0 => ?_
  have N0 := Fr.nil n0
  have K0 : Keep h0 h0 [a1] := Keep.refl _ _
  have pre0 : ∀ t, Go p e below s₁ (mkF m 0 #[.val (.ref a1), .val (.ref a2), .val (.int p3)] []) t → Go p e below s₁ (entryFrame m #[(.ref a1), (.ref a2), (.int p3)] 3) t := fun t k => castTop (ef_10_RRI m a1 a2 p3) k
  have q21 := fun t (kt : Go p e below s₁ (mkF m 1 #[.val (.ref a1), .val (.ref a2), .val (.int p3)] [(.ref a1)]) t) => pre0 t (by
    show Go p e below s₁ (mkF m 0 #[.val (.ref a1), .val (.ref a2), .val (.int p3)] []) _
    refine XS.aloadN X0.here hx rfl (hb hby d10_0) rfl rfl ?_
    exact kt)
  obtain ⟨T22, X22, e22, st22⟩ := initO X0 hx hZ hown (own_w hw 54 rfl) (own_w hw 13 rfl) (own_w hw 14 rfl) e0 (g := (mkF m 1 #[.val (.ref a1), .val (.ref a2), .val (.int p3)] [(.ref a1)])) rfl (by rw [hml]; rfl) rfl (hb hby d10_1) (by decide) (W := 0) (by show 2 * 0 + _ ≤ _; exact Nat.le_of_eq rfl) (by decide)
  have q23 := fun t (kt : Go p e below T22 (mkF m 4 #[.val (.ref a1), .val (.ref a2), .val (.int p3)] []) t) => q21 t (st22 t kt)
  have q24 := fun t (kt : Go p e below T22 (mkF m 6 #[.val (.ref a1), .val (.ref a2), .val (.int p3)] [(.ref a2), (.ref a1)]) t) => q23 t (by
    show Go p e below T22 (mkF m 4 #[.val (.ref a1), .val (.ref a2), .val (.int p3)] []) _
    refine XS.aloadN X22.here hx rfl (hb hby d10_4) rfl rfl ?_
    show Go p e below T22 (mkF m 5 #[.val (.ref a1), .val (.ref a2), .val (.int p3)] [(.ref a1)]) _
    refine XS.aloadN X22.here hx rfl (hb hby d10_5) rfl rfl ?_
    exact kt)
  obtain ⟨T25, h25, X25, e25, W25, st25⟩ := putF X22 hx hZ hown (host := "") (Or.inl (own_w hw 55 rfl)) Via.refl e22 F1 E1 (Or.inr ⟨(own_w hw 56 rfl), rfl, hnm⟩) (own_w hw 50 rfl) (ty := (.object "java/lang/String")) (by decide) rfl rfl (g := (mkF m 6 #[.val (.ref a1), .val (.ref a2), .val (.int p3)] [(.ref a2), (.ref a1)])) rfl rfl (hb hby d10_6)
  have q26 := fun t (kt : Go p e below T25 (mkF m 9 #[.val (.ref a1), .val (.ref a2), .val (.int p3)] []) t) => q24 t (st25 t kt)
  have f27 : Fld Z h25 a1 "com/example/cerrojo/cerrojo/config/ServerAddress" "host" "Ljava/lang/String;" (.ref a2) := F1.same W25
  have N28 := Fr.snoc X25 N0 g_a1
  have O29 : Old Z n0 h25 := O0.wr W25 g_a1
  have K30 : Keep h0 h25 [a1] := K0.wr W25 (Or.inl (List.mem_of_getElem? (i := 0) rfl))
  have f31 : Exa Z h25 a1 "com/example/cerrojo/cerrojo/config/ServerAddress" := (E1.wr W25)
  have f32 : Fld Z h25 a1 "com/example/cerrojo/cerrojo/config/ServerAddress" "port" "I" (.int (0 : Int32)) := (F2.other W25 (Or.inr (slot_ne (Or.inr (own_w hw 58 rfl)) (Or.inr (own_w hw 56 rfl)) (by decide) (t := .int) (t' := (.object "java/lang/String")) (by decide) (by decide))))
  have q33 := fun t (kt : Go p e below T25 (mkF m 11 #[.val (.ref a1), .val (.ref a2), .val (.int p3)] [(.int p3), (.ref a1)]) t) => q26 t (by
    show Go p e below T25 (mkF m 9 #[.val (.ref a1), .val (.ref a2), .val (.int p3)] []) _
    refine XS.aloadN X25.here hx rfl (hb hby d10_9) rfl rfl ?_
    show Go p e below T25 (mkF m 10 #[.val (.ref a1), .val (.ref a2), .val (.int p3)] [(.ref a1)]) _
    refine XS.iloadN X25.here hx rfl (hb hby d10_10) rfl ?_
    exact kt)
  obtain ⟨T34, h34, X34, e34, W34, st34⟩ := putF X25 hx hZ hown (host := "") (Or.inl (own_w hw 57 rfl)) Via.refl e25 f32 f31 (Or.inr ⟨(own_w hw 58 rfl), rfl, hnm⟩) (own_w hw 50 rfl) (ty := .int) (by decide) rfl rfl (g := (mkF m 11 #[.val (.ref a1), .val (.ref a2), .val (.int p3)] [(.int p3), (.ref a1)])) rfl rfl (hb hby d10_11)
  have q35 := fun t (kt : Go p e below T34 (mkF m 14 #[.val (.ref a1), .val (.ref a2), .val (.int p3)] []) t) => q33 t (st34 t kt)
  have f36 : Fld Z h34 a1 "com/example/cerrojo/cerrojo/config/ServerAddress" "port" "I" (.int p3) := f32.same W34
  have N37 := Fr.snoc X34 N28 g_a1
  have O38 : Old Z n0 h34 := O29.wr W34 g_a1
  have K39 : Keep h0 h34 [a1] := K30.wr W34 (Or.inl (List.mem_of_getElem? (i := 0) rfl))
  have f40 : Exa Z h34 a1 "com/example/cerrojo/cerrojo/config/ServerAddress" := (f31.wr W34)
  have f41 : Fld Z h34 a1 "com/example/cerrojo/cerrojo/config/ServerAddress" "host" "Ljava/lang/String;" (.ref a2) := (f27.other W34 (Or.inr (slot_ne (Or.inr (own_w hw 56 rfl)) (Or.inr (own_w hw 58 rfl)) (by decide) (t := (.object "java/lang/String")) (t' := .int) (by decide) (by decide))))
  exact ⟨none, T34, _, _, _, _, X34, by decide, by decide, fun _ => rfl, q35, fun fs hr => X34.returnOut hx hret (hb hby d10_14) hr, by rw [e34]; exact ⟨rfl, N37, K39, f40, f41, f36⟩⟩
theorem ef_11_R (m : MethodId) (x0 : Addr) : entryFrame m #[(.ref x0)] 1 = mkF m 0 #[.val (.ref x0)] [] := by first | (simp [entryFrame, mkF, argsToLocals, Value.category]; done) | rfl
theorem pn_11 : plainName "com/example/cerrojo/cerrojo/config/ServerAddress" = true := by first | (simp [plainName, overriddenIn]; done) | decide +kernel
theorem d11_0 : decode prog_3_method_7_code 0 = .ok (.aload_n 0, 1) := by decide +kernel
theorem d11_1 : decode prog_3_method_7_code 1 = .ok (.getfield 7, 3) := by decide +kernel
theorem d11_4 : decode prog_3_method_7_code 4 = .ok (.areturn, 1) := by decide +kernel
def Q_rm11 (Z : State) (a1 : Addr) (w2 : Addr) (z_cs : Int32) (h0 : Heap) (n0 : Nat) (v : Option Value) (h : Heap) (L : List Loc) : Prop := v = some (.ref w2) ∧ Fr n0 L ∧ h = h0
theorem rm11 (l : Launch) (Z : State) (a0 : Array Value) (hw : ∀ d ∈ tables_1, d.before a0 Z = true) (ws : List Jvm.Cond) {z_cs : Int32} (cx : Cx Z z_cs) (a1 : Addr) (w2 : Addr) (h0 : Heap) (n0 : Nat) (O0 : Old Z n0 h0) (F1 : Fld Z h0 a1 "com/example/cerrojo/cerrojo/config/ServerAddress" "host" "Ljava/lang/String;" (.ref w2)) :
    OwnMet l (⟨"com/example/cerrojo/cerrojo/config/ServerAddress", "host", "()Ljava/lang/String;"⟩ : MethodName) (Jvm.Cond.code (⟨"com/example/cerrojo/cerrojo/config/ServerAddress", "host", "()Ljava/lang/String;"⟩ : MethodName) prog_3_method_7_code 1 (some (.object "java/lang/String")) :: ws) (own_R 0 0 0 0) #[(.ref a1)] Z h0 (Q_rm11 Z a1 w2 z_cs h0 n0) := by
  refine own_body (plainFor_of_name pn_11) hisR fun p e s m below meth c s₁ hx hby hml hown hnm hret hZ X0 e0 => ?_
  have N0 := Fr.nil n0
  have pre0 : ∀ t, Go p e below s₁ (mkF m 0 #[.val (.ref a1)] []) t → Go p e below s₁ (entryFrame m #[(.ref a1)] 1) t := fun t k => castTop (ef_11_R m a1) k
  have q21 := fun t (kt : Go p e below s₁ (mkF m 1 #[.val (.ref a1)] [(.ref a1)]) t) => pre0 t (by
    show Go p e below s₁ (mkF m 0 #[.val (.ref a1)] []) _
    refine XS.aloadN X0.here hx rfl (hb hby d11_0) rfl rfl ?_
    exact kt)
  obtain ⟨T22, X22, e22, st22⟩ := getF X0 hx hZ hown (host := "") (Or.inl (own_w hw 55 rfl)) Via.refl e0 F1 (g := (mkF m 1 #[.val (.ref a1)] [(.ref a1)])) rfl rfl (hb hby d11_1)
  have q23 := fun t (kt : Go p e below T22 (mkF m 4 #[.val (.ref a1)] [(.ref w2)]) t) => q21 t (st22 t kt)
  exact ⟨some (.ref w2), T22, _, _, _, _, X22, by decide, by decide, nofun, q23, fun fs hr => retOut X22 hx hret rfl (Or.inr (Or.inr (Or.inr (Or.inr ⟨rfl, rfl, rfl⟩)))) (hb hby d11_4) hr, by rw [e22]; exact ⟨rfl, N0, rfl⟩⟩
theorem ef_13_R (m : MethodId) (x0 : Addr) : entryFrame m #[(.ref x0)] 1 = mkF m 0 #[.val (.ref x0)] [] := by first | (simp [entryFrame, mkF, argsToLocals, Value.category]; done) | rfl
theorem pn_13 : plainName "com/example/cerrojo/cerrojo/config/ServerAddress" = true := by first | (simp [plainName, overriddenIn]; done) | decide +kernel
theorem d13_0 : decode prog_3_method_8_code 0 = .ok (.aload_n 0, 1) := by decide +kernel
theorem d13_1 : decode prog_3_method_8_code 1 = .ok (.getfield 13, 3) := by decide +kernel
theorem d13_4 : decode prog_3_method_8_code 4 = .ok (.ireturn, 1) := by decide +kernel
def Q_rm13 (Z : State) (a1 : Addr) (w2 : Int32) (z_cs : Int32) (h0 : Heap) (n0 : Nat) (v : Option Value) (h : Heap) (L : List Loc) : Prop := v = some (.int w2) ∧ Fr n0 L ∧ h = h0
theorem rm13 (l : Launch) (Z : State) (a0 : Array Value) (hw : ∀ d ∈ tables_1, d.before a0 Z = true) (ws : List Jvm.Cond) {z_cs : Int32} (cx : Cx Z z_cs) (a1 : Addr) (w2 : Int32) (h0 : Heap) (n0 : Nat) (O0 : Old Z n0 h0) (F1 : Fld Z h0 a1 "com/example/cerrojo/cerrojo/config/ServerAddress" "port" "I" (.int w2)) :
    OwnMet l (⟨"com/example/cerrojo/cerrojo/config/ServerAddress", "port", "()I"⟩ : MethodName) (Jvm.Cond.code (⟨"com/example/cerrojo/cerrojo/config/ServerAddress", "port", "()I"⟩ : MethodName) prog_3_method_8_code 1 (some .int) :: ws) (own_R 0 0 0 0) #[(.ref a1)] Z h0 (Q_rm13 Z a1 w2 z_cs h0 n0) := by
  refine own_body (plainFor_of_name pn_13) hisR fun p e s m below meth c s₁ hx hby hml hown hnm hret hZ X0 e0 => ?_
  have N0 := Fr.nil n0
  have pre0 : ∀ t, Go p e below s₁ (mkF m 0 #[.val (.ref a1)] []) t → Go p e below s₁ (entryFrame m #[(.ref a1)] 1) t := fun t k => castTop (ef_13_R m a1) k
  have q21 := fun t (kt : Go p e below s₁ (mkF m 1 #[.val (.ref a1)] [(.ref a1)]) t) => pre0 t (by
    show Go p e below s₁ (mkF m 0 #[.val (.ref a1)] []) _
    refine XS.aloadN X0.here hx rfl (hb hby d13_0) rfl rfl ?_
    exact kt)
  obtain ⟨T22, X22, e22, st22⟩ := getF X0 hx hZ hown (host := "") (Or.inl (own_w hw 57 rfl)) Via.refl e0 F1 (g := (mkF m 1 #[.val (.ref a1)] [(.ref a1)])) rfl rfl (hb hby d13_1)
  have q23 := fun t (kt : Go p e below T22 (mkF m 4 #[.val (.ref a1)] [(.int w2)]) t) => q21 t (st22 t kt)
  exact ⟨some (.int w2), T22, _, _, _, _, X22, by decide, by decide, nofun, q23, fun fs hr => retI X22 hx hret (hb hby d13_4) hr, by rw [e22]; exact ⟨rfl, N0, rfl⟩⟩
theorem ef_7_RI (m : MethodId) (x0 : Addr) (x1 : Int32) : entryFrame m #[(.ref x0), (.int x1)] 2 = mkF m 0 #[.val (.ref x0), .val (.int x1)] [] := by first | (simp [entryFrame, mkF, argsToLocals, Value.category]; done) | rfl
theorem pn_7 : plainName "com/example/cerrojo/cerrojo/config/ServerAddress" = true := by first | (simp [plainName, overriddenIn]; done) | decide +kernel
theorem d7_0 : decode prog_3_method_3_code 0 = .ok (.aload_n 0, 1) := by decide +kernel
theorem d7_1 : decode prog_3_method_3_code 1 = .ok (.ldc 75, 2) := by decide +kernel
theorem d7_3 : decode prog_3_method_3_code 3 = .ok (.invokestatic 19, 3) := by decide +kernel
theorem pd_0 : parseMethodDescriptor "(Ljava/lang/Object;Ljava/lang/String;)Ljava/lang/Object;" = some ⟨[(.object "java/lang/Object"), (.object "java/lang/String")], some (.object "java/lang/Object")⟩ := by decide +kernel
theorem d7_6 : decode prog_3_method_3_code 6 = .ok (.pop, 1) := by decide +kernel
theorem d7_7 : decode prog_3_method_3_code 7 = .ok (.aload_n 0, 1) := by decide +kernel
theorem d7_8 : decode prog_3_method_3_code 8 = .ok (.invokevirtual 76, 3) := by decide +kernel
theorem pd_1 : parseMethodDescriptor "()Z" = some ⟨[], some .boolean⟩ := by decide +kernel
theorem d7_11 : decode prog_3_method_3_code 11 = .ok (.ifCond .ne 14, 3) := by decide +kernel
theorem d7_14 : decode prog_3_method_3_code 14 = .ok (.iload_n 1, 1) := by decide +kernel
theorem d7_15 : decode prog_3_method_3_code 15 = .ok (.iconst 1, 1) := by decide +kernel
theorem d7_16 : decode prog_3_method_3_code 16 = .ok (.if_icmp .lt 9, 3) := by decide +kernel
theorem d7_19 : decode prog_3_method_3_code 19 = .ok (.iload_n 1, 1) := by decide +kernel
theorem d7_20 : decode prog_3_method_3_code 20 = .ok (.ldc 80, 2) := by decide +kernel
theorem d7_22 : decode prog_3_method_3_code 22 = .ok (.if_icmp .le 14, 3) := by decide +kernel
theorem d7_36 : decode prog_3_method_3_code 36 = .ok (.new 8, 3) := by decide +kernel
theorem d7_39 : decode prog_3_method_3_code 39 = .ok (.dup, 1) := by decide +kernel
theorem d7_40 : decode prog_3_method_3_code 40 = .ok (.aload_n 0, 1) := by decide +kernel
theorem d7_41 : decode prog_3_method_3_code 41 = .ok (.iload_n 1, 1) := by decide +kernel
theorem d7_42 : decode prog_3_method_3_code 42 = .ok (.invokespecial 84, 3) := by decide +kernel
theorem pd_2 : parseMethodDescriptor "(Ljava/lang/String;I)V" = some ⟨[(.object "java/lang/String"), .int], none⟩ := by decide +kernel
theorem d7_45 : decode prog_3_method_3_code 45 = .ok (.areturn, 1) := by decide +kernel
def Q_rm7 (Z : State) (a1 : Addr) (p2 : Int32) (t1 : Addr) (cs1 : List Int32) (z_cs : Int32) (h0 : Heap) (n0 : Nat) (v : Option Value) (h : Heap) (L : List Loc) : Prop := ∃ (b : Addr), v = some (.ref b) ∧ Fr n0 L ∧ Keep h0 h [] ∧ h0.size ≤ b ∧ Exa Z h b "com/example/cerrojo/cerrojo/config/ServerAddress" ∧ Fld Z h b "com/example/cerrojo/cerrojo/config/ServerAddress" "host" "Ljava/lang/String;" (.ref a1) ∧ Fld Z h b "com/example/cerrojo/cerrojo/config/ServerAddress" "port" "I" (.int p2)
theorem rm7 (l : Launch) (Z : State) (a0 : Array Value) (hw : ∀ d ∈ tables_1, d.before a0 Z = true) (ws : List Jvm.Cond) {z_cs : Int32} (cx : Cx Z z_cs) (a1 : Addr) (p2 : Int32) (t1 : Addr) (cs1 : List Int32) (h0 : Heap) (n0 : Nat) (O0 : Old Z n0 h0) (S1 : Str Z h0 a1 t1 cs1) (hne : ¬ (cs1.length = 0)) (hp1 : ¬ (p2 < (1 : Int32))) (hp2 : ¬ ((65535 : Int32) < p2)) :
    MetFree l (⟨"com/example/cerrojo/cerrojo/config/ServerAddress", "of", "(Ljava/lang/String;I)Lcom/example/cerrojo/cerrojo/config/ServerAddress;"⟩ : MethodName) (head1 (Jvm.Cond.code (⟨"com/example/cerrojo/cerrojo/config/ServerAddress", "of", "(Ljava/lang/String;I)Lcom/example/cerrojo/cerrojo/config/ServerAddress;"⟩ : MethodName) prog_3_method_3_code 2 (some (.object "com/example/cerrojo/cerrojo/config/ServerAddress")) :: ws) (own_R 2 3 22 27)) (fun a U => a = #[(.ref a1), (.int p2)] ∧ Z.Warmed39 U.vm ∧ U.heap = h0) (fun _ _ _ _ _ => True) (fun _ U o U' => ∃ v L, o = .returned v ∧ Q_rm7 Z a1 p2 t1 cs1 z_cs h0 n0 v U'.heap L ∧ ReturnedEndW U o U' L (own_R 2 3 22 27).cells (own_R 2 3 22 27).slots) := by
  refine MetFree.of_bodySF (plainFor_of_name pn_7) hisR ?_
  intro p e s m args below meth c s₁ Bd hml0 hP hK
  obtain ⟨rfl, hZ, hh⟩ := hP
  have hx := Bd.exec
  have hby := Bd.bytes
  have hml : c.maxLocals = 2 := hml0
  have hown : s.vm.findClass "com/example/cerrojo/cerrojo/config/ServerAddress" = some m.cls := findClass_of_methodNamed Bd.named
  have hnm := (name_of_methodNamed Bd.named Bd.method).1
  have hS0 : s.Since s.vm 0 := (State.WarmedH.refl s).since 0
  have hk0 : 0 ≤ h0.size := Nat.zero_le _
  have hwS : ∀ d ∈ Bundle.stringAtoms, d.before a0 Z = true := fun d hd => hw d ((by decide +kernel : ∀ d ∈ Bundle.stringAtoms, d ∈ tables_1) d hd)
  have X0 : Stand p l e (own_R 2 3 22 27) (s.setVm s.vm) m #[(.ref a1), (.int p2)] below meth c s₁ [] 0 0 := Stand.of_body Bd
  have e0 : s₁.heap = h0 := by rw [← hh, Bd.state]; rfl
  have N0 := Fr.nil n0
  have K0 : Keep h0 h0 [] := Keep.refl _ _
  have pre0 : ∀ t, Go p e below s₁ (mkF m 0 #[.val (.ref a1), .val (.int p2)] []) t → Go p e below s₁ (entryFrame m #[(.ref a1), (.int p2)] 2) t := fun t k => castTop (ef_7_RI m a1 p2) k
  have q21 := fun t (kt : Go p e below s₁ (mkF m 1 #[.val (.ref a1), .val (.int p2)] [(.ref a1)]) t) => pre0 t (by
    show Go p e below s₁ (mkF m 0 #[.val (.ref a1), .val (.int p2)] []) _
    refine XS.aloadN X0.here hx rfl (hb hby d7_0) rfl rfl ?_
    exact kt)
  obtain ⟨b22, T22, h22, k22, X22, e22, E22, hS22, hkk22, hZ, hown, st22⟩ := ldcS (vm0 := s.vm) X0 hx hZ hown (own_w hw 36 rfl) hwS e0 hS0 hk0 (g := (mkF m 1 #[.val (.ref a1), .val (.int p2)] [(.ref a1)])) rfl (hb hby d7_1) (n := 16) (by decide) (by decide) (by decide) (by decide)
  have q23 := fun t (kt : Go p e below T22 (mkF m 3 #[.val (.ref a1), .val (.int p2)] [(.ref b22), (.ref a1)]) t) => q21 t (st22 t kt)
  have O24 : Old Z n0 h22 := O0.ext E22
  have K25 : Keep h0 h22 [] := K0.ext E22
  obtain ⟨_, _, ⟨T26, L26, k26, n26⟩, -, X26, ⟨Lc26, hQ26, l26, y26, z26⟩, st26⟩ := Jvm.LawKit.callS X22 hx (y := (⟨"java/util/Objects", "requireNonNull", "(Ljava/lang/Object;Ljava/lang/String;)Ljava/lang/Object;"⟩ : MethodName)) hown (mvT hZ (own_w hw 39 rfl)) (mvT hZ (own_w hw 40 rfl)) (mvT hZ (own_w hw 41 rfl)) (mvT hZ (own_w hw 42 rfl)) (by decide) (backOf (W := 0) (rm8 l Z a0 hw [] cx a1 b22 h22 n0 O24 ) hZ (own_w hw 42 rfl) (own_w hw 41 rfl) (by decide) (by decide)) (g := (mkF m 3 #[.val (.ref a1), .val (.int p2)] [(.ref b22), (.ref a1)])) rfl (by rw [hml]; rfl) (argsL := [(.ref a1), (.ref b22)]) (rest := []) (lenOf pd_0 rfl) rfl (by show 2 * 0 + _ ≤ _; exact Nat.le_of_eq rfl) (hb hby d7_3) (fun _ _ => ⟨rfl, e22, (by decide : 2 + 0 ≤ _), (by decide : 20 + 0 ≤ _)⟩)
  dsimp only [Pt.U, Pt.locs, Pt.cells, Pt.slots] at X26 l26 y26 z26 st26 hQ26
  subst l26 y26 z26
  obtain ⟨rfl, Nq26, eq26⟩ := hQ26
  have N27 := Fr.app N0 Nq26
  have q28 := fun t (kt : Go p e below T26 (mkF m 6 #[.val (.ref a1), .val (.int p2)] [(.ref a1)]) t) => q23 t (st26 t kt)
  have f29 : Str Z h22 a1 t1 cs1 := (S1.ext E22)
  have q31 := fun t (kt : Go p e below T26 (mkF m 8 #[.val (.ref a1), .val (.int p2)] [(.ref a1)]) t) => q28 t (by
    show Go p e below T26 (mkF m 6 #[.val (.ref a1), .val (.int p2)] [(.ref a1)]) _
    refine XS.pop X26.here hx rfl (hb hby d7_6) rfl rfl ?_
    show Go p e below T26 (mkF m 7 #[.val (.ref a1), .val (.int p2)] []) _
    refine XS.aloadN X26.here hx rfl (hb hby d7_7) rfl rfl ?_
    exact kt)
  have hsw30 : ∀ d ∈ StrChars.Road.wordsEmp, d.before a0 Z = true := fun d hd => hw d ((by decide +kernel : ∀ d ∈ StrChars.Road.wordsEmp, d ∈ tables_1) d hd)
  obtain ⟨kb32, cd32, nb32, vb32, sE32, sV32, sC32, sK32, sD32, sB32, sL32⟩ := id f29
  obtain ⟨cq34, kq34, q34a, q34b, q34c⟩ := isOf hZ eq26 f29.exa
  obtain ⟨_, _, ⟨T33, L33, k33, n33⟩, -, X33, ⟨Lc33, hQ33, l33, y33, z33⟩, st33⟩ := X26.virtualBack hx (y := (⟨"java/lang/String", "isEmpty", "()Z"⟩ : MethodName)) (z := (⟨"java/lang/String", "isEmpty", "()Z"⟩ : MethodName)) hown (mvT hZ (own_w hw 43 rfl)) (mvT hZ (own_w hw 44 rfl)) (notFace_of_selects (args := #[]) (mvT hZ (own_w hw 46 rfl))) (mvT hZ (own_w hw 46 rfl)) (mvT hZ (own_w hw 45 rfl)) (by decide) (StrChars.Road.empW (W := 0) hZ hsw30 (kI := 4) (own_w hw 3 rfl) sE32 sV32 sC32 sK32 sD32 sB32 sL32 (by decide) (by decide)) q34a q34c (g := (mkF m 8 #[.val (.ref a1), .val (.int p2)] [(.ref a1)])) rfl (by rw [hml]; rfl) (Steps.refl _) (argsL := []) (rest := []) (lenOf pd_1 rfl) rfl (by show 2 * 0 + _ ≤ _; exact Nat.le_of_eq rfl) (hb hby d7_8) (fun _ _ => ⟨rfl, eq26, (by decide : 2 + 0 ≤ _), (by decide : 20 + 0 ≤ _)⟩)
  dsimp only [Pt.U, Pt.locs, Pt.cells, Pt.slots] at X33 l33 y33 z33 st33 hQ33
  subst l33 y33 z33
  obtain ⟨rfl, rfl, eq33⟩ := hQ33
  try rw [List.append_nil] at X33
  have q35 := fun t (kt : Go p e below T33 (mkF m 11 #[.val (.ref a1), .val (.int p2)] [(.int (if (cs1).length = 0 then 1 else 0))]) t) => q31 t (st33.trans kt)
  have q36 := fun t (kt : Go p e below T33 (mkF m 36 #[.val (.ref a1), .val (.int p2)] []) t) => q35 t (by
    show Go p e below T33 (mkF m 11 #[.val (.ref a1), .val (.int p2)] [(.int (if (cs1).length = 0 then 1 else 0))]) _
    refine XS.ifNo X33.here hx rfl (hb hby d7_11) rfl ((if0 _ _).trans (teq (own_ne0 hne).2).2) ?_
    show Go p e below T33 (mkF m 14 #[.val (.ref a1), .val (.int p2)] []) _
    refine XS.iloadN X33.here hx rfl (hb hby d7_14) rfl ?_
    show Go p e below T33 (mkF m 15 #[.val (.ref a1), .val (.int p2)] [(.int p2)]) _
    refine XS.iconst X33.here hx rfl (hb hby d7_15) ?_
    show Go p e below T33 (mkF m 16 #[.val (.ref a1), .val (.int p2)] [(.int (1 : Int32)), (.int p2)]) _
    refine XS.icmpNo X33.here hx rfl (hb hby d7_16) rfl (flt hp1).1 ?_
    show Go p e below T33 (mkF m 19 #[.val (.ref a1), .val (.int p2)] []) _
    refine XS.iloadN X33.here hx rfl (hb hby d7_19) rfl ?_
    show Go p e below T33 (mkF m 20 #[.val (.ref a1), .val (.int p2)] [(.int p2)]) _
    refine X33.ldcInt hx hown (mvT hZ (own_w hw 48 rfl)) (g := (mkF m 20 #[.val (.ref a1), .val (.int p2)] [(.int p2)])) rfl (hb hby d7_20) _ ?_
    show Go p e below T33 (mkF m 22 #[.val (.ref a1), .val (.int p2)] [(.int (65535 : Int32)), (.int p2)]) _
    refine XS.icmpYes X33.here hx rfl (pc0 := 22) (pc' := 36) rfl (hb hby d7_22) rfl (flt hp2).2.2.2 (by decide) (by decide) ?_
    exact kt)
  obtain ⟨T37, h37, X37, e37, E37, A37, D37, U37, st37⟩ := newO X33 hx hZ hown (own_w hw 49 rfl) (own_w hw 50 rfl) (own_w hw 34 rfl) eq33 (g := (mkF m 36 #[.val (.ref a1), .val (.int p2)] [])) rfl (hb hby d7_36) (by decide) (by decide)
  obtain ⟨b37, g37⟩ : ∃ z, z = h22.size := ⟨_, rfl⟩
  rw [← g37] at A37 D37 st37
  have gg38 : n0 ≤ b37 := Nat.le_trans (O24.1 ▸ O24.2.1) (Nat.le_of_eq g37.symm)
  have sz39 : h0.size ≤ b37 := Nat.le_trans K25.1 (Nat.le_of_eq g37.symm)
  have q40 := fun t (kt : Go p e below T37 (mkF m 39 #[.val (.ref a1), .val (.int p2)] [(.ref b37)]) t) => q36 t (st37 t kt)
  have O41 : Old Z n0 h37 := O24.ext E37
  have hk42 : _ ≤ h37.size := Nat.le_trans hkk22 E37.1
  have K43 : Keep h0 h37 [] := K25.ext E37
  have F37_host : Fld Z h37 b37 "com/example/cerrojo/cerrojo/config/ServerAddress" "host" "Ljava/lang/String;" .null := D37 (Or.inr (own_w hw 56 rfl)) (ty := (.object "java/lang/String")) (by decide)
  have F37_port : Fld Z h37 b37 "com/example/cerrojo/cerrojo/config/ServerAddress" "port" "I" (.int (0 : Int32)) := D37 (Or.inr (own_w hw 58 rfl)) (ty := .int) (by decide)
  have q44 := fun t (kt : Go p e below T37 (mkF m 42 #[.val (.ref a1), .val (.int p2)] [(.int p2), (.ref a1), (.ref b37), (.ref b37)]) t) => q40 t (by
    show Go p e below T37 (mkF m 39 #[.val (.ref a1), .val (.int p2)] [(.ref b37)]) _
    refine XS.dup X37.here hx rfl (hb hby d7_39) rfl rfl ?_
    show Go p e below T37 (mkF m 40 #[.val (.ref a1), .val (.int p2)] [(.ref b37), (.ref b37)]) _
    refine XS.aloadN X37.here hx rfl (hb hby d7_40) rfl rfl ?_
    show Go p e below T37 (mkF m 41 #[.val (.ref a1), .val (.int p2)] [(.ref a1), (.ref b37), (.ref b37)]) _
    refine XS.iloadN X37.here hx rfl (hb hby d7_41) rfl ?_
    exact kt)
  obtain ⟨_, _, ⟨T45, L45, k45, n45⟩, -, X45, ⟨Lc45, hQ45, l45, y45, z45⟩, st45⟩ := X37.specialBack hx (y := (⟨"com/example/cerrojo/cerrojo/config/ServerAddress", "<init>", "(Ljava/lang/String;I)V"⟩ : MethodName)) rfl hown (mvT hZ (own_w hw 51 rfl)) (mvT hZ (own_w hw 52 rfl)) (mvT hZ (own_w hw 53 rfl)) (by decide) (backOf (W := 1) (rm10 l Z a0 hw [] cx b37 a1 p2 h37 n0 O41 A37 F37_host F37_port gg38) hZ (own_w hw 53 rfl) (own_w hw 34 rfl) (by decide) (by decide)) (g := (mkF m 42 #[.val (.ref a1), .val (.int p2)] [(.int p2), (.ref a1), (.ref b37), (.ref b37)])) rfl (by rw [hml]; rfl) (Steps.refl _) (a := b37) (argsL := [(.ref a1), (.int p2)]) (rest := [(.ref b37)]) (lenOf pd_2 rfl) rfl (by show 2 * 0 + _ ≤ _; exact Nat.le_of_eq rfl) (hb hby d7_42) (fun _ _ => ⟨rfl, e37, (by decide : 3 + 0 ≤ _), (by decide : 22 + 0 ≤ _)⟩)
  dsimp only [Pt.U, Pt.locs, Pt.cells, Pt.slots] at X45 l45 y45 z45 st45 hQ45
  subst l45 y45 z45
  obtain ⟨rfl, Nq45, Kq45, fq45_0, fq45_1, fq45_2⟩ := hQ45
  have N46 := Fr.app N27 Nq45
  have q47 := fun t (kt : Go p e below T45 (mkF m 45 #[.val (.ref a1), .val (.int p2)] [(.ref b37)]) t) => q44 t (st45.trans kt)
  have O48 : Old Z n0 T45.heap := O41.keep Kq45 (allS gg38 all0)
  have hk49 : _ ≤ T45.heap.size := Nat.le_trans hk42 Kq45.1
  have K50 : Keep h0 T45.heap [] := K43.trans Kq45 (allS (Or.inr sz39) all0)
  obtain ⟨fs, hr, hrun, hended, hRE⟩ := X45.leaveW hS22 hk49 (v := some (.ref b37)) (fun h => by rw [Bd.returns] at h; cases h)
  refine ⟨_, _, q47 _ ?_, hrun, hended, _, _, rfl, ?_, hRE.1, hRE.2.1, hRE.2.2.1, hRE.2.2.2.mono (by decide) (by decide)⟩
  · show Go p e below T45 (mkF m 45 #[.val (.ref a1), .val (.int p2)] [(.ref b37)]) _
    jvm_step X45.here [X45.here.top, hx, (hb hby d7_45), X45.method', Bd.returns, Value.isRef, FieldType.isReference]
    first | (intro acts; rw [hr _ acts rfl rfl rfl]) | rw [hr _ _ rfl rfl rfl]
    exact Steps.refl _
  · show Q_rm7 Z a1 p2 t1 cs1 z_cs h0 n0 _ T45.heap _
    exact ⟨b37, rfl, N46, K50, sz39, fq45_0, fq45_1, fq45_2⟩
theorem ef_14_RR (m : MethodId) (x0 : Addr) (x1 : Addr) : entryFrame m #[(.ref x0), (.ref x1)] 3 = mkF m 0 #[.val (.ref x0), .val (.ref x1), .unset] [] := by first | (simp [entryFrame, mkF, argsToLocals, Value.category]; done) | rfl
theorem pn_14 : plainName "com/example/cerrojo/cerrojo/config/ServerAddress" = true := by first | (simp [plainName, overriddenIn]; done) | decide +kernel
theorem d14_0 : decode prog_3_method_10_code 0 = .ok (.aload_n 1, 1) := by decide +kernel
theorem d14_1 : decode prog_3_method_10_code 1 = .ok (.instanceof 8, 3) := by decide +kernel
theorem d14_4 : decode prog_3_method_10_code 4 = .ok (.ifCond .eq 37, 3) := by decide +kernel
theorem d14_7 : decode prog_3_method_10_code 7 = .ok (.aload_n 1, 1) := by decide +kernel
theorem d14_8 : decode prog_3_method_10_code 8 = .ok (.checkcast 8, 3) := by decide +kernel
theorem d14_11 : decode prog_3_method_10_code 11 = .ok (.astore_n 2, 1) := by decide +kernel
theorem d14_12 : decode prog_3_method_10_code 12 = .ok (.aload_n 0, 1) := by decide +kernel
theorem d14_13 : decode prog_3_method_10_code 13 = .ok (.getfield 7, 3) := by decide +kernel
theorem d14_16 : decode prog_3_method_10_code 16 = .ok (.aload_n 2, 1) := by decide +kernel
theorem d14_17 : decode prog_3_method_10_code 17 = .ok (.getfield 7, 3) := by decide +kernel
theorem d14_20 : decode prog_3_method_10_code 20 = .ok (.invokevirtual 61, 3) := by decide +kernel
theorem pd_3 : parseMethodDescriptor "(Ljava/lang/Object;)Z" = some ⟨[(.object "java/lang/Object")], some .boolean⟩ := by decide +kernel
theorem d14_23 : decode prog_3_method_10_code 23 = .ok (.ifCond .eq 18, 3) := by decide +kernel
theorem d14_26 : decode prog_3_method_10_code 26 = .ok (.aload_n 0, 1) := by decide +kernel
theorem d14_27 : decode prog_3_method_10_code 27 = .ok (.getfield 13, 3) := by decide +kernel
theorem d14_30 : decode prog_3_method_10_code 30 = .ok (.aload_n 2, 1) := by decide +kernel
theorem d14_31 : decode prog_3_method_10_code 31 = .ok (.getfield 13, 3) := by decide +kernel
theorem d14_34 : decode prog_3_method_10_code 34 = .ok (.if_icmp .ne 7, 3) := by decide +kernel
theorem d14_37 : decode prog_3_method_10_code 37 = .ok (.iconst 1, 1) := by decide +kernel
theorem d14_38 : decode prog_3_method_10_code 38 = .ok (.goto 4, 3) := by decide +kernel
theorem d14_42 : decode prog_3_method_10_code 42 = .ok (.ireturn, 1) := by decide +kernel
def Q_rm14 (Z : State) (a1 : Addr) (a2 : Addr) (x1 : Addr) (x2 : Addr) (pp : Int32) (t1 : Addr) (t2 : Addr) (cs1 : List Int32) (z_cs : Int32) (h0 : Heap) (n0 : Nat) (v : Option Value) (h : Heap) (L : List Loc) : Prop := v = some (.int (1 : Int32)) ∧ Fr n0 L ∧ h = h0
theorem rm14 (l : Launch) (Z : State) (a0 : Array Value) (hw : ∀ d ∈ tables_1, d.before a0 Z = true) (ws : List Jvm.Cond) {z_cs : Int32} (cx : Cx Z z_cs) (a1 : Addr) (a2 : Addr) (x1 : Addr) (x2 : Addr) (pp : Int32) (t1 : Addr) (t2 : Addr) (cs1 : List Int32) (h0 : Heap) (n0 : Nat) (O0 : Old Z n0 h0) (E2 : Exa Z h0 a2 "com/example/cerrojo/cerrojo/config/ServerAddress") (F1 : Fld Z h0 a1 "com/example/cerrojo/cerrojo/config/ServerAddress" "host" "Ljava/lang/String;" (.ref x1)) (F2 : Fld Z h0 a2 "com/example/cerrojo/cerrojo/config/ServerAddress" "host" "Ljava/lang/String;" (.ref x2)) (F3 : Fld Z h0 a1 "com/example/cerrojo/cerrojo/config/ServerAddress" "port" "I" (.int pp)) (F4 : Fld Z h0 a2 "com/example/cerrojo/cerrojo/config/ServerAddress" "port" "I" (.int pp)) (S1 : Str Z h0 x1 t1 cs1) (S2 : Str Z h0 x2 t2 cs1) :
    OwnMet l (⟨"com/example/cerrojo/cerrojo/config/ServerAddress", "equals", "(Ljava/lang/Object;)Z"⟩ : MethodName) (Jvm.Cond.code (⟨"com/example/cerrojo/cerrojo/config/ServerAddress", "equals", "(Ljava/lang/Object;)Z"⟩ : MethodName) prog_3_method_10_code 3 (some .boolean) :: ws) (own_R 2 0 0 28) #[(.ref a1), (.ref a2)] Z h0 (Q_rm14 Z a1 a2 x1 x2 pp t1 t2 cs1 z_cs h0 n0) := by
  refine own_body (plainFor_of_name pn_14) hisR fun p e s m below meth c s₁ hx hby hml hown hnm hret hZ X0 e0 => ?_
  have N0 := Fr.nil n0
  have pre0 : ∀ t, Go p e below s₁ (mkF m 0 #[.val (.ref a1), .val (.ref a2), .unset] []) t → Go p e below s₁ (entryFrame m #[(.ref a1), (.ref a2)] 3) t := fun t k => castTop (ef_14_RR m a1 a2) k
  have q21 := fun t (kt : Go p e below s₁ (mkF m 1 #[.val (.ref a1), .val (.ref a2), .unset] [(.ref a2)]) t) => pre0 t (by
    show Go p e below s₁ (mkF m 0 #[.val (.ref a1), .val (.ref a2), .unset] []) _
    refine XS.aloadN X0.here hx rfl (hb hby d14_0) rfl rfl ?_
    exact kt)
  obtain ⟨T22, X22, e22, st22⟩ := instY X0 hx hZ hown (own_w hw 49 rfl) e0 (Ins.self E2) (g := (mkF m 1 #[.val (.ref a1), .val (.ref a2), .unset] [(.ref a2)])) rfl rfl (hb hby d14_1)
  have q23 := fun t (kt : Go p e below T22 (mkF m 4 #[.val (.ref a1), .val (.ref a2), .unset] [(.int (1 : Int32))]) t) => q21 t (st22 t kt)
  have q24 := fun t (kt : Go p e below T22 (mkF m 8 #[.val (.ref a1), .val (.ref a2), .unset] [(.ref a2)]) t) => q23 t (by
    show Go p e below T22 (mkF m 4 #[.val (.ref a1), .val (.ref a2), .unset] [(.int (1 : Int32))]) _
    refine XS.ifNo X22.here hx rfl (hb hby d14_4) rfl ((if0 _ _).trans (feq (by decide : ¬ ((1 : Int32) = (0 : Int32)))).1) ?_
    show Go p e below T22 (mkF m 7 #[.val (.ref a1), .val (.ref a2), .unset] []) _
    refine XS.aloadN X22.here hx rfl (hb hby d14_7) rfl rfl ?_
    exact kt)
  obtain ⟨T25, X25, e25, st25⟩ := castY X22 hx hZ hown (own_w hw 49 rfl) e22 (Ins.self E2) (g := (mkF m 8 #[.val (.ref a1), .val (.ref a2), .unset] [(.ref a2)])) rfl rfl (hb hby d14_8)
  have q26 := fun t (kt : Go p e below T25 (mkF m 11 #[.val (.ref a1), .val (.ref a2), .unset] [(.ref a2)]) t) => q24 t (st25 t kt)
  have q27 := fun t (kt : Go p e below T25 (mkF m 13 #[.val (.ref a1), .val (.ref a2), .val (.ref a2)] [(.ref a1)]) t) => q26 t (by
    show Go p e below T25 (mkF m 11 #[.val (.ref a1), .val (.ref a2), .unset] [(.ref a2)]) _
    refine XS.astoreN X25.here hx rfl (hb hby d14_11) rfl rfl (l' := #[.val (.ref a1), .val (.ref a2), .val (.ref a2)]) rfl ?_
    show Go p e below T25 (mkF m 12 #[.val (.ref a1), .val (.ref a2), .val (.ref a2)] []) _
    refine XS.aloadN X25.here hx rfl (hb hby d14_12) rfl rfl ?_
    exact kt)
  obtain ⟨T28, X28, e28, st28⟩ := getF X25 hx hZ hown (host := "") (Or.inl (own_w hw 55 rfl)) Via.refl e25 F1 (g := (mkF m 13 #[.val (.ref a1), .val (.ref a2), .val (.ref a2)] [(.ref a1)])) rfl rfl (hb hby d14_13)
  have q29 := fun t (kt : Go p e below T28 (mkF m 16 #[.val (.ref a1), .val (.ref a2), .val (.ref a2)] [(.ref x1)]) t) => q27 t (st28 t kt)
  have q30 := fun t (kt : Go p e below T28 (mkF m 17 #[.val (.ref a1), .val (.ref a2), .val (.ref a2)] [(.ref a2), (.ref x1)]) t) => q29 t (by
    show Go p e below T28 (mkF m 16 #[.val (.ref a1), .val (.ref a2), .val (.ref a2)] [(.ref x1)]) _
    refine XS.aloadN X28.here hx rfl (hb hby d14_16) rfl rfl ?_
    exact kt)
  obtain ⟨T31, X31, e31, st31⟩ := getF X28 hx hZ hown (host := "") (Or.inl (own_w hw 55 rfl)) Via.refl e28 F2 (g := (mkF m 17 #[.val (.ref a1), .val (.ref a2), .val (.ref a2)] [(.ref a2), (.ref x1)])) rfl rfl (hb hby d14_17)
  have q32 := fun t (kt : Go p e below T31 (mkF m 20 #[.val (.ref a1), .val (.ref a2), .val (.ref a2)] [(.ref x2), (.ref x1)]) t) => q30 t (st31 t kt)
  have hsw33 : ∀ d ∈ StrChars.Road.wordsEq, d.before a0 Z = true := fun d hd => hw d ((by decide +kernel : ∀ d ∈ StrChars.Road.wordsEq, d ∈ tables_1) d hd)
  obtain ⟨kb34, cd34, nb34, vb34, sE34, sV34, sC34, sK34, sD34, sB34, sL34⟩ := id S1
  obtain ⟨kb35, cd35, nb35, vb35, sE35, sV35, sC35, sK35, sD35, sB35, sL35⟩ := id S2
  obtain ⟨cq37, kq37, q37a, q37b, q37c⟩ := isOf hZ e31 S1.exa
  obtain ⟨_, _, ⟨T36, L36, k36, n36⟩, -, X36, ⟨Lc36, hQ36, l36, y36, z36⟩, st36⟩ := X31.virtualBack hx (y := (⟨"java/lang/String", "equals", "(Ljava/lang/Object;)Z"⟩ : MethodName)) (z := (⟨"java/lang/String", "equals", "(Ljava/lang/Object;)Z"⟩ : MethodName)) hown (mvT hZ (own_w hw 80 rfl)) (mvT hZ (own_w hw 65 rfl)) (notFace_of_selects (args := #[]) (mvT hZ (own_w hw 67 rfl))) (mvT hZ (own_w hw 67 rfl)) (mvT hZ (own_w hw 66 rfl)) (by decide) (StrChars.Road.eqW (W := 0) hZ hsw33 (kI := 4) (own_w hw 3 rfl) sE34 sV34 sC34 sK34 sD34 sB34 sL34 sE35 sV35 sC35 sK35 sD35 sB35 sL35 (cx.1.ext O0.2) cx.2 (by decide) (by decide)) q37a q37c (g := (mkF m 20 #[.val (.ref a1), .val (.ref a2), .val (.ref a2)] [(.ref x2), (.ref x1)])) rfl (by rw [hml]; rfl) (Steps.refl _) (argsL := [(.ref x2)]) (rest := []) (lenOf pd_3 rfl) rfl (by show 2 * 0 + _ ≤ _; exact Nat.le_of_eq rfl) (hb hby d14_20) (fun _ _ => ⟨rfl, e31, (by decide : 0 + 0 ≤ _), (by decide : 0 + 0 ≤ _)⟩)
  dsimp only [Pt.U, Pt.locs, Pt.cells, Pt.slots] at X36 l36 y36 z36 st36 hQ36
  subst l36 y36 z36
  obtain ⟨hcase36, rfl, eq36⟩ := hQ36
  try rw [List.append_nil] at X36
  obtain rfl := hcase36.elim (fun q => q.1) (fun q => absurd rfl q.2)
  have q38 := fun t (kt : Go p e below T36 (mkF m 23 #[.val (.ref a1), .val (.ref a2), .val (.ref a2)] [(.int (1 : Int32))]) t) => q32 t (st36.trans kt)
  have q39 := fun t (kt : Go p e below T36 (mkF m 27 #[.val (.ref a1), .val (.ref a2), .val (.ref a2)] [(.ref a1)]) t) => q38 t (by
    show Go p e below T36 (mkF m 23 #[.val (.ref a1), .val (.ref a2), .val (.ref a2)] [(.int (1 : Int32))]) _
    refine XS.ifNo X36.here hx rfl (hb hby d14_23) rfl ((if0 _ _).trans (feq (by decide : ¬ ((1 : Int32) = (0 : Int32)))).1) ?_
    show Go p e below T36 (mkF m 26 #[.val (.ref a1), .val (.ref a2), .val (.ref a2)] []) _
    refine XS.aloadN X36.here hx rfl (hb hby d14_26) rfl rfl ?_
    exact kt)
  obtain ⟨T40, X40, e40, st40⟩ := getF X36 hx hZ hown (host := "") (Or.inl (own_w hw 57 rfl)) Via.refl eq36 F3 (g := (mkF m 27 #[.val (.ref a1), .val (.ref a2), .val (.ref a2)] [(.ref a1)])) rfl rfl (hb hby d14_27)
  have q41 := fun t (kt : Go p e below T40 (mkF m 30 #[.val (.ref a1), .val (.ref a2), .val (.ref a2)] [(.int pp)]) t) => q39 t (st40 t kt)
  have q42 := fun t (kt : Go p e below T40 (mkF m 31 #[.val (.ref a1), .val (.ref a2), .val (.ref a2)] [(.ref a2), (.int pp)]) t) => q41 t (by
    show Go p e below T40 (mkF m 30 #[.val (.ref a1), .val (.ref a2), .val (.ref a2)] [(.int pp)]) _
    refine XS.aloadN X40.here hx rfl (hb hby d14_30) rfl rfl ?_
    exact kt)
  obtain ⟨T43, X43, e43, st43⟩ := getF X40 hx hZ hown (host := "") (Or.inl (own_w hw 57 rfl)) Via.refl e40 F4 (g := (mkF m 31 #[.val (.ref a1), .val (.ref a2), .val (.ref a2)] [(.ref a2), (.int pp)])) rfl rfl (hb hby d14_31)
  have q44 := fun t (kt : Go p e below T43 (mkF m 34 #[.val (.ref a1), .val (.ref a2), .val (.ref a2)] [(.int pp), (.int pp)]) t) => q42 t (st43 t kt)
  have q45 := fun t (kt : Go p e below T43 (mkF m 42 #[.val (.ref a1), .val (.ref a2), .val (.ref a2)] [(.int (1 : Int32))]) t) => q44 t (by
    show Go p e below T43 (mkF m 34 #[.val (.ref a1), .val (.ref a2), .val (.ref a2)] [(.int pp), (.int pp)]) _
    refine XS.icmpNo X43.here hx rfl (hb hby d14_34) rfl (teq (rfl : pp = pp)).2 ?_
    show Go p e below T43 (mkF m 37 #[.val (.ref a1), .val (.ref a2), .val (.ref a2)] []) _
    refine XS.iconst X43.here hx rfl (hb hby d14_37) ?_
    show Go p e below T43 (mkF m 38 #[.val (.ref a1), .val (.ref a2), .val (.ref a2)] [(.int (1 : Int32))]) _
    refine XS.goto X43.here hx rfl (pc0 := 38) (pc' := 42) rfl (hb hby d14_38) (by decide) (by decide) ?_
    exact kt)
  exact ⟨some (.int (1 : Int32)), T43, _, _, _, _, X43, by decide, by decide, nofun, q45, fun fs hr => retN X43 hx (t := .boolean) hret (by simp) (hb hby d14_42) hr, by rw [e43]; exact ⟨rfl, N0, rfl⟩⟩
theorem ef_0_IIIII (m : MethodId) (x0 : Int32) (x1 : Int32) (x2 : Int32) (x3 : Int32) (x4 : Int32) : entryFrame m #[(.int x0), (.int x1), (.int x2), (.int x3), (.int x4)] maxLocals = mkF m 0 #[.val (.int x0), .val (.int x1), .val (.int x2), .val (.int x3), .val (.int x4), .unset, .unset, .unset, .unset, .unset, .unset, .unset, .unset, .unset, .unset] [] := by first | (simp [entryFrame, mkF, argsToLocals, Value.category, maxLocals]; done) | rfl
theorem pn_0 : plainName "com/example/cerrojo/cerrojo/config/ServerAddressOfPinLaw" = true := by first | (simp [plainName, overriddenIn]; done) | decide +kernel
theorem pd_4 : parseMethodDescriptor "([C)V" = some ⟨[(.array .char)], none⟩ := by decide +kernel
theorem pd_5 : parseMethodDescriptor "(Ljava/lang/String;I)Lcom/example/cerrojo/cerrojo/config/ServerAddress;" = some ⟨[(.object "java/lang/String"), .int], some (.object "com/example/cerrojo/cerrojo/config/ServerAddress")⟩ := by decide +kernel
theorem pd_6 : parseMethodDescriptor "()Ljava/lang/String;" = some ⟨[], some (.object "java/lang/String")⟩ := by decide +kernel
theorem pd_7 : parseMethodDescriptor "()I" = some ⟨[], some .int⟩ := by decide +kernel
def Q_rm0 (Z : State) (p1 : Int32) (p2 : Int32) (p3 : Int32) (p4 : Int32) (p5 : Int32) (z_cs : Int32) (h0 : Heap) (n0 : Nat) (v : Option Value) (h : Heap) (L : List Loc) : Prop := v = some (.int (1 : Int32)) ∧ Fr n0 L
theorem rm0 (l : Launch) (Z : State) (a0 : Array Value) (hw : ∀ d ∈ tables_1, d.before a0 Z = true) (ws : List Jvm.Cond) {z_cs : Int32} (cx : Cx Z z_cs) (p1 : Int32) (p2 : Int32) (p3 : Int32) (p4 : Int32) (p5 : Int32) (h0 : Heap) (n0 : Nat) (O0 : Old Z n0 h0) :
    MetFree l x (head1 (Jvm.Cond.code x code maxLocals ret :: ws) room_1) (fun a U => a = #[(.int p1), (.int p2), (.int p3), (.int p4), (.int p5)] ∧ Z.Warmed39 U.vm ∧ U.heap = h0) (fun _ _ _ _ _ => True) (fun _ U o U' => ∃ v L, o = .returned v ∧ Q_rm0 Z p1 p2 p3 p4 p5 z_cs h0 n0 v U'.heap L ∧ ReturnedEndW U o U' L room_1.cells room_1.slots) := by
  refine MetFree.of_bodySF (plainFor_of_name pn_0) hisR ?_
  intro p e s m args below meth c s₁ Bd hml0 hP hK
  obtain ⟨rfl, hZ, hh⟩ := hP
  have hx := Bd.exec
  have hby := Bd.bytes
  have hml : c.maxLocals = 15 := hml0
  have hown : s.vm.findClass "com/example/cerrojo/cerrojo/config/ServerAddressOfPinLaw" = some m.cls := findClass_of_methodNamed Bd.named
  have hnm := (name_of_methodNamed Bd.named Bd.method).1
  have hS0 : s.Since s.vm 0 := (State.WarmedH.refl s).since 0
  have hk0 : 0 ≤ h0.size := Nat.zero_le _
  have hwS : ∀ d ∈ Bundle.stringAtoms, d.before a0 Z = true := fun d hd => hw d ((by decide +kernel : ∀ d ∈ Bundle.stringAtoms, d ∈ tables_1) d hd)
  have X0 : Stand p l e room_1 (s.setVm s.vm) m #[(.int p1), (.int p2), (.int p3), (.int p4), (.int p5)] below meth c s₁ [] 0 0 := Stand.of_body Bd
  have e0 : s₁.heap = h0 := by rw [← hh, Bd.state]; rfl
  have N0 := Fr.nil n0
  have pre0 : ∀ t, Go p e below s₁ (mkF m 0 #[.val (.int p1), .val (.int p2), .val (.int p3), .val (.int p4), .val (.int p5), .unset, .unset, .unset, .unset, .unset, .unset, .unset, .unset, .unset, .unset] []) t → Go p e below s₁ (entryFrame m #[(.int p1), (.int p2), (.int p3), (.int p4), (.int p5)] maxLocals) t := fun t k => castTop (ef_0_IIIII m p1 p2 p3 p4 p5) k
  have q21 := fun t (kt : Go p e below s₁ (mkF m 6 #[.val (.int p1), .val (.int p2), .val (.int p3), .val (.int p4), .val (.int p5), .unset, .unset, .unset, .unset, .unset, .unset, .unset, .unset, .unset, .unset] [(.int ((p2 &&& (255 : Int32)).toUInt32.toUInt16.toUInt32.toInt32))]) t) => pre0 t (by
    show Go p e below s₁ (mkF m 0 #[.val (.int p1), .val (.int p2), .val (.int p3), .val (.int p4), .val (.int p5), .unset, .unset, .unset, .unset, .unset, .unset, .unset, .unset, .unset, .unset] []) _
    refine XS.iloadN X0.here hx rfl (hb hby at_0) rfl ?_
    show Go p e below s₁ (mkF m 1 #[.val (.int p1), .val (.int p2), .val (.int p3), .val (.int p4), .val (.int p5), .unset, .unset, .unset, .unset, .unset, .unset, .unset, .unset, .unset, .unset] [(.int p2)]) _
    refine XS.sipush X0.here hx rfl (hb hby at_1) ?_
    show Go p e below s₁ (mkF m 4 #[.val (.int p1), .val (.int p2), .val (.int p3), .val (.int p4), .val (.int p5), .unset, .unset, .unset, .unset, .unset, .unset, .unset, .unset, .unset, .unset] [(.int (255 : Int32)), (.int p2)]) _
    refine XS.iand X0.here hx rfl (hb hby at_4) rfl ?_
    show Go p e below s₁ (mkF m 5 #[.val (.int p1), .val (.int p2), .val (.int p3), .val (.int p4), .val (.int p5), .unset, .unset, .unset, .unset, .unset, .unset, .unset, .unset, .unset, .unset] [(.int (p2 &&& (255 : Int32)))]) _
    refine XS.i2c X0.here hx rfl (hb hby at_5) rfl ?_
    exact kt)
  have q22 := fun t (kt : Go p e below s₁ (mkF m 6 #[.val (.int p1), .val (.int p2), .val (.int p3), .val (.int p4), .val (.int p5), .unset, .unset, .unset, .unset, .unset, .unset, .unset, .unset, .unset, .unset] [(.int (p2 &&& (255 : Int32)))]) t) => q21 t (by rw [(i2c_mask p2)]; exact kt)
  have q23 := fun t (kt : Go p e below s₁ (mkF m 14 #[.val (.int p1), .val (.int p2), .val (.int p3), .val (.int p4), .val (.int p5), .val (.int (p2 &&& (255 : Int32))), .unset, .unset, .unset, .unset, .unset, .unset, .unset, .unset, .unset] [(.int ((p3 &&& (255 : Int32)).toUInt32.toUInt16.toUInt32.toInt32))]) t) => q22 t (by
    show Go p e below s₁ (mkF m 6 #[.val (.int p1), .val (.int p2), .val (.int p3), .val (.int p4), .val (.int p5), .unset, .unset, .unset, .unset, .unset, .unset, .unset, .unset, .unset, .unset] [(.int (p2 &&& (255 : Int32)))]) _
    refine XS.istore X0.here hx rfl (hb hby at_6) rfl (l' := #[.val (.int p1), .val (.int p2), .val (.int p3), .val (.int p4), .val (.int p5), .val (.int (p2 &&& (255 : Int32))), .unset, .unset, .unset, .unset, .unset, .unset, .unset, .unset, .unset]) rfl ?_
    show Go p e below s₁ (mkF m 8 #[.val (.int p1), .val (.int p2), .val (.int p3), .val (.int p4), .val (.int p5), .val (.int (p2 &&& (255 : Int32))), .unset, .unset, .unset, .unset, .unset, .unset, .unset, .unset, .unset] []) _
    refine XS.iloadN X0.here hx rfl (hb hby at_8) rfl ?_
    show Go p e below s₁ (mkF m 9 #[.val (.int p1), .val (.int p2), .val (.int p3), .val (.int p4), .val (.int p5), .val (.int (p2 &&& (255 : Int32))), .unset, .unset, .unset, .unset, .unset, .unset, .unset, .unset, .unset] [(.int p3)]) _
    refine XS.sipush X0.here hx rfl (hb hby at_9) ?_
    show Go p e below s₁ (mkF m 12 #[.val (.int p1), .val (.int p2), .val (.int p3), .val (.int p4), .val (.int p5), .val (.int (p2 &&& (255 : Int32))), .unset, .unset, .unset, .unset, .unset, .unset, .unset, .unset, .unset] [(.int (255 : Int32)), (.int p3)]) _
    refine XS.iand X0.here hx rfl (hb hby at_12) rfl ?_
    show Go p e below s₁ (mkF m 13 #[.val (.int p1), .val (.int p2), .val (.int p3), .val (.int p4), .val (.int p5), .val (.int (p2 &&& (255 : Int32))), .unset, .unset, .unset, .unset, .unset, .unset, .unset, .unset, .unset] [(.int (p3 &&& (255 : Int32)))]) _
    refine XS.i2c X0.here hx rfl (hb hby at_13) rfl ?_
    exact kt)
  have q24 := fun t (kt : Go p e below s₁ (mkF m 14 #[.val (.int p1), .val (.int p2), .val (.int p3), .val (.int p4), .val (.int p5), .val (.int (p2 &&& (255 : Int32))), .unset, .unset, .unset, .unset, .unset, .unset, .unset, .unset, .unset] [(.int (p3 &&& (255 : Int32)))]) t) => q23 t (by rw [(i2c_mask p3)]; exact kt)
  have q25 := fun t (kt : Go p e below s₁ (mkF m 22 #[.val (.int p1), .val (.int p2), .val (.int p3), .val (.int p4), .val (.int p5), .val (.int (p2 &&& (255 : Int32))), .val (.int (p3 &&& (255 : Int32))), .unset, .unset, .unset, .unset, .unset, .unset, .unset, .unset] [(.int ((p4 &&& (255 : Int32)).toUInt32.toUInt16.toUInt32.toInt32))]) t) => q24 t (by
    show Go p e below s₁ (mkF m 14 #[.val (.int p1), .val (.int p2), .val (.int p3), .val (.int p4), .val (.int p5), .val (.int (p2 &&& (255 : Int32))), .unset, .unset, .unset, .unset, .unset, .unset, .unset, .unset, .unset] [(.int (p3 &&& (255 : Int32)))]) _
    refine XS.istore X0.here hx rfl (hb hby at_14) rfl (l' := #[.val (.int p1), .val (.int p2), .val (.int p3), .val (.int p4), .val (.int p5), .val (.int (p2 &&& (255 : Int32))), .val (.int (p3 &&& (255 : Int32))), .unset, .unset, .unset, .unset, .unset, .unset, .unset, .unset]) rfl ?_
    show Go p e below s₁ (mkF m 16 #[.val (.int p1), .val (.int p2), .val (.int p3), .val (.int p4), .val (.int p5), .val (.int (p2 &&& (255 : Int32))), .val (.int (p3 &&& (255 : Int32))), .unset, .unset, .unset, .unset, .unset, .unset, .unset, .unset] []) _
    refine XS.iloadN X0.here hx rfl (hb hby at_16) rfl ?_
    show Go p e below s₁ (mkF m 17 #[.val (.int p1), .val (.int p2), .val (.int p3), .val (.int p4), .val (.int p5), .val (.int (p2 &&& (255 : Int32))), .val (.int (p3 &&& (255 : Int32))), .unset, .unset, .unset, .unset, .unset, .unset, .unset, .unset] [(.int p4)]) _
    refine XS.sipush X0.here hx rfl (hb hby at_17) ?_
    show Go p e below s₁ (mkF m 20 #[.val (.int p1), .val (.int p2), .val (.int p3), .val (.int p4), .val (.int p5), .val (.int (p2 &&& (255 : Int32))), .val (.int (p3 &&& (255 : Int32))), .unset, .unset, .unset, .unset, .unset, .unset, .unset, .unset] [(.int (255 : Int32)), (.int p4)]) _
    refine XS.iand X0.here hx rfl (hb hby at_20) rfl ?_
    show Go p e below s₁ (mkF m 21 #[.val (.int p1), .val (.int p2), .val (.int p3), .val (.int p4), .val (.int p5), .val (.int (p2 &&& (255 : Int32))), .val (.int (p3 &&& (255 : Int32))), .unset, .unset, .unset, .unset, .unset, .unset, .unset, .unset] [(.int (p4 &&& (255 : Int32)))]) _
    refine XS.i2c X0.here hx rfl (hb hby at_21) rfl ?_
    exact kt)
  have q26 := fun t (kt : Go p e below s₁ (mkF m 22 #[.val (.int p1), .val (.int p2), .val (.int p3), .val (.int p4), .val (.int p5), .val (.int (p2 &&& (255 : Int32))), .val (.int (p3 &&& (255 : Int32))), .unset, .unset, .unset, .unset, .unset, .unset, .unset, .unset] [(.int (p4 &&& (255 : Int32)))]) t) => q25 t (by rw [(i2c_mask p4)]; exact kt)
  have q27 := fun t (kt : Go p e below s₁ (mkF m 32 #[.val (.int p1), .val (.int p2), .val (.int p3), .val (.int p4), .val (.int p5), .val (.int (p2 &&& (255 : Int32))), .val (.int (p3 &&& (255 : Int32))), .val (.int (p4 &&& (255 : Int32))), .val (.int ((p1 &&& (2147483647 : Int32)) % (3 : Int32))), .unset, .unset, .unset, .unset, .unset, .unset] []) t) => q26 t (by
    show Go p e below s₁ (mkF m 22 #[.val (.int p1), .val (.int p2), .val (.int p3), .val (.int p4), .val (.int p5), .val (.int (p2 &&& (255 : Int32))), .val (.int (p3 &&& (255 : Int32))), .unset, .unset, .unset, .unset, .unset, .unset, .unset, .unset] [(.int (p4 &&& (255 : Int32)))]) _
    refine XS.istore X0.here hx rfl (hb hby at_22) rfl (l' := #[.val (.int p1), .val (.int p2), .val (.int p3), .val (.int p4), .val (.int p5), .val (.int (p2 &&& (255 : Int32))), .val (.int (p3 &&& (255 : Int32))), .val (.int (p4 &&& (255 : Int32))), .unset, .unset, .unset, .unset, .unset, .unset, .unset]) rfl ?_
    show Go p e below s₁ (mkF m 24 #[.val (.int p1), .val (.int p2), .val (.int p3), .val (.int p4), .val (.int p5), .val (.int (p2 &&& (255 : Int32))), .val (.int (p3 &&& (255 : Int32))), .val (.int (p4 &&& (255 : Int32))), .unset, .unset, .unset, .unset, .unset, .unset, .unset] []) _
    refine XS.iloadN X0.here hx rfl (hb hby at_24) rfl ?_
    show Go p e below s₁ (mkF m 25 #[.val (.int p1), .val (.int p2), .val (.int p3), .val (.int p4), .val (.int p5), .val (.int (p2 &&& (255 : Int32))), .val (.int (p3 &&& (255 : Int32))), .val (.int (p4 &&& (255 : Int32))), .unset, .unset, .unset, .unset, .unset, .unset, .unset] [(.int p1)]) _
    refine X0.ldcInt hx hown (mvT hZ (own_w hw 0 rfl)) (g := (mkF m 25 #[.val (.int p1), .val (.int p2), .val (.int p3), .val (.int p4), .val (.int p5), .val (.int (p2 &&& (255 : Int32))), .val (.int (p3 &&& (255 : Int32))), .val (.int (p4 &&& (255 : Int32))), .unset, .unset, .unset, .unset, .unset, .unset, .unset] [(.int p1)])) rfl (hb hby at_25) _ ?_
    show Go p e below s₁ (mkF m 27 #[.val (.int p1), .val (.int p2), .val (.int p3), .val (.int p4), .val (.int p5), .val (.int (p2 &&& (255 : Int32))), .val (.int (p3 &&& (255 : Int32))), .val (.int (p4 &&& (255 : Int32))), .unset, .unset, .unset, .unset, .unset, .unset, .unset] [(.int (2147483647 : Int32)), (.int p1)]) _
    refine XS.iand X0.here hx rfl (hb hby at_27) rfl ?_
    show Go p e below s₁ (mkF m 28 #[.val (.int p1), .val (.int p2), .val (.int p3), .val (.int p4), .val (.int p5), .val (.int (p2 &&& (255 : Int32))), .val (.int (p3 &&& (255 : Int32))), .val (.int (p4 &&& (255 : Int32))), .unset, .unset, .unset, .unset, .unset, .unset, .unset] [(.int (p1 &&& (2147483647 : Int32)))]) _
    refine XS.iconst X0.here hx rfl (hb hby at_28) ?_
    show Go p e below s₁ (mkF m 29 #[.val (.int p1), .val (.int p2), .val (.int p3), .val (.int p4), .val (.int p5), .val (.int (p2 &&& (255 : Int32))), .val (.int (p3 &&& (255 : Int32))), .val (.int (p4 &&& (255 : Int32))), .unset, .unset, .unset, .unset, .unset, .unset, .unset] [(.int (3 : Int32)), (.int (p1 &&& (2147483647 : Int32)))]) _
    refine iremM (g := (mkF m 29 #[.val (.int p1), .val (.int p2), .val (.int p3), .val (.int p4), .val (.int p5), .val (.int (p2 &&& (255 : Int32))), .val (.int (p3 &&& (255 : Int32))), .val (.int (p4 &&& (255 : Int32))), .unset, .unset, .unset, .unset, .unset, .unset, .unset] [(.int (3 : Int32)), (.int (p1 &&& (2147483647 : Int32)))])) X0 hx rfl (hb hby at_29) rfl (by decide : ¬ ((3 : Int32) = (0 : Int32))) ?_
    show Go p e below s₁ (mkF m 30 #[.val (.int p1), .val (.int p2), .val (.int p3), .val (.int p4), .val (.int p5), .val (.int (p2 &&& (255 : Int32))), .val (.int (p3 &&& (255 : Int32))), .val (.int (p4 &&& (255 : Int32))), .unset, .unset, .unset, .unset, .unset, .unset, .unset] [(.int ((p1 &&& (2147483647 : Int32)) % (3 : Int32)))]) _
    refine XS.istore X0.here hx rfl (hb hby at_30) rfl (l' := #[.val (.int p1), .val (.int p2), .val (.int p3), .val (.int p4), .val (.int p5), .val (.int (p2 &&& (255 : Int32))), .val (.int (p3 &&& (255 : Int32))), .val (.int (p4 &&& (255 : Int32))), .val (.int ((p1 &&& (2147483647 : Int32)) % (3 : Int32))), .unset, .unset, .unset, .unset, .unset, .unset]) rfl ?_
    exact kt)
  rcases own_mod3 p1 with hi | hi | hi
  · skip
    have q28 := fun t (kt : Go p e below s₁ (mkF m 32 #[.val (.int p1), .val (.int p2), .val (.int p3), .val (.int p4), .val (.int p5), .val (.int (p2 &&& (255 : Int32))), .val (.int (p3 &&& (255 : Int32))), .val (.int (p4 &&& (255 : Int32))), .val (.int (0 : Int32)), .unset, .unset, .unset, .unset, .unset, .unset] []) t) => q27 t (by rw [hi]; exact kt)
    have q29 := fun t (kt : Go p e below s₁ (mkF m 38 #[.val (.int p1), .val (.int p2), .val (.int p3), .val (.int p4), .val (.int p5), .val (.int (p2 &&& (255 : Int32))), .val (.int (p3 &&& (255 : Int32))), .val (.int (p4 &&& (255 : Int32))), .val (.int (0 : Int32)), .unset, .unset, .unset, .unset, .unset, .unset] [(.int (1 : Int32))]) t) => q28 t (by
      show Go p e below s₁ (mkF m 32 #[.val (.int p1), .val (.int p2), .val (.int p3), .val (.int p4), .val (.int p5), .val (.int (p2 &&& (255 : Int32))), .val (.int (p3 &&& (255 : Int32))), .val (.int (p4 &&& (255 : Int32))), .val (.int (0 : Int32)), .unset, .unset, .unset, .unset, .unset, .unset] []) _
      refine XS.iload X0.here hx rfl (hb hby at_32) rfl ?_
      show Go p e below s₁ (mkF m 34 #[.val (.int p1), .val (.int p2), .val (.int p3), .val (.int p4), .val (.int p5), .val (.int (p2 &&& (255 : Int32))), .val (.int (p3 &&& (255 : Int32))), .val (.int (p4 &&& (255 : Int32))), .val (.int (0 : Int32)), .unset, .unset, .unset, .unset, .unset, .unset] [(.int (0 : Int32))]) _
      refine XS.ifNo X0.here hx rfl (hb hby at_34) rfl ((if0 _ _).trans (teq (rfl : (0 : Int32) = (0 : Int32))).2) ?_
      show Go p e below s₁ (mkF m 37 #[.val (.int p1), .val (.int p2), .val (.int p3), .val (.int p4), .val (.int p5), .val (.int (p2 &&& (255 : Int32))), .val (.int (p3 &&& (255 : Int32))), .val (.int (p4 &&& (255 : Int32))), .val (.int (0 : Int32)), .unset, .unset, .unset, .unset, .unset, .unset] []) _
      refine XS.iconst X0.here hx rfl (hb hby at_37) ?_
      exact kt)
    obtain ⟨T30, h30, k30, X30, e30, E30, A30, st30⟩ := newP X0 hx hZ (own_w hw 1 rfl) e0 (g := (mkF m 38 #[.val (.int p1), .val (.int p2), .val (.int p3), .val (.int p4), .val (.int p5), .val (.int (p2 &&& (255 : Int32))), .val (.int (p3 &&& (255 : Int32))), .val (.int (p4 &&& (255 : Int32))), .val (.int (0 : Int32)), .unset, .unset, .unset, .unset, .unset, .unset] [(.int (1 : Int32))])) rfl (hb hby at_38) rfl (by decide) (cap := 1) (by decide) (by decide) (by decide) (by decide)
    obtain ⟨b30, g30⟩ : ∃ z, z = h0.size := ⟨_, rfl⟩
    rw [← g30] at A30 st30
    have gg31 : n0 ≤ b30 := Nat.le_trans (O0.1 ▸ O0.2.1) (Nat.le_of_eq g30.symm)
    have q32 := fun t (kt : Go p e below T30 (mkF m 40 #[.val (.int p1), .val (.int p2), .val (.int p3), .val (.int p4), .val (.int p5), .val (.int (p2 &&& (255 : Int32))), .val (.int (p3 &&& (255 : Int32))), .val (.int (p4 &&& (255 : Int32))), .val (.int (0 : Int32)), .unset, .unset, .unset, .unset, .unset, .unset] [(.ref b30)]) t) => q29 t (st30 t kt)
    have O33 : Old Z n0 h30 := O0.ext E30
    have hk34 : _ ≤ h30.size := Nat.le_trans hk0 E30.1
    have V30 : Arv Z h30 b30 k30 .char (1 : Int32) [(.int (0 : Int32))] (.int (0 : Int32)) := (Arv.new A30 (by decide)).pad (pad_rep [] (.int (0 : Int32)) 1)
    have q36 := fun t (kt : Go p e below T30 (mkF m 44 #[.val (.int p1), .val (.int p2), .val (.int p3), .val (.int p4), .val (.int p5), .val (.int (p2 &&& (255 : Int32))), .val (.int (p3 &&& (255 : Int32))), .val (.int (p4 &&& (255 : Int32))), .val (.int (0 : Int32)), .unset, .unset, .unset, .unset, .unset, .unset] [(.int (p2 &&& (255 : Int32))), (.int (0 : Int32)), (.ref b30), (.ref b30)]) t) => q32 t (by
      show Go p e below T30 (mkF m 40 #[.val (.int p1), .val (.int p2), .val (.int p3), .val (.int p4), .val (.int p5), .val (.int (p2 &&& (255 : Int32))), .val (.int (p3 &&& (255 : Int32))), .val (.int (p4 &&& (255 : Int32))), .val (.int (0 : Int32)), .unset, .unset, .unset, .unset, .unset, .unset] [(.ref b30)]) _
      refine XS.dup X30.here hx rfl (hb hby at_40) rfl rfl ?_
      show Go p e below T30 (mkF m 41 #[.val (.int p1), .val (.int p2), .val (.int p3), .val (.int p4), .val (.int p5), .val (.int (p2 &&& (255 : Int32))), .val (.int (p3 &&& (255 : Int32))), .val (.int (p4 &&& (255 : Int32))), .val (.int (0 : Int32)), .unset, .unset, .unset, .unset, .unset, .unset] [(.ref b30), (.ref b30)]) _
      refine XS.iconst X30.here hx rfl (hb hby at_41) ?_
      show Go p e below T30 (mkF m 42 #[.val (.int p1), .val (.int p2), .val (.int p3), .val (.int p4), .val (.int p5), .val (.int (p2 &&& (255 : Int32))), .val (.int (p3 &&& (255 : Int32))), .val (.int (p4 &&& (255 : Int32))), .val (.int (0 : Int32)), .unset, .unset, .unset, .unset, .unset, .unset] [(.int (0 : Int32)), (.ref b30), (.ref b30)]) _
      refine XS.iload X30.here hx rfl (hb hby at_42) rfl ?_
      exact kt)
    obtain ⟨c35, Ar35, q35, S35, N35, H35, G35⟩ := id V30
    have hi35 : ¬ ((0 : Int32) < 0 ∨ c35.slots.size ≤ ((0 : Int32)).toNatClampNeg) := inb_of S35 ⟨by decide, by decide⟩
    obtain ⟨T37, h37, X37, e37, W37, st37⟩ := stC X30 hx hZ e30 Ar35 (j := (0 : Int32)) hi35 (g := (mkF m 44 #[.val (.int p1), .val (.int p2), .val (.int p3), .val (.int p4), .val (.int p5), .val (.int (p2 &&& (255 : Int32))), .val (.int (p3 &&& (255 : Int32))), .val (.int (p4 &&& (255 : Int32))), .val (.int (0 : Int32)), .unset, .unset, .unset, .unset, .unset, .unset] [(.int (p2 &&& (255 : Int32))), (.int (0 : Int32)), (.ref b30), (.ref b30)])) rfl rfl (hb hby at_44)
    have q38 := fun t (kt : Go p e below T37 (mkF m 45 #[.val (.int p1), .val (.int p2), .val (.int p3), .val (.int p4), .val (.int p5), .val (.int (p2 &&& (255 : Int32))), .val (.int (p3 &&& (255 : Int32))), .val (.int (p4 &&& (255 : Int32))), .val (.int (0 : Int32)), .unset, .unset, .unset, .unset, .unset, .unset] [(.ref b30)]) t) => q36 t (st37 t kt)
    have V37 : Arv Z h37 b30 k30 .char (1 : Int32) [(.int (p2 &&& (255 : Int32)))] (.int (0 : Int32)) := by
      have vv := Arv.set Ar35 q35 S35 N35 H35 G35 (fits_nar_char _) W37 0 rfl (Nat.le_of_ble_eq_true rfl)
      rw [show nar .char (p2 &&& (255 : Int32)) = (p2 &&& (255 : Int32)) from (i2c_mask p2)] at vv
      exact vv
    have N39 := Fr.snoc X37 N0 gg31
    have O40 : Old Z n0 h37 := O33.wr W37 gg31
    have hk41 : _ ≤ h37.size := Nat.le_trans hk34 (Keep.of_wr W37).1
    have q42 := fun t (kt : Go p e below T37 (mkF m 94 #[.val (.int p1), .val (.int p2), .val (.int p3), .val (.int p4), .val (.int p5), .val (.int (p2 &&& (255 : Int32))), .val (.int (p3 &&& (255 : Int32))), .val (.int (p4 &&& (255 : Int32))), .val (.int (0 : Int32)), .val (.ref b30), .unset, .unset, .unset, .unset, .unset] []) t) => q38 t (by
      show Go p e below T37 (mkF m 45 #[.val (.int p1), .val (.int p2), .val (.int p3), .val (.int p4), .val (.int p5), .val (.int (p2 &&& (255 : Int32))), .val (.int (p3 &&& (255 : Int32))), .val (.int (p4 &&& (255 : Int32))), .val (.int (0 : Int32)), .unset, .unset, .unset, .unset, .unset, .unset] [(.ref b30)]) _
      refine XS.astore X37.here hx rfl (hb hby at_45) rfl rfl (l' := #[.val (.int p1), .val (.int p2), .val (.int p3), .val (.int p4), .val (.int p5), .val (.int (p2 &&& (255 : Int32))), .val (.int (p3 &&& (255 : Int32))), .val (.int (p4 &&& (255 : Int32))), .val (.int (0 : Int32)), .val (.ref b30), .unset, .unset, .unset, .unset, .unset]) rfl ?_
      show Go p e below T37 (mkF m 47 #[.val (.int p1), .val (.int p2), .val (.int p3), .val (.int p4), .val (.int p5), .val (.int (p2 &&& (255 : Int32))), .val (.int (p3 &&& (255 : Int32))), .val (.int (p4 &&& (255 : Int32))), .val (.int (0 : Int32)), .val (.ref b30), .unset, .unset, .unset, .unset, .unset] []) _
      refine XS.goto X37.here hx rfl (pc0 := 47) (pc' := 94) rfl (hb hby at_47) (by decide) (by decide) ?_
      exact kt)
    obtain ⟨T43, h43, X43, e43, E43, A43, D43, U43, st43⟩ := newO X37 hx hZ hown (own_w hw 2 rfl) (own_w hw 3 rfl) (own_w hw 4 rfl) e37 (g := (mkF m 94 #[.val (.int p1), .val (.int p2), .val (.int p3), .val (.int p4), .val (.int p5), .val (.int (p2 &&& (255 : Int32))), .val (.int (p3 &&& (255 : Int32))), .val (.int (p4 &&& (255 : Int32))), .val (.int (0 : Int32)), .val (.ref b30), .unset, .unset, .unset, .unset, .unset] [])) rfl (hb hby at_94) (by decide) (by decide)
    obtain ⟨b43, g43⟩ : ∃ z, z = h37.size := ⟨_, rfl⟩
    rw [← g43] at A43 D43 st43
    have gg44 : n0 ≤ b43 := Nat.le_trans (O40.1 ▸ O40.2.1) (Nat.le_of_eq g43.symm)
    have q45 := fun t (kt : Go p e below T43 (mkF m 97 #[.val (.int p1), .val (.int p2), .val (.int p3), .val (.int p4), .val (.int p5), .val (.int (p2 &&& (255 : Int32))), .val (.int (p3 &&& (255 : Int32))), .val (.int (p4 &&& (255 : Int32))), .val (.int (0 : Int32)), .val (.ref b30), .unset, .unset, .unset, .unset, .unset] [(.ref b43)]) t) => q42 t (st43 t kt)
    have O46 : Old Z n0 h43 := O40.ext E43
    have hk47 : _ ≤ h43.size := Nat.le_trans hk41 E43.1
    have F43_coder : Fld Z h43 b43 "java/lang/String" "coder" "B" (.int (0 : Int32)) := D43 (Or.inr (own_w hw 28 rfl)) (ty := .byte) (by decide)
    have F43_value : Fld Z h43 b43 "java/lang/String" "value" "[B" .null := D43 (Or.inr (own_w hw 30 rfl)) (ty := (.array .byte)) (by decide)
    have q48 := fun t (kt : Go p e below T43 (mkF m 100 #[.val (.int p1), .val (.int p2), .val (.int p3), .val (.int p4), .val (.int p5), .val (.int (p2 &&& (255 : Int32))), .val (.int (p3 &&& (255 : Int32))), .val (.int (p4 &&& (255 : Int32))), .val (.int (0 : Int32)), .val (.ref b30), .unset, .unset, .unset, .unset, .unset] [(.ref b30), (.ref b43), (.ref b43)]) t) => q45 t (by
      show Go p e below T43 (mkF m 97 #[.val (.int p1), .val (.int p2), .val (.int p3), .val (.int p4), .val (.int p5), .val (.int (p2 &&& (255 : Int32))), .val (.int (p3 &&& (255 : Int32))), .val (.int (p4 &&& (255 : Int32))), .val (.int (0 : Int32)), .val (.ref b30), .unset, .unset, .unset, .unset, .unset] [(.ref b43)]) _
      refine XS.dup X43.here hx rfl (hb hby at_97) rfl rfl ?_
      show Go p e below T43 (mkF m 98 #[.val (.int p1), .val (.int p2), .val (.int p3), .val (.int p4), .val (.int p5), .val (.int (p2 &&& (255 : Int32))), .val (.int (p3 &&& (255 : Int32))), .val (.int (p4 &&& (255 : Int32))), .val (.int (0 : Int32)), .val (.ref b30), .unset, .unset, .unset, .unset, .unset] [(.ref b43), (.ref b43)]) _
      refine XS.aload X43.here hx rfl (hb hby at_98) rfl rfl ?_
      exact kt)
    have f49 : Arv Z h43 b30 k30 .char (1 : Int32) [(.int (p2 &&& (255 : Int32)))] (.int (0 : Int32)) := (V37.ext E43)
    have hws50 : ∀ d ∈ StrChars.Road.words, d.before a0 Z = true := fun d hd => hw d ((by decide +kernel : ∀ d ∈ StrChars.Road.words, d ∈ tables_1) d hd)
    have hlt50 : ∀ c ∈ ([(p2 &&& (255 : Int32))] : List Int32), ¬ c < 0 ∧ ¬ (255 : Int32) < c := by
      intro c hc
      simp only [List.mem_cons, List.not_mem_nil, or_false] at hc
      rcases hc with rfl
      · exact (own_and255L p2)
    obtain ⟨_, _, ⟨T51, L51, k51, n51⟩, -, X51, ⟨Lc51, hQ51, l51, y51, z51⟩, st51⟩ := X43.specialBack hx (y := (⟨"java/lang/String", "<init>", "([C)V"⟩ : MethodName)) rfl hown (mvT hZ (own_w hw 5 rfl)) (mvT hZ (own_w hw 6 rfl)) (mvT hZ (own_w hw 7 rfl)) (by decide) (StrChars.Road.backV (W := 1) hZ hws50 (kI := 4) (own_w hw 3 rfl) (cs := [(p2 &&& (255 : Int32))]) (bs := (([(p2 &&& (255 : Int32))] : List Int32).map (fun c => c.toInt8.toInt32))) (n := 1) gg44 (O46.1 ▸ O46.2.1) A43 F43_value F43_coder f49 (cx.1.ext O46.2) cx.2 rfl rfl (by decide) (by decide) hlt50 rfl (by decide) (by decide)) (g := (mkF m 100 #[.val (.int p1), .val (.int p2), .val (.int p3), .val (.int p4), .val (.int p5), .val (.int (p2 &&& (255 : Int32))), .val (.int (p3 &&& (255 : Int32))), .val (.int (p4 &&& (255 : Int32))), .val (.int (0 : Int32)), .val (.ref b30), .unset, .unset, .unset, .unset, .unset] [(.ref b30), (.ref b43), (.ref b43)])) rfl (by rw [hml]; rfl) (Steps.refl _) (a := b43) (argsL := [(.ref b30)]) (rest := [(.ref b43)]) (lenOf pd_4 rfl) rfl (by show 2 * 0 + _ ≤ _; exact Nat.le_of_eq rfl) (hb hby at_100) (fun _ _ => ⟨rfl, e43, (by decide : 2 + 1 ≤ _), (by decide : 5 + 1 ≤ _)⟩)
    dsimp only [Pt.U, Pt.locs, Pt.cells, Pt.slots] at X51 l51 y51 z51 st51 hQ51
    subst l51 y51 z51
    obtain ⟨rfl, Nq51, Kq51, Ex51, Co51, t51, kt51, gt51, ht51, nt51, Va51, Vb51⟩ := hQ51
    have N52 := Fr.app N39 Nq51
    have q53 := fun t (kt : Go p e below T51 (mkF m 103 #[.val (.int p1), .val (.int p2), .val (.int p3), .val (.int p4), .val (.int p5), .val (.int (p2 &&& (255 : Int32))), .val (.int (p3 &&& (255 : Int32))), .val (.int (p4 &&& (255 : Int32))), .val (.int (0 : Int32)), .val (.ref b30), .unset, .unset, .unset, .unset, .unset] [(.ref b43)]) t) => q48 t (st51.trans kt)
    have gg54 : n0 ≤ t51 := Nat.le_trans (O46.1 ▸ O46.2.1) ht51
    have O55 : Old Z n0 T51.heap := O46.keep Kq51 (allS gg44 all0)
    have hk56 : _ ≤ T51.heap.size := Nat.le_trans hk47 Kq51.1
    have Sr51 : Str Z T51.heap b43 t51 [(p2 &&& (255 : Int32))] := ⟨_, _, _, _, Ex51, Va51, Co51, Vb51, StrChars.Road.codOf (n := 1) rfl (fun c hc => (hlt50 c hc).2), own_up _ hlt50, Nat.le_of_ble_eq_true rfl⟩
    have q57 := fun t (kt : Go p e below T51 (mkF m 105 #[.val (.int p1), .val (.int p2), .val (.int p3), .val (.int p4), .val (.int p5), .val (.int (p2 &&& (255 : Int32))), .val (.int (p3 &&& (255 : Int32))), .val (.int (p4 &&& (255 : Int32))), .val (.int (0 : Int32)), .val (.ref b30), .val (.ref b43), .unset, .unset, .unset, .unset] []) t) => q53 t (by
      show Go p e below T51 (mkF m 103 #[.val (.int p1), .val (.int p2), .val (.int p3), .val (.int p4), .val (.int p5), .val (.int (p2 &&& (255 : Int32))), .val (.int (p3 &&& (255 : Int32))), .val (.int (p4 &&& (255 : Int32))), .val (.int (0 : Int32)), .val (.ref b30), .unset, .unset, .unset, .unset, .unset] [(.ref b43)]) _
      refine XS.astore X51.here hx rfl (hb hby at_103) rfl rfl (l' := #[.val (.int p1), .val (.int p2), .val (.int p3), .val (.int p4), .val (.int p5), .val (.int (p2 &&& (255 : Int32))), .val (.int (p3 &&& (255 : Int32))), .val (.int (p4 &&& (255 : Int32))), .val (.int (0 : Int32)), .val (.ref b30), .val (.ref b43), .unset, .unset, .unset, .unset]) rfl ?_
      exact kt)
    obtain ⟨T58, h58, X58, e58, E58, A58, D58, U58, st58⟩ := newO X51 hx hZ hown (own_w hw 2 rfl) (own_w hw 3 rfl) (own_w hw 4 rfl) rfl (g := (mkF m 105 #[.val (.int p1), .val (.int p2), .val (.int p3), .val (.int p4), .val (.int p5), .val (.int (p2 &&& (255 : Int32))), .val (.int (p3 &&& (255 : Int32))), .val (.int (p4 &&& (255 : Int32))), .val (.int (0 : Int32)), .val (.ref b30), .val (.ref b43), .unset, .unset, .unset, .unset] [])) rfl (hb hby at_105) (by decide) (by decide)
    obtain ⟨b58, g58⟩ : ∃ z, z = T51.heap.size := ⟨_, rfl⟩
    rw [← g58] at A58 D58 st58
    have gg59 : n0 ≤ b58 := Nat.le_trans (O55.1 ▸ O55.2.1) (Nat.le_of_eq g58.symm)
    have q60 := fun t (kt : Go p e below T58 (mkF m 108 #[.val (.int p1), .val (.int p2), .val (.int p3), .val (.int p4), .val (.int p5), .val (.int (p2 &&& (255 : Int32))), .val (.int (p3 &&& (255 : Int32))), .val (.int (p4 &&& (255 : Int32))), .val (.int (0 : Int32)), .val (.ref b30), .val (.ref b43), .unset, .unset, .unset, .unset] [(.ref b58)]) t) => q57 t (st58 t kt)
    have O61 : Old Z n0 h58 := O55.ext E58
    have hk62 : _ ≤ h58.size := Nat.le_trans hk56 E58.1
    have F58_coder : Fld Z h58 b58 "java/lang/String" "coder" "B" (.int (0 : Int32)) := D58 (Or.inr (own_w hw 28 rfl)) (ty := .byte) (by decide)
    have F58_value : Fld Z h58 b58 "java/lang/String" "value" "[B" .null := D58 (Or.inr (own_w hw 30 rfl)) (ty := (.array .byte)) (by decide)
    have q63 := fun t (kt : Go p e below T58 (mkF m 111 #[.val (.int p1), .val (.int p2), .val (.int p3), .val (.int p4), .val (.int p5), .val (.int (p2 &&& (255 : Int32))), .val (.int (p3 &&& (255 : Int32))), .val (.int (p4 &&& (255 : Int32))), .val (.int (0 : Int32)), .val (.ref b30), .val (.ref b43), .unset, .unset, .unset, .unset] [(.ref b30), (.ref b58), (.ref b58)]) t) => q60 t (by
      show Go p e below T58 (mkF m 108 #[.val (.int p1), .val (.int p2), .val (.int p3), .val (.int p4), .val (.int p5), .val (.int (p2 &&& (255 : Int32))), .val (.int (p3 &&& (255 : Int32))), .val (.int (p4 &&& (255 : Int32))), .val (.int (0 : Int32)), .val (.ref b30), .val (.ref b43), .unset, .unset, .unset, .unset] [(.ref b58)]) _
      refine XS.dup X58.here hx rfl (hb hby at_108) rfl rfl ?_
      show Go p e below T58 (mkF m 109 #[.val (.int p1), .val (.int p2), .val (.int p3), .val (.int p4), .val (.int p5), .val (.int (p2 &&& (255 : Int32))), .val (.int (p3 &&& (255 : Int32))), .val (.int (p4 &&& (255 : Int32))), .val (.int (0 : Int32)), .val (.ref b30), .val (.ref b43), .unset, .unset, .unset, .unset] [(.ref b58), (.ref b58)]) _
      refine XS.aload X58.here hx rfl (hb hby at_109) rfl rfl ?_
      exact kt)
    have f64 : Arv Z h58 b30 k30 .char (1 : Int32) [(.int (p2 &&& (255 : Int32)))] (.int (0 : Int32)) := ((f49.keep Kq51 (ninS (Nat.ne_of_lt (Nat.lt_of_lt_of_le V37.lt (Nat.le_of_eq g43.symm))) nin0)).ext E58)
    have hws65 : ∀ d ∈ StrChars.Road.words, d.before a0 Z = true := fun d hd => hw d ((by decide +kernel : ∀ d ∈ StrChars.Road.words, d ∈ tables_1) d hd)
    have hlt65 : ∀ c ∈ ([(p2 &&& (255 : Int32))] : List Int32), ¬ c < 0 ∧ ¬ (255 : Int32) < c := by
      intro c hc
      simp only [List.mem_cons, List.not_mem_nil, or_false] at hc
      rcases hc with rfl
      · exact (own_and255L p2)
    obtain ⟨_, _, ⟨T66, L66, k66, n66⟩, -, X66, ⟨Lc66, hQ66, l66, y66, z66⟩, st66⟩ := X58.specialBack hx (y := (⟨"java/lang/String", "<init>", "([C)V"⟩ : MethodName)) rfl hown (mvT hZ (own_w hw 5 rfl)) (mvT hZ (own_w hw 6 rfl)) (mvT hZ (own_w hw 7 rfl)) (by decide) (StrChars.Road.backV (W := 1) hZ hws65 (kI := 4) (own_w hw 3 rfl) (cs := [(p2 &&& (255 : Int32))]) (bs := (([(p2 &&& (255 : Int32))] : List Int32).map (fun c => c.toInt8.toInt32))) (n := 1) gg59 (O61.1 ▸ O61.2.1) A58 F58_value F58_coder f64 (cx.1.ext O61.2) cx.2 rfl rfl (by decide) (by decide) hlt65 rfl (by decide) (by decide)) (g := (mkF m 111 #[.val (.int p1), .val (.int p2), .val (.int p3), .val (.int p4), .val (.int p5), .val (.int (p2 &&& (255 : Int32))), .val (.int (p3 &&& (255 : Int32))), .val (.int (p4 &&& (255 : Int32))), .val (.int (0 : Int32)), .val (.ref b30), .val (.ref b43), .unset, .unset, .unset, .unset] [(.ref b30), (.ref b58), (.ref b58)])) rfl (by rw [hml]; rfl) (Steps.refl _) (a := b58) (argsL := [(.ref b30)]) (rest := [(.ref b58)]) (lenOf pd_4 rfl) rfl (by show 2 * 0 + _ ≤ _; exact Nat.le_of_eq rfl) (hb hby at_111) (fun _ _ => ⟨rfl, e58, (by decide : 4 + 1 ≤ _), (by decide : 10 + 1 ≤ _)⟩)
    dsimp only [Pt.U, Pt.locs, Pt.cells, Pt.slots] at X66 l66 y66 z66 st66 hQ66
    subst l66 y66 z66
    obtain ⟨rfl, Nq66, Kq66, Ex66, Co66, t66, kt66, gt66, ht66, nt66, Va66, Vb66⟩ := hQ66
    have N67 := Fr.app N52 Nq66
    have q68 := fun t (kt : Go p e below T66 (mkF m 114 #[.val (.int p1), .val (.int p2), .val (.int p3), .val (.int p4), .val (.int p5), .val (.int (p2 &&& (255 : Int32))), .val (.int (p3 &&& (255 : Int32))), .val (.int (p4 &&& (255 : Int32))), .val (.int (0 : Int32)), .val (.ref b30), .val (.ref b43), .unset, .unset, .unset, .unset] [(.ref b58)]) t) => q63 t (st66.trans kt)
    have gg69 : n0 ≤ t66 := Nat.le_trans (O61.1 ▸ O61.2.1) ht66
    have O70 : Old Z n0 T66.heap := O61.keep Kq66 (allS gg59 all0)
    have hk71 : _ ≤ T66.heap.size := Nat.le_trans hk62 Kq66.1
    have Sr66 : Str Z T66.heap b58 t66 [(p2 &&& (255 : Int32))] := ⟨_, _, _, _, Ex66, Va66, Co66, Vb66, StrChars.Road.codOf (n := 1) rfl (fun c hc => (hlt65 c hc).2), own_up _ hlt65, Nat.le_of_ble_eq_true rfl⟩
    have f72 : Str Z T66.heap b43 t51 [(p2 &&& (255 : Int32))] := ((Sr51.ext E58).keep Kq66 (ninS (Nat.ne_of_lt (Nat.lt_of_lt_of_le Ex51.lt (Nat.le_of_eq g58.symm))) nin0) (ninS (Nat.ne_of_lt (Nat.lt_of_lt_of_le Vb51.lt (Nat.le_of_eq g58.symm))) nin0))
    have q73 := fun t (kt : Go p e below T66 (mkF m 132 #[.val (.int p1), .val (.int p2), .val (.int p3), .val (.int p4), .val (.int p5), .val (.int (p2 &&& (255 : Int32))), .val (.int (p3 &&& (255 : Int32))), .val (.int (p4 &&& (255 : Int32))), .val (.int (0 : Int32)), .val (.ref b30), .val (.ref b43), .val (.ref b58), .val (.int ((1 : Int32) + ((p5 &&& (2147483647 : Int32)) % (65535 : Int32)))), .unset, .unset] [(.int ((1 : Int32) + ((p5 &&& (2147483647 : Int32)) % (65535 : Int32)))), (.ref b43)]) t) => q68 t (by
      show Go p e below T66 (mkF m 114 #[.val (.int p1), .val (.int p2), .val (.int p3), .val (.int p4), .val (.int p5), .val (.int (p2 &&& (255 : Int32))), .val (.int (p3 &&& (255 : Int32))), .val (.int (p4 &&& (255 : Int32))), .val (.int (0 : Int32)), .val (.ref b30), .val (.ref b43), .unset, .unset, .unset, .unset] [(.ref b58)]) _
      refine XS.astore X66.here hx rfl (hb hby at_114) rfl rfl (l' := #[.val (.int p1), .val (.int p2), .val (.int p3), .val (.int p4), .val (.int p5), .val (.int (p2 &&& (255 : Int32))), .val (.int (p3 &&& (255 : Int32))), .val (.int (p4 &&& (255 : Int32))), .val (.int (0 : Int32)), .val (.ref b30), .val (.ref b43), .val (.ref b58), .unset, .unset, .unset]) rfl ?_
      show Go p e below T66 (mkF m 116 #[.val (.int p1), .val (.int p2), .val (.int p3), .val (.int p4), .val (.int p5), .val (.int (p2 &&& (255 : Int32))), .val (.int (p3 &&& (255 : Int32))), .val (.int (p4 &&& (255 : Int32))), .val (.int (0 : Int32)), .val (.ref b30), .val (.ref b43), .val (.ref b58), .unset, .unset, .unset] []) _
      refine XS.iconst X66.here hx rfl (hb hby at_116) ?_
      show Go p e below T66 (mkF m 117 #[.val (.int p1), .val (.int p2), .val (.int p3), .val (.int p4), .val (.int p5), .val (.int (p2 &&& (255 : Int32))), .val (.int (p3 &&& (255 : Int32))), .val (.int (p4 &&& (255 : Int32))), .val (.int (0 : Int32)), .val (.ref b30), .val (.ref b43), .val (.ref b58), .unset, .unset, .unset] [(.int (1 : Int32))]) _
      refine XS.iload X66.here hx rfl (hb hby at_117) rfl ?_
      show Go p e below T66 (mkF m 119 #[.val (.int p1), .val (.int p2), .val (.int p3), .val (.int p4), .val (.int p5), .val (.int (p2 &&& (255 : Int32))), .val (.int (p3 &&& (255 : Int32))), .val (.int (p4 &&& (255 : Int32))), .val (.int (0 : Int32)), .val (.ref b30), .val (.ref b43), .val (.ref b58), .unset, .unset, .unset] [(.int p5), (.int (1 : Int32))]) _
      refine X66.ldcInt hx hown (mvT hZ (own_w hw 0 rfl)) (g := (mkF m 119 #[.val (.int p1), .val (.int p2), .val (.int p3), .val (.int p4), .val (.int p5), .val (.int (p2 &&& (255 : Int32))), .val (.int (p3 &&& (255 : Int32))), .val (.int (p4 &&& (255 : Int32))), .val (.int (0 : Int32)), .val (.ref b30), .val (.ref b43), .val (.ref b58), .unset, .unset, .unset] [(.int p5), (.int (1 : Int32))])) rfl (hb hby at_119) _ ?_
      show Go p e below T66 (mkF m 121 #[.val (.int p1), .val (.int p2), .val (.int p3), .val (.int p4), .val (.int p5), .val (.int (p2 &&& (255 : Int32))), .val (.int (p3 &&& (255 : Int32))), .val (.int (p4 &&& (255 : Int32))), .val (.int (0 : Int32)), .val (.ref b30), .val (.ref b43), .val (.ref b58), .unset, .unset, .unset] [(.int (2147483647 : Int32)), (.int p5), (.int (1 : Int32))]) _
      refine XS.iand X66.here hx rfl (hb hby at_121) rfl ?_
      show Go p e below T66 (mkF m 122 #[.val (.int p1), .val (.int p2), .val (.int p3), .val (.int p4), .val (.int p5), .val (.int (p2 &&& (255 : Int32))), .val (.int (p3 &&& (255 : Int32))), .val (.int (p4 &&& (255 : Int32))), .val (.int (0 : Int32)), .val (.ref b30), .val (.ref b43), .val (.ref b58), .unset, .unset, .unset] [(.int (p5 &&& (2147483647 : Int32))), (.int (1 : Int32))]) _
      refine X66.ldcInt hx hown (mvT hZ (own_w hw 31 rfl)) (g := (mkF m 122 #[.val (.int p1), .val (.int p2), .val (.int p3), .val (.int p4), .val (.int p5), .val (.int (p2 &&& (255 : Int32))), .val (.int (p3 &&& (255 : Int32))), .val (.int (p4 &&& (255 : Int32))), .val (.int (0 : Int32)), .val (.ref b30), .val (.ref b43), .val (.ref b58), .unset, .unset, .unset] [(.int (p5 &&& (2147483647 : Int32))), (.int (1 : Int32))])) rfl (hb hby at_122) _ ?_
      show Go p e below T66 (mkF m 124 #[.val (.int p1), .val (.int p2), .val (.int p3), .val (.int p4), .val (.int p5), .val (.int (p2 &&& (255 : Int32))), .val (.int (p3 &&& (255 : Int32))), .val (.int (p4 &&& (255 : Int32))), .val (.int (0 : Int32)), .val (.ref b30), .val (.ref b43), .val (.ref b58), .unset, .unset, .unset] [(.int (65535 : Int32)), (.int (p5 &&& (2147483647 : Int32))), (.int (1 : Int32))]) _
      refine iremM (g := (mkF m 124 #[.val (.int p1), .val (.int p2), .val (.int p3), .val (.int p4), .val (.int p5), .val (.int (p2 &&& (255 : Int32))), .val (.int (p3 &&& (255 : Int32))), .val (.int (p4 &&& (255 : Int32))), .val (.int (0 : Int32)), .val (.ref b30), .val (.ref b43), .val (.ref b58), .unset, .unset, .unset] [(.int (65535 : Int32)), (.int (p5 &&& (2147483647 : Int32))), (.int (1 : Int32))])) X66 hx rfl (hb hby at_124) rfl (by decide : ¬ ((65535 : Int32) = (0 : Int32))) ?_
      show Go p e below T66 (mkF m 125 #[.val (.int p1), .val (.int p2), .val (.int p3), .val (.int p4), .val (.int p5), .val (.int (p2 &&& (255 : Int32))), .val (.int (p3 &&& (255 : Int32))), .val (.int (p4 &&& (255 : Int32))), .val (.int (0 : Int32)), .val (.ref b30), .val (.ref b43), .val (.ref b58), .unset, .unset, .unset] [(.int ((p5 &&& (2147483647 : Int32)) % (65535 : Int32))), (.int (1 : Int32))]) _
      refine XS.iadd X66.here hx rfl (hb hby at_125) rfl ?_
      show Go p e below T66 (mkF m 126 #[.val (.int p1), .val (.int p2), .val (.int p3), .val (.int p4), .val (.int p5), .val (.int (p2 &&& (255 : Int32))), .val (.int (p3 &&& (255 : Int32))), .val (.int (p4 &&& (255 : Int32))), .val (.int (0 : Int32)), .val (.ref b30), .val (.ref b43), .val (.ref b58), .unset, .unset, .unset] [(.int ((1 : Int32) + ((p5 &&& (2147483647 : Int32)) % (65535 : Int32))))]) _
      refine XS.istore X66.here hx rfl (hb hby at_126) rfl (l' := #[.val (.int p1), .val (.int p2), .val (.int p3), .val (.int p4), .val (.int p5), .val (.int (p2 &&& (255 : Int32))), .val (.int (p3 &&& (255 : Int32))), .val (.int (p4 &&& (255 : Int32))), .val (.int (0 : Int32)), .val (.ref b30), .val (.ref b43), .val (.ref b58), .val (.int ((1 : Int32) + ((p5 &&& (2147483647 : Int32)) % (65535 : Int32)))), .unset, .unset]) rfl ?_
      show Go p e below T66 (mkF m 128 #[.val (.int p1), .val (.int p2), .val (.int p3), .val (.int p4), .val (.int p5), .val (.int (p2 &&& (255 : Int32))), .val (.int (p3 &&& (255 : Int32))), .val (.int (p4 &&& (255 : Int32))), .val (.int (0 : Int32)), .val (.ref b30), .val (.ref b43), .val (.ref b58), .val (.int ((1 : Int32) + ((p5 &&& (2147483647 : Int32)) % (65535 : Int32)))), .unset, .unset] []) _
      refine XS.aload X66.here hx rfl (hb hby at_128) rfl rfl ?_
      show Go p e below T66 (mkF m 130 #[.val (.int p1), .val (.int p2), .val (.int p3), .val (.int p4), .val (.int p5), .val (.int (p2 &&& (255 : Int32))), .val (.int (p3 &&& (255 : Int32))), .val (.int (p4 &&& (255 : Int32))), .val (.int (0 : Int32)), .val (.ref b30), .val (.ref b43), .val (.ref b58), .val (.int ((1 : Int32) + ((p5 &&& (2147483647 : Int32)) % (65535 : Int32)))), .unset, .unset] [(.ref b43)]) _
      refine XS.iload X66.here hx rfl (hb hby at_130) rfl ?_
      exact kt)
    obtain ⟨_, _, ⟨T74, L74, k74, n74⟩, -, X74, hSn74, hgn74, ⟨Lc74, hQ74, l74, y74, z74⟩, st74⟩ := callSS X66 hx (y := (⟨"com/example/cerrojo/cerrojo/config/ServerAddress", "of", "(Ljava/lang/String;I)Lcom/example/cerrojo/cerrojo/config/ServerAddress;"⟩ : MethodName)) hown (mvT hZ (own_w hw 32 rfl)) (mvT hZ (own_w hw 33 rfl)) (mvT hZ (own_w hw 34 rfl)) (mvT hZ (own_w hw 35 rfl)) (by decide) (backOfS (W := 0) (rm7 l Z a0 hw [] cx b43 ((1 : Int32) + ((p5 &&& (2147483647 : Int32)) % (65535 : Int32))) t51 [(p2 &&& (255 : Int32))] T66.heap n0 O70 f72 (by simp) (own_port p5).1 (own_port p5).2) hZ (own_w hw 35 rfl) (own_w hw 34 rfl) (by decide) (by decide)) (g := (mkF m 132 #[.val (.int p1), .val (.int p2), .val (.int p3), .val (.int p4), .val (.int p5), .val (.int (p2 &&& (255 : Int32))), .val (.int (p3 &&& (255 : Int32))), .val (.int (p4 &&& (255 : Int32))), .val (.int (0 : Int32)), .val (.ref b30), .val (.ref b43), .val (.ref b58), .val (.int ((1 : Int32) + ((p5 &&& (2147483647 : Int32)) % (65535 : Int32)))), .unset, .unset] [(.int ((1 : Int32) + ((p5 &&& (2147483647 : Int32)) % (65535 : Int32)))), (.ref b43)])) rfl (by rw [hml]; rfl) (argsL := [(.ref b43), (.int ((1 : Int32) + ((p5 &&& (2147483647 : Int32)) % (65535 : Int32))))]) (rest := []) (lenOf pd_5 rfl) rfl (by show 2 * 0 + _ ≤ _; exact Nat.le_of_eq rfl) (hb hby at_132) (fun _ _ => ⟨rfl, rfl, (by decide : 5 + 3 ≤ _), (by decide : 11 + 22 ≤ _)⟩)
    dsimp only [Pt.U, Pt.locs, Pt.cells, Pt.slots] at X74 l74 y74 z74 st74 hQ74 hSn74 hgn74
    subst l74 y74 z74
    have hS74 := foldS (vm0 := s.vm) hS0 hk71 hSn74 hgn74
    have hZ : Z.Warmed39 (s.setVm T74.vm).vm := State.Warmed39.trans (t := s.setVm s.vm) hZ hSn74.1
    have hown : (s.setVm T74.vm).vm.findClass "com/example/cerrojo/cerrojo/config/ServerAddressOfPinLaw" = some m.cls := by
      show T74.vm.findClass _ = _
      rw [hSn74.1.alike.findClass]; exact hown
    have X74 : Stand p l e room_1 (s.setVm T74.vm) m #[(.int p1), (.int p2), (.int p3), (.int p4), (.int p5)] below meth c T74 _ _ _ := X74
    have hkk74 : T74.heap.size ≤ T74.heap.size := Nat.le_refl _
    obtain ⟨b_74, rfl, Nq74, Kq74, fr74_0, fq74_0, fq74_1, fq74_2⟩ := hQ74
    have N75 := Fr.app N67 Nq74
    have q76 := fun t (kt : Go p e below T74 (mkF m 135 #[.val (.int p1), .val (.int p2), .val (.int p3), .val (.int p4), .val (.int p5), .val (.int (p2 &&& (255 : Int32))), .val (.int (p3 &&& (255 : Int32))), .val (.int (p4 &&& (255 : Int32))), .val (.int (0 : Int32)), .val (.ref b30), .val (.ref b43), .val (.ref b58), .val (.int ((1 : Int32) + ((p5 &&& (2147483647 : Int32)) % (65535 : Int32)))), .unset, .unset] [(.ref b_74)]) t) => q73 t (st74.trans kt)
    have gg77 : n0 ≤ b_74 := Nat.le_trans (O70.1 ▸ O70.2.1) fr74_0
    have O78 : Old Z n0 T74.heap := O70.keep Kq74 all0
    have f79 : Str Z T74.heap b58 t66 [(p2 &&& (255 : Int32))] := (Sr66.keep Kq74 nin0 nin0)
    have q80 := fun t (kt : Go p e below T74 (mkF m 141 #[.val (.int p1), .val (.int p2), .val (.int p3), .val (.int p4), .val (.int p5), .val (.int (p2 &&& (255 : Int32))), .val (.int (p3 &&& (255 : Int32))), .val (.int (p4 &&& (255 : Int32))), .val (.int (0 : Int32)), .val (.ref b30), .val (.ref b43), .val (.ref b58), .val (.int ((1 : Int32) + ((p5 &&& (2147483647 : Int32)) % (65535 : Int32)))), .val (.ref b_74), .unset] [(.int ((1 : Int32) + ((p5 &&& (2147483647 : Int32)) % (65535 : Int32)))), (.ref b58)]) t) => q76 t (by
      show Go p e below T74 (mkF m 135 #[.val (.int p1), .val (.int p2), .val (.int p3), .val (.int p4), .val (.int p5), .val (.int (p2 &&& (255 : Int32))), .val (.int (p3 &&& (255 : Int32))), .val (.int (p4 &&& (255 : Int32))), .val (.int (0 : Int32)), .val (.ref b30), .val (.ref b43), .val (.ref b58), .val (.int ((1 : Int32) + ((p5 &&& (2147483647 : Int32)) % (65535 : Int32)))), .unset, .unset] [(.ref b_74)]) _
      refine XS.astore X74.here hx rfl (hb hby at_135) rfl rfl (l' := #[.val (.int p1), .val (.int p2), .val (.int p3), .val (.int p4), .val (.int p5), .val (.int (p2 &&& (255 : Int32))), .val (.int (p3 &&& (255 : Int32))), .val (.int (p4 &&& (255 : Int32))), .val (.int (0 : Int32)), .val (.ref b30), .val (.ref b43), .val (.ref b58), .val (.int ((1 : Int32) + ((p5 &&& (2147483647 : Int32)) % (65535 : Int32)))), .val (.ref b_74), .unset]) rfl ?_
      show Go p e below T74 (mkF m 137 #[.val (.int p1), .val (.int p2), .val (.int p3), .val (.int p4), .val (.int p5), .val (.int (p2 &&& (255 : Int32))), .val (.int (p3 &&& (255 : Int32))), .val (.int (p4 &&& (255 : Int32))), .val (.int (0 : Int32)), .val (.ref b30), .val (.ref b43), .val (.ref b58), .val (.int ((1 : Int32) + ((p5 &&& (2147483647 : Int32)) % (65535 : Int32)))), .val (.ref b_74), .unset] []) _
      refine XS.aload X74.here hx rfl (hb hby at_137) rfl rfl ?_
      show Go p e below T74 (mkF m 139 #[.val (.int p1), .val (.int p2), .val (.int p3), .val (.int p4), .val (.int p5), .val (.int (p2 &&& (255 : Int32))), .val (.int (p3 &&& (255 : Int32))), .val (.int (p4 &&& (255 : Int32))), .val (.int (0 : Int32)), .val (.ref b30), .val (.ref b43), .val (.ref b58), .val (.int ((1 : Int32) + ((p5 &&& (2147483647 : Int32)) % (65535 : Int32)))), .val (.ref b_74), .unset] [(.ref b58)]) _
      refine XS.iload X74.here hx rfl (hb hby at_139) rfl ?_
      exact kt)
    obtain ⟨_, _, ⟨T81, L81, k81, n81⟩, -, X81, hSn81, hgn81, ⟨Lc81, hQ81, l81, y81, z81⟩, st81⟩ := callSS X74 hx (y := (⟨"com/example/cerrojo/cerrojo/config/ServerAddress", "of", "(Ljava/lang/String;I)Lcom/example/cerrojo/cerrojo/config/ServerAddress;"⟩ : MethodName)) hown (mvT hZ (own_w hw 32 rfl)) (mvT hZ (own_w hw 33 rfl)) (mvT hZ (own_w hw 34 rfl)) (mvT hZ (own_w hw 35 rfl)) (by decide) (backOfS (W := 0) (rm7 l Z a0 hw [] cx b58 ((1 : Int32) + ((p5 &&& (2147483647 : Int32)) % (65535 : Int32))) t66 [(p2 &&& (255 : Int32))] T74.heap n0 O78 f79 (by simp) (own_port p5).1 (own_port p5).2) hZ (own_w hw 35 rfl) (own_w hw 34 rfl) (by decide) (by decide)) (g := (mkF m 141 #[.val (.int p1), .val (.int p2), .val (.int p3), .val (.int p4), .val (.int p5), .val (.int (p2 &&& (255 : Int32))), .val (.int (p3 &&& (255 : Int32))), .val (.int (p4 &&& (255 : Int32))), .val (.int (0 : Int32)), .val (.ref b30), .val (.ref b43), .val (.ref b58), .val (.int ((1 : Int32) + ((p5 &&& (2147483647 : Int32)) % (65535 : Int32)))), .val (.ref b_74), .unset] [(.int ((1 : Int32) + ((p5 &&& (2147483647 : Int32)) % (65535 : Int32)))), (.ref b58)])) rfl (by rw [hml]; rfl) (argsL := [(.ref b58), (.int ((1 : Int32) + ((p5 &&& (2147483647 : Int32)) % (65535 : Int32))))]) (rest := []) (lenOf pd_5 rfl) rfl (by show 2 * 0 + _ ≤ _; exact Nat.le_of_eq rfl) (hb hby at_141) (fun _ _ => ⟨rfl, rfl, (by decide : 8 + 3 ≤ _), (by decide : 33 + 22 ≤ _)⟩)
    dsimp only [Pt.U, Pt.locs, Pt.cells, Pt.slots] at X81 l81 y81 z81 st81 hQ81 hSn81 hgn81
    subst l81 y81 z81
    have hS81 := foldS (vm0 := T74.vm) hS74 hkk74 hSn81 hgn81
    have hZ : Z.Warmed39 (s.setVm T81.vm).vm := State.Warmed39.trans (t := s.setVm T74.vm) hZ hSn81.1
    have hown : (s.setVm T81.vm).vm.findClass "com/example/cerrojo/cerrojo/config/ServerAddressOfPinLaw" = some m.cls := by
      show T81.vm.findClass _ = _
      rw [hSn81.1.alike.findClass]; exact hown
    have X81 : Stand p l e room_1 (s.setVm T81.vm) m #[(.int p1), (.int p2), (.int p3), (.int p4), (.int p5)] below meth c T81 _ _ _ := X81
    have hkk81 : T81.heap.size ≤ T81.heap.size := Nat.le_refl _
    obtain ⟨b_81, rfl, Nq81, Kq81, fr81_0, fq81_0, fq81_1, fq81_2⟩ := hQ81
    have N82 := Fr.app N75 Nq81
    have q83 := fun t (kt : Go p e below T81 (mkF m 144 #[.val (.int p1), .val (.int p2), .val (.int p3), .val (.int p4), .val (.int p5), .val (.int (p2 &&& (255 : Int32))), .val (.int (p3 &&& (255 : Int32))), .val (.int (p4 &&& (255 : Int32))), .val (.int (0 : Int32)), .val (.ref b30), .val (.ref b43), .val (.ref b58), .val (.int ((1 : Int32) + ((p5 &&& (2147483647 : Int32)) % (65535 : Int32)))), .val (.ref b_74), .unset] [(.ref b_81)]) t) => q80 t (st81.trans kt)
    have gg84 : n0 ≤ b_81 := Nat.le_trans (O78.1 ▸ O78.2.1) fr81_0
    have O85 : Old Z n0 T81.heap := O78.keep Kq81 all0
    have f86 : Fld Z T81.heap b_74 "com/example/cerrojo/cerrojo/config/ServerAddress" "host" "Ljava/lang/String;" (.ref b43) := (fq74_1.keep Kq81 nin0)
    have q87 := fun t (kt : Go p e below T81 (mkF m 148 #[.val (.int p1), .val (.int p2), .val (.int p3), .val (.int p4), .val (.int p5), .val (.int (p2 &&& (255 : Int32))), .val (.int (p3 &&& (255 : Int32))), .val (.int (p4 &&& (255 : Int32))), .val (.int (0 : Int32)), .val (.ref b30), .val (.ref b43), .val (.ref b58), .val (.int ((1 : Int32) + ((p5 &&& (2147483647 : Int32)) % (65535 : Int32)))), .val (.ref b_74), .val (.ref b_81)] [(.ref b_74)]) t) => q83 t (by
      show Go p e below T81 (mkF m 144 #[.val (.int p1), .val (.int p2), .val (.int p3), .val (.int p4), .val (.int p5), .val (.int (p2 &&& (255 : Int32))), .val (.int (p3 &&& (255 : Int32))), .val (.int (p4 &&& (255 : Int32))), .val (.int (0 : Int32)), .val (.ref b30), .val (.ref b43), .val (.ref b58), .val (.int ((1 : Int32) + ((p5 &&& (2147483647 : Int32)) % (65535 : Int32)))), .val (.ref b_74), .unset] [(.ref b_81)]) _
      refine XS.astore X81.here hx rfl (hb hby at_144) rfl rfl (l' := #[.val (.int p1), .val (.int p2), .val (.int p3), .val (.int p4), .val (.int p5), .val (.int (p2 &&& (255 : Int32))), .val (.int (p3 &&& (255 : Int32))), .val (.int (p4 &&& (255 : Int32))), .val (.int (0 : Int32)), .val (.ref b30), .val (.ref b43), .val (.ref b58), .val (.int ((1 : Int32) + ((p5 &&& (2147483647 : Int32)) % (65535 : Int32)))), .val (.ref b_74), .val (.ref b_81)]) rfl ?_
      show Go p e below T81 (mkF m 146 #[.val (.int p1), .val (.int p2), .val (.int p3), .val (.int p4), .val (.int p5), .val (.int (p2 &&& (255 : Int32))), .val (.int (p3 &&& (255 : Int32))), .val (.int (p4 &&& (255 : Int32))), .val (.int (0 : Int32)), .val (.ref b30), .val (.ref b43), .val (.ref b58), .val (.int ((1 : Int32) + ((p5 &&& (2147483647 : Int32)) % (65535 : Int32)))), .val (.ref b_74), .val (.ref b_81)] []) _
      refine XS.aload X81.here hx rfl (hb hby at_146) rfl rfl ?_
      exact kt)
    have f90 : Exa Z T81.heap b_74 "com/example/cerrojo/cerrojo/config/ServerAddress" := (fq74_0.keep Kq81)
    obtain ⟨cq89, kq89, q89a, q89b, q89c⟩ := isOf hZ rfl f90
    obtain ⟨_, _, ⟨T88, L88, k88, n88⟩, -, X88, ⟨Lc88, hQ88, l88, y88, z88⟩, st88⟩ := X81.virtualBack hx (y := (⟨"com/example/cerrojo/cerrojo/config/ServerAddress", "host", "()Ljava/lang/String;"⟩ : MethodName)) (z := (⟨"com/example/cerrojo/cerrojo/config/ServerAddress", "host", "()Ljava/lang/String;"⟩ : MethodName)) hown (mvT hZ (own_w hw 59 rfl)) (mvT hZ (own_w hw 60 rfl)) (notFace_of_selects (args := #[]) (mvT hZ (own_w hw 62 rfl))) (mvT hZ (own_w hw 62 rfl)) (mvT hZ (own_w hw 61 rfl)) (by decide) (backOf (W := 0) (rm11 l Z a0 hw [] cx b_74 b43 T81.heap n0 O85 f86) hZ (own_w hw 63 rfl) (own_w hw 34 rfl) (by decide) (by decide)) q89a q89c (g := (mkF m 148 #[.val (.int p1), .val (.int p2), .val (.int p3), .val (.int p4), .val (.int p5), .val (.int (p2 &&& (255 : Int32))), .val (.int (p3 &&& (255 : Int32))), .val (.int (p4 &&& (255 : Int32))), .val (.int (0 : Int32)), .val (.ref b30), .val (.ref b43), .val (.ref b58), .val (.int ((1 : Int32) + ((p5 &&& (2147483647 : Int32)) % (65535 : Int32)))), .val (.ref b_74), .val (.ref b_81)] [(.ref b_74)])) rfl (by rw [hml]; rfl) (Steps.refl _) (argsL := []) (rest := []) (lenOf pd_6 rfl) rfl (by show 2 * 0 + _ ≤ _; exact Nat.le_of_eq rfl) (hb hby at_148) (fun _ _ => ⟨rfl, rfl, (by decide : 11 + 0 ≤ _), (by decide : 55 + 0 ≤ _)⟩)
    dsimp only [Pt.U, Pt.locs, Pt.cells, Pt.slots] at X88 l88 y88 z88 st88 hQ88
    subst l88 y88 z88
    obtain ⟨rfl, Nq88, eq88⟩ := hQ88
    have N91 := Fr.app N82 Nq88
    have q92 := fun t (kt : Go p e below T88 (mkF m 151 #[.val (.int p1), .val (.int p2), .val (.int p3), .val (.int p4), .val (.int p5), .val (.int (p2 &&& (255 : Int32))), .val (.int (p3 &&& (255 : Int32))), .val (.int (p4 &&& (255 : Int32))), .val (.int (0 : Int32)), .val (.ref b30), .val (.ref b43), .val (.ref b58), .val (.int ((1 : Int32) + ((p5 &&& (2147483647 : Int32)) % (65535 : Int32)))), .val (.ref b_74), .val (.ref b_81)] [(.ref b43)]) t) => q87 t (st88.trans kt)
    have q94 := fun t (kt : Go p e below T88 (mkF m 153 #[.val (.int p1), .val (.int p2), .val (.int p3), .val (.int p4), .val (.int p5), .val (.int (p2 &&& (255 : Int32))), .val (.int (p3 &&& (255 : Int32))), .val (.int (p4 &&& (255 : Int32))), .val (.int (0 : Int32)), .val (.ref b30), .val (.ref b43), .val (.ref b58), .val (.int ((1 : Int32) + ((p5 &&& (2147483647 : Int32)) % (65535 : Int32)))), .val (.ref b_74), .val (.ref b_81)] [(.ref b43), (.ref b43)]) t) => q92 t (by
      show Go p e below T88 (mkF m 151 #[.val (.int p1), .val (.int p2), .val (.int p3), .val (.int p4), .val (.int p5), .val (.int (p2 &&& (255 : Int32))), .val (.int (p3 &&& (255 : Int32))), .val (.int (p4 &&& (255 : Int32))), .val (.int (0 : Int32)), .val (.ref b30), .val (.ref b43), .val (.ref b58), .val (.int ((1 : Int32) + ((p5 &&& (2147483647 : Int32)) % (65535 : Int32)))), .val (.ref b_74), .val (.ref b_81)] [(.ref b43)]) _
      refine XS.aload X88.here hx rfl (hb hby at_151) rfl rfl ?_
      exact kt)
    have hsw93 : ∀ d ∈ StrChars.Road.wordsEq, d.before a0 Z = true := fun d hd => hw d ((by decide +kernel : ∀ d ∈ StrChars.Road.wordsEq, d ∈ tables_1) d hd)
    have f96 : Str Z T81.heap b43 t51 [(p2 &&& (255 : Int32))] := ((f72.keep Kq74 nin0 nin0).keep Kq81 nin0 nin0)
    obtain ⟨kb95, cd95, nb95, vb95, sE95, sV95, sC95, sK95, sD95, sB95, sL95⟩ := id f96
    obtain ⟨kb97, cd97, nb97, vb97, sE97, sV97, sC97, sK97, sD97, sB97, sL97⟩ := id f96
    have f100 : Exa Z T81.heap b43 "java/lang/String" := ((((Ex51.ext E58).keep Kq66).keep Kq74).keep Kq81)
    obtain ⟨cq99, kq99, q99a, q99b, q99c⟩ := isOf hZ eq88 f100
    obtain ⟨_, _, ⟨T98, L98, k98, n98⟩, -, X98, ⟨Lc98, hQ98, l98, y98, z98⟩, st98⟩ := X88.virtualBack hx (y := (⟨"java/lang/String", "equals", "(Ljava/lang/Object;)Z"⟩ : MethodName)) (z := (⟨"java/lang/String", "equals", "(Ljava/lang/Object;)Z"⟩ : MethodName)) hown (mvT hZ (own_w hw 64 rfl)) (mvT hZ (own_w hw 65 rfl)) (notFace_of_selects (args := #[]) (mvT hZ (own_w hw 67 rfl))) (mvT hZ (own_w hw 67 rfl)) (mvT hZ (own_w hw 66 rfl)) (by decide) (StrChars.Road.eqW (W := 0) hZ hsw93 (kI := 4) (own_w hw 3 rfl) sE95 sV95 sC95 sK95 sD95 sB95 sL95 sE97 sV97 sC97 sK97 sD97 sB97 sL97 (cx.1.ext O85.2) cx.2 (by decide) (by decide)) q99a q99c (g := (mkF m 153 #[.val (.int p1), .val (.int p2), .val (.int p3), .val (.int p4), .val (.int p5), .val (.int (p2 &&& (255 : Int32))), .val (.int (p3 &&& (255 : Int32))), .val (.int (p4 &&& (255 : Int32))), .val (.int (0 : Int32)), .val (.ref b30), .val (.ref b43), .val (.ref b58), .val (.int ((1 : Int32) + ((p5 &&& (2147483647 : Int32)) % (65535 : Int32)))), .val (.ref b_74), .val (.ref b_81)] [(.ref b43), (.ref b43)])) rfl (by rw [hml]; rfl) (Steps.refl _) (argsL := [(.ref b43)]) (rest := []) (lenOf pd_3 rfl) rfl (by show 2 * 0 + _ ≤ _; exact Nat.le_of_eq rfl) (hb hby at_153) (fun _ _ => ⟨rfl, eq88, (by decide : 11 + 0 ≤ _), (by decide : 55 + 0 ≤ _)⟩)
    dsimp only [Pt.U, Pt.locs, Pt.cells, Pt.slots] at X98 l98 y98 z98 st98 hQ98
    subst l98 y98 z98
    obtain ⟨hcase98, rfl, eq98⟩ := hQ98
    try rw [List.append_nil] at X98
    obtain rfl := hcase98.elim (fun q => q.1) (fun q => absurd rfl q.2)
    have q101 := fun t (kt : Go p e below T98 (mkF m 156 #[.val (.int p1), .val (.int p2), .val (.int p3), .val (.int p4), .val (.int p5), .val (.int (p2 &&& (255 : Int32))), .val (.int (p3 &&& (255 : Int32))), .val (.int (p4 &&& (255 : Int32))), .val (.int (0 : Int32)), .val (.ref b30), .val (.ref b43), .val (.ref b58), .val (.int ((1 : Int32) + ((p5 &&& (2147483647 : Int32)) % (65535 : Int32)))), .val (.ref b_74), .val (.ref b_81)] [(.int (1 : Int32))]) t) => q94 t (st98.trans kt)
    have f102 : Fld Z T81.heap b_74 "com/example/cerrojo/cerrojo/config/ServerAddress" "port" "I" (.int ((1 : Int32) + ((p5 &&& (2147483647 : Int32)) % (65535 : Int32)))) := (fq74_2.keep Kq81 nin0)
    have q103 := fun t (kt : Go p e below T98 (mkF m 161 #[.val (.int p1), .val (.int p2), .val (.int p3), .val (.int p4), .val (.int p5), .val (.int (p2 &&& (255 : Int32))), .val (.int (p3 &&& (255 : Int32))), .val (.int (p4 &&& (255 : Int32))), .val (.int (0 : Int32)), .val (.ref b30), .val (.ref b43), .val (.ref b58), .val (.int ((1 : Int32) + ((p5 &&& (2147483647 : Int32)) % (65535 : Int32)))), .val (.ref b_74), .val (.ref b_81)] [(.ref b_74)]) t) => q101 t (by
      show Go p e below T98 (mkF m 156 #[.val (.int p1), .val (.int p2), .val (.int p3), .val (.int p4), .val (.int p5), .val (.int (p2 &&& (255 : Int32))), .val (.int (p3 &&& (255 : Int32))), .val (.int (p4 &&& (255 : Int32))), .val (.int (0 : Int32)), .val (.ref b30), .val (.ref b43), .val (.ref b58), .val (.int ((1 : Int32) + ((p5 &&& (2147483647 : Int32)) % (65535 : Int32)))), .val (.ref b_74), .val (.ref b_81)] [(.int (1 : Int32))]) _
      refine XS.ifNo X98.here hx rfl (hb hby at_156) rfl ((if0 _ _).trans (feq (by decide : ¬ ((1 : Int32) = (0 : Int32)))).1) ?_
      show Go p e below T98 (mkF m 159 #[.val (.int p1), .val (.int p2), .val (.int p3), .val (.int p4), .val (.int p5), .val (.int (p2 &&& (255 : Int32))), .val (.int (p3 &&& (255 : Int32))), .val (.int (p4 &&& (255 : Int32))), .val (.int (0 : Int32)), .val (.ref b30), .val (.ref b43), .val (.ref b58), .val (.int ((1 : Int32) + ((p5 &&& (2147483647 : Int32)) % (65535 : Int32)))), .val (.ref b_74), .val (.ref b_81)] []) _
      refine XS.aload X98.here hx rfl (hb hby at_159) rfl rfl ?_
      exact kt)
    obtain ⟨cq105, kq105, q105a, q105b, q105c⟩ := isOf hZ eq98 f90
    obtain ⟨_, _, ⟨T104, L104, k104, n104⟩, -, X104, ⟨Lc104, hQ104, l104, y104, z104⟩, st104⟩ := X98.virtualBack hx (y := (⟨"com/example/cerrojo/cerrojo/config/ServerAddress", "port", "()I"⟩ : MethodName)) (z := (⟨"com/example/cerrojo/cerrojo/config/ServerAddress", "port", "()I"⟩ : MethodName)) hown (mvT hZ (own_w hw 69 rfl)) (mvT hZ (own_w hw 70 rfl)) (notFace_of_selects (args := #[]) (mvT hZ (own_w hw 72 rfl))) (mvT hZ (own_w hw 72 rfl)) (mvT hZ (own_w hw 71 rfl)) (by decide) (backOf (W := 0) (rm13 l Z a0 hw [] cx b_74 ((1 : Int32) + ((p5 &&& (2147483647 : Int32)) % (65535 : Int32))) T81.heap n0 O85 f102) hZ (own_w hw 73 rfl) (own_w hw 34 rfl) (by decide) (by decide)) q105a q105c (g := (mkF m 161 #[.val (.int p1), .val (.int p2), .val (.int p3), .val (.int p4), .val (.int p5), .val (.int (p2 &&& (255 : Int32))), .val (.int (p3 &&& (255 : Int32))), .val (.int (p4 &&& (255 : Int32))), .val (.int (0 : Int32)), .val (.ref b30), .val (.ref b43), .val (.ref b58), .val (.int ((1 : Int32) + ((p5 &&& (2147483647 : Int32)) % (65535 : Int32)))), .val (.ref b_74), .val (.ref b_81)] [(.ref b_74)])) rfl (by rw [hml]; rfl) (Steps.refl _) (argsL := []) (rest := []) (lenOf pd_7 rfl) rfl (by show 2 * 0 + _ ≤ _; exact Nat.le_of_eq rfl) (hb hby at_161) (fun _ _ => ⟨rfl, eq98, (by decide : 11 + 0 ≤ _), (by decide : 55 + 0 ≤ _)⟩)
    dsimp only [Pt.U, Pt.locs, Pt.cells, Pt.slots] at X104 l104 y104 z104 st104 hQ104
    subst l104 y104 z104
    obtain ⟨rfl, Nq104, eq104⟩ := hQ104
    have N106 := Fr.app N91 Nq104
    have q107 := fun t (kt : Go p e below T104 (mkF m 164 #[.val (.int p1), .val (.int p2), .val (.int p3), .val (.int p4), .val (.int p5), .val (.int (p2 &&& (255 : Int32))), .val (.int (p3 &&& (255 : Int32))), .val (.int (p4 &&& (255 : Int32))), .val (.int (0 : Int32)), .val (.ref b30), .val (.ref b43), .val (.ref b58), .val (.int ((1 : Int32) + ((p5 &&& (2147483647 : Int32)) % (65535 : Int32)))), .val (.ref b_74), .val (.ref b_81)] [(.int ((1 : Int32) + ((p5 &&& (2147483647 : Int32)) % (65535 : Int32))))]) t) => q103 t (st104.trans kt)
    have f108 : Str Z T81.heap b58 t66 [(p2 &&& (255 : Int32))] := (f79.keep Kq81 nin0 nin0)
    have q109 := fun t (kt : Go p e below T104 (mkF m 173 #[.val (.int p1), .val (.int p2), .val (.int p3), .val (.int p4), .val (.int p5), .val (.int (p2 &&& (255 : Int32))), .val (.int (p3 &&& (255 : Int32))), .val (.int (p4 &&& (255 : Int32))), .val (.int (0 : Int32)), .val (.ref b30), .val (.ref b43), .val (.ref b58), .val (.int ((1 : Int32) + ((p5 &&& (2147483647 : Int32)) % (65535 : Int32)))), .val (.ref b_74), .val (.ref b_81)] [(.ref b_81), (.ref b_74)]) t) => q107 t (by
      show Go p e below T104 (mkF m 164 #[.val (.int p1), .val (.int p2), .val (.int p3), .val (.int p4), .val (.int p5), .val (.int (p2 &&& (255 : Int32))), .val (.int (p3 &&& (255 : Int32))), .val (.int (p4 &&& (255 : Int32))), .val (.int (0 : Int32)), .val (.ref b30), .val (.ref b43), .val (.ref b58), .val (.int ((1 : Int32) + ((p5 &&& (2147483647 : Int32)) % (65535 : Int32)))), .val (.ref b_74), .val (.ref b_81)] [(.int ((1 : Int32) + ((p5 &&& (2147483647 : Int32)) % (65535 : Int32))))]) _
      refine XS.iload X104.here hx rfl (hb hby at_164) rfl ?_
      show Go p e below T104 (mkF m 166 #[.val (.int p1), .val (.int p2), .val (.int p3), .val (.int p4), .val (.int p5), .val (.int (p2 &&& (255 : Int32))), .val (.int (p3 &&& (255 : Int32))), .val (.int (p4 &&& (255 : Int32))), .val (.int (0 : Int32)), .val (.ref b30), .val (.ref b43), .val (.ref b58), .val (.int ((1 : Int32) + ((p5 &&& (2147483647 : Int32)) % (65535 : Int32)))), .val (.ref b_74), .val (.ref b_81)] [(.int ((1 : Int32) + ((p5 &&& (2147483647 : Int32)) % (65535 : Int32)))), (.int ((1 : Int32) + ((p5 &&& (2147483647 : Int32)) % (65535 : Int32))))]) _
      refine XS.icmpNo X104.here hx rfl (hb hby at_166) rfl (teq (rfl : ((1 : Int32) + ((p5 &&& (2147483647 : Int32)) % (65535 : Int32))) = ((1 : Int32) + ((p5 &&& (2147483647 : Int32)) % (65535 : Int32))))).2 ?_
      show Go p e below T104 (mkF m 169 #[.val (.int p1), .val (.int p2), .val (.int p3), .val (.int p4), .val (.int p5), .val (.int (p2 &&& (255 : Int32))), .val (.int (p3 &&& (255 : Int32))), .val (.int (p4 &&& (255 : Int32))), .val (.int (0 : Int32)), .val (.ref b30), .val (.ref b43), .val (.ref b58), .val (.int ((1 : Int32) + ((p5 &&& (2147483647 : Int32)) % (65535 : Int32)))), .val (.ref b_74), .val (.ref b_81)] []) _
      refine XS.aload X104.here hx rfl (hb hby at_169) rfl rfl ?_
      show Go p e below T104 (mkF m 171 #[.val (.int p1), .val (.int p2), .val (.int p3), .val (.int p4), .val (.int p5), .val (.int (p2 &&& (255 : Int32))), .val (.int (p3 &&& (255 : Int32))), .val (.int (p4 &&& (255 : Int32))), .val (.int (0 : Int32)), .val (.ref b30), .val (.ref b43), .val (.ref b58), .val (.int ((1 : Int32) + ((p5 &&& (2147483647 : Int32)) % (65535 : Int32)))), .val (.ref b_74), .val (.ref b_81)] [(.ref b_74)]) _
      refine XS.aload X104.here hx rfl (hb hby at_171) rfl rfl ?_
      exact kt)
    obtain ⟨cq111, kq111, q111a, q111b, q111c⟩ := isOf hZ eq104 f90
    obtain ⟨_, _, ⟨T110, L110, k110, n110⟩, -, X110, ⟨Lc110, hQ110, l110, y110, z110⟩, st110⟩ := X104.virtualBack hx (y := (⟨"com/example/cerrojo/cerrojo/config/ServerAddress", "equals", "(Ljava/lang/Object;)Z"⟩ : MethodName)) (z := (⟨"com/example/cerrojo/cerrojo/config/ServerAddress", "equals", "(Ljava/lang/Object;)Z"⟩ : MethodName)) hown (mvT hZ (own_w hw 74 rfl)) (mvT hZ (own_w hw 75 rfl)) (notFace_of_selects (args := #[]) (mvT hZ (own_w hw 77 rfl))) (mvT hZ (own_w hw 77 rfl)) (mvT hZ (own_w hw 76 rfl)) (by decide) (backOf (W := 0) (rm14 l Z a0 hw [] cx b_74 b_81 b43 b58 ((1 : Int32) + ((p5 &&& (2147483647 : Int32)) % (65535 : Int32))) t51 t66 [(p2 &&& (255 : Int32))] T81.heap n0 O85 fq81_0 f86 fq81_1 f102 fq81_2 f96 f108) hZ (own_w hw 78 rfl) (own_w hw 34 rfl) (by decide) (by decide)) q111a q111c (g := (mkF m 173 #[.val (.int p1), .val (.int p2), .val (.int p3), .val (.int p4), .val (.int p5), .val (.int (p2 &&& (255 : Int32))), .val (.int (p3 &&& (255 : Int32))), .val (.int (p4 &&& (255 : Int32))), .val (.int (0 : Int32)), .val (.ref b30), .val (.ref b43), .val (.ref b58), .val (.int ((1 : Int32) + ((p5 &&& (2147483647 : Int32)) % (65535 : Int32)))), .val (.ref b_74), .val (.ref b_81)] [(.ref b_81), (.ref b_74)])) rfl (by rw [hml]; rfl) (Steps.refl _) (argsL := [(.ref b_81)]) (rest := []) (lenOf pd_3 rfl) rfl (by show 2 * 0 + _ ≤ _; exact Nat.le_of_eq rfl) (hb hby at_173) (fun _ _ => ⟨rfl, eq104, (by decide : 11 + 0 ≤ _), (by decide : 55 + 0 ≤ _)⟩)
    dsimp only [Pt.U, Pt.locs, Pt.cells, Pt.slots] at X110 l110 y110 z110 st110 hQ110
    subst l110 y110 z110
    obtain ⟨rfl, Nq110, eq110⟩ := hQ110
    have N112 := Fr.app N106 Nq110
    have q113 := fun t (kt : Go p e below T110 (mkF m 176 #[.val (.int p1), .val (.int p2), .val (.int p3), .val (.int p4), .val (.int p5), .val (.int (p2 &&& (255 : Int32))), .val (.int (p3 &&& (255 : Int32))), .val (.int (p4 &&& (255 : Int32))), .val (.int (0 : Int32)), .val (.ref b30), .val (.ref b43), .val (.ref b58), .val (.int ((1 : Int32) + ((p5 &&& (2147483647 : Int32)) % (65535 : Int32)))), .val (.ref b_74), .val (.ref b_81)] [(.int (1 : Int32))]) t) => q109 t (st110.trans kt)
    have q114 := fun t (kt : Go p e below T110 (mkF m 184 #[.val (.int p1), .val (.int p2), .val (.int p3), .val (.int p4), .val (.int p5), .val (.int (p2 &&& (255 : Int32))), .val (.int (p3 &&& (255 : Int32))), .val (.int (p4 &&& (255 : Int32))), .val (.int (0 : Int32)), .val (.ref b30), .val (.ref b43), .val (.ref b58), .val (.int ((1 : Int32) + ((p5 &&& (2147483647 : Int32)) % (65535 : Int32)))), .val (.ref b_74), .val (.ref b_81)] [(.int (1 : Int32))]) t) => q113 t (by
      show Go p e below T110 (mkF m 176 #[.val (.int p1), .val (.int p2), .val (.int p3), .val (.int p4), .val (.int p5), .val (.int (p2 &&& (255 : Int32))), .val (.int (p3 &&& (255 : Int32))), .val (.int (p4 &&& (255 : Int32))), .val (.int (0 : Int32)), .val (.ref b30), .val (.ref b43), .val (.ref b58), .val (.int ((1 : Int32) + ((p5 &&& (2147483647 : Int32)) % (65535 : Int32)))), .val (.ref b_74), .val (.ref b_81)] [(.int (1 : Int32))]) _
      refine XS.ifNo X110.here hx rfl (hb hby at_176) rfl ((if0 _ _).trans (feq (by decide : ¬ ((1 : Int32) = (0 : Int32)))).1) ?_
      show Go p e below T110 (mkF m 179 #[.val (.int p1), .val (.int p2), .val (.int p3), .val (.int p4), .val (.int p5), .val (.int (p2 &&& (255 : Int32))), .val (.int (p3 &&& (255 : Int32))), .val (.int (p4 &&& (255 : Int32))), .val (.int (0 : Int32)), .val (.ref b30), .val (.ref b43), .val (.ref b58), .val (.int ((1 : Int32) + ((p5 &&& (2147483647 : Int32)) % (65535 : Int32)))), .val (.ref b_74), .val (.ref b_81)] []) _
      refine XS.iconst X110.here hx rfl (hb hby at_179) ?_
      show Go p e below T110 (mkF m 180 #[.val (.int p1), .val (.int p2), .val (.int p3), .val (.int p4), .val (.int p5), .val (.int (p2 &&& (255 : Int32))), .val (.int (p3 &&& (255 : Int32))), .val (.int (p4 &&& (255 : Int32))), .val (.int (0 : Int32)), .val (.ref b30), .val (.ref b43), .val (.ref b58), .val (.int ((1 : Int32) + ((p5 &&& (2147483647 : Int32)) % (65535 : Int32)))), .val (.ref b_74), .val (.ref b_81)] [(.int (1 : Int32))]) _
      refine XS.goto X110.here hx rfl (pc0 := 180) (pc' := 184) rfl (hb hby at_180) (by decide) (by decide) ?_
      exact kt)
    obtain ⟨fs, hr, hrun, hended, hRE⟩ := X110.leaveW hS81 (by rw [eq110]; exact hkk81) (v := some (.int (1 : Int32))) (fun h => by rw [Bd.returns] at h; cases h)
    refine ⟨_, _, q114 _ ?_, hrun, hended, _, _, rfl, ?_, hRE.1, hRE.2.1, hRE.2.2.1, hRE.2.2.2.mono (by decide) (by decide)⟩
    · show Go p e below T110 (mkF m 184 #[.val (.int p1), .val (.int p2), .val (.int p3), .val (.int p4), .val (.int p5), .val (.int (p2 &&& (255 : Int32))), .val (.int (p3 &&& (255 : Int32))), .val (.int (p4 &&& (255 : Int32))), .val (.int (0 : Int32)), .val (.ref b30), .val (.ref b43), .val (.ref b58), .val (.int ((1 : Int32) + ((p5 &&& (2147483647 : Int32)) % (65535 : Int32)))), .val (.ref b_74), .val (.ref b_81)] [(.int (1 : Int32))]) _
      exact retN X110 hx (t := .boolean) Bd.returns (by simp) (hb hby at_184) hr
    · show Q_rm0 Z p1 p2 p3 p4 p5 z_cs h0 n0 _ T110.heap _
      rw [eq110]
      exact ⟨rfl, N112⟩
  · skip
    have q115 := fun t (kt : Go p e below s₁ (mkF m 32 #[.val (.int p1), .val (.int p2), .val (.int p3), .val (.int p4), .val (.int p5), .val (.int (p2 &&& (255 : Int32))), .val (.int (p3 &&& (255 : Int32))), .val (.int (p4 &&& (255 : Int32))), .val (.int (1 : Int32)), .unset, .unset, .unset, .unset, .unset, .unset] []) t) => q27 t (by rw [hi]; exact kt)
    have q116 := fun t (kt : Go p e below s₁ (mkF m 57 #[.val (.int p1), .val (.int p2), .val (.int p3), .val (.int p4), .val (.int p5), .val (.int (p2 &&& (255 : Int32))), .val (.int (p3 &&& (255 : Int32))), .val (.int (p4 &&& (255 : Int32))), .val (.int (1 : Int32)), .unset, .unset, .unset, .unset, .unset, .unset] [(.int (2 : Int32))]) t) => q115 t (by
      show Go p e below s₁ (mkF m 32 #[.val (.int p1), .val (.int p2), .val (.int p3), .val (.int p4), .val (.int p5), .val (.int (p2 &&& (255 : Int32))), .val (.int (p3 &&& (255 : Int32))), .val (.int (p4 &&& (255 : Int32))), .val (.int (1 : Int32)), .unset, .unset, .unset, .unset, .unset, .unset] []) _
      refine XS.iload X0.here hx rfl (hb hby at_32) rfl ?_
      show Go p e below s₁ (mkF m 34 #[.val (.int p1), .val (.int p2), .val (.int p3), .val (.int p4), .val (.int p5), .val (.int (p2 &&& (255 : Int32))), .val (.int (p3 &&& (255 : Int32))), .val (.int (p4 &&& (255 : Int32))), .val (.int (1 : Int32)), .unset, .unset, .unset, .unset, .unset, .unset] [(.int (1 : Int32))]) _
      refine XS.ifYes X0.here hx rfl (pc0 := 34) (pc' := 50) rfl (hb hby at_34) rfl ((if0 _ _).trans (feq (by decide : ¬ ((1 : Int32) = (0 : Int32)))).2) (by decide) (by decide) ?_
      show Go p e below s₁ (mkF m 50 #[.val (.int p1), .val (.int p2), .val (.int p3), .val (.int p4), .val (.int p5), .val (.int (p2 &&& (255 : Int32))), .val (.int (p3 &&& (255 : Int32))), .val (.int (p4 &&& (255 : Int32))), .val (.int (1 : Int32)), .unset, .unset, .unset, .unset, .unset, .unset] []) _
      refine XS.iload X0.here hx rfl (hb hby at_50) rfl ?_
      show Go p e below s₁ (mkF m 52 #[.val (.int p1), .val (.int p2), .val (.int p3), .val (.int p4), .val (.int p5), .val (.int (p2 &&& (255 : Int32))), .val (.int (p3 &&& (255 : Int32))), .val (.int (p4 &&& (255 : Int32))), .val (.int (1 : Int32)), .unset, .unset, .unset, .unset, .unset, .unset] [(.int (1 : Int32))]) _
      refine XS.iconst X0.here hx rfl (hb hby at_52) ?_
      show Go p e below s₁ (mkF m 53 #[.val (.int p1), .val (.int p2), .val (.int p3), .val (.int p4), .val (.int p5), .val (.int (p2 &&& (255 : Int32))), .val (.int (p3 &&& (255 : Int32))), .val (.int (p4 &&& (255 : Int32))), .val (.int (1 : Int32)), .unset, .unset, .unset, .unset, .unset, .unset] [(.int (1 : Int32)), (.int (1 : Int32))]) _
      refine XS.icmpNo X0.here hx rfl (hb hby at_53) rfl (teq (rfl : (1 : Int32) = (1 : Int32))).2 ?_
      show Go p e below s₁ (mkF m 56 #[.val (.int p1), .val (.int p2), .val (.int p3), .val (.int p4), .val (.int p5), .val (.int (p2 &&& (255 : Int32))), .val (.int (p3 &&& (255 : Int32))), .val (.int (p4 &&& (255 : Int32))), .val (.int (1 : Int32)), .unset, .unset, .unset, .unset, .unset, .unset] []) _
      refine XS.iconst X0.here hx rfl (hb hby at_56) ?_
      exact kt)
    obtain ⟨T117, h117, k117, X117, e117, E117, A117, st117⟩ := newP X0 hx hZ (own_w hw 1 rfl) e0 (g := (mkF m 57 #[.val (.int p1), .val (.int p2), .val (.int p3), .val (.int p4), .val (.int p5), .val (.int (p2 &&& (255 : Int32))), .val (.int (p3 &&& (255 : Int32))), .val (.int (p4 &&& (255 : Int32))), .val (.int (1 : Int32)), .unset, .unset, .unset, .unset, .unset, .unset] [(.int (2 : Int32))])) rfl (hb hby at_57) rfl (by decide) (cap := 2) (by decide) (by decide) (by decide) (by decide)
    obtain ⟨b117, g117⟩ : ∃ z, z = h0.size := ⟨_, rfl⟩
    rw [← g117] at A117 st117
    have gg118 : n0 ≤ b117 := Nat.le_trans (O0.1 ▸ O0.2.1) (Nat.le_of_eq g117.symm)
    have q119 := fun t (kt : Go p e below T117 (mkF m 59 #[.val (.int p1), .val (.int p2), .val (.int p3), .val (.int p4), .val (.int p5), .val (.int (p2 &&& (255 : Int32))), .val (.int (p3 &&& (255 : Int32))), .val (.int (p4 &&& (255 : Int32))), .val (.int (1 : Int32)), .unset, .unset, .unset, .unset, .unset, .unset] [(.ref b117)]) t) => q116 t (st117 t kt)
    have O120 : Old Z n0 h117 := O0.ext E117
    have hk121 : _ ≤ h117.size := Nat.le_trans hk0 E117.1
    have V117 : Arv Z h117 b117 k117 .char (2 : Int32) [(.int (0 : Int32)), (.int (0 : Int32))] (.int (0 : Int32)) := (Arv.new A117 (by decide)).pad (pad_rep [] (.int (0 : Int32)) 2)
    have q123 := fun t (kt : Go p e below T117 (mkF m 63 #[.val (.int p1), .val (.int p2), .val (.int p3), .val (.int p4), .val (.int p5), .val (.int (p2 &&& (255 : Int32))), .val (.int (p3 &&& (255 : Int32))), .val (.int (p4 &&& (255 : Int32))), .val (.int (1 : Int32)), .unset, .unset, .unset, .unset, .unset, .unset] [(.int (p2 &&& (255 : Int32))), (.int (0 : Int32)), (.ref b117), (.ref b117)]) t) => q119 t (by
      show Go p e below T117 (mkF m 59 #[.val (.int p1), .val (.int p2), .val (.int p3), .val (.int p4), .val (.int p5), .val (.int (p2 &&& (255 : Int32))), .val (.int (p3 &&& (255 : Int32))), .val (.int (p4 &&& (255 : Int32))), .val (.int (1 : Int32)), .unset, .unset, .unset, .unset, .unset, .unset] [(.ref b117)]) _
      refine XS.dup X117.here hx rfl (hb hby at_59) rfl rfl ?_
      show Go p e below T117 (mkF m 60 #[.val (.int p1), .val (.int p2), .val (.int p3), .val (.int p4), .val (.int p5), .val (.int (p2 &&& (255 : Int32))), .val (.int (p3 &&& (255 : Int32))), .val (.int (p4 &&& (255 : Int32))), .val (.int (1 : Int32)), .unset, .unset, .unset, .unset, .unset, .unset] [(.ref b117), (.ref b117)]) _
      refine XS.iconst X117.here hx rfl (hb hby at_60) ?_
      show Go p e below T117 (mkF m 61 #[.val (.int p1), .val (.int p2), .val (.int p3), .val (.int p4), .val (.int p5), .val (.int (p2 &&& (255 : Int32))), .val (.int (p3 &&& (255 : Int32))), .val (.int (p4 &&& (255 : Int32))), .val (.int (1 : Int32)), .unset, .unset, .unset, .unset, .unset, .unset] [(.int (0 : Int32)), (.ref b117), (.ref b117)]) _
      refine XS.iload X117.here hx rfl (hb hby at_61) rfl ?_
      exact kt)
    obtain ⟨c122, Ar122, q122, S122, N122, H122, G122⟩ := id V117
    have hi122 : ¬ ((0 : Int32) < 0 ∨ c122.slots.size ≤ ((0 : Int32)).toNatClampNeg) := inb_of S122 ⟨by decide, by decide⟩
    obtain ⟨T124, h124, X124, e124, W124, st124⟩ := stC X117 hx hZ e117 Ar122 (j := (0 : Int32)) hi122 (g := (mkF m 63 #[.val (.int p1), .val (.int p2), .val (.int p3), .val (.int p4), .val (.int p5), .val (.int (p2 &&& (255 : Int32))), .val (.int (p3 &&& (255 : Int32))), .val (.int (p4 &&& (255 : Int32))), .val (.int (1 : Int32)), .unset, .unset, .unset, .unset, .unset, .unset] [(.int (p2 &&& (255 : Int32))), (.int (0 : Int32)), (.ref b117), (.ref b117)])) rfl rfl (hb hby at_63)
    have q125 := fun t (kt : Go p e below T124 (mkF m 64 #[.val (.int p1), .val (.int p2), .val (.int p3), .val (.int p4), .val (.int p5), .val (.int (p2 &&& (255 : Int32))), .val (.int (p3 &&& (255 : Int32))), .val (.int (p4 &&& (255 : Int32))), .val (.int (1 : Int32)), .unset, .unset, .unset, .unset, .unset, .unset] [(.ref b117)]) t) => q123 t (st124 t kt)
    have V124 : Arv Z h124 b117 k117 .char (2 : Int32) [(.int (p2 &&& (255 : Int32))), (.int (0 : Int32))] (.int (0 : Int32)) := by
      have vv := Arv.set Ar122 q122 S122 N122 H122 G122 (fits_nar_char _) W124 0 rfl (Nat.le_of_ble_eq_true rfl)
      rw [show nar .char (p2 &&& (255 : Int32)) = (p2 &&& (255 : Int32)) from (i2c_mask p2)] at vv
      exact vv
    have N126 := Fr.snoc X124 N0 gg118
    have O127 : Old Z n0 h124 := O120.wr W124 gg118
    have hk128 : _ ≤ h124.size := Nat.le_trans hk121 (Keep.of_wr W124).1
    have q130 := fun t (kt : Go p e below T124 (mkF m 68 #[.val (.int p1), .val (.int p2), .val (.int p3), .val (.int p4), .val (.int p5), .val (.int (p2 &&& (255 : Int32))), .val (.int (p3 &&& (255 : Int32))), .val (.int (p4 &&& (255 : Int32))), .val (.int (1 : Int32)), .unset, .unset, .unset, .unset, .unset, .unset] [(.int (p3 &&& (255 : Int32))), (.int (1 : Int32)), (.ref b117), (.ref b117)]) t) => q125 t (by
      show Go p e below T124 (mkF m 64 #[.val (.int p1), .val (.int p2), .val (.int p3), .val (.int p4), .val (.int p5), .val (.int (p2 &&& (255 : Int32))), .val (.int (p3 &&& (255 : Int32))), .val (.int (p4 &&& (255 : Int32))), .val (.int (1 : Int32)), .unset, .unset, .unset, .unset, .unset, .unset] [(.ref b117)]) _
      refine XS.dup X124.here hx rfl (hb hby at_64) rfl rfl ?_
      show Go p e below T124 (mkF m 65 #[.val (.int p1), .val (.int p2), .val (.int p3), .val (.int p4), .val (.int p5), .val (.int (p2 &&& (255 : Int32))), .val (.int (p3 &&& (255 : Int32))), .val (.int (p4 &&& (255 : Int32))), .val (.int (1 : Int32)), .unset, .unset, .unset, .unset, .unset, .unset] [(.ref b117), (.ref b117)]) _
      refine XS.iconst X124.here hx rfl (hb hby at_65) ?_
      show Go p e below T124 (mkF m 66 #[.val (.int p1), .val (.int p2), .val (.int p3), .val (.int p4), .val (.int p5), .val (.int (p2 &&& (255 : Int32))), .val (.int (p3 &&& (255 : Int32))), .val (.int (p4 &&& (255 : Int32))), .val (.int (1 : Int32)), .unset, .unset, .unset, .unset, .unset, .unset] [(.int (1 : Int32)), (.ref b117), (.ref b117)]) _
      refine XS.iload X124.here hx rfl (hb hby at_66) rfl ?_
      exact kt)
    obtain ⟨c129, Ar129, q129, S129, N129, H129, G129⟩ := id V124
    have hi129 : ¬ ((1 : Int32) < 0 ∨ c129.slots.size ≤ ((1 : Int32)).toNatClampNeg) := inb_of S129 ⟨by decide, by decide⟩
    obtain ⟨T131, h131, X131, e131, W131, st131⟩ := stC X124 hx hZ e124 Ar129 (j := (1 : Int32)) hi129 (g := (mkF m 68 #[.val (.int p1), .val (.int p2), .val (.int p3), .val (.int p4), .val (.int p5), .val (.int (p2 &&& (255 : Int32))), .val (.int (p3 &&& (255 : Int32))), .val (.int (p4 &&& (255 : Int32))), .val (.int (1 : Int32)), .unset, .unset, .unset, .unset, .unset, .unset] [(.int (p3 &&& (255 : Int32))), (.int (1 : Int32)), (.ref b117), (.ref b117)])) rfl rfl (hb hby at_68)
    have q132 := fun t (kt : Go p e below T131 (mkF m 69 #[.val (.int p1), .val (.int p2), .val (.int p3), .val (.int p4), .val (.int p5), .val (.int (p2 &&& (255 : Int32))), .val (.int (p3 &&& (255 : Int32))), .val (.int (p4 &&& (255 : Int32))), .val (.int (1 : Int32)), .unset, .unset, .unset, .unset, .unset, .unset] [(.ref b117)]) t) => q130 t (st131 t kt)
    have V131 : Arv Z h131 b117 k117 .char (2 : Int32) [(.int (p2 &&& (255 : Int32))), (.int (p3 &&& (255 : Int32)))] (.int (0 : Int32)) := by
      have vv := Arv.set Ar129 q129 S129 N129 H129 G129 (fits_nar_char _) W131 1 rfl (Nat.le_of_ble_eq_true rfl)
      rw [show nar .char (p3 &&& (255 : Int32)) = (p3 &&& (255 : Int32)) from (i2c_mask p3)] at vv
      exact vv
    have N133 := Fr.snoc X131 N126 gg118
    have O134 : Old Z n0 h131 := O127.wr W131 gg118
    have hk135 : _ ≤ h131.size := Nat.le_trans hk128 (Keep.of_wr W131).1
    have q136 := fun t (kt : Go p e below T131 (mkF m 94 #[.val (.int p1), .val (.int p2), .val (.int p3), .val (.int p4), .val (.int p5), .val (.int (p2 &&& (255 : Int32))), .val (.int (p3 &&& (255 : Int32))), .val (.int (p4 &&& (255 : Int32))), .val (.int (1 : Int32)), .val (.ref b117), .unset, .unset, .unset, .unset, .unset] []) t) => q132 t (by
      show Go p e below T131 (mkF m 69 #[.val (.int p1), .val (.int p2), .val (.int p3), .val (.int p4), .val (.int p5), .val (.int (p2 &&& (255 : Int32))), .val (.int (p3 &&& (255 : Int32))), .val (.int (p4 &&& (255 : Int32))), .val (.int (1 : Int32)), .unset, .unset, .unset, .unset, .unset, .unset] [(.ref b117)]) _
      refine XS.astore X131.here hx rfl (hb hby at_69) rfl rfl (l' := #[.val (.int p1), .val (.int p2), .val (.int p3), .val (.int p4), .val (.int p5), .val (.int (p2 &&& (255 : Int32))), .val (.int (p3 &&& (255 : Int32))), .val (.int (p4 &&& (255 : Int32))), .val (.int (1 : Int32)), .val (.ref b117), .unset, .unset, .unset, .unset, .unset]) rfl ?_
      show Go p e below T131 (mkF m 71 #[.val (.int p1), .val (.int p2), .val (.int p3), .val (.int p4), .val (.int p5), .val (.int (p2 &&& (255 : Int32))), .val (.int (p3 &&& (255 : Int32))), .val (.int (p4 &&& (255 : Int32))), .val (.int (1 : Int32)), .val (.ref b117), .unset, .unset, .unset, .unset, .unset] []) _
      refine XS.goto X131.here hx rfl (pc0 := 71) (pc' := 94) rfl (hb hby at_71) (by decide) (by decide) ?_
      exact kt)
    obtain ⟨T137, h137, X137, e137, E137, A137, D137, U137, st137⟩ := newO X131 hx hZ hown (own_w hw 2 rfl) (own_w hw 3 rfl) (own_w hw 4 rfl) e131 (g := (mkF m 94 #[.val (.int p1), .val (.int p2), .val (.int p3), .val (.int p4), .val (.int p5), .val (.int (p2 &&& (255 : Int32))), .val (.int (p3 &&& (255 : Int32))), .val (.int (p4 &&& (255 : Int32))), .val (.int (1 : Int32)), .val (.ref b117), .unset, .unset, .unset, .unset, .unset] [])) rfl (hb hby at_94) (by decide) (by decide)
    obtain ⟨b137, g137⟩ : ∃ z, z = h131.size := ⟨_, rfl⟩
    rw [← g137] at A137 D137 st137
    have gg138 : n0 ≤ b137 := Nat.le_trans (O134.1 ▸ O134.2.1) (Nat.le_of_eq g137.symm)
    have q139 := fun t (kt : Go p e below T137 (mkF m 97 #[.val (.int p1), .val (.int p2), .val (.int p3), .val (.int p4), .val (.int p5), .val (.int (p2 &&& (255 : Int32))), .val (.int (p3 &&& (255 : Int32))), .val (.int (p4 &&& (255 : Int32))), .val (.int (1 : Int32)), .val (.ref b117), .unset, .unset, .unset, .unset, .unset] [(.ref b137)]) t) => q136 t (st137 t kt)
    have O140 : Old Z n0 h137 := O134.ext E137
    have hk141 : _ ≤ h137.size := Nat.le_trans hk135 E137.1
    have F137_coder : Fld Z h137 b137 "java/lang/String" "coder" "B" (.int (0 : Int32)) := D137 (Or.inr (own_w hw 28 rfl)) (ty := .byte) (by decide)
    have F137_value : Fld Z h137 b137 "java/lang/String" "value" "[B" .null := D137 (Or.inr (own_w hw 30 rfl)) (ty := (.array .byte)) (by decide)
    have q142 := fun t (kt : Go p e below T137 (mkF m 100 #[.val (.int p1), .val (.int p2), .val (.int p3), .val (.int p4), .val (.int p5), .val (.int (p2 &&& (255 : Int32))), .val (.int (p3 &&& (255 : Int32))), .val (.int (p4 &&& (255 : Int32))), .val (.int (1 : Int32)), .val (.ref b117), .unset, .unset, .unset, .unset, .unset] [(.ref b117), (.ref b137), (.ref b137)]) t) => q139 t (by
      show Go p e below T137 (mkF m 97 #[.val (.int p1), .val (.int p2), .val (.int p3), .val (.int p4), .val (.int p5), .val (.int (p2 &&& (255 : Int32))), .val (.int (p3 &&& (255 : Int32))), .val (.int (p4 &&& (255 : Int32))), .val (.int (1 : Int32)), .val (.ref b117), .unset, .unset, .unset, .unset, .unset] [(.ref b137)]) _
      refine XS.dup X137.here hx rfl (hb hby at_97) rfl rfl ?_
      show Go p e below T137 (mkF m 98 #[.val (.int p1), .val (.int p2), .val (.int p3), .val (.int p4), .val (.int p5), .val (.int (p2 &&& (255 : Int32))), .val (.int (p3 &&& (255 : Int32))), .val (.int (p4 &&& (255 : Int32))), .val (.int (1 : Int32)), .val (.ref b117), .unset, .unset, .unset, .unset, .unset] [(.ref b137), (.ref b137)]) _
      refine XS.aload X137.here hx rfl (hb hby at_98) rfl rfl ?_
      exact kt)
    have f143 : Arv Z h137 b117 k117 .char (2 : Int32) [(.int (p2 &&& (255 : Int32))), (.int (p3 &&& (255 : Int32)))] (.int (0 : Int32)) := (V131.ext E137)
    have hws144 : ∀ d ∈ StrChars.Road.words, d.before a0 Z = true := fun d hd => hw d ((by decide +kernel : ∀ d ∈ StrChars.Road.words, d ∈ tables_1) d hd)
    have hlt144 : ∀ c ∈ ([(p2 &&& (255 : Int32)), (p3 &&& (255 : Int32))] : List Int32), ¬ c < 0 ∧ ¬ (255 : Int32) < c := by
      intro c hc
      simp only [List.mem_cons, List.not_mem_nil, or_false] at hc
      rcases hc with rfl | rfl
      · exact (own_and255L p2)
      · exact (own_and255L p3)
    obtain ⟨_, _, ⟨T145, L145, k145, n145⟩, -, X145, ⟨Lc145, hQ145, l145, y145, z145⟩, st145⟩ := X137.specialBack hx (y := (⟨"java/lang/String", "<init>", "([C)V"⟩ : MethodName)) rfl hown (mvT hZ (own_w hw 5 rfl)) (mvT hZ (own_w hw 6 rfl)) (mvT hZ (own_w hw 7 rfl)) (by decide) (StrChars.Road.backV (W := 1) hZ hws144 (kI := 4) (own_w hw 3 rfl) (cs := [(p2 &&& (255 : Int32)), (p3 &&& (255 : Int32))]) (bs := (([(p2 &&& (255 : Int32)), (p3 &&& (255 : Int32))] : List Int32).map (fun c => c.toInt8.toInt32))) (n := 2) gg138 (O140.1 ▸ O140.2.1) A137 F137_value F137_coder f143 (cx.1.ext O140.2) cx.2 rfl rfl (by decide) (by decide) hlt144 rfl (by decide) (by decide)) (g := (mkF m 100 #[.val (.int p1), .val (.int p2), .val (.int p3), .val (.int p4), .val (.int p5), .val (.int (p2 &&& (255 : Int32))), .val (.int (p3 &&& (255 : Int32))), .val (.int (p4 &&& (255 : Int32))), .val (.int (1 : Int32)), .val (.ref b117), .unset, .unset, .unset, .unset, .unset] [(.ref b117), (.ref b137), (.ref b137)])) rfl (by rw [hml]; rfl) (Steps.refl _) (a := b137) (argsL := [(.ref b117)]) (rest := [(.ref b137)]) (lenOf pd_4 rfl) rfl (by show 2 * 0 + _ ≤ _; exact Nat.le_of_eq rfl) (hb hby at_100) (fun _ _ => ⟨rfl, e137, (by decide : 2 + 1 ≤ _), (by decide : 6 + 2 ≤ _)⟩)
    dsimp only [Pt.U, Pt.locs, Pt.cells, Pt.slots] at X145 l145 y145 z145 st145 hQ145
    subst l145 y145 z145
    obtain ⟨rfl, Nq145, Kq145, Ex145, Co145, t145, kt145, gt145, ht145, nt145, Va145, Vb145⟩ := hQ145
    have N146 := Fr.app N133 Nq145
    have q147 := fun t (kt : Go p e below T145 (mkF m 103 #[.val (.int p1), .val (.int p2), .val (.int p3), .val (.int p4), .val (.int p5), .val (.int (p2 &&& (255 : Int32))), .val (.int (p3 &&& (255 : Int32))), .val (.int (p4 &&& (255 : Int32))), .val (.int (1 : Int32)), .val (.ref b117), .unset, .unset, .unset, .unset, .unset] [(.ref b137)]) t) => q142 t (st145.trans kt)
    have gg148 : n0 ≤ t145 := Nat.le_trans (O140.1 ▸ O140.2.1) ht145
    have O149 : Old Z n0 T145.heap := O140.keep Kq145 (allS gg138 all0)
    have hk150 : _ ≤ T145.heap.size := Nat.le_trans hk141 Kq145.1
    have Sr145 : Str Z T145.heap b137 t145 [(p2 &&& (255 : Int32)), (p3 &&& (255 : Int32))] := ⟨_, _, _, _, Ex145, Va145, Co145, Vb145, StrChars.Road.codOf (n := 2) rfl (fun c hc => (hlt144 c hc).2), own_up _ hlt144, Nat.le_of_ble_eq_true rfl⟩
    have q151 := fun t (kt : Go p e below T145 (mkF m 105 #[.val (.int p1), .val (.int p2), .val (.int p3), .val (.int p4), .val (.int p5), .val (.int (p2 &&& (255 : Int32))), .val (.int (p3 &&& (255 : Int32))), .val (.int (p4 &&& (255 : Int32))), .val (.int (1 : Int32)), .val (.ref b117), .val (.ref b137), .unset, .unset, .unset, .unset] []) t) => q147 t (by
      show Go p e below T145 (mkF m 103 #[.val (.int p1), .val (.int p2), .val (.int p3), .val (.int p4), .val (.int p5), .val (.int (p2 &&& (255 : Int32))), .val (.int (p3 &&& (255 : Int32))), .val (.int (p4 &&& (255 : Int32))), .val (.int (1 : Int32)), .val (.ref b117), .unset, .unset, .unset, .unset, .unset] [(.ref b137)]) _
      refine XS.astore X145.here hx rfl (hb hby at_103) rfl rfl (l' := #[.val (.int p1), .val (.int p2), .val (.int p3), .val (.int p4), .val (.int p5), .val (.int (p2 &&& (255 : Int32))), .val (.int (p3 &&& (255 : Int32))), .val (.int (p4 &&& (255 : Int32))), .val (.int (1 : Int32)), .val (.ref b117), .val (.ref b137), .unset, .unset, .unset, .unset]) rfl ?_
      exact kt)
    obtain ⟨T152, h152, X152, e152, E152, A152, D152, U152, st152⟩ := newO X145 hx hZ hown (own_w hw 2 rfl) (own_w hw 3 rfl) (own_w hw 4 rfl) rfl (g := (mkF m 105 #[.val (.int p1), .val (.int p2), .val (.int p3), .val (.int p4), .val (.int p5), .val (.int (p2 &&& (255 : Int32))), .val (.int (p3 &&& (255 : Int32))), .val (.int (p4 &&& (255 : Int32))), .val (.int (1 : Int32)), .val (.ref b117), .val (.ref b137), .unset, .unset, .unset, .unset] [])) rfl (hb hby at_105) (by decide) (by decide)
    obtain ⟨b152, g152⟩ : ∃ z, z = T145.heap.size := ⟨_, rfl⟩
    rw [← g152] at A152 D152 st152
    have gg153 : n0 ≤ b152 := Nat.le_trans (O149.1 ▸ O149.2.1) (Nat.le_of_eq g152.symm)
    have q154 := fun t (kt : Go p e below T152 (mkF m 108 #[.val (.int p1), .val (.int p2), .val (.int p3), .val (.int p4), .val (.int p5), .val (.int (p2 &&& (255 : Int32))), .val (.int (p3 &&& (255 : Int32))), .val (.int (p4 &&& (255 : Int32))), .val (.int (1 : Int32)), .val (.ref b117), .val (.ref b137), .unset, .unset, .unset, .unset] [(.ref b152)]) t) => q151 t (st152 t kt)
    have O155 : Old Z n0 h152 := O149.ext E152
    have hk156 : _ ≤ h152.size := Nat.le_trans hk150 E152.1
    have F152_coder : Fld Z h152 b152 "java/lang/String" "coder" "B" (.int (0 : Int32)) := D152 (Or.inr (own_w hw 28 rfl)) (ty := .byte) (by decide)
    have F152_value : Fld Z h152 b152 "java/lang/String" "value" "[B" .null := D152 (Or.inr (own_w hw 30 rfl)) (ty := (.array .byte)) (by decide)
    have q157 := fun t (kt : Go p e below T152 (mkF m 111 #[.val (.int p1), .val (.int p2), .val (.int p3), .val (.int p4), .val (.int p5), .val (.int (p2 &&& (255 : Int32))), .val (.int (p3 &&& (255 : Int32))), .val (.int (p4 &&& (255 : Int32))), .val (.int (1 : Int32)), .val (.ref b117), .val (.ref b137), .unset, .unset, .unset, .unset] [(.ref b117), (.ref b152), (.ref b152)]) t) => q154 t (by
      show Go p e below T152 (mkF m 108 #[.val (.int p1), .val (.int p2), .val (.int p3), .val (.int p4), .val (.int p5), .val (.int (p2 &&& (255 : Int32))), .val (.int (p3 &&& (255 : Int32))), .val (.int (p4 &&& (255 : Int32))), .val (.int (1 : Int32)), .val (.ref b117), .val (.ref b137), .unset, .unset, .unset, .unset] [(.ref b152)]) _
      refine XS.dup X152.here hx rfl (hb hby at_108) rfl rfl ?_
      show Go p e below T152 (mkF m 109 #[.val (.int p1), .val (.int p2), .val (.int p3), .val (.int p4), .val (.int p5), .val (.int (p2 &&& (255 : Int32))), .val (.int (p3 &&& (255 : Int32))), .val (.int (p4 &&& (255 : Int32))), .val (.int (1 : Int32)), .val (.ref b117), .val (.ref b137), .unset, .unset, .unset, .unset] [(.ref b152), (.ref b152)]) _
      refine XS.aload X152.here hx rfl (hb hby at_109) rfl rfl ?_
      exact kt)
    have f158 : Arv Z h152 b117 k117 .char (2 : Int32) [(.int (p2 &&& (255 : Int32))), (.int (p3 &&& (255 : Int32)))] (.int (0 : Int32)) := ((f143.keep Kq145 (ninS (Nat.ne_of_lt (Nat.lt_of_lt_of_le V131.lt (Nat.le_of_eq g137.symm))) nin0)).ext E152)
    have hws159 : ∀ d ∈ StrChars.Road.words, d.before a0 Z = true := fun d hd => hw d ((by decide +kernel : ∀ d ∈ StrChars.Road.words, d ∈ tables_1) d hd)
    have hlt159 : ∀ c ∈ ([(p2 &&& (255 : Int32)), (p3 &&& (255 : Int32))] : List Int32), ¬ c < 0 ∧ ¬ (255 : Int32) < c := by
      intro c hc
      simp only [List.mem_cons, List.not_mem_nil, or_false] at hc
      rcases hc with rfl | rfl
      · exact (own_and255L p2)
      · exact (own_and255L p3)
    obtain ⟨_, _, ⟨T160, L160, k160, n160⟩, -, X160, ⟨Lc160, hQ160, l160, y160, z160⟩, st160⟩ := X152.specialBack hx (y := (⟨"java/lang/String", "<init>", "([C)V"⟩ : MethodName)) rfl hown (mvT hZ (own_w hw 5 rfl)) (mvT hZ (own_w hw 6 rfl)) (mvT hZ (own_w hw 7 rfl)) (by decide) (StrChars.Road.backV (W := 1) hZ hws159 (kI := 4) (own_w hw 3 rfl) (cs := [(p2 &&& (255 : Int32)), (p3 &&& (255 : Int32))]) (bs := (([(p2 &&& (255 : Int32)), (p3 &&& (255 : Int32))] : List Int32).map (fun c => c.toInt8.toInt32))) (n := 2) gg153 (O155.1 ▸ O155.2.1) A152 F152_value F152_coder f158 (cx.1.ext O155.2) cx.2 rfl rfl (by decide) (by decide) hlt159 rfl (by decide) (by decide)) (g := (mkF m 111 #[.val (.int p1), .val (.int p2), .val (.int p3), .val (.int p4), .val (.int p5), .val (.int (p2 &&& (255 : Int32))), .val (.int (p3 &&& (255 : Int32))), .val (.int (p4 &&& (255 : Int32))), .val (.int (1 : Int32)), .val (.ref b117), .val (.ref b137), .unset, .unset, .unset, .unset] [(.ref b117), (.ref b152), (.ref b152)])) rfl (by rw [hml]; rfl) (Steps.refl _) (a := b152) (argsL := [(.ref b117)]) (rest := [(.ref b152)]) (lenOf pd_4 rfl) rfl (by show 2 * 0 + _ ≤ _; exact Nat.le_of_eq rfl) (hb hby at_111) (fun _ _ => ⟨rfl, e152, (by decide : 4 + 1 ≤ _), (by decide : 12 + 2 ≤ _)⟩)
    dsimp only [Pt.U, Pt.locs, Pt.cells, Pt.slots] at X160 l160 y160 z160 st160 hQ160
    subst l160 y160 z160
    obtain ⟨rfl, Nq160, Kq160, Ex160, Co160, t160, kt160, gt160, ht160, nt160, Va160, Vb160⟩ := hQ160
    have N161 := Fr.app N146 Nq160
    have q162 := fun t (kt : Go p e below T160 (mkF m 114 #[.val (.int p1), .val (.int p2), .val (.int p3), .val (.int p4), .val (.int p5), .val (.int (p2 &&& (255 : Int32))), .val (.int (p3 &&& (255 : Int32))), .val (.int (p4 &&& (255 : Int32))), .val (.int (1 : Int32)), .val (.ref b117), .val (.ref b137), .unset, .unset, .unset, .unset] [(.ref b152)]) t) => q157 t (st160.trans kt)
    have gg163 : n0 ≤ t160 := Nat.le_trans (O155.1 ▸ O155.2.1) ht160
    have O164 : Old Z n0 T160.heap := O155.keep Kq160 (allS gg153 all0)
    have hk165 : _ ≤ T160.heap.size := Nat.le_trans hk156 Kq160.1
    have Sr160 : Str Z T160.heap b152 t160 [(p2 &&& (255 : Int32)), (p3 &&& (255 : Int32))] := ⟨_, _, _, _, Ex160, Va160, Co160, Vb160, StrChars.Road.codOf (n := 2) rfl (fun c hc => (hlt159 c hc).2), own_up _ hlt159, Nat.le_of_ble_eq_true rfl⟩
    have f166 : Str Z T160.heap b137 t145 [(p2 &&& (255 : Int32)), (p3 &&& (255 : Int32))] := ((Sr145.ext E152).keep Kq160 (ninS (Nat.ne_of_lt (Nat.lt_of_lt_of_le Ex145.lt (Nat.le_of_eq g152.symm))) nin0) (ninS (Nat.ne_of_lt (Nat.lt_of_lt_of_le Vb145.lt (Nat.le_of_eq g152.symm))) nin0))
    have q167 := fun t (kt : Go p e below T160 (mkF m 132 #[.val (.int p1), .val (.int p2), .val (.int p3), .val (.int p4), .val (.int p5), .val (.int (p2 &&& (255 : Int32))), .val (.int (p3 &&& (255 : Int32))), .val (.int (p4 &&& (255 : Int32))), .val (.int (1 : Int32)), .val (.ref b117), .val (.ref b137), .val (.ref b152), .val (.int ((1 : Int32) + ((p5 &&& (2147483647 : Int32)) % (65535 : Int32)))), .unset, .unset] [(.int ((1 : Int32) + ((p5 &&& (2147483647 : Int32)) % (65535 : Int32)))), (.ref b137)]) t) => q162 t (by
      show Go p e below T160 (mkF m 114 #[.val (.int p1), .val (.int p2), .val (.int p3), .val (.int p4), .val (.int p5), .val (.int (p2 &&& (255 : Int32))), .val (.int (p3 &&& (255 : Int32))), .val (.int (p4 &&& (255 : Int32))), .val (.int (1 : Int32)), .val (.ref b117), .val (.ref b137), .unset, .unset, .unset, .unset] [(.ref b152)]) _
      refine XS.astore X160.here hx rfl (hb hby at_114) rfl rfl (l' := #[.val (.int p1), .val (.int p2), .val (.int p3), .val (.int p4), .val (.int p5), .val (.int (p2 &&& (255 : Int32))), .val (.int (p3 &&& (255 : Int32))), .val (.int (p4 &&& (255 : Int32))), .val (.int (1 : Int32)), .val (.ref b117), .val (.ref b137), .val (.ref b152), .unset, .unset, .unset]) rfl ?_
      show Go p e below T160 (mkF m 116 #[.val (.int p1), .val (.int p2), .val (.int p3), .val (.int p4), .val (.int p5), .val (.int (p2 &&& (255 : Int32))), .val (.int (p3 &&& (255 : Int32))), .val (.int (p4 &&& (255 : Int32))), .val (.int (1 : Int32)), .val (.ref b117), .val (.ref b137), .val (.ref b152), .unset, .unset, .unset] []) _
      refine XS.iconst X160.here hx rfl (hb hby at_116) ?_
      show Go p e below T160 (mkF m 117 #[.val (.int p1), .val (.int p2), .val (.int p3), .val (.int p4), .val (.int p5), .val (.int (p2 &&& (255 : Int32))), .val (.int (p3 &&& (255 : Int32))), .val (.int (p4 &&& (255 : Int32))), .val (.int (1 : Int32)), .val (.ref b117), .val (.ref b137), .val (.ref b152), .unset, .unset, .unset] [(.int (1 : Int32))]) _
      refine XS.iload X160.here hx rfl (hb hby at_117) rfl ?_
      show Go p e below T160 (mkF m 119 #[.val (.int p1), .val (.int p2), .val (.int p3), .val (.int p4), .val (.int p5), .val (.int (p2 &&& (255 : Int32))), .val (.int (p3 &&& (255 : Int32))), .val (.int (p4 &&& (255 : Int32))), .val (.int (1 : Int32)), .val (.ref b117), .val (.ref b137), .val (.ref b152), .unset, .unset, .unset] [(.int p5), (.int (1 : Int32))]) _
      refine X160.ldcInt hx hown (mvT hZ (own_w hw 0 rfl)) (g := (mkF m 119 #[.val (.int p1), .val (.int p2), .val (.int p3), .val (.int p4), .val (.int p5), .val (.int (p2 &&& (255 : Int32))), .val (.int (p3 &&& (255 : Int32))), .val (.int (p4 &&& (255 : Int32))), .val (.int (1 : Int32)), .val (.ref b117), .val (.ref b137), .val (.ref b152), .unset, .unset, .unset] [(.int p5), (.int (1 : Int32))])) rfl (hb hby at_119) _ ?_
      show Go p e below T160 (mkF m 121 #[.val (.int p1), .val (.int p2), .val (.int p3), .val (.int p4), .val (.int p5), .val (.int (p2 &&& (255 : Int32))), .val (.int (p3 &&& (255 : Int32))), .val (.int (p4 &&& (255 : Int32))), .val (.int (1 : Int32)), .val (.ref b117), .val (.ref b137), .val (.ref b152), .unset, .unset, .unset] [(.int (2147483647 : Int32)), (.int p5), (.int (1 : Int32))]) _
      refine XS.iand X160.here hx rfl (hb hby at_121) rfl ?_
      show Go p e below T160 (mkF m 122 #[.val (.int p1), .val (.int p2), .val (.int p3), .val (.int p4), .val (.int p5), .val (.int (p2 &&& (255 : Int32))), .val (.int (p3 &&& (255 : Int32))), .val (.int (p4 &&& (255 : Int32))), .val (.int (1 : Int32)), .val (.ref b117), .val (.ref b137), .val (.ref b152), .unset, .unset, .unset] [(.int (p5 &&& (2147483647 : Int32))), (.int (1 : Int32))]) _
      refine X160.ldcInt hx hown (mvT hZ (own_w hw 31 rfl)) (g := (mkF m 122 #[.val (.int p1), .val (.int p2), .val (.int p3), .val (.int p4), .val (.int p5), .val (.int (p2 &&& (255 : Int32))), .val (.int (p3 &&& (255 : Int32))), .val (.int (p4 &&& (255 : Int32))), .val (.int (1 : Int32)), .val (.ref b117), .val (.ref b137), .val (.ref b152), .unset, .unset, .unset] [(.int (p5 &&& (2147483647 : Int32))), (.int (1 : Int32))])) rfl (hb hby at_122) _ ?_
      show Go p e below T160 (mkF m 124 #[.val (.int p1), .val (.int p2), .val (.int p3), .val (.int p4), .val (.int p5), .val (.int (p2 &&& (255 : Int32))), .val (.int (p3 &&& (255 : Int32))), .val (.int (p4 &&& (255 : Int32))), .val (.int (1 : Int32)), .val (.ref b117), .val (.ref b137), .val (.ref b152), .unset, .unset, .unset] [(.int (65535 : Int32)), (.int (p5 &&& (2147483647 : Int32))), (.int (1 : Int32))]) _
      refine iremM (g := (mkF m 124 #[.val (.int p1), .val (.int p2), .val (.int p3), .val (.int p4), .val (.int p5), .val (.int (p2 &&& (255 : Int32))), .val (.int (p3 &&& (255 : Int32))), .val (.int (p4 &&& (255 : Int32))), .val (.int (1 : Int32)), .val (.ref b117), .val (.ref b137), .val (.ref b152), .unset, .unset, .unset] [(.int (65535 : Int32)), (.int (p5 &&& (2147483647 : Int32))), (.int (1 : Int32))])) X160 hx rfl (hb hby at_124) rfl (by decide : ¬ ((65535 : Int32) = (0 : Int32))) ?_
      show Go p e below T160 (mkF m 125 #[.val (.int p1), .val (.int p2), .val (.int p3), .val (.int p4), .val (.int p5), .val (.int (p2 &&& (255 : Int32))), .val (.int (p3 &&& (255 : Int32))), .val (.int (p4 &&& (255 : Int32))), .val (.int (1 : Int32)), .val (.ref b117), .val (.ref b137), .val (.ref b152), .unset, .unset, .unset] [(.int ((p5 &&& (2147483647 : Int32)) % (65535 : Int32))), (.int (1 : Int32))]) _
      refine XS.iadd X160.here hx rfl (hb hby at_125) rfl ?_
      show Go p e below T160 (mkF m 126 #[.val (.int p1), .val (.int p2), .val (.int p3), .val (.int p4), .val (.int p5), .val (.int (p2 &&& (255 : Int32))), .val (.int (p3 &&& (255 : Int32))), .val (.int (p4 &&& (255 : Int32))), .val (.int (1 : Int32)), .val (.ref b117), .val (.ref b137), .val (.ref b152), .unset, .unset, .unset] [(.int ((1 : Int32) + ((p5 &&& (2147483647 : Int32)) % (65535 : Int32))))]) _
      refine XS.istore X160.here hx rfl (hb hby at_126) rfl (l' := #[.val (.int p1), .val (.int p2), .val (.int p3), .val (.int p4), .val (.int p5), .val (.int (p2 &&& (255 : Int32))), .val (.int (p3 &&& (255 : Int32))), .val (.int (p4 &&& (255 : Int32))), .val (.int (1 : Int32)), .val (.ref b117), .val (.ref b137), .val (.ref b152), .val (.int ((1 : Int32) + ((p5 &&& (2147483647 : Int32)) % (65535 : Int32)))), .unset, .unset]) rfl ?_
      show Go p e below T160 (mkF m 128 #[.val (.int p1), .val (.int p2), .val (.int p3), .val (.int p4), .val (.int p5), .val (.int (p2 &&& (255 : Int32))), .val (.int (p3 &&& (255 : Int32))), .val (.int (p4 &&& (255 : Int32))), .val (.int (1 : Int32)), .val (.ref b117), .val (.ref b137), .val (.ref b152), .val (.int ((1 : Int32) + ((p5 &&& (2147483647 : Int32)) % (65535 : Int32)))), .unset, .unset] []) _
      refine XS.aload X160.here hx rfl (hb hby at_128) rfl rfl ?_
      show Go p e below T160 (mkF m 130 #[.val (.int p1), .val (.int p2), .val (.int p3), .val (.int p4), .val (.int p5), .val (.int (p2 &&& (255 : Int32))), .val (.int (p3 &&& (255 : Int32))), .val (.int (p4 &&& (255 : Int32))), .val (.int (1 : Int32)), .val (.ref b117), .val (.ref b137), .val (.ref b152), .val (.int ((1 : Int32) + ((p5 &&& (2147483647 : Int32)) % (65535 : Int32)))), .unset, .unset] [(.ref b137)]) _
      refine XS.iload X160.here hx rfl (hb hby at_130) rfl ?_
      exact kt)
    obtain ⟨_, _, ⟨T168, L168, k168, n168⟩, -, X168, hSn168, hgn168, ⟨Lc168, hQ168, l168, y168, z168⟩, st168⟩ := callSS X160 hx (y := (⟨"com/example/cerrojo/cerrojo/config/ServerAddress", "of", "(Ljava/lang/String;I)Lcom/example/cerrojo/cerrojo/config/ServerAddress;"⟩ : MethodName)) hown (mvT hZ (own_w hw 32 rfl)) (mvT hZ (own_w hw 33 rfl)) (mvT hZ (own_w hw 34 rfl)) (mvT hZ (own_w hw 35 rfl)) (by decide) (backOfS (W := 0) (rm7 l Z a0 hw [] cx b137 ((1 : Int32) + ((p5 &&& (2147483647 : Int32)) % (65535 : Int32))) t145 [(p2 &&& (255 : Int32)), (p3 &&& (255 : Int32))] T160.heap n0 O164 f166 (by simp) (own_port p5).1 (own_port p5).2) hZ (own_w hw 35 rfl) (own_w hw 34 rfl) (by decide) (by decide)) (g := (mkF m 132 #[.val (.int p1), .val (.int p2), .val (.int p3), .val (.int p4), .val (.int p5), .val (.int (p2 &&& (255 : Int32))), .val (.int (p3 &&& (255 : Int32))), .val (.int (p4 &&& (255 : Int32))), .val (.int (1 : Int32)), .val (.ref b117), .val (.ref b137), .val (.ref b152), .val (.int ((1 : Int32) + ((p5 &&& (2147483647 : Int32)) % (65535 : Int32)))), .unset, .unset] [(.int ((1 : Int32) + ((p5 &&& (2147483647 : Int32)) % (65535 : Int32)))), (.ref b137)])) rfl (by rw [hml]; rfl) (argsL := [(.ref b137), (.int ((1 : Int32) + ((p5 &&& (2147483647 : Int32)) % (65535 : Int32))))]) (rest := []) (lenOf pd_5 rfl) rfl (by show 2 * 0 + _ ≤ _; exact Nat.le_of_eq rfl) (hb hby at_132) (fun _ _ => ⟨rfl, rfl, (by decide : 5 + 3 ≤ _), (by decide : 14 + 22 ≤ _)⟩)
    dsimp only [Pt.U, Pt.locs, Pt.cells, Pt.slots] at X168 l168 y168 z168 st168 hQ168 hSn168 hgn168
    subst l168 y168 z168
    have hS168 := foldS (vm0 := s.vm) hS0 hk165 hSn168 hgn168
    have hZ : Z.Warmed39 (s.setVm T168.vm).vm := State.Warmed39.trans (t := s.setVm s.vm) hZ hSn168.1
    have hown : (s.setVm T168.vm).vm.findClass "com/example/cerrojo/cerrojo/config/ServerAddressOfPinLaw" = some m.cls := by
      show T168.vm.findClass _ = _
      rw [hSn168.1.alike.findClass]; exact hown
    have X168 : Stand p l e room_1 (s.setVm T168.vm) m #[(.int p1), (.int p2), (.int p3), (.int p4), (.int p5)] below meth c T168 _ _ _ := X168
    have hkk168 : T168.heap.size ≤ T168.heap.size := Nat.le_refl _
    obtain ⟨b_168, rfl, Nq168, Kq168, fr168_0, fq168_0, fq168_1, fq168_2⟩ := hQ168
    have N169 := Fr.app N161 Nq168
    have q170 := fun t (kt : Go p e below T168 (mkF m 135 #[.val (.int p1), .val (.int p2), .val (.int p3), .val (.int p4), .val (.int p5), .val (.int (p2 &&& (255 : Int32))), .val (.int (p3 &&& (255 : Int32))), .val (.int (p4 &&& (255 : Int32))), .val (.int (1 : Int32)), .val (.ref b117), .val (.ref b137), .val (.ref b152), .val (.int ((1 : Int32) + ((p5 &&& (2147483647 : Int32)) % (65535 : Int32)))), .unset, .unset] [(.ref b_168)]) t) => q167 t (st168.trans kt)
    have gg171 : n0 ≤ b_168 := Nat.le_trans (O164.1 ▸ O164.2.1) fr168_0
    have O172 : Old Z n0 T168.heap := O164.keep Kq168 all0
    have f173 : Str Z T168.heap b152 t160 [(p2 &&& (255 : Int32)), (p3 &&& (255 : Int32))] := (Sr160.keep Kq168 nin0 nin0)
    have q174 := fun t (kt : Go p e below T168 (mkF m 141 #[.val (.int p1), .val (.int p2), .val (.int p3), .val (.int p4), .val (.int p5), .val (.int (p2 &&& (255 : Int32))), .val (.int (p3 &&& (255 : Int32))), .val (.int (p4 &&& (255 : Int32))), .val (.int (1 : Int32)), .val (.ref b117), .val (.ref b137), .val (.ref b152), .val (.int ((1 : Int32) + ((p5 &&& (2147483647 : Int32)) % (65535 : Int32)))), .val (.ref b_168), .unset] [(.int ((1 : Int32) + ((p5 &&& (2147483647 : Int32)) % (65535 : Int32)))), (.ref b152)]) t) => q170 t (by
      show Go p e below T168 (mkF m 135 #[.val (.int p1), .val (.int p2), .val (.int p3), .val (.int p4), .val (.int p5), .val (.int (p2 &&& (255 : Int32))), .val (.int (p3 &&& (255 : Int32))), .val (.int (p4 &&& (255 : Int32))), .val (.int (1 : Int32)), .val (.ref b117), .val (.ref b137), .val (.ref b152), .val (.int ((1 : Int32) + ((p5 &&& (2147483647 : Int32)) % (65535 : Int32)))), .unset, .unset] [(.ref b_168)]) _
      refine XS.astore X168.here hx rfl (hb hby at_135) rfl rfl (l' := #[.val (.int p1), .val (.int p2), .val (.int p3), .val (.int p4), .val (.int p5), .val (.int (p2 &&& (255 : Int32))), .val (.int (p3 &&& (255 : Int32))), .val (.int (p4 &&& (255 : Int32))), .val (.int (1 : Int32)), .val (.ref b117), .val (.ref b137), .val (.ref b152), .val (.int ((1 : Int32) + ((p5 &&& (2147483647 : Int32)) % (65535 : Int32)))), .val (.ref b_168), .unset]) rfl ?_
      show Go p e below T168 (mkF m 137 #[.val (.int p1), .val (.int p2), .val (.int p3), .val (.int p4), .val (.int p5), .val (.int (p2 &&& (255 : Int32))), .val (.int (p3 &&& (255 : Int32))), .val (.int (p4 &&& (255 : Int32))), .val (.int (1 : Int32)), .val (.ref b117), .val (.ref b137), .val (.ref b152), .val (.int ((1 : Int32) + ((p5 &&& (2147483647 : Int32)) % (65535 : Int32)))), .val (.ref b_168), .unset] []) _
      refine XS.aload X168.here hx rfl (hb hby at_137) rfl rfl ?_
      show Go p e below T168 (mkF m 139 #[.val (.int p1), .val (.int p2), .val (.int p3), .val (.int p4), .val (.int p5), .val (.int (p2 &&& (255 : Int32))), .val (.int (p3 &&& (255 : Int32))), .val (.int (p4 &&& (255 : Int32))), .val (.int (1 : Int32)), .val (.ref b117), .val (.ref b137), .val (.ref b152), .val (.int ((1 : Int32) + ((p5 &&& (2147483647 : Int32)) % (65535 : Int32)))), .val (.ref b_168), .unset] [(.ref b152)]) _
      refine XS.iload X168.here hx rfl (hb hby at_139) rfl ?_
      exact kt)
    obtain ⟨_, _, ⟨T175, L175, k175, n175⟩, -, X175, hSn175, hgn175, ⟨Lc175, hQ175, l175, y175, z175⟩, st175⟩ := callSS X168 hx (y := (⟨"com/example/cerrojo/cerrojo/config/ServerAddress", "of", "(Ljava/lang/String;I)Lcom/example/cerrojo/cerrojo/config/ServerAddress;"⟩ : MethodName)) hown (mvT hZ (own_w hw 32 rfl)) (mvT hZ (own_w hw 33 rfl)) (mvT hZ (own_w hw 34 rfl)) (mvT hZ (own_w hw 35 rfl)) (by decide) (backOfS (W := 0) (rm7 l Z a0 hw [] cx b152 ((1 : Int32) + ((p5 &&& (2147483647 : Int32)) % (65535 : Int32))) t160 [(p2 &&& (255 : Int32)), (p3 &&& (255 : Int32))] T168.heap n0 O172 f173 (by simp) (own_port p5).1 (own_port p5).2) hZ (own_w hw 35 rfl) (own_w hw 34 rfl) (by decide) (by decide)) (g := (mkF m 141 #[.val (.int p1), .val (.int p2), .val (.int p3), .val (.int p4), .val (.int p5), .val (.int (p2 &&& (255 : Int32))), .val (.int (p3 &&& (255 : Int32))), .val (.int (p4 &&& (255 : Int32))), .val (.int (1 : Int32)), .val (.ref b117), .val (.ref b137), .val (.ref b152), .val (.int ((1 : Int32) + ((p5 &&& (2147483647 : Int32)) % (65535 : Int32)))), .val (.ref b_168), .unset] [(.int ((1 : Int32) + ((p5 &&& (2147483647 : Int32)) % (65535 : Int32)))), (.ref b152)])) rfl (by rw [hml]; rfl) (argsL := [(.ref b152), (.int ((1 : Int32) + ((p5 &&& (2147483647 : Int32)) % (65535 : Int32))))]) (rest := []) (lenOf pd_5 rfl) rfl (by show 2 * 0 + _ ≤ _; exact Nat.le_of_eq rfl) (hb hby at_141) (fun _ _ => ⟨rfl, rfl, (by decide : 8 + 3 ≤ _), (by decide : 36 + 22 ≤ _)⟩)
    dsimp only [Pt.U, Pt.locs, Pt.cells, Pt.slots] at X175 l175 y175 z175 st175 hQ175 hSn175 hgn175
    subst l175 y175 z175
    have hS175 := foldS (vm0 := T168.vm) hS168 hkk168 hSn175 hgn175
    have hZ : Z.Warmed39 (s.setVm T175.vm).vm := State.Warmed39.trans (t := s.setVm T168.vm) hZ hSn175.1
    have hown : (s.setVm T175.vm).vm.findClass "com/example/cerrojo/cerrojo/config/ServerAddressOfPinLaw" = some m.cls := by
      show T175.vm.findClass _ = _
      rw [hSn175.1.alike.findClass]; exact hown
    have X175 : Stand p l e room_1 (s.setVm T175.vm) m #[(.int p1), (.int p2), (.int p3), (.int p4), (.int p5)] below meth c T175 _ _ _ := X175
    have hkk175 : T175.heap.size ≤ T175.heap.size := Nat.le_refl _
    obtain ⟨b_175, rfl, Nq175, Kq175, fr175_0, fq175_0, fq175_1, fq175_2⟩ := hQ175
    have N176 := Fr.app N169 Nq175
    have q177 := fun t (kt : Go p e below T175 (mkF m 144 #[.val (.int p1), .val (.int p2), .val (.int p3), .val (.int p4), .val (.int p5), .val (.int (p2 &&& (255 : Int32))), .val (.int (p3 &&& (255 : Int32))), .val (.int (p4 &&& (255 : Int32))), .val (.int (1 : Int32)), .val (.ref b117), .val (.ref b137), .val (.ref b152), .val (.int ((1 : Int32) + ((p5 &&& (2147483647 : Int32)) % (65535 : Int32)))), .val (.ref b_168), .unset] [(.ref b_175)]) t) => q174 t (st175.trans kt)
    have gg178 : n0 ≤ b_175 := Nat.le_trans (O172.1 ▸ O172.2.1) fr175_0
    have O179 : Old Z n0 T175.heap := O172.keep Kq175 all0
    have f180 : Fld Z T175.heap b_168 "com/example/cerrojo/cerrojo/config/ServerAddress" "host" "Ljava/lang/String;" (.ref b137) := (fq168_1.keep Kq175 nin0)
    have q181 := fun t (kt : Go p e below T175 (mkF m 148 #[.val (.int p1), .val (.int p2), .val (.int p3), .val (.int p4), .val (.int p5), .val (.int (p2 &&& (255 : Int32))), .val (.int (p3 &&& (255 : Int32))), .val (.int (p4 &&& (255 : Int32))), .val (.int (1 : Int32)), .val (.ref b117), .val (.ref b137), .val (.ref b152), .val (.int ((1 : Int32) + ((p5 &&& (2147483647 : Int32)) % (65535 : Int32)))), .val (.ref b_168), .val (.ref b_175)] [(.ref b_168)]) t) => q177 t (by
      show Go p e below T175 (mkF m 144 #[.val (.int p1), .val (.int p2), .val (.int p3), .val (.int p4), .val (.int p5), .val (.int (p2 &&& (255 : Int32))), .val (.int (p3 &&& (255 : Int32))), .val (.int (p4 &&& (255 : Int32))), .val (.int (1 : Int32)), .val (.ref b117), .val (.ref b137), .val (.ref b152), .val (.int ((1 : Int32) + ((p5 &&& (2147483647 : Int32)) % (65535 : Int32)))), .val (.ref b_168), .unset] [(.ref b_175)]) _
      refine XS.astore X175.here hx rfl (hb hby at_144) rfl rfl (l' := #[.val (.int p1), .val (.int p2), .val (.int p3), .val (.int p4), .val (.int p5), .val (.int (p2 &&& (255 : Int32))), .val (.int (p3 &&& (255 : Int32))), .val (.int (p4 &&& (255 : Int32))), .val (.int (1 : Int32)), .val (.ref b117), .val (.ref b137), .val (.ref b152), .val (.int ((1 : Int32) + ((p5 &&& (2147483647 : Int32)) % (65535 : Int32)))), .val (.ref b_168), .val (.ref b_175)]) rfl ?_
      show Go p e below T175 (mkF m 146 #[.val (.int p1), .val (.int p2), .val (.int p3), .val (.int p4), .val (.int p5), .val (.int (p2 &&& (255 : Int32))), .val (.int (p3 &&& (255 : Int32))), .val (.int (p4 &&& (255 : Int32))), .val (.int (1 : Int32)), .val (.ref b117), .val (.ref b137), .val (.ref b152), .val (.int ((1 : Int32) + ((p5 &&& (2147483647 : Int32)) % (65535 : Int32)))), .val (.ref b_168), .val (.ref b_175)] []) _
      refine XS.aload X175.here hx rfl (hb hby at_146) rfl rfl ?_
      exact kt)
    have f184 : Exa Z T175.heap b_168 "com/example/cerrojo/cerrojo/config/ServerAddress" := (fq168_0.keep Kq175)
    obtain ⟨cq183, kq183, q183a, q183b, q183c⟩ := isOf hZ rfl f184
    obtain ⟨_, _, ⟨T182, L182, k182, n182⟩, -, X182, ⟨Lc182, hQ182, l182, y182, z182⟩, st182⟩ := X175.virtualBack hx (y := (⟨"com/example/cerrojo/cerrojo/config/ServerAddress", "host", "()Ljava/lang/String;"⟩ : MethodName)) (z := (⟨"com/example/cerrojo/cerrojo/config/ServerAddress", "host", "()Ljava/lang/String;"⟩ : MethodName)) hown (mvT hZ (own_w hw 59 rfl)) (mvT hZ (own_w hw 60 rfl)) (notFace_of_selects (args := #[]) (mvT hZ (own_w hw 62 rfl))) (mvT hZ (own_w hw 62 rfl)) (mvT hZ (own_w hw 61 rfl)) (by decide) (backOf (W := 0) (rm11 l Z a0 hw [] cx b_168 b137 T175.heap n0 O179 f180) hZ (own_w hw 63 rfl) (own_w hw 34 rfl) (by decide) (by decide)) q183a q183c (g := (mkF m 148 #[.val (.int p1), .val (.int p2), .val (.int p3), .val (.int p4), .val (.int p5), .val (.int (p2 &&& (255 : Int32))), .val (.int (p3 &&& (255 : Int32))), .val (.int (p4 &&& (255 : Int32))), .val (.int (1 : Int32)), .val (.ref b117), .val (.ref b137), .val (.ref b152), .val (.int ((1 : Int32) + ((p5 &&& (2147483647 : Int32)) % (65535 : Int32)))), .val (.ref b_168), .val (.ref b_175)] [(.ref b_168)])) rfl (by rw [hml]; rfl) (Steps.refl _) (argsL := []) (rest := []) (lenOf pd_6 rfl) rfl (by show 2 * 0 + _ ≤ _; exact Nat.le_of_eq rfl) (hb hby at_148) (fun _ _ => ⟨rfl, rfl, (by decide : 11 + 0 ≤ _), (by decide : 58 + 0 ≤ _)⟩)
    dsimp only [Pt.U, Pt.locs, Pt.cells, Pt.slots] at X182 l182 y182 z182 st182 hQ182
    subst l182 y182 z182
    obtain ⟨rfl, Nq182, eq182⟩ := hQ182
    have N185 := Fr.app N176 Nq182
    have q186 := fun t (kt : Go p e below T182 (mkF m 151 #[.val (.int p1), .val (.int p2), .val (.int p3), .val (.int p4), .val (.int p5), .val (.int (p2 &&& (255 : Int32))), .val (.int (p3 &&& (255 : Int32))), .val (.int (p4 &&& (255 : Int32))), .val (.int (1 : Int32)), .val (.ref b117), .val (.ref b137), .val (.ref b152), .val (.int ((1 : Int32) + ((p5 &&& (2147483647 : Int32)) % (65535 : Int32)))), .val (.ref b_168), .val (.ref b_175)] [(.ref b137)]) t) => q181 t (st182.trans kt)
    have q188 := fun t (kt : Go p e below T182 (mkF m 153 #[.val (.int p1), .val (.int p2), .val (.int p3), .val (.int p4), .val (.int p5), .val (.int (p2 &&& (255 : Int32))), .val (.int (p3 &&& (255 : Int32))), .val (.int (p4 &&& (255 : Int32))), .val (.int (1 : Int32)), .val (.ref b117), .val (.ref b137), .val (.ref b152), .val (.int ((1 : Int32) + ((p5 &&& (2147483647 : Int32)) % (65535 : Int32)))), .val (.ref b_168), .val (.ref b_175)] [(.ref b137), (.ref b137)]) t) => q186 t (by
      show Go p e below T182 (mkF m 151 #[.val (.int p1), .val (.int p2), .val (.int p3), .val (.int p4), .val (.int p5), .val (.int (p2 &&& (255 : Int32))), .val (.int (p3 &&& (255 : Int32))), .val (.int (p4 &&& (255 : Int32))), .val (.int (1 : Int32)), .val (.ref b117), .val (.ref b137), .val (.ref b152), .val (.int ((1 : Int32) + ((p5 &&& (2147483647 : Int32)) % (65535 : Int32)))), .val (.ref b_168), .val (.ref b_175)] [(.ref b137)]) _
      refine XS.aload X182.here hx rfl (hb hby at_151) rfl rfl ?_
      exact kt)
    have hsw187 : ∀ d ∈ StrChars.Road.wordsEq, d.before a0 Z = true := fun d hd => hw d ((by decide +kernel : ∀ d ∈ StrChars.Road.wordsEq, d ∈ tables_1) d hd)
    have f190 : Str Z T175.heap b137 t145 [(p2 &&& (255 : Int32)), (p3 &&& (255 : Int32))] := ((f166.keep Kq168 nin0 nin0).keep Kq175 nin0 nin0)
    obtain ⟨kb189, cd189, nb189, vb189, sE189, sV189, sC189, sK189, sD189, sB189, sL189⟩ := id f190
    obtain ⟨kb191, cd191, nb191, vb191, sE191, sV191, sC191, sK191, sD191, sB191, sL191⟩ := id f190
    have f194 : Exa Z T175.heap b137 "java/lang/String" := ((((Ex145.ext E152).keep Kq160).keep Kq168).keep Kq175)
    obtain ⟨cq193, kq193, q193a, q193b, q193c⟩ := isOf hZ eq182 f194
    obtain ⟨_, _, ⟨T192, L192, k192, n192⟩, -, X192, ⟨Lc192, hQ192, l192, y192, z192⟩, st192⟩ := X182.virtualBack hx (y := (⟨"java/lang/String", "equals", "(Ljava/lang/Object;)Z"⟩ : MethodName)) (z := (⟨"java/lang/String", "equals", "(Ljava/lang/Object;)Z"⟩ : MethodName)) hown (mvT hZ (own_w hw 64 rfl)) (mvT hZ (own_w hw 65 rfl)) (notFace_of_selects (args := #[]) (mvT hZ (own_w hw 67 rfl))) (mvT hZ (own_w hw 67 rfl)) (mvT hZ (own_w hw 66 rfl)) (by decide) (StrChars.Road.eqW (W := 0) hZ hsw187 (kI := 4) (own_w hw 3 rfl) sE189 sV189 sC189 sK189 sD189 sB189 sL189 sE191 sV191 sC191 sK191 sD191 sB191 sL191 (cx.1.ext O179.2) cx.2 (by decide) (by decide)) q193a q193c (g := (mkF m 153 #[.val (.int p1), .val (.int p2), .val (.int p3), .val (.int p4), .val (.int p5), .val (.int (p2 &&& (255 : Int32))), .val (.int (p3 &&& (255 : Int32))), .val (.int (p4 &&& (255 : Int32))), .val (.int (1 : Int32)), .val (.ref b117), .val (.ref b137), .val (.ref b152), .val (.int ((1 : Int32) + ((p5 &&& (2147483647 : Int32)) % (65535 : Int32)))), .val (.ref b_168), .val (.ref b_175)] [(.ref b137), (.ref b137)])) rfl (by rw [hml]; rfl) (Steps.refl _) (argsL := [(.ref b137)]) (rest := []) (lenOf pd_3 rfl) rfl (by show 2 * 0 + _ ≤ _; exact Nat.le_of_eq rfl) (hb hby at_153) (fun _ _ => ⟨rfl, eq182, (by decide : 11 + 0 ≤ _), (by decide : 58 + 0 ≤ _)⟩)
    dsimp only [Pt.U, Pt.locs, Pt.cells, Pt.slots] at X192 l192 y192 z192 st192 hQ192
    subst l192 y192 z192
    obtain ⟨hcase192, rfl, eq192⟩ := hQ192
    try rw [List.append_nil] at X192
    obtain rfl := hcase192.elim (fun q => q.1) (fun q => absurd rfl q.2)
    have q195 := fun t (kt : Go p e below T192 (mkF m 156 #[.val (.int p1), .val (.int p2), .val (.int p3), .val (.int p4), .val (.int p5), .val (.int (p2 &&& (255 : Int32))), .val (.int (p3 &&& (255 : Int32))), .val (.int (p4 &&& (255 : Int32))), .val (.int (1 : Int32)), .val (.ref b117), .val (.ref b137), .val (.ref b152), .val (.int ((1 : Int32) + ((p5 &&& (2147483647 : Int32)) % (65535 : Int32)))), .val (.ref b_168), .val (.ref b_175)] [(.int (1 : Int32))]) t) => q188 t (st192.trans kt)
    have f196 : Fld Z T175.heap b_168 "com/example/cerrojo/cerrojo/config/ServerAddress" "port" "I" (.int ((1 : Int32) + ((p5 &&& (2147483647 : Int32)) % (65535 : Int32)))) := (fq168_2.keep Kq175 nin0)
    have q197 := fun t (kt : Go p e below T192 (mkF m 161 #[.val (.int p1), .val (.int p2), .val (.int p3), .val (.int p4), .val (.int p5), .val (.int (p2 &&& (255 : Int32))), .val (.int (p3 &&& (255 : Int32))), .val (.int (p4 &&& (255 : Int32))), .val (.int (1 : Int32)), .val (.ref b117), .val (.ref b137), .val (.ref b152), .val (.int ((1 : Int32) + ((p5 &&& (2147483647 : Int32)) % (65535 : Int32)))), .val (.ref b_168), .val (.ref b_175)] [(.ref b_168)]) t) => q195 t (by
      show Go p e below T192 (mkF m 156 #[.val (.int p1), .val (.int p2), .val (.int p3), .val (.int p4), .val (.int p5), .val (.int (p2 &&& (255 : Int32))), .val (.int (p3 &&& (255 : Int32))), .val (.int (p4 &&& (255 : Int32))), .val (.int (1 : Int32)), .val (.ref b117), .val (.ref b137), .val (.ref b152), .val (.int ((1 : Int32) + ((p5 &&& (2147483647 : Int32)) % (65535 : Int32)))), .val (.ref b_168), .val (.ref b_175)] [(.int (1 : Int32))]) _
      refine XS.ifNo X192.here hx rfl (hb hby at_156) rfl ((if0 _ _).trans (feq (by decide : ¬ ((1 : Int32) = (0 : Int32)))).1) ?_
      show Go p e below T192 (mkF m 159 #[.val (.int p1), .val (.int p2), .val (.int p3), .val (.int p4), .val (.int p5), .val (.int (p2 &&& (255 : Int32))), .val (.int (p3 &&& (255 : Int32))), .val (.int (p4 &&& (255 : Int32))), .val (.int (1 : Int32)), .val (.ref b117), .val (.ref b137), .val (.ref b152), .val (.int ((1 : Int32) + ((p5 &&& (2147483647 : Int32)) % (65535 : Int32)))), .val (.ref b_168), .val (.ref b_175)] []) _
      refine XS.aload X192.here hx rfl (hb hby at_159) rfl rfl ?_
      exact kt)
    obtain ⟨cq199, kq199, q199a, q199b, q199c⟩ := isOf hZ eq192 f184
    obtain ⟨_, _, ⟨T198, L198, k198, n198⟩, -, X198, ⟨Lc198, hQ198, l198, y198, z198⟩, st198⟩ := X192.virtualBack hx (y := (⟨"com/example/cerrojo/cerrojo/config/ServerAddress", "port", "()I"⟩ : MethodName)) (z := (⟨"com/example/cerrojo/cerrojo/config/ServerAddress", "port", "()I"⟩ : MethodName)) hown (mvT hZ (own_w hw 69 rfl)) (mvT hZ (own_w hw 70 rfl)) (notFace_of_selects (args := #[]) (mvT hZ (own_w hw 72 rfl))) (mvT hZ (own_w hw 72 rfl)) (mvT hZ (own_w hw 71 rfl)) (by decide) (backOf (W := 0) (rm13 l Z a0 hw [] cx b_168 ((1 : Int32) + ((p5 &&& (2147483647 : Int32)) % (65535 : Int32))) T175.heap n0 O179 f196) hZ (own_w hw 73 rfl) (own_w hw 34 rfl) (by decide) (by decide)) q199a q199c (g := (mkF m 161 #[.val (.int p1), .val (.int p2), .val (.int p3), .val (.int p4), .val (.int p5), .val (.int (p2 &&& (255 : Int32))), .val (.int (p3 &&& (255 : Int32))), .val (.int (p4 &&& (255 : Int32))), .val (.int (1 : Int32)), .val (.ref b117), .val (.ref b137), .val (.ref b152), .val (.int ((1 : Int32) + ((p5 &&& (2147483647 : Int32)) % (65535 : Int32)))), .val (.ref b_168), .val (.ref b_175)] [(.ref b_168)])) rfl (by rw [hml]; rfl) (Steps.refl _) (argsL := []) (rest := []) (lenOf pd_7 rfl) rfl (by show 2 * 0 + _ ≤ _; exact Nat.le_of_eq rfl) (hb hby at_161) (fun _ _ => ⟨rfl, eq192, (by decide : 11 + 0 ≤ _), (by decide : 58 + 0 ≤ _)⟩)
    dsimp only [Pt.U, Pt.locs, Pt.cells, Pt.slots] at X198 l198 y198 z198 st198 hQ198
    subst l198 y198 z198
    obtain ⟨rfl, Nq198, eq198⟩ := hQ198
    have N200 := Fr.app N185 Nq198
    have q201 := fun t (kt : Go p e below T198 (mkF m 164 #[.val (.int p1), .val (.int p2), .val (.int p3), .val (.int p4), .val (.int p5), .val (.int (p2 &&& (255 : Int32))), .val (.int (p3 &&& (255 : Int32))), .val (.int (p4 &&& (255 : Int32))), .val (.int (1 : Int32)), .val (.ref b117), .val (.ref b137), .val (.ref b152), .val (.int ((1 : Int32) + ((p5 &&& (2147483647 : Int32)) % (65535 : Int32)))), .val (.ref b_168), .val (.ref b_175)] [(.int ((1 : Int32) + ((p5 &&& (2147483647 : Int32)) % (65535 : Int32))))]) t) => q197 t (st198.trans kt)
    have f202 : Str Z T175.heap b152 t160 [(p2 &&& (255 : Int32)), (p3 &&& (255 : Int32))] := (f173.keep Kq175 nin0 nin0)
    have q203 := fun t (kt : Go p e below T198 (mkF m 173 #[.val (.int p1), .val (.int p2), .val (.int p3), .val (.int p4), .val (.int p5), .val (.int (p2 &&& (255 : Int32))), .val (.int (p3 &&& (255 : Int32))), .val (.int (p4 &&& (255 : Int32))), .val (.int (1 : Int32)), .val (.ref b117), .val (.ref b137), .val (.ref b152), .val (.int ((1 : Int32) + ((p5 &&& (2147483647 : Int32)) % (65535 : Int32)))), .val (.ref b_168), .val (.ref b_175)] [(.ref b_175), (.ref b_168)]) t) => q201 t (by
      show Go p e below T198 (mkF m 164 #[.val (.int p1), .val (.int p2), .val (.int p3), .val (.int p4), .val (.int p5), .val (.int (p2 &&& (255 : Int32))), .val (.int (p3 &&& (255 : Int32))), .val (.int (p4 &&& (255 : Int32))), .val (.int (1 : Int32)), .val (.ref b117), .val (.ref b137), .val (.ref b152), .val (.int ((1 : Int32) + ((p5 &&& (2147483647 : Int32)) % (65535 : Int32)))), .val (.ref b_168), .val (.ref b_175)] [(.int ((1 : Int32) + ((p5 &&& (2147483647 : Int32)) % (65535 : Int32))))]) _
      refine XS.iload X198.here hx rfl (hb hby at_164) rfl ?_
      show Go p e below T198 (mkF m 166 #[.val (.int p1), .val (.int p2), .val (.int p3), .val (.int p4), .val (.int p5), .val (.int (p2 &&& (255 : Int32))), .val (.int (p3 &&& (255 : Int32))), .val (.int (p4 &&& (255 : Int32))), .val (.int (1 : Int32)), .val (.ref b117), .val (.ref b137), .val (.ref b152), .val (.int ((1 : Int32) + ((p5 &&& (2147483647 : Int32)) % (65535 : Int32)))), .val (.ref b_168), .val (.ref b_175)] [(.int ((1 : Int32) + ((p5 &&& (2147483647 : Int32)) % (65535 : Int32)))), (.int ((1 : Int32) + ((p5 &&& (2147483647 : Int32)) % (65535 : Int32))))]) _
      refine XS.icmpNo X198.here hx rfl (hb hby at_166) rfl (teq (rfl : ((1 : Int32) + ((p5 &&& (2147483647 : Int32)) % (65535 : Int32))) = ((1 : Int32) + ((p5 &&& (2147483647 : Int32)) % (65535 : Int32))))).2 ?_
      show Go p e below T198 (mkF m 169 #[.val (.int p1), .val (.int p2), .val (.int p3), .val (.int p4), .val (.int p5), .val (.int (p2 &&& (255 : Int32))), .val (.int (p3 &&& (255 : Int32))), .val (.int (p4 &&& (255 : Int32))), .val (.int (1 : Int32)), .val (.ref b117), .val (.ref b137), .val (.ref b152), .val (.int ((1 : Int32) + ((p5 &&& (2147483647 : Int32)) % (65535 : Int32)))), .val (.ref b_168), .val (.ref b_175)] []) _
      refine XS.aload X198.here hx rfl (hb hby at_169) rfl rfl ?_
      show Go p e below T198 (mkF m 171 #[.val (.int p1), .val (.int p2), .val (.int p3), .val (.int p4), .val (.int p5), .val (.int (p2 &&& (255 : Int32))), .val (.int (p3 &&& (255 : Int32))), .val (.int (p4 &&& (255 : Int32))), .val (.int (1 : Int32)), .val (.ref b117), .val (.ref b137), .val (.ref b152), .val (.int ((1 : Int32) + ((p5 &&& (2147483647 : Int32)) % (65535 : Int32)))), .val (.ref b_168), .val (.ref b_175)] [(.ref b_168)]) _
      refine XS.aload X198.here hx rfl (hb hby at_171) rfl rfl ?_
      exact kt)
    obtain ⟨cq205, kq205, q205a, q205b, q205c⟩ := isOf hZ eq198 f184
    obtain ⟨_, _, ⟨T204, L204, k204, n204⟩, -, X204, ⟨Lc204, hQ204, l204, y204, z204⟩, st204⟩ := X198.virtualBack hx (y := (⟨"com/example/cerrojo/cerrojo/config/ServerAddress", "equals", "(Ljava/lang/Object;)Z"⟩ : MethodName)) (z := (⟨"com/example/cerrojo/cerrojo/config/ServerAddress", "equals", "(Ljava/lang/Object;)Z"⟩ : MethodName)) hown (mvT hZ (own_w hw 74 rfl)) (mvT hZ (own_w hw 75 rfl)) (notFace_of_selects (args := #[]) (mvT hZ (own_w hw 77 rfl))) (mvT hZ (own_w hw 77 rfl)) (mvT hZ (own_w hw 76 rfl)) (by decide) (backOf (W := 0) (rm14 l Z a0 hw [] cx b_168 b_175 b137 b152 ((1 : Int32) + ((p5 &&& (2147483647 : Int32)) % (65535 : Int32))) t145 t160 [(p2 &&& (255 : Int32)), (p3 &&& (255 : Int32))] T175.heap n0 O179 fq175_0 f180 fq175_1 f196 fq175_2 f190 f202) hZ (own_w hw 78 rfl) (own_w hw 34 rfl) (by decide) (by decide)) q205a q205c (g := (mkF m 173 #[.val (.int p1), .val (.int p2), .val (.int p3), .val (.int p4), .val (.int p5), .val (.int (p2 &&& (255 : Int32))), .val (.int (p3 &&& (255 : Int32))), .val (.int (p4 &&& (255 : Int32))), .val (.int (1 : Int32)), .val (.ref b117), .val (.ref b137), .val (.ref b152), .val (.int ((1 : Int32) + ((p5 &&& (2147483647 : Int32)) % (65535 : Int32)))), .val (.ref b_168), .val (.ref b_175)] [(.ref b_175), (.ref b_168)])) rfl (by rw [hml]; rfl) (Steps.refl _) (argsL := [(.ref b_175)]) (rest := []) (lenOf pd_3 rfl) rfl (by show 2 * 0 + _ ≤ _; exact Nat.le_of_eq rfl) (hb hby at_173) (fun _ _ => ⟨rfl, eq198, (by decide : 11 + 0 ≤ _), (by decide : 58 + 0 ≤ _)⟩)
    dsimp only [Pt.U, Pt.locs, Pt.cells, Pt.slots] at X204 l204 y204 z204 st204 hQ204
    subst l204 y204 z204
    obtain ⟨rfl, Nq204, eq204⟩ := hQ204
    have N206 := Fr.app N200 Nq204
    have q207 := fun t (kt : Go p e below T204 (mkF m 176 #[.val (.int p1), .val (.int p2), .val (.int p3), .val (.int p4), .val (.int p5), .val (.int (p2 &&& (255 : Int32))), .val (.int (p3 &&& (255 : Int32))), .val (.int (p4 &&& (255 : Int32))), .val (.int (1 : Int32)), .val (.ref b117), .val (.ref b137), .val (.ref b152), .val (.int ((1 : Int32) + ((p5 &&& (2147483647 : Int32)) % (65535 : Int32)))), .val (.ref b_168), .val (.ref b_175)] [(.int (1 : Int32))]) t) => q203 t (st204.trans kt)
    have q208 := fun t (kt : Go p e below T204 (mkF m 184 #[.val (.int p1), .val (.int p2), .val (.int p3), .val (.int p4), .val (.int p5), .val (.int (p2 &&& (255 : Int32))), .val (.int (p3 &&& (255 : Int32))), .val (.int (p4 &&& (255 : Int32))), .val (.int (1 : Int32)), .val (.ref b117), .val (.ref b137), .val (.ref b152), .val (.int ((1 : Int32) + ((p5 &&& (2147483647 : Int32)) % (65535 : Int32)))), .val (.ref b_168), .val (.ref b_175)] [(.int (1 : Int32))]) t) => q207 t (by
      show Go p e below T204 (mkF m 176 #[.val (.int p1), .val (.int p2), .val (.int p3), .val (.int p4), .val (.int p5), .val (.int (p2 &&& (255 : Int32))), .val (.int (p3 &&& (255 : Int32))), .val (.int (p4 &&& (255 : Int32))), .val (.int (1 : Int32)), .val (.ref b117), .val (.ref b137), .val (.ref b152), .val (.int ((1 : Int32) + ((p5 &&& (2147483647 : Int32)) % (65535 : Int32)))), .val (.ref b_168), .val (.ref b_175)] [(.int (1 : Int32))]) _
      refine XS.ifNo X204.here hx rfl (hb hby at_176) rfl ((if0 _ _).trans (feq (by decide : ¬ ((1 : Int32) = (0 : Int32)))).1) ?_
      show Go p e below T204 (mkF m 179 #[.val (.int p1), .val (.int p2), .val (.int p3), .val (.int p4), .val (.int p5), .val (.int (p2 &&& (255 : Int32))), .val (.int (p3 &&& (255 : Int32))), .val (.int (p4 &&& (255 : Int32))), .val (.int (1 : Int32)), .val (.ref b117), .val (.ref b137), .val (.ref b152), .val (.int ((1 : Int32) + ((p5 &&& (2147483647 : Int32)) % (65535 : Int32)))), .val (.ref b_168), .val (.ref b_175)] []) _
      refine XS.iconst X204.here hx rfl (hb hby at_179) ?_
      show Go p e below T204 (mkF m 180 #[.val (.int p1), .val (.int p2), .val (.int p3), .val (.int p4), .val (.int p5), .val (.int (p2 &&& (255 : Int32))), .val (.int (p3 &&& (255 : Int32))), .val (.int (p4 &&& (255 : Int32))), .val (.int (1 : Int32)), .val (.ref b117), .val (.ref b137), .val (.ref b152), .val (.int ((1 : Int32) + ((p5 &&& (2147483647 : Int32)) % (65535 : Int32)))), .val (.ref b_168), .val (.ref b_175)] [(.int (1 : Int32))]) _
      refine XS.goto X204.here hx rfl (pc0 := 180) (pc' := 184) rfl (hb hby at_180) (by decide) (by decide) ?_
      exact kt)
    obtain ⟨fs, hr, hrun, hended, hRE⟩ := X204.leaveW hS175 (by rw [eq204]; exact hkk175) (v := some (.int (1 : Int32))) (fun h => by rw [Bd.returns] at h; cases h)
    refine ⟨_, _, q208 _ ?_, hrun, hended, _, _, rfl, ?_, hRE.1, hRE.2.1, hRE.2.2.1, hRE.2.2.2.mono (by decide) (by decide)⟩
    · show Go p e below T204 (mkF m 184 #[.val (.int p1), .val (.int p2), .val (.int p3), .val (.int p4), .val (.int p5), .val (.int (p2 &&& (255 : Int32))), .val (.int (p3 &&& (255 : Int32))), .val (.int (p4 &&& (255 : Int32))), .val (.int (1 : Int32)), .val (.ref b117), .val (.ref b137), .val (.ref b152), .val (.int ((1 : Int32) + ((p5 &&& (2147483647 : Int32)) % (65535 : Int32)))), .val (.ref b_168), .val (.ref b_175)] [(.int (1 : Int32))]) _
      exact retN X204 hx (t := .boolean) Bd.returns (by simp) (hb hby at_184) hr
    · show Q_rm0 Z p1 p2 p3 p4 p5 z_cs h0 n0 _ T204.heap _
      rw [eq204]
      exact ⟨rfl, N206⟩
  · skip
    have q209 := fun t (kt : Go p e below s₁ (mkF m 32 #[.val (.int p1), .val (.int p2), .val (.int p3), .val (.int p4), .val (.int p5), .val (.int (p2 &&& (255 : Int32))), .val (.int (p3 &&& (255 : Int32))), .val (.int (p4 &&& (255 : Int32))), .val (.int (2 : Int32)), .unset, .unset, .unset, .unset, .unset, .unset] []) t) => q27 t (by rw [hi]; exact kt)
    have q210 := fun t (kt : Go p e below s₁ (mkF m 75 #[.val (.int p1), .val (.int p2), .val (.int p3), .val (.int p4), .val (.int p5), .val (.int (p2 &&& (255 : Int32))), .val (.int (p3 &&& (255 : Int32))), .val (.int (p4 &&& (255 : Int32))), .val (.int (2 : Int32)), .unset, .unset, .unset, .unset, .unset, .unset] [(.int (3 : Int32))]) t) => q209 t (by
      show Go p e below s₁ (mkF m 32 #[.val (.int p1), .val (.int p2), .val (.int p3), .val (.int p4), .val (.int p5), .val (.int (p2 &&& (255 : Int32))), .val (.int (p3 &&& (255 : Int32))), .val (.int (p4 &&& (255 : Int32))), .val (.int (2 : Int32)), .unset, .unset, .unset, .unset, .unset, .unset] []) _
      refine XS.iload X0.here hx rfl (hb hby at_32) rfl ?_
      show Go p e below s₁ (mkF m 34 #[.val (.int p1), .val (.int p2), .val (.int p3), .val (.int p4), .val (.int p5), .val (.int (p2 &&& (255 : Int32))), .val (.int (p3 &&& (255 : Int32))), .val (.int (p4 &&& (255 : Int32))), .val (.int (2 : Int32)), .unset, .unset, .unset, .unset, .unset, .unset] [(.int (2 : Int32))]) _
      refine XS.ifYes X0.here hx rfl (pc0 := 34) (pc' := 50) rfl (hb hby at_34) rfl ((if0 _ _).trans (feq (by decide : ¬ ((2 : Int32) = (0 : Int32)))).2) (by decide) (by decide) ?_
      show Go p e below s₁ (mkF m 50 #[.val (.int p1), .val (.int p2), .val (.int p3), .val (.int p4), .val (.int p5), .val (.int (p2 &&& (255 : Int32))), .val (.int (p3 &&& (255 : Int32))), .val (.int (p4 &&& (255 : Int32))), .val (.int (2 : Int32)), .unset, .unset, .unset, .unset, .unset, .unset] []) _
      refine XS.iload X0.here hx rfl (hb hby at_50) rfl ?_
      show Go p e below s₁ (mkF m 52 #[.val (.int p1), .val (.int p2), .val (.int p3), .val (.int p4), .val (.int p5), .val (.int (p2 &&& (255 : Int32))), .val (.int (p3 &&& (255 : Int32))), .val (.int (p4 &&& (255 : Int32))), .val (.int (2 : Int32)), .unset, .unset, .unset, .unset, .unset, .unset] [(.int (2 : Int32))]) _
      refine XS.iconst X0.here hx rfl (hb hby at_52) ?_
      show Go p e below s₁ (mkF m 53 #[.val (.int p1), .val (.int p2), .val (.int p3), .val (.int p4), .val (.int p5), .val (.int (p2 &&& (255 : Int32))), .val (.int (p3 &&& (255 : Int32))), .val (.int (p4 &&& (255 : Int32))), .val (.int (2 : Int32)), .unset, .unset, .unset, .unset, .unset, .unset] [(.int (1 : Int32)), (.int (2 : Int32))]) _
      refine XS.icmpYes X0.here hx rfl (pc0 := 53) (pc' := 74) rfl (hb hby at_53) rfl (feq (by decide : ¬ ((2 : Int32) = (1 : Int32)))).2 (by decide) (by decide) ?_
      show Go p e below s₁ (mkF m 74 #[.val (.int p1), .val (.int p2), .val (.int p3), .val (.int p4), .val (.int p5), .val (.int (p2 &&& (255 : Int32))), .val (.int (p3 &&& (255 : Int32))), .val (.int (p4 &&& (255 : Int32))), .val (.int (2 : Int32)), .unset, .unset, .unset, .unset, .unset, .unset] []) _
      refine XS.iconst X0.here hx rfl (hb hby at_74) ?_
      exact kt)
    obtain ⟨T211, h211, k211, X211, e211, E211, A211, st211⟩ := newP X0 hx hZ (own_w hw 1 rfl) e0 (g := (mkF m 75 #[.val (.int p1), .val (.int p2), .val (.int p3), .val (.int p4), .val (.int p5), .val (.int (p2 &&& (255 : Int32))), .val (.int (p3 &&& (255 : Int32))), .val (.int (p4 &&& (255 : Int32))), .val (.int (2 : Int32)), .unset, .unset, .unset, .unset, .unset, .unset] [(.int (3 : Int32))])) rfl (hb hby at_75) rfl (by decide) (cap := 3) (by decide) (by decide) (by decide) (by decide)
    obtain ⟨b211, g211⟩ : ∃ z, z = h0.size := ⟨_, rfl⟩
    rw [← g211] at A211 st211
    have gg212 : n0 ≤ b211 := Nat.le_trans (O0.1 ▸ O0.2.1) (Nat.le_of_eq g211.symm)
    have q213 := fun t (kt : Go p e below T211 (mkF m 77 #[.val (.int p1), .val (.int p2), .val (.int p3), .val (.int p4), .val (.int p5), .val (.int (p2 &&& (255 : Int32))), .val (.int (p3 &&& (255 : Int32))), .val (.int (p4 &&& (255 : Int32))), .val (.int (2 : Int32)), .unset, .unset, .unset, .unset, .unset, .unset] [(.ref b211)]) t) => q210 t (st211 t kt)
    have O214 : Old Z n0 h211 := O0.ext E211
    have hk215 : _ ≤ h211.size := Nat.le_trans hk0 E211.1
    have V211 : Arv Z h211 b211 k211 .char (3 : Int32) [(.int (0 : Int32)), (.int (0 : Int32)), (.int (0 : Int32))] (.int (0 : Int32)) := (Arv.new A211 (by decide)).pad (pad_rep [] (.int (0 : Int32)) 3)
    have q217 := fun t (kt : Go p e below T211 (mkF m 81 #[.val (.int p1), .val (.int p2), .val (.int p3), .val (.int p4), .val (.int p5), .val (.int (p2 &&& (255 : Int32))), .val (.int (p3 &&& (255 : Int32))), .val (.int (p4 &&& (255 : Int32))), .val (.int (2 : Int32)), .unset, .unset, .unset, .unset, .unset, .unset] [(.int (p2 &&& (255 : Int32))), (.int (0 : Int32)), (.ref b211), (.ref b211)]) t) => q213 t (by
      show Go p e below T211 (mkF m 77 #[.val (.int p1), .val (.int p2), .val (.int p3), .val (.int p4), .val (.int p5), .val (.int (p2 &&& (255 : Int32))), .val (.int (p3 &&& (255 : Int32))), .val (.int (p4 &&& (255 : Int32))), .val (.int (2 : Int32)), .unset, .unset, .unset, .unset, .unset, .unset] [(.ref b211)]) _
      refine XS.dup X211.here hx rfl (hb hby at_77) rfl rfl ?_
      show Go p e below T211 (mkF m 78 #[.val (.int p1), .val (.int p2), .val (.int p3), .val (.int p4), .val (.int p5), .val (.int (p2 &&& (255 : Int32))), .val (.int (p3 &&& (255 : Int32))), .val (.int (p4 &&& (255 : Int32))), .val (.int (2 : Int32)), .unset, .unset, .unset, .unset, .unset, .unset] [(.ref b211), (.ref b211)]) _
      refine XS.iconst X211.here hx rfl (hb hby at_78) ?_
      show Go p e below T211 (mkF m 79 #[.val (.int p1), .val (.int p2), .val (.int p3), .val (.int p4), .val (.int p5), .val (.int (p2 &&& (255 : Int32))), .val (.int (p3 &&& (255 : Int32))), .val (.int (p4 &&& (255 : Int32))), .val (.int (2 : Int32)), .unset, .unset, .unset, .unset, .unset, .unset] [(.int (0 : Int32)), (.ref b211), (.ref b211)]) _
      refine XS.iload X211.here hx rfl (hb hby at_79) rfl ?_
      exact kt)
    obtain ⟨c216, Ar216, q216, S216, N216, H216, G216⟩ := id V211
    have hi216 : ¬ ((0 : Int32) < 0 ∨ c216.slots.size ≤ ((0 : Int32)).toNatClampNeg) := inb_of S216 ⟨by decide, by decide⟩
    obtain ⟨T218, h218, X218, e218, W218, st218⟩ := stC X211 hx hZ e211 Ar216 (j := (0 : Int32)) hi216 (g := (mkF m 81 #[.val (.int p1), .val (.int p2), .val (.int p3), .val (.int p4), .val (.int p5), .val (.int (p2 &&& (255 : Int32))), .val (.int (p3 &&& (255 : Int32))), .val (.int (p4 &&& (255 : Int32))), .val (.int (2 : Int32)), .unset, .unset, .unset, .unset, .unset, .unset] [(.int (p2 &&& (255 : Int32))), (.int (0 : Int32)), (.ref b211), (.ref b211)])) rfl rfl (hb hby at_81)
    have q219 := fun t (kt : Go p e below T218 (mkF m 82 #[.val (.int p1), .val (.int p2), .val (.int p3), .val (.int p4), .val (.int p5), .val (.int (p2 &&& (255 : Int32))), .val (.int (p3 &&& (255 : Int32))), .val (.int (p4 &&& (255 : Int32))), .val (.int (2 : Int32)), .unset, .unset, .unset, .unset, .unset, .unset] [(.ref b211)]) t) => q217 t (st218 t kt)
    have V218 : Arv Z h218 b211 k211 .char (3 : Int32) [(.int (p2 &&& (255 : Int32))), (.int (0 : Int32)), (.int (0 : Int32))] (.int (0 : Int32)) := by
      have vv := Arv.set Ar216 q216 S216 N216 H216 G216 (fits_nar_char _) W218 0 rfl (Nat.le_of_ble_eq_true rfl)
      rw [show nar .char (p2 &&& (255 : Int32)) = (p2 &&& (255 : Int32)) from (i2c_mask p2)] at vv
      exact vv
    have N220 := Fr.snoc X218 N0 gg212
    have O221 : Old Z n0 h218 := O214.wr W218 gg212
    have hk222 : _ ≤ h218.size := Nat.le_trans hk215 (Keep.of_wr W218).1
    have q224 := fun t (kt : Go p e below T218 (mkF m 86 #[.val (.int p1), .val (.int p2), .val (.int p3), .val (.int p4), .val (.int p5), .val (.int (p2 &&& (255 : Int32))), .val (.int (p3 &&& (255 : Int32))), .val (.int (p4 &&& (255 : Int32))), .val (.int (2 : Int32)), .unset, .unset, .unset, .unset, .unset, .unset] [(.int (p3 &&& (255 : Int32))), (.int (1 : Int32)), (.ref b211), (.ref b211)]) t) => q219 t (by
      show Go p e below T218 (mkF m 82 #[.val (.int p1), .val (.int p2), .val (.int p3), .val (.int p4), .val (.int p5), .val (.int (p2 &&& (255 : Int32))), .val (.int (p3 &&& (255 : Int32))), .val (.int (p4 &&& (255 : Int32))), .val (.int (2 : Int32)), .unset, .unset, .unset, .unset, .unset, .unset] [(.ref b211)]) _
      refine XS.dup X218.here hx rfl (hb hby at_82) rfl rfl ?_
      show Go p e below T218 (mkF m 83 #[.val (.int p1), .val (.int p2), .val (.int p3), .val (.int p4), .val (.int p5), .val (.int (p2 &&& (255 : Int32))), .val (.int (p3 &&& (255 : Int32))), .val (.int (p4 &&& (255 : Int32))), .val (.int (2 : Int32)), .unset, .unset, .unset, .unset, .unset, .unset] [(.ref b211), (.ref b211)]) _
      refine XS.iconst X218.here hx rfl (hb hby at_83) ?_
      show Go p e below T218 (mkF m 84 #[.val (.int p1), .val (.int p2), .val (.int p3), .val (.int p4), .val (.int p5), .val (.int (p2 &&& (255 : Int32))), .val (.int (p3 &&& (255 : Int32))), .val (.int (p4 &&& (255 : Int32))), .val (.int (2 : Int32)), .unset, .unset, .unset, .unset, .unset, .unset] [(.int (1 : Int32)), (.ref b211), (.ref b211)]) _
      refine XS.iload X218.here hx rfl (hb hby at_84) rfl ?_
      exact kt)
    obtain ⟨c223, Ar223, q223, S223, N223, H223, G223⟩ := id V218
    have hi223 : ¬ ((1 : Int32) < 0 ∨ c223.slots.size ≤ ((1 : Int32)).toNatClampNeg) := inb_of S223 ⟨by decide, by decide⟩
    obtain ⟨T225, h225, X225, e225, W225, st225⟩ := stC X218 hx hZ e218 Ar223 (j := (1 : Int32)) hi223 (g := (mkF m 86 #[.val (.int p1), .val (.int p2), .val (.int p3), .val (.int p4), .val (.int p5), .val (.int (p2 &&& (255 : Int32))), .val (.int (p3 &&& (255 : Int32))), .val (.int (p4 &&& (255 : Int32))), .val (.int (2 : Int32)), .unset, .unset, .unset, .unset, .unset, .unset] [(.int (p3 &&& (255 : Int32))), (.int (1 : Int32)), (.ref b211), (.ref b211)])) rfl rfl (hb hby at_86)
    have q226 := fun t (kt : Go p e below T225 (mkF m 87 #[.val (.int p1), .val (.int p2), .val (.int p3), .val (.int p4), .val (.int p5), .val (.int (p2 &&& (255 : Int32))), .val (.int (p3 &&& (255 : Int32))), .val (.int (p4 &&& (255 : Int32))), .val (.int (2 : Int32)), .unset, .unset, .unset, .unset, .unset, .unset] [(.ref b211)]) t) => q224 t (st225 t kt)
    have V225 : Arv Z h225 b211 k211 .char (3 : Int32) [(.int (p2 &&& (255 : Int32))), (.int (p3 &&& (255 : Int32))), (.int (0 : Int32))] (.int (0 : Int32)) := by
      have vv := Arv.set Ar223 q223 S223 N223 H223 G223 (fits_nar_char _) W225 1 rfl (Nat.le_of_ble_eq_true rfl)
      rw [show nar .char (p3 &&& (255 : Int32)) = (p3 &&& (255 : Int32)) from (i2c_mask p3)] at vv
      exact vv
    have N227 := Fr.snoc X225 N220 gg212
    have O228 : Old Z n0 h225 := O221.wr W225 gg212
    have hk229 : _ ≤ h225.size := Nat.le_trans hk222 (Keep.of_wr W225).1
    have q231 := fun t (kt : Go p e below T225 (mkF m 91 #[.val (.int p1), .val (.int p2), .val (.int p3), .val (.int p4), .val (.int p5), .val (.int (p2 &&& (255 : Int32))), .val (.int (p3 &&& (255 : Int32))), .val (.int (p4 &&& (255 : Int32))), .val (.int (2 : Int32)), .unset, .unset, .unset, .unset, .unset, .unset] [(.int (p4 &&& (255 : Int32))), (.int (2 : Int32)), (.ref b211), (.ref b211)]) t) => q226 t (by
      show Go p e below T225 (mkF m 87 #[.val (.int p1), .val (.int p2), .val (.int p3), .val (.int p4), .val (.int p5), .val (.int (p2 &&& (255 : Int32))), .val (.int (p3 &&& (255 : Int32))), .val (.int (p4 &&& (255 : Int32))), .val (.int (2 : Int32)), .unset, .unset, .unset, .unset, .unset, .unset] [(.ref b211)]) _
      refine XS.dup X225.here hx rfl (hb hby at_87) rfl rfl ?_
      show Go p e below T225 (mkF m 88 #[.val (.int p1), .val (.int p2), .val (.int p3), .val (.int p4), .val (.int p5), .val (.int (p2 &&& (255 : Int32))), .val (.int (p3 &&& (255 : Int32))), .val (.int (p4 &&& (255 : Int32))), .val (.int (2 : Int32)), .unset, .unset, .unset, .unset, .unset, .unset] [(.ref b211), (.ref b211)]) _
      refine XS.iconst X225.here hx rfl (hb hby at_88) ?_
      show Go p e below T225 (mkF m 89 #[.val (.int p1), .val (.int p2), .val (.int p3), .val (.int p4), .val (.int p5), .val (.int (p2 &&& (255 : Int32))), .val (.int (p3 &&& (255 : Int32))), .val (.int (p4 &&& (255 : Int32))), .val (.int (2 : Int32)), .unset, .unset, .unset, .unset, .unset, .unset] [(.int (2 : Int32)), (.ref b211), (.ref b211)]) _
      refine XS.iload X225.here hx rfl (hb hby at_89) rfl ?_
      exact kt)
    obtain ⟨c230, Ar230, q230, S230, N230, H230, G230⟩ := id V225
    have hi230 : ¬ ((2 : Int32) < 0 ∨ c230.slots.size ≤ ((2 : Int32)).toNatClampNeg) := inb_of S230 ⟨by decide, by decide⟩
    obtain ⟨T232, h232, X232, e232, W232, st232⟩ := stC X225 hx hZ e225 Ar230 (j := (2 : Int32)) hi230 (g := (mkF m 91 #[.val (.int p1), .val (.int p2), .val (.int p3), .val (.int p4), .val (.int p5), .val (.int (p2 &&& (255 : Int32))), .val (.int (p3 &&& (255 : Int32))), .val (.int (p4 &&& (255 : Int32))), .val (.int (2 : Int32)), .unset, .unset, .unset, .unset, .unset, .unset] [(.int (p4 &&& (255 : Int32))), (.int (2 : Int32)), (.ref b211), (.ref b211)])) rfl rfl (hb hby at_91)
    have q233 := fun t (kt : Go p e below T232 (mkF m 92 #[.val (.int p1), .val (.int p2), .val (.int p3), .val (.int p4), .val (.int p5), .val (.int (p2 &&& (255 : Int32))), .val (.int (p3 &&& (255 : Int32))), .val (.int (p4 &&& (255 : Int32))), .val (.int (2 : Int32)), .unset, .unset, .unset, .unset, .unset, .unset] [(.ref b211)]) t) => q231 t (st232 t kt)
    have V232 : Arv Z h232 b211 k211 .char (3 : Int32) [(.int (p2 &&& (255 : Int32))), (.int (p3 &&& (255 : Int32))), (.int (p4 &&& (255 : Int32)))] (.int (0 : Int32)) := by
      have vv := Arv.set Ar230 q230 S230 N230 H230 G230 (fits_nar_char _) W232 2 rfl (Nat.le_of_ble_eq_true rfl)
      rw [show nar .char (p4 &&& (255 : Int32)) = (p4 &&& (255 : Int32)) from (i2c_mask p4)] at vv
      exact vv
    have N234 := Fr.snoc X232 N227 gg212
    have O235 : Old Z n0 h232 := O228.wr W232 gg212
    have hk236 : _ ≤ h232.size := Nat.le_trans hk229 (Keep.of_wr W232).1
    have q237 := fun t (kt : Go p e below T232 (mkF m 94 #[.val (.int p1), .val (.int p2), .val (.int p3), .val (.int p4), .val (.int p5), .val (.int (p2 &&& (255 : Int32))), .val (.int (p3 &&& (255 : Int32))), .val (.int (p4 &&& (255 : Int32))), .val (.int (2 : Int32)), .val (.ref b211), .unset, .unset, .unset, .unset, .unset] []) t) => q233 t (by
      show Go p e below T232 (mkF m 92 #[.val (.int p1), .val (.int p2), .val (.int p3), .val (.int p4), .val (.int p5), .val (.int (p2 &&& (255 : Int32))), .val (.int (p3 &&& (255 : Int32))), .val (.int (p4 &&& (255 : Int32))), .val (.int (2 : Int32)), .unset, .unset, .unset, .unset, .unset, .unset] [(.ref b211)]) _
      refine XS.astore X232.here hx rfl (hb hby at_92) rfl rfl (l' := #[.val (.int p1), .val (.int p2), .val (.int p3), .val (.int p4), .val (.int p5), .val (.int (p2 &&& (255 : Int32))), .val (.int (p3 &&& (255 : Int32))), .val (.int (p4 &&& (255 : Int32))), .val (.int (2 : Int32)), .val (.ref b211), .unset, .unset, .unset, .unset, .unset]) rfl ?_
      exact kt)
    obtain ⟨T238, h238, X238, e238, E238, A238, D238, U238, st238⟩ := newO X232 hx hZ hown (own_w hw 2 rfl) (own_w hw 3 rfl) (own_w hw 4 rfl) e232 (g := (mkF m 94 #[.val (.int p1), .val (.int p2), .val (.int p3), .val (.int p4), .val (.int p5), .val (.int (p2 &&& (255 : Int32))), .val (.int (p3 &&& (255 : Int32))), .val (.int (p4 &&& (255 : Int32))), .val (.int (2 : Int32)), .val (.ref b211), .unset, .unset, .unset, .unset, .unset] [])) rfl (hb hby at_94) (by decide) (by decide)
    obtain ⟨b238, g238⟩ : ∃ z, z = h232.size := ⟨_, rfl⟩
    rw [← g238] at A238 D238 st238
    have gg239 : n0 ≤ b238 := Nat.le_trans (O235.1 ▸ O235.2.1) (Nat.le_of_eq g238.symm)
    have q240 := fun t (kt : Go p e below T238 (mkF m 97 #[.val (.int p1), .val (.int p2), .val (.int p3), .val (.int p4), .val (.int p5), .val (.int (p2 &&& (255 : Int32))), .val (.int (p3 &&& (255 : Int32))), .val (.int (p4 &&& (255 : Int32))), .val (.int (2 : Int32)), .val (.ref b211), .unset, .unset, .unset, .unset, .unset] [(.ref b238)]) t) => q237 t (st238 t kt)
    have O241 : Old Z n0 h238 := O235.ext E238
    have hk242 : _ ≤ h238.size := Nat.le_trans hk236 E238.1
    have F238_coder : Fld Z h238 b238 "java/lang/String" "coder" "B" (.int (0 : Int32)) := D238 (Or.inr (own_w hw 28 rfl)) (ty := .byte) (by decide)
    have F238_value : Fld Z h238 b238 "java/lang/String" "value" "[B" .null := D238 (Or.inr (own_w hw 30 rfl)) (ty := (.array .byte)) (by decide)
    have q243 := fun t (kt : Go p e below T238 (mkF m 100 #[.val (.int p1), .val (.int p2), .val (.int p3), .val (.int p4), .val (.int p5), .val (.int (p2 &&& (255 : Int32))), .val (.int (p3 &&& (255 : Int32))), .val (.int (p4 &&& (255 : Int32))), .val (.int (2 : Int32)), .val (.ref b211), .unset, .unset, .unset, .unset, .unset] [(.ref b211), (.ref b238), (.ref b238)]) t) => q240 t (by
      show Go p e below T238 (mkF m 97 #[.val (.int p1), .val (.int p2), .val (.int p3), .val (.int p4), .val (.int p5), .val (.int (p2 &&& (255 : Int32))), .val (.int (p3 &&& (255 : Int32))), .val (.int (p4 &&& (255 : Int32))), .val (.int (2 : Int32)), .val (.ref b211), .unset, .unset, .unset, .unset, .unset] [(.ref b238)]) _
      refine XS.dup X238.here hx rfl (hb hby at_97) rfl rfl ?_
      show Go p e below T238 (mkF m 98 #[.val (.int p1), .val (.int p2), .val (.int p3), .val (.int p4), .val (.int p5), .val (.int (p2 &&& (255 : Int32))), .val (.int (p3 &&& (255 : Int32))), .val (.int (p4 &&& (255 : Int32))), .val (.int (2 : Int32)), .val (.ref b211), .unset, .unset, .unset, .unset, .unset] [(.ref b238), (.ref b238)]) _
      refine XS.aload X238.here hx rfl (hb hby at_98) rfl rfl ?_
      exact kt)
    have f244 : Arv Z h238 b211 k211 .char (3 : Int32) [(.int (p2 &&& (255 : Int32))), (.int (p3 &&& (255 : Int32))), (.int (p4 &&& (255 : Int32)))] (.int (0 : Int32)) := (V232.ext E238)
    have hws245 : ∀ d ∈ StrChars.Road.words, d.before a0 Z = true := fun d hd => hw d ((by decide +kernel : ∀ d ∈ StrChars.Road.words, d ∈ tables_1) d hd)
    have hlt245 : ∀ c ∈ ([(p2 &&& (255 : Int32)), (p3 &&& (255 : Int32)), (p4 &&& (255 : Int32))] : List Int32), ¬ c < 0 ∧ ¬ (255 : Int32) < c := by
      intro c hc
      simp only [List.mem_cons, List.not_mem_nil, or_false] at hc
      rcases hc with rfl | rfl | rfl
      · exact (own_and255L p2)
      · exact (own_and255L p3)
      · exact (own_and255L p4)
    obtain ⟨_, _, ⟨T246, L246, k246, n246⟩, -, X246, ⟨Lc246, hQ246, l246, y246, z246⟩, st246⟩ := X238.specialBack hx (y := (⟨"java/lang/String", "<init>", "([C)V"⟩ : MethodName)) rfl hown (mvT hZ (own_w hw 5 rfl)) (mvT hZ (own_w hw 6 rfl)) (mvT hZ (own_w hw 7 rfl)) (by decide) (StrChars.Road.backV (W := 1) hZ hws245 (kI := 4) (own_w hw 3 rfl) (cs := [(p2 &&& (255 : Int32)), (p3 &&& (255 : Int32)), (p4 &&& (255 : Int32))]) (bs := (([(p2 &&& (255 : Int32)), (p3 &&& (255 : Int32)), (p4 &&& (255 : Int32))] : List Int32).map (fun c => c.toInt8.toInt32))) (n := 3) gg239 (O241.1 ▸ O241.2.1) A238 F238_value F238_coder f244 (cx.1.ext O241.2) cx.2 rfl rfl (by decide) (by decide) hlt245 rfl (by decide) (by decide)) (g := (mkF m 100 #[.val (.int p1), .val (.int p2), .val (.int p3), .val (.int p4), .val (.int p5), .val (.int (p2 &&& (255 : Int32))), .val (.int (p3 &&& (255 : Int32))), .val (.int (p4 &&& (255 : Int32))), .val (.int (2 : Int32)), .val (.ref b211), .unset, .unset, .unset, .unset, .unset] [(.ref b211), (.ref b238), (.ref b238)])) rfl (by rw [hml]; rfl) (Steps.refl _) (a := b238) (argsL := [(.ref b211)]) (rest := [(.ref b238)]) (lenOf pd_4 rfl) rfl (by show 2 * 0 + _ ≤ _; exact Nat.le_of_eq rfl) (hb hby at_100) (fun _ _ => ⟨rfl, e238, (by decide : 2 + 1 ≤ _), (by decide : 7 + 3 ≤ _)⟩)
    dsimp only [Pt.U, Pt.locs, Pt.cells, Pt.slots] at X246 l246 y246 z246 st246 hQ246
    subst l246 y246 z246
    obtain ⟨rfl, Nq246, Kq246, Ex246, Co246, t246, kt246, gt246, ht246, nt246, Va246, Vb246⟩ := hQ246
    have N247 := Fr.app N234 Nq246
    have q248 := fun t (kt : Go p e below T246 (mkF m 103 #[.val (.int p1), .val (.int p2), .val (.int p3), .val (.int p4), .val (.int p5), .val (.int (p2 &&& (255 : Int32))), .val (.int (p3 &&& (255 : Int32))), .val (.int (p4 &&& (255 : Int32))), .val (.int (2 : Int32)), .val (.ref b211), .unset, .unset, .unset, .unset, .unset] [(.ref b238)]) t) => q243 t (st246.trans kt)
    have gg249 : n0 ≤ t246 := Nat.le_trans (O241.1 ▸ O241.2.1) ht246
    have O250 : Old Z n0 T246.heap := O241.keep Kq246 (allS gg239 all0)
    have hk251 : _ ≤ T246.heap.size := Nat.le_trans hk242 Kq246.1
    have Sr246 : Str Z T246.heap b238 t246 [(p2 &&& (255 : Int32)), (p3 &&& (255 : Int32)), (p4 &&& (255 : Int32))] := ⟨_, _, _, _, Ex246, Va246, Co246, Vb246, StrChars.Road.codOf (n := 3) rfl (fun c hc => (hlt245 c hc).2), own_up _ hlt245, Nat.le_of_ble_eq_true rfl⟩
    have q252 := fun t (kt : Go p e below T246 (mkF m 105 #[.val (.int p1), .val (.int p2), .val (.int p3), .val (.int p4), .val (.int p5), .val (.int (p2 &&& (255 : Int32))), .val (.int (p3 &&& (255 : Int32))), .val (.int (p4 &&& (255 : Int32))), .val (.int (2 : Int32)), .val (.ref b211), .val (.ref b238), .unset, .unset, .unset, .unset] []) t) => q248 t (by
      show Go p e below T246 (mkF m 103 #[.val (.int p1), .val (.int p2), .val (.int p3), .val (.int p4), .val (.int p5), .val (.int (p2 &&& (255 : Int32))), .val (.int (p3 &&& (255 : Int32))), .val (.int (p4 &&& (255 : Int32))), .val (.int (2 : Int32)), .val (.ref b211), .unset, .unset, .unset, .unset, .unset] [(.ref b238)]) _
      refine XS.astore X246.here hx rfl (hb hby at_103) rfl rfl (l' := #[.val (.int p1), .val (.int p2), .val (.int p3), .val (.int p4), .val (.int p5), .val (.int (p2 &&& (255 : Int32))), .val (.int (p3 &&& (255 : Int32))), .val (.int (p4 &&& (255 : Int32))), .val (.int (2 : Int32)), .val (.ref b211), .val (.ref b238), .unset, .unset, .unset, .unset]) rfl ?_
      exact kt)
    obtain ⟨T253, h253, X253, e253, E253, A253, D253, U253, st253⟩ := newO X246 hx hZ hown (own_w hw 2 rfl) (own_w hw 3 rfl) (own_w hw 4 rfl) rfl (g := (mkF m 105 #[.val (.int p1), .val (.int p2), .val (.int p3), .val (.int p4), .val (.int p5), .val (.int (p2 &&& (255 : Int32))), .val (.int (p3 &&& (255 : Int32))), .val (.int (p4 &&& (255 : Int32))), .val (.int (2 : Int32)), .val (.ref b211), .val (.ref b238), .unset, .unset, .unset, .unset] [])) rfl (hb hby at_105) (by decide) (by decide)
    obtain ⟨b253, g253⟩ : ∃ z, z = T246.heap.size := ⟨_, rfl⟩
    rw [← g253] at A253 D253 st253
    have gg254 : n0 ≤ b253 := Nat.le_trans (O250.1 ▸ O250.2.1) (Nat.le_of_eq g253.symm)
    have q255 := fun t (kt : Go p e below T253 (mkF m 108 #[.val (.int p1), .val (.int p2), .val (.int p3), .val (.int p4), .val (.int p5), .val (.int (p2 &&& (255 : Int32))), .val (.int (p3 &&& (255 : Int32))), .val (.int (p4 &&& (255 : Int32))), .val (.int (2 : Int32)), .val (.ref b211), .val (.ref b238), .unset, .unset, .unset, .unset] [(.ref b253)]) t) => q252 t (st253 t kt)
    have O256 : Old Z n0 h253 := O250.ext E253
    have hk257 : _ ≤ h253.size := Nat.le_trans hk251 E253.1
    have F253_coder : Fld Z h253 b253 "java/lang/String" "coder" "B" (.int (0 : Int32)) := D253 (Or.inr (own_w hw 28 rfl)) (ty := .byte) (by decide)
    have F253_value : Fld Z h253 b253 "java/lang/String" "value" "[B" .null := D253 (Or.inr (own_w hw 30 rfl)) (ty := (.array .byte)) (by decide)
    have q258 := fun t (kt : Go p e below T253 (mkF m 111 #[.val (.int p1), .val (.int p2), .val (.int p3), .val (.int p4), .val (.int p5), .val (.int (p2 &&& (255 : Int32))), .val (.int (p3 &&& (255 : Int32))), .val (.int (p4 &&& (255 : Int32))), .val (.int (2 : Int32)), .val (.ref b211), .val (.ref b238), .unset, .unset, .unset, .unset] [(.ref b211), (.ref b253), (.ref b253)]) t) => q255 t (by
      show Go p e below T253 (mkF m 108 #[.val (.int p1), .val (.int p2), .val (.int p3), .val (.int p4), .val (.int p5), .val (.int (p2 &&& (255 : Int32))), .val (.int (p3 &&& (255 : Int32))), .val (.int (p4 &&& (255 : Int32))), .val (.int (2 : Int32)), .val (.ref b211), .val (.ref b238), .unset, .unset, .unset, .unset] [(.ref b253)]) _
      refine XS.dup X253.here hx rfl (hb hby at_108) rfl rfl ?_
      show Go p e below T253 (mkF m 109 #[.val (.int p1), .val (.int p2), .val (.int p3), .val (.int p4), .val (.int p5), .val (.int (p2 &&& (255 : Int32))), .val (.int (p3 &&& (255 : Int32))), .val (.int (p4 &&& (255 : Int32))), .val (.int (2 : Int32)), .val (.ref b211), .val (.ref b238), .unset, .unset, .unset, .unset] [(.ref b253), (.ref b253)]) _
      refine XS.aload X253.here hx rfl (hb hby at_109) rfl rfl ?_
      exact kt)
    have f259 : Arv Z h253 b211 k211 .char (3 : Int32) [(.int (p2 &&& (255 : Int32))), (.int (p3 &&& (255 : Int32))), (.int (p4 &&& (255 : Int32)))] (.int (0 : Int32)) := ((f244.keep Kq246 (ninS (Nat.ne_of_lt (Nat.lt_of_lt_of_le V232.lt (Nat.le_of_eq g238.symm))) nin0)).ext E253)
    have hws260 : ∀ d ∈ StrChars.Road.words, d.before a0 Z = true := fun d hd => hw d ((by decide +kernel : ∀ d ∈ StrChars.Road.words, d ∈ tables_1) d hd)
    have hlt260 : ∀ c ∈ ([(p2 &&& (255 : Int32)), (p3 &&& (255 : Int32)), (p4 &&& (255 : Int32))] : List Int32), ¬ c < 0 ∧ ¬ (255 : Int32) < c := by
      intro c hc
      simp only [List.mem_cons, List.not_mem_nil, or_false] at hc
      rcases hc with rfl | rfl | rfl
      · exact (own_and255L p2)
      · exact (own_and255L p3)
      · exact (own_and255L p4)
    obtain ⟨_, _, ⟨T261, L261, k261, n261⟩, -, X261, ⟨Lc261, hQ261, l261, y261, z261⟩, st261⟩ := X253.specialBack hx (y := (⟨"java/lang/String", "<init>", "([C)V"⟩ : MethodName)) rfl hown (mvT hZ (own_w hw 5 rfl)) (mvT hZ (own_w hw 6 rfl)) (mvT hZ (own_w hw 7 rfl)) (by decide) (StrChars.Road.backV (W := 1) hZ hws260 (kI := 4) (own_w hw 3 rfl) (cs := [(p2 &&& (255 : Int32)), (p3 &&& (255 : Int32)), (p4 &&& (255 : Int32))]) (bs := (([(p2 &&& (255 : Int32)), (p3 &&& (255 : Int32)), (p4 &&& (255 : Int32))] : List Int32).map (fun c => c.toInt8.toInt32))) (n := 3) gg254 (O256.1 ▸ O256.2.1) A253 F253_value F253_coder f259 (cx.1.ext O256.2) cx.2 rfl rfl (by decide) (by decide) hlt260 rfl (by decide) (by decide)) (g := (mkF m 111 #[.val (.int p1), .val (.int p2), .val (.int p3), .val (.int p4), .val (.int p5), .val (.int (p2 &&& (255 : Int32))), .val (.int (p3 &&& (255 : Int32))), .val (.int (p4 &&& (255 : Int32))), .val (.int (2 : Int32)), .val (.ref b211), .val (.ref b238), .unset, .unset, .unset, .unset] [(.ref b211), (.ref b253), (.ref b253)])) rfl (by rw [hml]; rfl) (Steps.refl _) (a := b253) (argsL := [(.ref b211)]) (rest := [(.ref b253)]) (lenOf pd_4 rfl) rfl (by show 2 * 0 + _ ≤ _; exact Nat.le_of_eq rfl) (hb hby at_111) (fun _ _ => ⟨rfl, e253, (by decide : 4 + 1 ≤ _), (by decide : 14 + 3 ≤ _)⟩)
    dsimp only [Pt.U, Pt.locs, Pt.cells, Pt.slots] at X261 l261 y261 z261 st261 hQ261
    subst l261 y261 z261
    obtain ⟨rfl, Nq261, Kq261, Ex261, Co261, t261, kt261, gt261, ht261, nt261, Va261, Vb261⟩ := hQ261
    have N262 := Fr.app N247 Nq261
    have q263 := fun t (kt : Go p e below T261 (mkF m 114 #[.val (.int p1), .val (.int p2), .val (.int p3), .val (.int p4), .val (.int p5), .val (.int (p2 &&& (255 : Int32))), .val (.int (p3 &&& (255 : Int32))), .val (.int (p4 &&& (255 : Int32))), .val (.int (2 : Int32)), .val (.ref b211), .val (.ref b238), .unset, .unset, .unset, .unset] [(.ref b253)]) t) => q258 t (st261.trans kt)
    have gg264 : n0 ≤ t261 := Nat.le_trans (O256.1 ▸ O256.2.1) ht261
    have O265 : Old Z n0 T261.heap := O256.keep Kq261 (allS gg254 all0)
    have hk266 : _ ≤ T261.heap.size := Nat.le_trans hk257 Kq261.1
    have Sr261 : Str Z T261.heap b253 t261 [(p2 &&& (255 : Int32)), (p3 &&& (255 : Int32)), (p4 &&& (255 : Int32))] := ⟨_, _, _, _, Ex261, Va261, Co261, Vb261, StrChars.Road.codOf (n := 3) rfl (fun c hc => (hlt260 c hc).2), own_up _ hlt260, Nat.le_of_ble_eq_true rfl⟩
    have f267 : Str Z T261.heap b238 t246 [(p2 &&& (255 : Int32)), (p3 &&& (255 : Int32)), (p4 &&& (255 : Int32))] := ((Sr246.ext E253).keep Kq261 (ninS (Nat.ne_of_lt (Nat.lt_of_lt_of_le Ex246.lt (Nat.le_of_eq g253.symm))) nin0) (ninS (Nat.ne_of_lt (Nat.lt_of_lt_of_le Vb246.lt (Nat.le_of_eq g253.symm))) nin0))
    have q268 := fun t (kt : Go p e below T261 (mkF m 132 #[.val (.int p1), .val (.int p2), .val (.int p3), .val (.int p4), .val (.int p5), .val (.int (p2 &&& (255 : Int32))), .val (.int (p3 &&& (255 : Int32))), .val (.int (p4 &&& (255 : Int32))), .val (.int (2 : Int32)), .val (.ref b211), .val (.ref b238), .val (.ref b253), .val (.int ((1 : Int32) + ((p5 &&& (2147483647 : Int32)) % (65535 : Int32)))), .unset, .unset] [(.int ((1 : Int32) + ((p5 &&& (2147483647 : Int32)) % (65535 : Int32)))), (.ref b238)]) t) => q263 t (by
      show Go p e below T261 (mkF m 114 #[.val (.int p1), .val (.int p2), .val (.int p3), .val (.int p4), .val (.int p5), .val (.int (p2 &&& (255 : Int32))), .val (.int (p3 &&& (255 : Int32))), .val (.int (p4 &&& (255 : Int32))), .val (.int (2 : Int32)), .val (.ref b211), .val (.ref b238), .unset, .unset, .unset, .unset] [(.ref b253)]) _
      refine XS.astore X261.here hx rfl (hb hby at_114) rfl rfl (l' := #[.val (.int p1), .val (.int p2), .val (.int p3), .val (.int p4), .val (.int p5), .val (.int (p2 &&& (255 : Int32))), .val (.int (p3 &&& (255 : Int32))), .val (.int (p4 &&& (255 : Int32))), .val (.int (2 : Int32)), .val (.ref b211), .val (.ref b238), .val (.ref b253), .unset, .unset, .unset]) rfl ?_
      show Go p e below T261 (mkF m 116 #[.val (.int p1), .val (.int p2), .val (.int p3), .val (.int p4), .val (.int p5), .val (.int (p2 &&& (255 : Int32))), .val (.int (p3 &&& (255 : Int32))), .val (.int (p4 &&& (255 : Int32))), .val (.int (2 : Int32)), .val (.ref b211), .val (.ref b238), .val (.ref b253), .unset, .unset, .unset] []) _
      refine XS.iconst X261.here hx rfl (hb hby at_116) ?_
      show Go p e below T261 (mkF m 117 #[.val (.int p1), .val (.int p2), .val (.int p3), .val (.int p4), .val (.int p5), .val (.int (p2 &&& (255 : Int32))), .val (.int (p3 &&& (255 : Int32))), .val (.int (p4 &&& (255 : Int32))), .val (.int (2 : Int32)), .val (.ref b211), .val (.ref b238), .val (.ref b253), .unset, .unset, .unset] [(.int (1 : Int32))]) _
      refine XS.iload X261.here hx rfl (hb hby at_117) rfl ?_
      show Go p e below T261 (mkF m 119 #[.val (.int p1), .val (.int p2), .val (.int p3), .val (.int p4), .val (.int p5), .val (.int (p2 &&& (255 : Int32))), .val (.int (p3 &&& (255 : Int32))), .val (.int (p4 &&& (255 : Int32))), .val (.int (2 : Int32)), .val (.ref b211), .val (.ref b238), .val (.ref b253), .unset, .unset, .unset] [(.int p5), (.int (1 : Int32))]) _
      refine X261.ldcInt hx hown (mvT hZ (own_w hw 0 rfl)) (g := (mkF m 119 #[.val (.int p1), .val (.int p2), .val (.int p3), .val (.int p4), .val (.int p5), .val (.int (p2 &&& (255 : Int32))), .val (.int (p3 &&& (255 : Int32))), .val (.int (p4 &&& (255 : Int32))), .val (.int (2 : Int32)), .val (.ref b211), .val (.ref b238), .val (.ref b253), .unset, .unset, .unset] [(.int p5), (.int (1 : Int32))])) rfl (hb hby at_119) _ ?_
      show Go p e below T261 (mkF m 121 #[.val (.int p1), .val (.int p2), .val (.int p3), .val (.int p4), .val (.int p5), .val (.int (p2 &&& (255 : Int32))), .val (.int (p3 &&& (255 : Int32))), .val (.int (p4 &&& (255 : Int32))), .val (.int (2 : Int32)), .val (.ref b211), .val (.ref b238), .val (.ref b253), .unset, .unset, .unset] [(.int (2147483647 : Int32)), (.int p5), (.int (1 : Int32))]) _
      refine XS.iand X261.here hx rfl (hb hby at_121) rfl ?_
      show Go p e below T261 (mkF m 122 #[.val (.int p1), .val (.int p2), .val (.int p3), .val (.int p4), .val (.int p5), .val (.int (p2 &&& (255 : Int32))), .val (.int (p3 &&& (255 : Int32))), .val (.int (p4 &&& (255 : Int32))), .val (.int (2 : Int32)), .val (.ref b211), .val (.ref b238), .val (.ref b253), .unset, .unset, .unset] [(.int (p5 &&& (2147483647 : Int32))), (.int (1 : Int32))]) _
      refine X261.ldcInt hx hown (mvT hZ (own_w hw 31 rfl)) (g := (mkF m 122 #[.val (.int p1), .val (.int p2), .val (.int p3), .val (.int p4), .val (.int p5), .val (.int (p2 &&& (255 : Int32))), .val (.int (p3 &&& (255 : Int32))), .val (.int (p4 &&& (255 : Int32))), .val (.int (2 : Int32)), .val (.ref b211), .val (.ref b238), .val (.ref b253), .unset, .unset, .unset] [(.int (p5 &&& (2147483647 : Int32))), (.int (1 : Int32))])) rfl (hb hby at_122) _ ?_
      show Go p e below T261 (mkF m 124 #[.val (.int p1), .val (.int p2), .val (.int p3), .val (.int p4), .val (.int p5), .val (.int (p2 &&& (255 : Int32))), .val (.int (p3 &&& (255 : Int32))), .val (.int (p4 &&& (255 : Int32))), .val (.int (2 : Int32)), .val (.ref b211), .val (.ref b238), .val (.ref b253), .unset, .unset, .unset] [(.int (65535 : Int32)), (.int (p5 &&& (2147483647 : Int32))), (.int (1 : Int32))]) _
      refine iremM (g := (mkF m 124 #[.val (.int p1), .val (.int p2), .val (.int p3), .val (.int p4), .val (.int p5), .val (.int (p2 &&& (255 : Int32))), .val (.int (p3 &&& (255 : Int32))), .val (.int (p4 &&& (255 : Int32))), .val (.int (2 : Int32)), .val (.ref b211), .val (.ref b238), .val (.ref b253), .unset, .unset, .unset] [(.int (65535 : Int32)), (.int (p5 &&& (2147483647 : Int32))), (.int (1 : Int32))])) X261 hx rfl (hb hby at_124) rfl (by decide : ¬ ((65535 : Int32) = (0 : Int32))) ?_
      show Go p e below T261 (mkF m 125 #[.val (.int p1), .val (.int p2), .val (.int p3), .val (.int p4), .val (.int p5), .val (.int (p2 &&& (255 : Int32))), .val (.int (p3 &&& (255 : Int32))), .val (.int (p4 &&& (255 : Int32))), .val (.int (2 : Int32)), .val (.ref b211), .val (.ref b238), .val (.ref b253), .unset, .unset, .unset] [(.int ((p5 &&& (2147483647 : Int32)) % (65535 : Int32))), (.int (1 : Int32))]) _
      refine XS.iadd X261.here hx rfl (hb hby at_125) rfl ?_
      show Go p e below T261 (mkF m 126 #[.val (.int p1), .val (.int p2), .val (.int p3), .val (.int p4), .val (.int p5), .val (.int (p2 &&& (255 : Int32))), .val (.int (p3 &&& (255 : Int32))), .val (.int (p4 &&& (255 : Int32))), .val (.int (2 : Int32)), .val (.ref b211), .val (.ref b238), .val (.ref b253), .unset, .unset, .unset] [(.int ((1 : Int32) + ((p5 &&& (2147483647 : Int32)) % (65535 : Int32))))]) _
      refine XS.istore X261.here hx rfl (hb hby at_126) rfl (l' := #[.val (.int p1), .val (.int p2), .val (.int p3), .val (.int p4), .val (.int p5), .val (.int (p2 &&& (255 : Int32))), .val (.int (p3 &&& (255 : Int32))), .val (.int (p4 &&& (255 : Int32))), .val (.int (2 : Int32)), .val (.ref b211), .val (.ref b238), .val (.ref b253), .val (.int ((1 : Int32) + ((p5 &&& (2147483647 : Int32)) % (65535 : Int32)))), .unset, .unset]) rfl ?_
      show Go p e below T261 (mkF m 128 #[.val (.int p1), .val (.int p2), .val (.int p3), .val (.int p4), .val (.int p5), .val (.int (p2 &&& (255 : Int32))), .val (.int (p3 &&& (255 : Int32))), .val (.int (p4 &&& (255 : Int32))), .val (.int (2 : Int32)), .val (.ref b211), .val (.ref b238), .val (.ref b253), .val (.int ((1 : Int32) + ((p5 &&& (2147483647 : Int32)) % (65535 : Int32)))), .unset, .unset] []) _
      refine XS.aload X261.here hx rfl (hb hby at_128) rfl rfl ?_
      show Go p e below T261 (mkF m 130 #[.val (.int p1), .val (.int p2), .val (.int p3), .val (.int p4), .val (.int p5), .val (.int (p2 &&& (255 : Int32))), .val (.int (p3 &&& (255 : Int32))), .val (.int (p4 &&& (255 : Int32))), .val (.int (2 : Int32)), .val (.ref b211), .val (.ref b238), .val (.ref b253), .val (.int ((1 : Int32) + ((p5 &&& (2147483647 : Int32)) % (65535 : Int32)))), .unset, .unset] [(.ref b238)]) _
      refine XS.iload X261.here hx rfl (hb hby at_130) rfl ?_
      exact kt)
    obtain ⟨_, _, ⟨T269, L269, k269, n269⟩, -, X269, hSn269, hgn269, ⟨Lc269, hQ269, l269, y269, z269⟩, st269⟩ := callSS X261 hx (y := (⟨"com/example/cerrojo/cerrojo/config/ServerAddress", "of", "(Ljava/lang/String;I)Lcom/example/cerrojo/cerrojo/config/ServerAddress;"⟩ : MethodName)) hown (mvT hZ (own_w hw 32 rfl)) (mvT hZ (own_w hw 33 rfl)) (mvT hZ (own_w hw 34 rfl)) (mvT hZ (own_w hw 35 rfl)) (by decide) (backOfS (W := 0) (rm7 l Z a0 hw [] cx b238 ((1 : Int32) + ((p5 &&& (2147483647 : Int32)) % (65535 : Int32))) t246 [(p2 &&& (255 : Int32)), (p3 &&& (255 : Int32)), (p4 &&& (255 : Int32))] T261.heap n0 O265 f267 (by simp) (own_port p5).1 (own_port p5).2) hZ (own_w hw 35 rfl) (own_w hw 34 rfl) (by decide) (by decide)) (g := (mkF m 132 #[.val (.int p1), .val (.int p2), .val (.int p3), .val (.int p4), .val (.int p5), .val (.int (p2 &&& (255 : Int32))), .val (.int (p3 &&& (255 : Int32))), .val (.int (p4 &&& (255 : Int32))), .val (.int (2 : Int32)), .val (.ref b211), .val (.ref b238), .val (.ref b253), .val (.int ((1 : Int32) + ((p5 &&& (2147483647 : Int32)) % (65535 : Int32)))), .unset, .unset] [(.int ((1 : Int32) + ((p5 &&& (2147483647 : Int32)) % (65535 : Int32)))), (.ref b238)])) rfl (by rw [hml]; rfl) (argsL := [(.ref b238), (.int ((1 : Int32) + ((p5 &&& (2147483647 : Int32)) % (65535 : Int32))))]) (rest := []) (lenOf pd_5 rfl) rfl (by show 2 * 0 + _ ≤ _; exact Nat.le_of_eq rfl) (hb hby at_132) (fun _ _ => ⟨rfl, rfl, (by decide : 5 + 3 ≤ _), (by decide : 17 + 22 ≤ _)⟩)
    dsimp only [Pt.U, Pt.locs, Pt.cells, Pt.slots] at X269 l269 y269 z269 st269 hQ269 hSn269 hgn269
    subst l269 y269 z269
    have hS269 := foldS (vm0 := s.vm) hS0 hk266 hSn269 hgn269
    have hZ : Z.Warmed39 (s.setVm T269.vm).vm := State.Warmed39.trans (t := s.setVm s.vm) hZ hSn269.1
    have hown : (s.setVm T269.vm).vm.findClass "com/example/cerrojo/cerrojo/config/ServerAddressOfPinLaw" = some m.cls := by
      show T269.vm.findClass _ = _
      rw [hSn269.1.alike.findClass]; exact hown
    have X269 : Stand p l e room_1 (s.setVm T269.vm) m #[(.int p1), (.int p2), (.int p3), (.int p4), (.int p5)] below meth c T269 _ _ _ := X269
    have hkk269 : T269.heap.size ≤ T269.heap.size := Nat.le_refl _
    obtain ⟨b_269, rfl, Nq269, Kq269, fr269_0, fq269_0, fq269_1, fq269_2⟩ := hQ269
    have N270 := Fr.app N262 Nq269
    have q271 := fun t (kt : Go p e below T269 (mkF m 135 #[.val (.int p1), .val (.int p2), .val (.int p3), .val (.int p4), .val (.int p5), .val (.int (p2 &&& (255 : Int32))), .val (.int (p3 &&& (255 : Int32))), .val (.int (p4 &&& (255 : Int32))), .val (.int (2 : Int32)), .val (.ref b211), .val (.ref b238), .val (.ref b253), .val (.int ((1 : Int32) + ((p5 &&& (2147483647 : Int32)) % (65535 : Int32)))), .unset, .unset] [(.ref b_269)]) t) => q268 t (st269.trans kt)
    have gg272 : n0 ≤ b_269 := Nat.le_trans (O265.1 ▸ O265.2.1) fr269_0
    have O273 : Old Z n0 T269.heap := O265.keep Kq269 all0
    have f274 : Str Z T269.heap b253 t261 [(p2 &&& (255 : Int32)), (p3 &&& (255 : Int32)), (p4 &&& (255 : Int32))] := (Sr261.keep Kq269 nin0 nin0)
    have q275 := fun t (kt : Go p e below T269 (mkF m 141 #[.val (.int p1), .val (.int p2), .val (.int p3), .val (.int p4), .val (.int p5), .val (.int (p2 &&& (255 : Int32))), .val (.int (p3 &&& (255 : Int32))), .val (.int (p4 &&& (255 : Int32))), .val (.int (2 : Int32)), .val (.ref b211), .val (.ref b238), .val (.ref b253), .val (.int ((1 : Int32) + ((p5 &&& (2147483647 : Int32)) % (65535 : Int32)))), .val (.ref b_269), .unset] [(.int ((1 : Int32) + ((p5 &&& (2147483647 : Int32)) % (65535 : Int32)))), (.ref b253)]) t) => q271 t (by
      show Go p e below T269 (mkF m 135 #[.val (.int p1), .val (.int p2), .val (.int p3), .val (.int p4), .val (.int p5), .val (.int (p2 &&& (255 : Int32))), .val (.int (p3 &&& (255 : Int32))), .val (.int (p4 &&& (255 : Int32))), .val (.int (2 : Int32)), .val (.ref b211), .val (.ref b238), .val (.ref b253), .val (.int ((1 : Int32) + ((p5 &&& (2147483647 : Int32)) % (65535 : Int32)))), .unset, .unset] [(.ref b_269)]) _
      refine XS.astore X269.here hx rfl (hb hby at_135) rfl rfl (l' := #[.val (.int p1), .val (.int p2), .val (.int p3), .val (.int p4), .val (.int p5), .val (.int (p2 &&& (255 : Int32))), .val (.int (p3 &&& (255 : Int32))), .val (.int (p4 &&& (255 : Int32))), .val (.int (2 : Int32)), .val (.ref b211), .val (.ref b238), .val (.ref b253), .val (.int ((1 : Int32) + ((p5 &&& (2147483647 : Int32)) % (65535 : Int32)))), .val (.ref b_269), .unset]) rfl ?_
      show Go p e below T269 (mkF m 137 #[.val (.int p1), .val (.int p2), .val (.int p3), .val (.int p4), .val (.int p5), .val (.int (p2 &&& (255 : Int32))), .val (.int (p3 &&& (255 : Int32))), .val (.int (p4 &&& (255 : Int32))), .val (.int (2 : Int32)), .val (.ref b211), .val (.ref b238), .val (.ref b253), .val (.int ((1 : Int32) + ((p5 &&& (2147483647 : Int32)) % (65535 : Int32)))), .val (.ref b_269), .unset] []) _
      refine XS.aload X269.here hx rfl (hb hby at_137) rfl rfl ?_
      show Go p e below T269 (mkF m 139 #[.val (.int p1), .val (.int p2), .val (.int p3), .val (.int p4), .val (.int p5), .val (.int (p2 &&& (255 : Int32))), .val (.int (p3 &&& (255 : Int32))), .val (.int (p4 &&& (255 : Int32))), .val (.int (2 : Int32)), .val (.ref b211), .val (.ref b238), .val (.ref b253), .val (.int ((1 : Int32) + ((p5 &&& (2147483647 : Int32)) % (65535 : Int32)))), .val (.ref b_269), .unset] [(.ref b253)]) _
      refine XS.iload X269.here hx rfl (hb hby at_139) rfl ?_
      exact kt)
    obtain ⟨_, _, ⟨T276, L276, k276, n276⟩, -, X276, hSn276, hgn276, ⟨Lc276, hQ276, l276, y276, z276⟩, st276⟩ := callSS X269 hx (y := (⟨"com/example/cerrojo/cerrojo/config/ServerAddress", "of", "(Ljava/lang/String;I)Lcom/example/cerrojo/cerrojo/config/ServerAddress;"⟩ : MethodName)) hown (mvT hZ (own_w hw 32 rfl)) (mvT hZ (own_w hw 33 rfl)) (mvT hZ (own_w hw 34 rfl)) (mvT hZ (own_w hw 35 rfl)) (by decide) (backOfS (W := 0) (rm7 l Z a0 hw [] cx b253 ((1 : Int32) + ((p5 &&& (2147483647 : Int32)) % (65535 : Int32))) t261 [(p2 &&& (255 : Int32)), (p3 &&& (255 : Int32)), (p4 &&& (255 : Int32))] T269.heap n0 O273 f274 (by simp) (own_port p5).1 (own_port p5).2) hZ (own_w hw 35 rfl) (own_w hw 34 rfl) (by decide) (by decide)) (g := (mkF m 141 #[.val (.int p1), .val (.int p2), .val (.int p3), .val (.int p4), .val (.int p5), .val (.int (p2 &&& (255 : Int32))), .val (.int (p3 &&& (255 : Int32))), .val (.int (p4 &&& (255 : Int32))), .val (.int (2 : Int32)), .val (.ref b211), .val (.ref b238), .val (.ref b253), .val (.int ((1 : Int32) + ((p5 &&& (2147483647 : Int32)) % (65535 : Int32)))), .val (.ref b_269), .unset] [(.int ((1 : Int32) + ((p5 &&& (2147483647 : Int32)) % (65535 : Int32)))), (.ref b253)])) rfl (by rw [hml]; rfl) (argsL := [(.ref b253), (.int ((1 : Int32) + ((p5 &&& (2147483647 : Int32)) % (65535 : Int32))))]) (rest := []) (lenOf pd_5 rfl) rfl (by show 2 * 0 + _ ≤ _; exact Nat.le_of_eq rfl) (hb hby at_141) (fun _ _ => ⟨rfl, rfl, (by decide : 8 + 3 ≤ _), (by decide : 39 + 22 ≤ _)⟩)
    dsimp only [Pt.U, Pt.locs, Pt.cells, Pt.slots] at X276 l276 y276 z276 st276 hQ276 hSn276 hgn276
    subst l276 y276 z276
    have hS276 := foldS (vm0 := T269.vm) hS269 hkk269 hSn276 hgn276
    have hZ : Z.Warmed39 (s.setVm T276.vm).vm := State.Warmed39.trans (t := s.setVm T269.vm) hZ hSn276.1
    have hown : (s.setVm T276.vm).vm.findClass "com/example/cerrojo/cerrojo/config/ServerAddressOfPinLaw" = some m.cls := by
      show T276.vm.findClass _ = _
      rw [hSn276.1.alike.findClass]; exact hown
    have X276 : Stand p l e room_1 (s.setVm T276.vm) m #[(.int p1), (.int p2), (.int p3), (.int p4), (.int p5)] below meth c T276 _ _ _ := X276
    have hkk276 : T276.heap.size ≤ T276.heap.size := Nat.le_refl _
    obtain ⟨b_276, rfl, Nq276, Kq276, fr276_0, fq276_0, fq276_1, fq276_2⟩ := hQ276
    have N277 := Fr.app N270 Nq276
    have q278 := fun t (kt : Go p e below T276 (mkF m 144 #[.val (.int p1), .val (.int p2), .val (.int p3), .val (.int p4), .val (.int p5), .val (.int (p2 &&& (255 : Int32))), .val (.int (p3 &&& (255 : Int32))), .val (.int (p4 &&& (255 : Int32))), .val (.int (2 : Int32)), .val (.ref b211), .val (.ref b238), .val (.ref b253), .val (.int ((1 : Int32) + ((p5 &&& (2147483647 : Int32)) % (65535 : Int32)))), .val (.ref b_269), .unset] [(.ref b_276)]) t) => q275 t (st276.trans kt)
    have gg279 : n0 ≤ b_276 := Nat.le_trans (O273.1 ▸ O273.2.1) fr276_0
    have O280 : Old Z n0 T276.heap := O273.keep Kq276 all0
    have f281 : Fld Z T276.heap b_269 "com/example/cerrojo/cerrojo/config/ServerAddress" "host" "Ljava/lang/String;" (.ref b238) := (fq269_1.keep Kq276 nin0)
    have q282 := fun t (kt : Go p e below T276 (mkF m 148 #[.val (.int p1), .val (.int p2), .val (.int p3), .val (.int p4), .val (.int p5), .val (.int (p2 &&& (255 : Int32))), .val (.int (p3 &&& (255 : Int32))), .val (.int (p4 &&& (255 : Int32))), .val (.int (2 : Int32)), .val (.ref b211), .val (.ref b238), .val (.ref b253), .val (.int ((1 : Int32) + ((p5 &&& (2147483647 : Int32)) % (65535 : Int32)))), .val (.ref b_269), .val (.ref b_276)] [(.ref b_269)]) t) => q278 t (by
      show Go p e below T276 (mkF m 144 #[.val (.int p1), .val (.int p2), .val (.int p3), .val (.int p4), .val (.int p5), .val (.int (p2 &&& (255 : Int32))), .val (.int (p3 &&& (255 : Int32))), .val (.int (p4 &&& (255 : Int32))), .val (.int (2 : Int32)), .val (.ref b211), .val (.ref b238), .val (.ref b253), .val (.int ((1 : Int32) + ((p5 &&& (2147483647 : Int32)) % (65535 : Int32)))), .val (.ref b_269), .unset] [(.ref b_276)]) _
      refine XS.astore X276.here hx rfl (hb hby at_144) rfl rfl (l' := #[.val (.int p1), .val (.int p2), .val (.int p3), .val (.int p4), .val (.int p5), .val (.int (p2 &&& (255 : Int32))), .val (.int (p3 &&& (255 : Int32))), .val (.int (p4 &&& (255 : Int32))), .val (.int (2 : Int32)), .val (.ref b211), .val (.ref b238), .val (.ref b253), .val (.int ((1 : Int32) + ((p5 &&& (2147483647 : Int32)) % (65535 : Int32)))), .val (.ref b_269), .val (.ref b_276)]) rfl ?_
      show Go p e below T276 (mkF m 146 #[.val (.int p1), .val (.int p2), .val (.int p3), .val (.int p4), .val (.int p5), .val (.int (p2 &&& (255 : Int32))), .val (.int (p3 &&& (255 : Int32))), .val (.int (p4 &&& (255 : Int32))), .val (.int (2 : Int32)), .val (.ref b211), .val (.ref b238), .val (.ref b253), .val (.int ((1 : Int32) + ((p5 &&& (2147483647 : Int32)) % (65535 : Int32)))), .val (.ref b_269), .val (.ref b_276)] []) _
      refine XS.aload X276.here hx rfl (hb hby at_146) rfl rfl ?_
      exact kt)
    have f285 : Exa Z T276.heap b_269 "com/example/cerrojo/cerrojo/config/ServerAddress" := (fq269_0.keep Kq276)
    obtain ⟨cq284, kq284, q284a, q284b, q284c⟩ := isOf hZ rfl f285
    obtain ⟨_, _, ⟨T283, L283, k283, n283⟩, -, X283, ⟨Lc283, hQ283, l283, y283, z283⟩, st283⟩ := X276.virtualBack hx (y := (⟨"com/example/cerrojo/cerrojo/config/ServerAddress", "host", "()Ljava/lang/String;"⟩ : MethodName)) (z := (⟨"com/example/cerrojo/cerrojo/config/ServerAddress", "host", "()Ljava/lang/String;"⟩ : MethodName)) hown (mvT hZ (own_w hw 59 rfl)) (mvT hZ (own_w hw 60 rfl)) (notFace_of_selects (args := #[]) (mvT hZ (own_w hw 62 rfl))) (mvT hZ (own_w hw 62 rfl)) (mvT hZ (own_w hw 61 rfl)) (by decide) (backOf (W := 0) (rm11 l Z a0 hw [] cx b_269 b238 T276.heap n0 O280 f281) hZ (own_w hw 63 rfl) (own_w hw 34 rfl) (by decide) (by decide)) q284a q284c (g := (mkF m 148 #[.val (.int p1), .val (.int p2), .val (.int p3), .val (.int p4), .val (.int p5), .val (.int (p2 &&& (255 : Int32))), .val (.int (p3 &&& (255 : Int32))), .val (.int (p4 &&& (255 : Int32))), .val (.int (2 : Int32)), .val (.ref b211), .val (.ref b238), .val (.ref b253), .val (.int ((1 : Int32) + ((p5 &&& (2147483647 : Int32)) % (65535 : Int32)))), .val (.ref b_269), .val (.ref b_276)] [(.ref b_269)])) rfl (by rw [hml]; rfl) (Steps.refl _) (argsL := []) (rest := []) (lenOf pd_6 rfl) rfl (by show 2 * 0 + _ ≤ _; exact Nat.le_of_eq rfl) (hb hby at_148) (fun _ _ => ⟨rfl, rfl, (by decide : 11 + 0 ≤ _), (by decide : 61 + 0 ≤ _)⟩)
    dsimp only [Pt.U, Pt.locs, Pt.cells, Pt.slots] at X283 l283 y283 z283 st283 hQ283
    subst l283 y283 z283
    obtain ⟨rfl, Nq283, eq283⟩ := hQ283
    have N286 := Fr.app N277 Nq283
    have q287 := fun t (kt : Go p e below T283 (mkF m 151 #[.val (.int p1), .val (.int p2), .val (.int p3), .val (.int p4), .val (.int p5), .val (.int (p2 &&& (255 : Int32))), .val (.int (p3 &&& (255 : Int32))), .val (.int (p4 &&& (255 : Int32))), .val (.int (2 : Int32)), .val (.ref b211), .val (.ref b238), .val (.ref b253), .val (.int ((1 : Int32) + ((p5 &&& (2147483647 : Int32)) % (65535 : Int32)))), .val (.ref b_269), .val (.ref b_276)] [(.ref b238)]) t) => q282 t (st283.trans kt)
    have q289 := fun t (kt : Go p e below T283 (mkF m 153 #[.val (.int p1), .val (.int p2), .val (.int p3), .val (.int p4), .val (.int p5), .val (.int (p2 &&& (255 : Int32))), .val (.int (p3 &&& (255 : Int32))), .val (.int (p4 &&& (255 : Int32))), .val (.int (2 : Int32)), .val (.ref b211), .val (.ref b238), .val (.ref b253), .val (.int ((1 : Int32) + ((p5 &&& (2147483647 : Int32)) % (65535 : Int32)))), .val (.ref b_269), .val (.ref b_276)] [(.ref b238), (.ref b238)]) t) => q287 t (by
      show Go p e below T283 (mkF m 151 #[.val (.int p1), .val (.int p2), .val (.int p3), .val (.int p4), .val (.int p5), .val (.int (p2 &&& (255 : Int32))), .val (.int (p3 &&& (255 : Int32))), .val (.int (p4 &&& (255 : Int32))), .val (.int (2 : Int32)), .val (.ref b211), .val (.ref b238), .val (.ref b253), .val (.int ((1 : Int32) + ((p5 &&& (2147483647 : Int32)) % (65535 : Int32)))), .val (.ref b_269), .val (.ref b_276)] [(.ref b238)]) _
      refine XS.aload X283.here hx rfl (hb hby at_151) rfl rfl ?_
      exact kt)
    have hsw288 : ∀ d ∈ StrChars.Road.wordsEq, d.before a0 Z = true := fun d hd => hw d ((by decide +kernel : ∀ d ∈ StrChars.Road.wordsEq, d ∈ tables_1) d hd)
    have f291 : Str Z T276.heap b238 t246 [(p2 &&& (255 : Int32)), (p3 &&& (255 : Int32)), (p4 &&& (255 : Int32))] := ((f267.keep Kq269 nin0 nin0).keep Kq276 nin0 nin0)
    obtain ⟨kb290, cd290, nb290, vb290, sE290, sV290, sC290, sK290, sD290, sB290, sL290⟩ := id f291
    obtain ⟨kb292, cd292, nb292, vb292, sE292, sV292, sC292, sK292, sD292, sB292, sL292⟩ := id f291
    have f295 : Exa Z T276.heap b238 "java/lang/String" := ((((Ex246.ext E253).keep Kq261).keep Kq269).keep Kq276)
    obtain ⟨cq294, kq294, q294a, q294b, q294c⟩ := isOf hZ eq283 f295
    obtain ⟨_, _, ⟨T293, L293, k293, n293⟩, -, X293, ⟨Lc293, hQ293, l293, y293, z293⟩, st293⟩ := X283.virtualBack hx (y := (⟨"java/lang/String", "equals", "(Ljava/lang/Object;)Z"⟩ : MethodName)) (z := (⟨"java/lang/String", "equals", "(Ljava/lang/Object;)Z"⟩ : MethodName)) hown (mvT hZ (own_w hw 64 rfl)) (mvT hZ (own_w hw 65 rfl)) (notFace_of_selects (args := #[]) (mvT hZ (own_w hw 67 rfl))) (mvT hZ (own_w hw 67 rfl)) (mvT hZ (own_w hw 66 rfl)) (by decide) (StrChars.Road.eqW (W := 0) hZ hsw288 (kI := 4) (own_w hw 3 rfl) sE290 sV290 sC290 sK290 sD290 sB290 sL290 sE292 sV292 sC292 sK292 sD292 sB292 sL292 (cx.1.ext O280.2) cx.2 (by decide) (by decide)) q294a q294c (g := (mkF m 153 #[.val (.int p1), .val (.int p2), .val (.int p3), .val (.int p4), .val (.int p5), .val (.int (p2 &&& (255 : Int32))), .val (.int (p3 &&& (255 : Int32))), .val (.int (p4 &&& (255 : Int32))), .val (.int (2 : Int32)), .val (.ref b211), .val (.ref b238), .val (.ref b253), .val (.int ((1 : Int32) + ((p5 &&& (2147483647 : Int32)) % (65535 : Int32)))), .val (.ref b_269), .val (.ref b_276)] [(.ref b238), (.ref b238)])) rfl (by rw [hml]; rfl) (Steps.refl _) (argsL := [(.ref b238)]) (rest := []) (lenOf pd_3 rfl) rfl (by show 2 * 0 + _ ≤ _; exact Nat.le_of_eq rfl) (hb hby at_153) (fun _ _ => ⟨rfl, eq283, (by decide : 11 + 0 ≤ _), (by decide : 61 + 0 ≤ _)⟩)
    dsimp only [Pt.U, Pt.locs, Pt.cells, Pt.slots] at X293 l293 y293 z293 st293 hQ293
    subst l293 y293 z293
    obtain ⟨hcase293, rfl, eq293⟩ := hQ293
    try rw [List.append_nil] at X293
    obtain rfl := hcase293.elim (fun q => q.1) (fun q => absurd rfl q.2)
    have q296 := fun t (kt : Go p e below T293 (mkF m 156 #[.val (.int p1), .val (.int p2), .val (.int p3), .val (.int p4), .val (.int p5), .val (.int (p2 &&& (255 : Int32))), .val (.int (p3 &&& (255 : Int32))), .val (.int (p4 &&& (255 : Int32))), .val (.int (2 : Int32)), .val (.ref b211), .val (.ref b238), .val (.ref b253), .val (.int ((1 : Int32) + ((p5 &&& (2147483647 : Int32)) % (65535 : Int32)))), .val (.ref b_269), .val (.ref b_276)] [(.int (1 : Int32))]) t) => q289 t (st293.trans kt)
    have f297 : Fld Z T276.heap b_269 "com/example/cerrojo/cerrojo/config/ServerAddress" "port" "I" (.int ((1 : Int32) + ((p5 &&& (2147483647 : Int32)) % (65535 : Int32)))) := (fq269_2.keep Kq276 nin0)
    have q298 := fun t (kt : Go p e below T293 (mkF m 161 #[.val (.int p1), .val (.int p2), .val (.int p3), .val (.int p4), .val (.int p5), .val (.int (p2 &&& (255 : Int32))), .val (.int (p3 &&& (255 : Int32))), .val (.int (p4 &&& (255 : Int32))), .val (.int (2 : Int32)), .val (.ref b211), .val (.ref b238), .val (.ref b253), .val (.int ((1 : Int32) + ((p5 &&& (2147483647 : Int32)) % (65535 : Int32)))), .val (.ref b_269), .val (.ref b_276)] [(.ref b_269)]) t) => q296 t (by
      show Go p e below T293 (mkF m 156 #[.val (.int p1), .val (.int p2), .val (.int p3), .val (.int p4), .val (.int p5), .val (.int (p2 &&& (255 : Int32))), .val (.int (p3 &&& (255 : Int32))), .val (.int (p4 &&& (255 : Int32))), .val (.int (2 : Int32)), .val (.ref b211), .val (.ref b238), .val (.ref b253), .val (.int ((1 : Int32) + ((p5 &&& (2147483647 : Int32)) % (65535 : Int32)))), .val (.ref b_269), .val (.ref b_276)] [(.int (1 : Int32))]) _
      refine XS.ifNo X293.here hx rfl (hb hby at_156) rfl ((if0 _ _).trans (feq (by decide : ¬ ((1 : Int32) = (0 : Int32)))).1) ?_
      show Go p e below T293 (mkF m 159 #[.val (.int p1), .val (.int p2), .val (.int p3), .val (.int p4), .val (.int p5), .val (.int (p2 &&& (255 : Int32))), .val (.int (p3 &&& (255 : Int32))), .val (.int (p4 &&& (255 : Int32))), .val (.int (2 : Int32)), .val (.ref b211), .val (.ref b238), .val (.ref b253), .val (.int ((1 : Int32) + ((p5 &&& (2147483647 : Int32)) % (65535 : Int32)))), .val (.ref b_269), .val (.ref b_276)] []) _
      refine XS.aload X293.here hx rfl (hb hby at_159) rfl rfl ?_
      exact kt)
    obtain ⟨cq300, kq300, q300a, q300b, q300c⟩ := isOf hZ eq293 f285
    obtain ⟨_, _, ⟨T299, L299, k299, n299⟩, -, X299, ⟨Lc299, hQ299, l299, y299, z299⟩, st299⟩ := X293.virtualBack hx (y := (⟨"com/example/cerrojo/cerrojo/config/ServerAddress", "port", "()I"⟩ : MethodName)) (z := (⟨"com/example/cerrojo/cerrojo/config/ServerAddress", "port", "()I"⟩ : MethodName)) hown (mvT hZ (own_w hw 69 rfl)) (mvT hZ (own_w hw 70 rfl)) (notFace_of_selects (args := #[]) (mvT hZ (own_w hw 72 rfl))) (mvT hZ (own_w hw 72 rfl)) (mvT hZ (own_w hw 71 rfl)) (by decide) (backOf (W := 0) (rm13 l Z a0 hw [] cx b_269 ((1 : Int32) + ((p5 &&& (2147483647 : Int32)) % (65535 : Int32))) T276.heap n0 O280 f297) hZ (own_w hw 73 rfl) (own_w hw 34 rfl) (by decide) (by decide)) q300a q300c (g := (mkF m 161 #[.val (.int p1), .val (.int p2), .val (.int p3), .val (.int p4), .val (.int p5), .val (.int (p2 &&& (255 : Int32))), .val (.int (p3 &&& (255 : Int32))), .val (.int (p4 &&& (255 : Int32))), .val (.int (2 : Int32)), .val (.ref b211), .val (.ref b238), .val (.ref b253), .val (.int ((1 : Int32) + ((p5 &&& (2147483647 : Int32)) % (65535 : Int32)))), .val (.ref b_269), .val (.ref b_276)] [(.ref b_269)])) rfl (by rw [hml]; rfl) (Steps.refl _) (argsL := []) (rest := []) (lenOf pd_7 rfl) rfl (by show 2 * 0 + _ ≤ _; exact Nat.le_of_eq rfl) (hb hby at_161) (fun _ _ => ⟨rfl, eq293, (by decide : 11 + 0 ≤ _), (by decide : 61 + 0 ≤ _)⟩)
    dsimp only [Pt.U, Pt.locs, Pt.cells, Pt.slots] at X299 l299 y299 z299 st299 hQ299
    subst l299 y299 z299
    obtain ⟨rfl, Nq299, eq299⟩ := hQ299
    have N301 := Fr.app N286 Nq299
    have q302 := fun t (kt : Go p e below T299 (mkF m 164 #[.val (.int p1), .val (.int p2), .val (.int p3), .val (.int p4), .val (.int p5), .val (.int (p2 &&& (255 : Int32))), .val (.int (p3 &&& (255 : Int32))), .val (.int (p4 &&& (255 : Int32))), .val (.int (2 : Int32)), .val (.ref b211), .val (.ref b238), .val (.ref b253), .val (.int ((1 : Int32) + ((p5 &&& (2147483647 : Int32)) % (65535 : Int32)))), .val (.ref b_269), .val (.ref b_276)] [(.int ((1 : Int32) + ((p5 &&& (2147483647 : Int32)) % (65535 : Int32))))]) t) => q298 t (st299.trans kt)
    have f303 : Str Z T276.heap b253 t261 [(p2 &&& (255 : Int32)), (p3 &&& (255 : Int32)), (p4 &&& (255 : Int32))] := (f274.keep Kq276 nin0 nin0)
    have q304 := fun t (kt : Go p e below T299 (mkF m 173 #[.val (.int p1), .val (.int p2), .val (.int p3), .val (.int p4), .val (.int p5), .val (.int (p2 &&& (255 : Int32))), .val (.int (p3 &&& (255 : Int32))), .val (.int (p4 &&& (255 : Int32))), .val (.int (2 : Int32)), .val (.ref b211), .val (.ref b238), .val (.ref b253), .val (.int ((1 : Int32) + ((p5 &&& (2147483647 : Int32)) % (65535 : Int32)))), .val (.ref b_269), .val (.ref b_276)] [(.ref b_276), (.ref b_269)]) t) => q302 t (by
      show Go p e below T299 (mkF m 164 #[.val (.int p1), .val (.int p2), .val (.int p3), .val (.int p4), .val (.int p5), .val (.int (p2 &&& (255 : Int32))), .val (.int (p3 &&& (255 : Int32))), .val (.int (p4 &&& (255 : Int32))), .val (.int (2 : Int32)), .val (.ref b211), .val (.ref b238), .val (.ref b253), .val (.int ((1 : Int32) + ((p5 &&& (2147483647 : Int32)) % (65535 : Int32)))), .val (.ref b_269), .val (.ref b_276)] [(.int ((1 : Int32) + ((p5 &&& (2147483647 : Int32)) % (65535 : Int32))))]) _
      refine XS.iload X299.here hx rfl (hb hby at_164) rfl ?_
      show Go p e below T299 (mkF m 166 #[.val (.int p1), .val (.int p2), .val (.int p3), .val (.int p4), .val (.int p5), .val (.int (p2 &&& (255 : Int32))), .val (.int (p3 &&& (255 : Int32))), .val (.int (p4 &&& (255 : Int32))), .val (.int (2 : Int32)), .val (.ref b211), .val (.ref b238), .val (.ref b253), .val (.int ((1 : Int32) + ((p5 &&& (2147483647 : Int32)) % (65535 : Int32)))), .val (.ref b_269), .val (.ref b_276)] [(.int ((1 : Int32) + ((p5 &&& (2147483647 : Int32)) % (65535 : Int32)))), (.int ((1 : Int32) + ((p5 &&& (2147483647 : Int32)) % (65535 : Int32))))]) _
      refine XS.icmpNo X299.here hx rfl (hb hby at_166) rfl (teq (rfl : ((1 : Int32) + ((p5 &&& (2147483647 : Int32)) % (65535 : Int32))) = ((1 : Int32) + ((p5 &&& (2147483647 : Int32)) % (65535 : Int32))))).2 ?_
      show Go p e below T299 (mkF m 169 #[.val (.int p1), .val (.int p2), .val (.int p3), .val (.int p4), .val (.int p5), .val (.int (p2 &&& (255 : Int32))), .val (.int (p3 &&& (255 : Int32))), .val (.int (p4 &&& (255 : Int32))), .val (.int (2 : Int32)), .val (.ref b211), .val (.ref b238), .val (.ref b253), .val (.int ((1 : Int32) + ((p5 &&& (2147483647 : Int32)) % (65535 : Int32)))), .val (.ref b_269), .val (.ref b_276)] []) _
      refine XS.aload X299.here hx rfl (hb hby at_169) rfl rfl ?_
      show Go p e below T299 (mkF m 171 #[.val (.int p1), .val (.int p2), .val (.int p3), .val (.int p4), .val (.int p5), .val (.int (p2 &&& (255 : Int32))), .val (.int (p3 &&& (255 : Int32))), .val (.int (p4 &&& (255 : Int32))), .val (.int (2 : Int32)), .val (.ref b211), .val (.ref b238), .val (.ref b253), .val (.int ((1 : Int32) + ((p5 &&& (2147483647 : Int32)) % (65535 : Int32)))), .val (.ref b_269), .val (.ref b_276)] [(.ref b_269)]) _
      refine XS.aload X299.here hx rfl (hb hby at_171) rfl rfl ?_
      exact kt)
    obtain ⟨cq306, kq306, q306a, q306b, q306c⟩ := isOf hZ eq299 f285
    obtain ⟨_, _, ⟨T305, L305, k305, n305⟩, -, X305, ⟨Lc305, hQ305, l305, y305, z305⟩, st305⟩ := X299.virtualBack hx (y := (⟨"com/example/cerrojo/cerrojo/config/ServerAddress", "equals", "(Ljava/lang/Object;)Z"⟩ : MethodName)) (z := (⟨"com/example/cerrojo/cerrojo/config/ServerAddress", "equals", "(Ljava/lang/Object;)Z"⟩ : MethodName)) hown (mvT hZ (own_w hw 74 rfl)) (mvT hZ (own_w hw 75 rfl)) (notFace_of_selects (args := #[]) (mvT hZ (own_w hw 77 rfl))) (mvT hZ (own_w hw 77 rfl)) (mvT hZ (own_w hw 76 rfl)) (by decide) (backOf (W := 0) (rm14 l Z a0 hw [] cx b_269 b_276 b238 b253 ((1 : Int32) + ((p5 &&& (2147483647 : Int32)) % (65535 : Int32))) t246 t261 [(p2 &&& (255 : Int32)), (p3 &&& (255 : Int32)), (p4 &&& (255 : Int32))] T276.heap n0 O280 fq276_0 f281 fq276_1 f297 fq276_2 f291 f303) hZ (own_w hw 78 rfl) (own_w hw 34 rfl) (by decide) (by decide)) q306a q306c (g := (mkF m 173 #[.val (.int p1), .val (.int p2), .val (.int p3), .val (.int p4), .val (.int p5), .val (.int (p2 &&& (255 : Int32))), .val (.int (p3 &&& (255 : Int32))), .val (.int (p4 &&& (255 : Int32))), .val (.int (2 : Int32)), .val (.ref b211), .val (.ref b238), .val (.ref b253), .val (.int ((1 : Int32) + ((p5 &&& (2147483647 : Int32)) % (65535 : Int32)))), .val (.ref b_269), .val (.ref b_276)] [(.ref b_276), (.ref b_269)])) rfl (by rw [hml]; rfl) (Steps.refl _) (argsL := [(.ref b_276)]) (rest := []) (lenOf pd_3 rfl) rfl (by show 2 * 0 + _ ≤ _; exact Nat.le_of_eq rfl) (hb hby at_173) (fun _ _ => ⟨rfl, eq299, (by decide : 11 + 0 ≤ _), (by decide : 61 + 0 ≤ _)⟩)
    dsimp only [Pt.U, Pt.locs, Pt.cells, Pt.slots] at X305 l305 y305 z305 st305 hQ305
    subst l305 y305 z305
    obtain ⟨rfl, Nq305, eq305⟩ := hQ305
    have N307 := Fr.app N301 Nq305
    have q308 := fun t (kt : Go p e below T305 (mkF m 176 #[.val (.int p1), .val (.int p2), .val (.int p3), .val (.int p4), .val (.int p5), .val (.int (p2 &&& (255 : Int32))), .val (.int (p3 &&& (255 : Int32))), .val (.int (p4 &&& (255 : Int32))), .val (.int (2 : Int32)), .val (.ref b211), .val (.ref b238), .val (.ref b253), .val (.int ((1 : Int32) + ((p5 &&& (2147483647 : Int32)) % (65535 : Int32)))), .val (.ref b_269), .val (.ref b_276)] [(.int (1 : Int32))]) t) => q304 t (st305.trans kt)
    have q309 := fun t (kt : Go p e below T305 (mkF m 184 #[.val (.int p1), .val (.int p2), .val (.int p3), .val (.int p4), .val (.int p5), .val (.int (p2 &&& (255 : Int32))), .val (.int (p3 &&& (255 : Int32))), .val (.int (p4 &&& (255 : Int32))), .val (.int (2 : Int32)), .val (.ref b211), .val (.ref b238), .val (.ref b253), .val (.int ((1 : Int32) + ((p5 &&& (2147483647 : Int32)) % (65535 : Int32)))), .val (.ref b_269), .val (.ref b_276)] [(.int (1 : Int32))]) t) => q308 t (by
      show Go p e below T305 (mkF m 176 #[.val (.int p1), .val (.int p2), .val (.int p3), .val (.int p4), .val (.int p5), .val (.int (p2 &&& (255 : Int32))), .val (.int (p3 &&& (255 : Int32))), .val (.int (p4 &&& (255 : Int32))), .val (.int (2 : Int32)), .val (.ref b211), .val (.ref b238), .val (.ref b253), .val (.int ((1 : Int32) + ((p5 &&& (2147483647 : Int32)) % (65535 : Int32)))), .val (.ref b_269), .val (.ref b_276)] [(.int (1 : Int32))]) _
      refine XS.ifNo X305.here hx rfl (hb hby at_176) rfl ((if0 _ _).trans (feq (by decide : ¬ ((1 : Int32) = (0 : Int32)))).1) ?_
      show Go p e below T305 (mkF m 179 #[.val (.int p1), .val (.int p2), .val (.int p3), .val (.int p4), .val (.int p5), .val (.int (p2 &&& (255 : Int32))), .val (.int (p3 &&& (255 : Int32))), .val (.int (p4 &&& (255 : Int32))), .val (.int (2 : Int32)), .val (.ref b211), .val (.ref b238), .val (.ref b253), .val (.int ((1 : Int32) + ((p5 &&& (2147483647 : Int32)) % (65535 : Int32)))), .val (.ref b_269), .val (.ref b_276)] []) _
      refine XS.iconst X305.here hx rfl (hb hby at_179) ?_
      show Go p e below T305 (mkF m 180 #[.val (.int p1), .val (.int p2), .val (.int p3), .val (.int p4), .val (.int p5), .val (.int (p2 &&& (255 : Int32))), .val (.int (p3 &&& (255 : Int32))), .val (.int (p4 &&& (255 : Int32))), .val (.int (2 : Int32)), .val (.ref b211), .val (.ref b238), .val (.ref b253), .val (.int ((1 : Int32) + ((p5 &&& (2147483647 : Int32)) % (65535 : Int32)))), .val (.ref b_269), .val (.ref b_276)] [(.int (1 : Int32))]) _
      refine XS.goto X305.here hx rfl (pc0 := 180) (pc' := 184) rfl (hb hby at_180) (by decide) (by decide) ?_
      exact kt)
    obtain ⟨fs, hr, hrun, hended, hRE⟩ := X305.leaveW hS276 (by rw [eq305]; exact hkk276) (v := some (.int (1 : Int32))) (fun h => by rw [Bd.returns] at h; cases h)
    refine ⟨_, _, q309 _ ?_, hrun, hended, _, _, rfl, ?_, hRE.1, hRE.2.1, hRE.2.2.1, hRE.2.2.2.mono (by decide) (by decide)⟩
    · show Go p e below T305 (mkF m 184 #[.val (.int p1), .val (.int p2), .val (.int p3), .val (.int p4), .val (.int p5), .val (.int (p2 &&& (255 : Int32))), .val (.int (p3 &&& (255 : Int32))), .val (.int (p4 &&& (255 : Int32))), .val (.int (2 : Int32)), .val (.ref b211), .val (.ref b238), .val (.ref b253), .val (.int ((1 : Int32) + ((p5 &&& (2147483647 : Int32)) % (65535 : Int32)))), .val (.ref b_269), .val (.ref b_276)] [(.int (1 : Int32))]) _
      exact retN X305 hx (t := .boolean) Bd.returns (by simp) (hb hby at_184) hr
    · show Q_rm0 Z p1 p2 p3 p4 p5 z_cs h0 n0 _ T305.heap _
      rw [eq305]
      exact ⟨rfl, N307⟩
theorem comes_1 {Post : Tables → Env → Array Value → State → Outcome → State → Prop} (hpost : ∀ tb e args s v u, (limb_1_1.after args s (.returned v) u = true ∧ limb_1_2.after args s (.returned v) u = true ∧ True) → ReturnedEndW s (.returned v) u (Jvm.fieldLocs frame_1_writes args s ++ Jvm.arrayLocs frame_1_arrays args s ++ Jvm.staticLocs frame_1_statics s) 24 1152 → Post tb e args s (.returned v) u) :
    ArmFor flags0 classFile x code maxLocals ret World_1 tables_1 room_1 Calls_1 rest_1 Pre_1 Post := by
  intro l hfl _ _ p e ha hc hk s m args below hf hA hF happ hP
  obtain ⟨hcalls, hrest, hpre⟩ := hP
  obtain ⟨-, -, -, hnamed, -, -, -, hat⟩ := (Spec.applies_iff hf).mp happ
  obtain ⟨hg, hn⟩ := and_e (Cond.before_iff.mp (show (Jvm.Cond.and given_1 narrow_1).before args s = true from hpre))
  obtain ⟨gg1, gg2⟩ := and_e hg
  obtain ⟨gg3, gg4⟩ := and_e gg2
  obtain ⟨gg5, gg6⟩ := and_e gg4
  obtain ⟨gg7, gg8⟩ := and_e gg6
  obtain ⟨gg9, gg10⟩ := and_e gg8
  obtain ⟨w0, w1, w2, w3, w4, rfl⟩ : ∃ w0 w1 w2 w3 w4 : Value, args = #[w0, w1, w2, w3, w4] := by
    have hs : args.size = 5 := by simpa [Cond.value, given_1] using gg1
    obtain ⟨L⟩ := args
    match L, hs with
    | [w0, w1, w2, w3, w4], _ => exact ⟨w0, w1, w2, w3, w4, rfl⟩
  have hw := fun d (hd : d ∈ tables_1) => atoms_spec (ws := Jvm.Cond.code x code maxLocals ret :: tables_1) hat d (List.mem_cons_of_mem _ hd)
  have hfit : Fit s := fun {y c} hc i hi => by
    obtain ⟨ha, rfl⟩ := Array.getElem?_eq_some_iff.mp hc
    have q := List.all_eq_true.mp ((Array.all_eq_true_iff_forall_mem.mp hF) _ (Array.getElem_mem ha)) i (List.mem_range.mpr hi)
    simpa [Array.getElem?_eq_getElem hi] using q
  obtain ⟨hsets, hown0⟩ := atoms_of _ (rest_1_c_eq ▸ (show rest_1_c.before _ s = true from hrest))
  have hr0 := Cond.before_iff.mp hown0
  obtain ⟨i0, ei0⟩ := is_v gg3
  obtain rfl : w0 = (.int i0) := Option.some.inj ei0
  obtain ⟨i1, ei1⟩ := is_v gg5
  obtain rfl : w1 = (.int i1) := Option.some.inj ei1
  obtain ⟨i2, ei2⟩ := is_v gg7
  obtain rfl : w2 = (.int i2) := Option.some.inj ei2
  obtain ⟨i3, ei3⟩ := is_v gg9
  obtain rfl : w3 = (.int i3) := Option.some.inj ei3
  obtain ⟨i4, ei4⟩ := is_v gg10
  obtain rfl : w4 = (.int i4) := Option.some.inj ei4
  have nz_cs := not_v (Cond.before_iff.mp (hsets _ (List.mem_of_getElem? (i := 2) rfl)))
  obtain ⟨z_cs, ev_cs⟩ := is_v (Cond.before_iff.mp (hsets _ (List.mem_of_getElem? (i := 1) rfl)))
  have cx : Cx s z_cs := ⟨(Sta.start ev_cs (Or.inl (hsets _ (List.mem_of_getElem? (i := 0) rfl)))), (gotF (Cond.eq_ints ev_cs (Term.int_eval (0))) nz_cs)⟩
  obtain ⟨n, o, h1, h2, h3, _, L, rfl, ⟨rfl, N⟩, hq⟩ := rm0 l s _ hw tables_1 cx i0 i1 i2 i3 i4 s.heap s.heap.size (Old.start s)  p e ha hc hk s m _ below hf ((Spec.applies_iff_loose hf).mp happ).1 ⟨rfl, State.Warmed39.refl s, rfl⟩ trivial
  refine ⟨n, _, h1, h2, h3, hpost _ _ _ _ _ _ ⟨Cond.after_iff.mpr rfl, Cond.after_iff.mpr (eq_i res_at (Term.int_eval (1)) rfl), trivial⟩ ⟨hq.1, hq.2.1, hq.2.2.1, (hq.2.2.2.sift fun y hy => Or.inr (N y hy)).mono (by decide) (by decide)⟩⟩
theorem main_1_1 : Claimed_1_1 := comes_1 fun _ _ _ _ _ _ h hF => ⟨h.1, hF⟩
theorem main_1_2 : Claimed_1_2 := comes_1 fun _ _ _ _ _ _ h hF => ⟨h.2.1, hF⟩
end Jvm.Pilot.@@N@@
namespace Jvm.Pilot.@@N@@
open Jvm Jvm.ClassFile Sem Op Lib Jvm.Free Jvm.Stand Jvm.Pilot.@@N@@.Jvm.D
/-! MADE BY PROGRAM (witnessworld.py) out of the Statement's table words and the real class files: 21 classes; the members and pool entries that the words name. The judged class is class 1, her method 1. -/
namespace start1
open Jvm.ClassFile
def u (s : String) : CpInfo := .utf8 (stringToUtf16 s)
/-- a pool by its gaps: so many unusable entries, then the entry; so many at the end -/
def gap : Nat → List CpInfo → List CpInfo
  | 0, r => r
  | n + 1, r => .unusable :: gap n r
def poolList (es : List (Nat × CpInfo)) (last : Nat) : List CpInfo := es.foldr (fun e r => gap e.1 (e.2 :: r)) (gap last [])
def pool (es : List (Nat × CpInfo)) (last : Nat) : Array CpInfo := ⟨poolList es last⟩
def fileOf (pool : Array CpInfo) (this : Nat) (attrs : Array Attribute := #[]) (ms : Array MethodInfo := #[]) (fl : Nat := 33) (sup : Nat := 0) (ifs : Array Nat := #[]) (fds : Array FieldInfo := #[]) : ClassFile where
  minorVersion := 0
  majorVersion := 65
  constantPool := pool
  accessFlags := fl
  thisClass := this
  superClass := sup
  interfaces := ifs
  fields := fds
  methods := ms
  attributes := attrs
def plain (name : String) (sup : Option ClassId) : Class where
  name := name
  kind := .ordinary
  loader := none
  accessFlags := 33
  super := sup
  interfaces := #[]
  cf := none
  fields := #[]
  methods := #[]
  instanceTypes := #[]
  staticTypes := #[]
  resolved := #[]
  callSites := []
  init := .initialized
  statics := none
  mirror := none

def pool0 : Array CpInfo := pool [(5, u "<init>"), (0, u "()V"), (1, .class_ 10), (1, u "java/lang/Object")] 113

def k0c0 : Code := { maxStack := 0, maxLocals := 1, code := object_method_1_code, exceptionTable := #[], attributes := #[] }
def k0m0 : Method := { name := "<init>", desc := "()V", sig := { parameters := [], returnType := none }, accessFlags := 1, code := some k0c0 }
/-- java/lang/Object -/
def k0 : Class := { plain "java/lang/Object" none with
  accessFlags := 33
  interfaces := #[]
  cf := some (fileOf pool0 8 #[] #[{ accessFlags := 1, nameIndex := 5, descriptorIndex := 6, attributes := #[] }] 33 0 #[] #[])
  fields := #[]
  methods := #[k0m0]
  instanceTypes := #[]
  staticTypes := #[]
  resolved := Array.replicate 124 none
  statics := none }

def pool1 : Array CpInfo := pool [(2, .class_ 4), (1, u "java/lang/Object"), (0, u "<init>"), (0, u "()V"), (0, .integer 2147483647), (0, .class_ 9), (0, u "java/lang/String"), (0, .methodref 8 11), (0, .nameAndType 5 12), (0, u "([C)V"), (0, .integer 65535), (0, .methodref 15 16), (0, .class_ 17), (0, .nameAndType 18 19), (0, u "com/example/cerrojo/cerrojo/config/ServerAddress"), (0, u "of"), (0, u "(Ljava/lang/String;I)Lcom/example/cerrojo/cerrojo/config/ServerAddress;"), (0, .methodref 15 21), (0, .nameAndType 22 23), (0, u "host"), (0, u "()Ljava/lang/String;"), (0, .methodref 8 25), (0, .nameAndType 26 27), (0, u "equals"), (0, u "(Ljava/lang/Object;)Z"), (0, .methodref 15 29), (0, .nameAndType 30 31), (0, u "port"), (0, u "()I"), (0, .methodref 15 25), (0, .class_ 34), (0, u "com/example/cerrojo/cerrojo/config/ServerAddressOfPinLaw"), (2, u "law"), (0, u "(IIIII)Z")] 5

def k1m0 : Method := { name := "<init>", desc := "()V", sig := { parameters := [], returnType := none }, accessFlags := 1, code := none }
def k1c1 : Code := { maxStack := 4, maxLocals := 15, code := code, exceptionTable := #[], attributes := #[] }
def k1m1 : Method := { name := "law", desc := "(IIIII)Z", sig := { parameters := [.int, .int, .int, .int, .int], returnType := some .boolean }, accessFlags := 9, code := some k1c1 }
/-- com/example/cerrojo/cerrojo/config/ServerAddressOfPinLaw -/
def k1 : Class := { plain "com/example/cerrojo/cerrojo/config/ServerAddressOfPinLaw" (some 0) with
  accessFlags := 49
  interfaces := #[]
  cf := some (fileOf pool1 33 #[] #[{ accessFlags := 1, nameIndex := 5, descriptorIndex := 6, attributes := #[] }, { accessFlags := 9, nameIndex := 37, descriptorIndex := 38, attributes := #[] }] 49 2 #[] #[])
  fields := #[]
  methods := #[k1m0, k1m1]
  instanceTypes := #[]
  staticTypes := #[]
  resolved := Array.replicate 44 none
  statics := none }

def pool2 : Array CpInfo := pool [(1, .class_ 2), (0, u "java/io/Serializable"), (0, .class_ 4), (0, u "java/lang/Object")] 2

/-- java/io/Serializable -/
def k2 : Class := { plain "java/io/Serializable" (some 0) with
  accessFlags := 1537
  interfaces := #[]
  cf := some (fileOf pool2 1 #[] #[] 1537 3 #[] #[])
  fields := #[]
  methods := #[]
  instanceTypes := #[]
  staticTypes := #[]
  resolved := Array.replicate 7 none
  statics := none }

def pool3 : Array CpInfo := pool [(1, .class_ 2), (0, u "java/lang/Comparable"), (0, .class_ 4), (0, u "java/lang/Object")] 7

/-- java/lang/Comparable -/
def k3 : Class := { plain "java/lang/Comparable" (some 0) with
  accessFlags := 1537
  interfaces := #[]
  cf := some (fileOf pool3 1 #[] #[] 1537 3 #[] #[])
  fields := #[]
  methods := #[]
  instanceTypes := #[]
  staticTypes := #[]
  resolved := Array.replicate 12 none
  statics := none }

def pool4 : Array CpInfo := pool [(2, .class_ 4), (1, u "java/lang/CharSequence"), (42, .class_ 48), (0, u "java/lang/CharSequence$1CodePointIterator"), (10, .class_ 60), (0, u "java/lang/CharSequence$1CharIterator"), (5, .class_ 67), (0, u "java/lang/Object")] 63

/-- java/lang/CharSequence -/
def k4 : Class := { plain "java/lang/CharSequence" (some 0) with
  accessFlags := 1537
  interfaces := #[]
  cf := some (fileOf pool4 2 #[.nestMembers #[47, 59]] #[] 1537 66 #[] #[])
  fields := #[]
  methods := #[]
  instanceTypes := #[]
  staticTypes := #[]
  resolved := Array.replicate 131 none
  statics := none }

def pool5 : Array CpInfo := pool [(1, .class_ 2), (0, u "java/lang/constant/Constable"), (0, .class_ 4), (0, u "java/lang/Object")] 6

/-- java/lang/constant/Constable -/
def k5 : Class := { plain "java/lang/constant/Constable" (some 0) with
  accessFlags := 1537
  interfaces := #[]
  cf := some (fileOf pool5 1 #[] #[] 1537 3 #[] #[])
  fields := #[]
  methods := #[]
  instanceTypes := #[]
  staticTypes := #[]
  resolved := Array.replicate 11 none
  statics := none }

def pool6 : Array CpInfo := pool [(1, .class_ 2), (0, u "java/lang/constant/ConstantDesc"), (0, .class_ 4), (0, u "java/lang/Object")] 32

/-- java/lang/constant/ConstantDesc -/
def k6 : Class := { plain "java/lang/constant/ConstantDesc" (some 0) with
  accessFlags := 1537
  interfaces := #[]
  cf := some (fileOf pool6 1 #[] #[] 1537 3 #[] #[])
  fields := #[]
  methods := #[]
  instanceTypes := #[]
  staticTypes := #[]
  resolved := Array.replicate 37 none
  statics := none }

def pool7 : Array CpInfo := pool [(1, .methodref 2 3), (0, .class_ 4), (0, .nameAndType 5 6), (0, u "java/lang/Object"), (0, u "<init>"), (0, u "()V"), (2, .fieldref 10 11), (0, .class_ 12), (0, .nameAndType 13 14), (0, u "java/lang/String"), (0, u "value"), (0, u "[B"), (0, .fieldref 10 16), (0, .nameAndType 17 18), (0, u "coder"), (0, u "B"), (2, u "hash"), (0, u "I"), (2, u "hashIsZero"), (0, u "Z"), (0, .methodref 10 28), (0, .nameAndType 5 29), (0, u "([CIILjava/lang/Void;)V"), (8, .fieldref 10 39), (0, .nameAndType 40 26), (0, u "COMPACT_STRINGS"), (1, .class_ 44), (1, u "java/lang/StringUTF16"), (0, u "compress"), (1, .methodref 42 48), (0, .nameAndType 49 50), (0, u "coderFromArrayLen"), (0, u "([BI)B"), (56, .class_ 109), (1, u "java/lang/StringLatin1"), (32, u "()Z"), (34, .methodref 42 178), (0, .nameAndType 45 179), (0, u "([CII)[B"), (361, .methodref 107 542), (0, .nameAndType 543 544), (0, u "equals"), (0, u "([B[B)Z"), (28, u "(Ljava/lang/Object;)Z"), (1, .class_ 576), (0, u "java/lang/CharSequence"), (22, u "CASE_INSENSITIVE_ORDER"), (0, u "Ljava/util/Comparator;"), (91, u "isEmpty"), (317, u "([C)V"), (90, u "serialPersistentFields"), (0, u "[Ljava/io/ObjectStreamField;"), (0, .class_ 1104), (0, u "java/lang/String$CaseInsensitiveComparator"), (1, .class_ 1107), (0, u "java/io/Serializable"), (0, .class_ 1109), (0, u "java/lang/Comparable"), (0, .class_ 1111), (0, u "java/lang/constant/Constable"), (0, .class_ 1113), (0, u "java/lang/constant/ConstantDesc"), (2, u "serialVersionUID"), (0, u "J"), (3, u "REPL"), (0, u "C"), (2, u "LATIN1"), (1, u "UTF16")] 323

def k7m0 : Method := { name := "<init>", desc := "()V", sig := { parameters := [], returnType := none }, accessFlags := 1, code := none }
def k7c1 : Code := { maxStack := 5, maxLocals := 2, code := jdk_42_method_3_code, exceptionTable := #[], attributes := #[] }
def k7m1 : Method := { name := "<init>", desc := "([C)V", sig := { parameters := [(.array .char)], returnType := none }, accessFlags := 1, code := some k7c1 }
def k7c2 : Code := { maxStack := 1, maxLocals := 1, code := jdk_42_method_55_code, exceptionTable := #[], attributes := #[] }
def k7m2 : Method := { name := "isEmpty", desc := "()Z", sig := { parameters := [], returnType := some .boolean }, accessFlags := 1, code := some k7c2 }
def k7c3 : Code := { maxStack := 2, maxLocals := 3, code := jdk_42_method_66_code, exceptionTable := #[], attributes := #[] }
def k7m3 : Method := { name := "equals", desc := "(Ljava/lang/Object;)Z", sig := { parameters := [(.object "java/lang/Object")], returnType := some .boolean }, accessFlags := 1, code := some k7c3 }
def k7c4 : Code := { maxStack := 4, maxLocals := 6, code := jdk_42_method_149_code, exceptionTable := #[], attributes := #[] }
def k7m4 : Method := { name := "<init>", desc := "([CIILjava/lang/Void;)V", sig := { parameters := [(.array .char), .int, .int, (.object "java/lang/Void")], returnType := none }, accessFlags := 2, code := some k7c4 }
/-- java/lang/String -/
def k7 : Class := { plain "java/lang/String" (some 0) with
  accessFlags := 49
  interfaces := #[2, 3, 4, 5, 6]
  cf := some (fileOf pool7 10 #[.nestMembers #[1103]] #[{ accessFlags := 1, nameIndex := 5, descriptorIndex := 6, attributes := #[] }, { accessFlags := 1, nameIndex := 5, descriptorIndex := 1010, attributes := #[] }, { accessFlags := 1, nameIndex := 692, descriptorIndex := 142, attributes := #[] }, { accessFlags := 1, nameIndex := 543, descriptorIndex := 573, attributes := #[] }, { accessFlags := 2, nameIndex := 5, descriptorIndex := 29, attributes := #[] }] 49 2 #[1106, 1108, 575, 1110, 1112] #[{ accessFlags := 18, nameIndex := 13, descriptorIndex := 14, attributes := #[] }, { accessFlags := 18, nameIndex := 17, descriptorIndex := 18, attributes := #[] }, { accessFlags := 2, nameIndex := 21, descriptorIndex := 22, attributes := #[] }, { accessFlags := 2, nameIndex := 25, descriptorIndex := 26, attributes := #[] }, { accessFlags := 26, nameIndex := 1116, descriptorIndex := 1117, attributes := #[] }, { accessFlags := 24, nameIndex := 40, descriptorIndex := 26, attributes := #[] }, { accessFlags := 26, nameIndex := 1101, descriptorIndex := 1102, attributes := #[] }, { accessFlags := 26, nameIndex := 1121, descriptorIndex := 1122, attributes := #[] }, { accessFlags := 25, nameIndex := 599, descriptorIndex := 600, attributes := #[] }, { accessFlags := 24, nameIndex := 1125, descriptorIndex := 18, attributes := #[] }, { accessFlags := 24, nameIndex := 1127, descriptorIndex := 18, attributes := #[] }])
  fields := #[{ name := "value", type := (.array .byte), accessFlags := 18, slot := 0, constantValue := 0 }, { name := "coder", type := .byte, accessFlags := 18, slot := 1, constantValue := 0 }, { name := "hash", type := .int, accessFlags := 2, slot := 2, constantValue := 0 }, { name := "hashIsZero", type := .boolean, accessFlags := 2, slot := 3, constantValue := 0 }, { name := "serialVersionUID", type := .long, accessFlags := 26, slot := 0, constantValue := 0 }, { name := "COMPACT_STRINGS", type := .boolean, accessFlags := 24, slot := 1, constantValue := 0 }, { name := "serialPersistentFields", type := (.array (.object "java/io/ObjectStreamField")), accessFlags := 26, slot := 2, constantValue := 0 }, { name := "REPL", type := .char, accessFlags := 26, slot := 3, constantValue := 0 }, { name := "CASE_INSENSITIVE_ORDER", type := (.object "java/util/Comparator"), accessFlags := 25, slot := 4, constantValue := 0 }, { name := "LATIN1", type := .byte, accessFlags := 24, slot := 5, constantValue := 0 }, { name := "UTF16", type := .byte, accessFlags := 24, slot := 6, constantValue := 0 }]
  methods := #[k7m0, k7m1, k7m2, k7m3, k7m4]
  instanceTypes := #[(.array .byte), .byte, .int, .boolean]
  staticTypes := #[.long, .boolean, (.array (.object "java/io/ObjectStreamField")), .char, (.object "java/util/Comparator"), .byte, .byte]
  resolved := Array.replicate 1451 none
  statics := some 0 }

def pool8 : Array CpInfo := pool [(6, .class_ 8), (1, u "java/lang/Object"), (0, u "<init>"), (0, u "()V"), (1, .class_ 14), (1, u "java/lang/StringUTF16"), (31, u "$assertionsDisabled"), (0, u "Z"), (13, u "HI_BYTE_SHIFT"), (0, u "I"), (2, u "LO_BYTE_SHIFT"), (49, .methodref 12 116), (0, .nameAndType 117 118), (0, u "compress"), (0, u "([CI[BII)I"), (3, u "([CII)[B"), (138, u "coderFromArrayLen"), (0, u "([BI)B"), (106, .class_ 371), (1, u "java/lang/StringUTF16$LinesSpliterator"), (58, u "MAX_LENGTH"), (196, .class_ 628), (0, u "java/lang/StringUTF16$CodePointsSpliterator"), (0, .class_ 630), (0, u "java/lang/StringUTF16$CharsSpliterator")] 4

def k8m0 : Method := { name := "<init>", desc := "()V", sig := { parameters := [], returnType := none }, accessFlags := 0, code := none }
def k8c1 : Code := { maxStack := 2, maxLocals := 2, code := jdk_52_method_15_code, exceptionTable := #[], attributes := #[] }
def k8m1 : Method := { name := "coderFromArrayLen", desc := "([BI)B", sig := { parameters := [(.array .byte), .int], returnType := some .byte }, accessFlags := 8, code := some k8c1 }
def k8c2 : Code := { maxStack := 5, maxLocals := 6, code := jdk_52_method_16_code, exceptionTable := #[], attributes := #[] }
def k8m2 : Method := { name := "compress", desc := "([CII)[B", sig := { parameters := [(.array .char), .int, .int], returnType := some (.array .byte) }, accessFlags := 9, code := some k8c2 }
def k8c3 : Code := { maxStack := 3, maxLocals := 7, code := jdk_52_method_21_code, exceptionTable := #[], attributes := #[] }
def k8m3 : Method := { name := "compress", desc := "([CI[BII)I", sig := { parameters := [(.array .char), .int, (.array .byte), .int, .int], returnType := some .int }, accessFlags := 9, code := some k8c3 }
/-- java/lang/StringUTF16 -/
def k8 : Class := { plain "java/lang/StringUTF16" (some 0) with
  accessFlags := 48
  interfaces := #[]
  cf := some (fileOf pool8 12 #[.nestMembers #[627, 629, 369]] #[{ accessFlags := 0, nameIndex := 9, descriptorIndex := 10, attributes := #[] }, { accessFlags := 8, nameIndex := 261, descriptorIndex := 262, attributes := #[] }, { accessFlags := 9, nameIndex := 117, descriptorIndex := 122, attributes := #[] }, { accessFlags := 9, nameIndex := 117, descriptorIndex := 118, attributes := #[] }] 48 6 #[] #[{ accessFlags := 26, nameIndex := 61, descriptorIndex := 62, attributes := #[] }, { accessFlags := 26, nameIndex := 65, descriptorIndex := 62, attributes := #[] }, { accessFlags := 24, nameIndex := 430, descriptorIndex := 62, attributes := #[] }, { accessFlags := 4120, nameIndex := 46, descriptorIndex := 47, attributes := #[] }])
  fields := #[{ name := "HI_BYTE_SHIFT", type := .int, accessFlags := 26, slot := 0, constantValue := 0 }, { name := "LO_BYTE_SHIFT", type := .int, accessFlags := 26, slot := 1, constantValue := 0 }, { name := "MAX_LENGTH", type := .int, accessFlags := 24, slot := 2, constantValue := 0 }, { name := "$assertionsDisabled", type := .boolean, accessFlags := 4120, slot := 3, constantValue := 0 }]
  methods := #[k8m0, k8m1, k8m2, k8m3]
  instanceTypes := #[]
  staticTypes := #[.int, .int, .int, .boolean]
  resolved := Array.replicate 635 none
  statics := none }

def pool9 : Array CpInfo := pool [(1, .methodref 2 3), (0, .class_ 4), (0, .nameAndType 5 6), (0, u "java/lang/Object"), (0, u "<init>"), (0, u "()V"), (0, .fieldref 8 9), (0, .class_ 10), (0, .nameAndType 11 12), (0, u "com/example/cerrojo/cerrojo/config/ServerAddress"), (0, u "host"), (0, u "Ljava/lang/String;"), (0, .fieldref 8 14), (0, .nameAndType 15 16), (0, u "port"), (0, u "I"), (2, .methodref 20 21), (0, .class_ 22), (0, .nameAndType 23 24), (0, u "java/util/Objects"), (0, u "requireNonNull"), (0, u "(Ljava/lang/Object;Ljava/lang/String;)Ljava/lang/Object;"), (14, .class_ 41), (1, u "java/lang/String"), (1, u "()I"), (11, u "()Ljava/lang/String;"), (5, .methodref 39 62), (0, .nameAndType 63 64), (0, u "equals"), (0, u "(Ljava/lang/Object;)Z"), (10, .string 11), (0, .methodref 39 77), (0, .nameAndType 78 79), (0, u "isEmpty"), (0, u "()Z"), (0, .integer 65535), (3, .methodref 8 85), (0, .nameAndType 5 86), (0, u "(Ljava/lang/String;I)V"), (42, u "DIGITS"), (0, u "Ljava/util/regex/Pattern;"), (48, u "DEFAULT_PORT"), (2, u "MAX_PORT"), (5, u "of"), (0, u "(Ljava/lang/String;I)Lcom/example/cerrojo/cerrojo/config/ServerAddress;")] 45

def k9c0 : Code := { maxStack := 2, maxLocals := 3, code := prog_3_method_1_code, exceptionTable := #[], attributes := #[] }
def k9m0 : Method := { name := "<init>", desc := "(Ljava/lang/String;I)V", sig := { parameters := [(.object "java/lang/String"), .int], returnType := none }, accessFlags := 2, code := some k9c0 }
def k9c1 : Code := { maxStack := 4, maxLocals := 2, code := prog_3_method_3_code, exceptionTable := #[], attributes := #[] }
def k9m1 : Method := { name := "of", desc := "(Ljava/lang/String;I)Lcom/example/cerrojo/cerrojo/config/ServerAddress;", sig := { parameters := [(.object "java/lang/String"), .int], returnType := some (.object "com/example/cerrojo/cerrojo/config/ServerAddress") }, accessFlags := 9, code := some k9c1 }
def k9c2 : Code := { maxStack := 1, maxLocals := 1, code := prog_3_method_7_code, exceptionTable := #[], attributes := #[] }
def k9m2 : Method := { name := "host", desc := "()Ljava/lang/String;", sig := { parameters := [], returnType := some (.object "java/lang/String") }, accessFlags := 1, code := some k9c2 }
def k9c3 : Code := { maxStack := 1, maxLocals := 1, code := prog_3_method_8_code, exceptionTable := #[], attributes := #[] }
def k9m3 : Method := { name := "port", desc := "()I", sig := { parameters := [], returnType := some .int }, accessFlags := 1, code := some k9c3 }
def k9c4 : Code := { maxStack := 2, maxLocals := 3, code := prog_3_method_10_code, exceptionTable := #[], attributes := #[] }
def k9m4 : Method := { name := "equals", desc := "(Ljava/lang/Object;)Z", sig := { parameters := [(.object "java/lang/Object")], returnType := some .boolean }, accessFlags := 1, code := some k9c4 }
/-- com/example/cerrojo/cerrojo/config/ServerAddress -/
def k9 : Class := { plain "com/example/cerrojo/cerrojo/config/ServerAddress" (some 0) with
  accessFlags := 49
  interfaces := #[]
  cf := some (fileOf pool9 8 #[] #[{ accessFlags := 2, nameIndex := 5, descriptorIndex := 86, attributes := #[] }, { accessFlags := 9, nameIndex := 188, descriptorIndex := 189, attributes := #[] }, { accessFlags := 1, nameIndex := 11, descriptorIndex := 55, attributes := #[] }, { accessFlags := 1, nameIndex := 15, descriptorIndex := 43, attributes := #[] }, { accessFlags := 1, nameIndex := 63, descriptorIndex := 64, attributes := #[] }] 49 2 #[] #[{ accessFlags := 25, nameIndex := 179, descriptorIndex := 16, attributes := #[] }, { accessFlags := 26, nameIndex := 182, descriptorIndex := 16, attributes := #[] }, { accessFlags := 26, nameIndex := 129, descriptorIndex := 130, attributes := #[] }, { accessFlags := 18, nameIndex := 11, descriptorIndex := 12, attributes := #[] }, { accessFlags := 18, nameIndex := 15, descriptorIndex := 16, attributes := #[] }])
  fields := #[{ name := "DEFAULT_PORT", type := .int, accessFlags := 25, slot := 0, constantValue := 0 }, { name := "MAX_PORT", type := .int, accessFlags := 26, slot := 1, constantValue := 0 }, { name := "DIGITS", type := (.object "java/util/regex/Pattern"), accessFlags := 26, slot := 2, constantValue := 0 }, { name := "host", type := (.object "java/lang/String"), accessFlags := 18, slot := 0, constantValue := 0 }, { name := "port", type := .int, accessFlags := 18, slot := 1, constantValue := 0 }]
  methods := #[k9m0, k9m1, k9m2, k9m3, k9m4]
  instanceTypes := #[(.object "java/lang/String"), .int]
  staticTypes := #[.int, .int, (.object "java/util/regex/Pattern")]
  resolved := Array.replicate 235 none
  statics := none }

def pool10 : Array CpInfo := pool [(2, .class_ 4), (1, u "java/lang/Object"), (0, u "<init>"), (0, u "()V"), (35, .class_ 44), (1, u "java/util/Objects"), (0, u "requireNonNull"), (48, u "(Ljava/lang/Object;Ljava/lang/String;)Ljava/lang/Object;")] 89

def k10m0 : Method := { name := "<init>", desc := "()V", sig := { parameters := [], returnType := none }, accessFlags := 2, code := none }
def k10c1 : Code := { maxStack := 3, maxLocals := 2, code := jdk_31_method_11_code, exceptionTable := #[], attributes := #[] }
def k10m1 : Method := { name := "requireNonNull", desc := "(Ljava/lang/Object;Ljava/lang/String;)Ljava/lang/Object;", sig := { parameters := [(.object "java/lang/Object"), (.object "java/lang/String")], returnType := some (.object "java/lang/Object") }, accessFlags := 9, code := some k10c1 }
/-- java/util/Objects -/
def k10 : Class := { plain "java/util/Objects" (some 0) with
  accessFlags := 49
  interfaces := #[]
  cf := some (fileOf pool10 42 #[] #[{ accessFlags := 2, nameIndex := 5, descriptorIndex := 6, attributes := #[] }, { accessFlags := 9, nameIndex := 45, descriptorIndex := 94, attributes := #[] }] 49 2 #[] #[])
  fields := #[]
  methods := #[k10m0, k10m1]
  instanceTypes := #[]
  staticTypes := #[]
  resolved := Array.replicate 184 none
  statics := none }

def pool11 : Array CpInfo := pool [(4, .class_ 6), (1, u "java/lang/Object"), (0, u "<init>"), (0, u "()V"), (5, .class_ 16), (1, u "java/lang/StringLatin1"), (104, u "$assertionsDisabled"), (0, u "Z"), (98, .class_ 223), (1, u "java/lang/StringLatin1$LinesSpliterator"), (57, u "equals"), (0, u "([B[B)Z"), (107, .class_ 391), (0, u "java/lang/StringLatin1$CharsSpliterator")] 3

def k11m0 : Method := { name := "<init>", desc := "()V", sig := { parameters := [], returnType := none }, accessFlags := 0, code := none }
def k11c1 : Code := { maxStack := 3, maxLocals := 3, code := jdk_43_method_13_code, exceptionTable := #[], attributes := #[] }
def k11m1 : Method := { name := "equals", desc := "([B[B)Z", sig := { parameters := [(.array .byte), (.array .byte)], returnType := some .boolean }, accessFlags := 9, code := some k11c1 }
/-- java/lang/StringLatin1 -/
def k11 : Class := { plain "java/lang/StringLatin1" (some 0) with
  accessFlags := 48
  interfaces := #[]
  cf := some (fileOf pool11 14 #[.nestMembers #[390, 221]] #[{ accessFlags := 0, nameIndex := 7, descriptorIndex := 8, attributes := #[] }, { accessFlags := 9, nameIndex := 281, descriptorIndex := 282, attributes := #[] }] 48 4 #[] #[{ accessFlags := 4120, nameIndex := 121, descriptorIndex := 122, attributes := #[] }])
  fields := #[{ name := "$assertionsDisabled", type := .boolean, accessFlags := 4120, slot := 0, constantValue := 0 }]
  methods := #[k11m0, k11m1]
  instanceTypes := #[]
  staticTypes := #[.boolean]
  resolved := Array.replicate 395 none
  statics := none }

def pool12 : Array CpInfo := pool [(2, .class_ 4), (1, u "java/lang/Object"), (0, u "<init>"), (0, u "()V"), (17, .class_ 26), (1, u "jdk/internal/util/Preconditions"), (28, .class_ 56), (0, u "jdk/internal/util/Preconditions$4"), (57, .class_ 115), (0, u "jdk/internal/util/Preconditions$1"), (7, u "SIOOBE_FORMATTER"), (0, u "Ljava/util/function/BiFunction;"), (0, .class_ 126), (0, u "jdk/internal/util/Preconditions$2"), (3, u "AIOOBE_FORMATTER"), (0, .class_ 132), (0, u "jdk/internal/util/Preconditions$3"), (3, u "IOOBE_FORMATTER")] 57

def k12m0 : Method := { name := "<init>", desc := "()V", sig := { parameters := [], returnType := none }, accessFlags := 1, code := none }
/-- jdk/internal/util/Preconditions -/
def k12 : Class := { plain "jdk/internal/util/Preconditions" (some 0) with
  accessFlags := 33
  interfaces := #[]
  cf := some (fileOf pool12 24 #[.nestMembers #[55, 131, 125, 114]] #[{ accessFlags := 1, nameIndex := 5, descriptorIndex := 6, attributes := #[] }] 33 2 #[] #[{ accessFlags := 25, nameIndex := 123, descriptorIndex := 124, attributes := #[] }, { accessFlags := 25, nameIndex := 130, descriptorIndex := 124, attributes := #[] }, { accessFlags := 25, nameIndex := 136, descriptorIndex := 124, attributes := #[] }])
  fields := #[{ name := "SIOOBE_FORMATTER", type := (.object "java/util/function/BiFunction"), accessFlags := 25, slot := 0, constantValue := 0 }, { name := "AIOOBE_FORMATTER", type := (.object "java/util/function/BiFunction"), accessFlags := 25, slot := 1, constantValue := 0 }, { name := "IOOBE_FORMATTER", type := (.object "java/util/function/BiFunction"), accessFlags := 25, slot := 2, constantValue := 0 }]
  methods := #[k12m0]
  instanceTypes := #[]
  staticTypes := #[(.object "java/util/function/BiFunction"), (.object "java/util/function/BiFunction"), (.object "java/util/function/BiFunction")]
  resolved := Array.replicate 194 none
  statics := some 1 }

def pool13 : Array CpInfo := pool [(9, u "<init>"), (6, .class_ 18), (1, u "java/lang/Object"), (0, u "()V"), (1, .class_ 23), (1, u "jdk/internal/util/ArraysSupport"), (0, u "LOG2_ARRAY_LONG_INDEX_SCALE"), (0, u "I"), (2, u "U"), (0, u "Ljdk/internal/misc/Unsafe;"), (8, u "BIG_ENDIAN"), (0, u "Z"), (8, u "LOG2_BYTE_BIT_SIZE"), (4, u "LOG2_ARRAY_INT_INDEX_SCALE"), (54, u "JLA"), (0, u "Ljdk/internal/access/JavaLangAccess;"), (11, u "LOG2_ARRAY_BOOLEAN_INDEX_SCALE"), (9, u "LOG2_ARRAY_BYTE_INDEX_SCALE"), (5, u "LOG2_ARRAY_CHAR_INDEX_SCALE"), (5, u "LOG2_ARRAY_SHORT_INDEX_SCALE"), (18, u "LOG2_ARRAY_FLOAT_INDEX_SCALE"), (24, u "LOG2_ARRAY_DOUBLE_INDEX_SCALE"), (89, u "T_BOOLEAN"), (2, u "T_CHAR"), (1, u "T_FLOAT"), (1, u "T_DOUBLE"), (1, u "T_BYTE"), (1, u "T_SHORT"), (1, u "T_INT"), (1, u "T_LONG"), (1, u "SOFT_MAX_ARRAY_LENGTH")] 83

def k13m0 : Method := { name := "<init>", desc := "()V", sig := { parameters := [], returnType := none }, accessFlags := 2, code := none }
/-- jdk/internal/util/ArraysSupport -/
def k13 : Class := { plain "jdk/internal/util/ArraysSupport" (some 0) with
  accessFlags := 33
  interfaces := #[]
  cf := some (fileOf pool13 21 #[] #[{ accessFlags := 2, nameIndex := 9, descriptorIndex := 19, attributes := #[] }] 33 16 #[] #[{ accessFlags := 24, nameIndex := 28, descriptorIndex := 29, attributes := #[] }, { accessFlags := 26, nameIndex := 38, descriptorIndex := 39, attributes := #[] }, { accessFlags := 25, nameIndex := 121, descriptorIndex := 25, attributes := #[] }, { accessFlags := 25, nameIndex := 131, descriptorIndex := 25, attributes := #[] }, { accessFlags := 25, nameIndex := 137, descriptorIndex := 25, attributes := #[] }, { accessFlags := 25, nameIndex := 143, descriptorIndex := 25, attributes := #[] }, { accessFlags := 25, nameIndex := 53, descriptorIndex := 25, attributes := #[] }, { accessFlags := 25, nameIndex := 24, descriptorIndex := 25, attributes := #[] }, { accessFlags := 25, nameIndex := 162, descriptorIndex := 25, attributes := #[] }, { accessFlags := 25, nameIndex := 187, descriptorIndex := 25, attributes := #[] }, { accessFlags := 26, nameIndex := 48, descriptorIndex := 25, attributes := #[] }, { accessFlags := 25, nameIndex := 277, descriptorIndex := 25, attributes := #[] }, { accessFlags := 25, nameIndex := 280, descriptorIndex := 25, attributes := #[] }, { accessFlags := 25, nameIndex := 282, descriptorIndex := 25, attributes := #[] }, { accessFlags := 25, nameIndex := 284, descriptorIndex := 25, attributes := #[] }, { accessFlags := 25, nameIndex := 286, descriptorIndex := 25, attributes := #[] }, { accessFlags := 25, nameIndex := 288, descriptorIndex := 25, attributes := #[] }, { accessFlags := 25, nameIndex := 290, descriptorIndex := 25, attributes := #[] }, { accessFlags := 25, nameIndex := 292, descriptorIndex := 25, attributes := #[] }, { accessFlags := 26, nameIndex := 108, descriptorIndex := 109, attributes := #[] }, { accessFlags := 25, nameIndex := 294, descriptorIndex := 25, attributes := #[] }])
  fields := #[{ name := "U", type := (.object "jdk/internal/misc/Unsafe"), accessFlags := 24, slot := 0, constantValue := 0 }, { name := "BIG_ENDIAN", type := .boolean, accessFlags := 26, slot := 1, constantValue := 0 }, { name := "LOG2_ARRAY_BOOLEAN_INDEX_SCALE", type := .int, accessFlags := 25, slot := 2, constantValue := 0 }, { name := "LOG2_ARRAY_BYTE_INDEX_SCALE", type := .int, accessFlags := 25, slot := 3, constantValue := 0 }, { name := "LOG2_ARRAY_CHAR_INDEX_SCALE", type := .int, accessFlags := 25, slot := 4, constantValue := 0 }, { name := "LOG2_ARRAY_SHORT_INDEX_SCALE", type := .int, accessFlags := 25, slot := 5, constantValue := 0 }, { name := "LOG2_ARRAY_INT_INDEX_SCALE", type := .int, accessFlags := 25, slot := 6, constantValue := 0 }, { name := "LOG2_ARRAY_LONG_INDEX_SCALE", type := .int, accessFlags := 25, slot := 7, constantValue := 0 }, { name := "LOG2_ARRAY_FLOAT_INDEX_SCALE", type := .int, accessFlags := 25, slot := 8, constantValue := 0 }, { name := "LOG2_ARRAY_DOUBLE_INDEX_SCALE", type := .int, accessFlags := 25, slot := 9, constantValue := 0 }, { name := "LOG2_BYTE_BIT_SIZE", type := .int, accessFlags := 26, slot := 10, constantValue := 0 }, { name := "T_BOOLEAN", type := .int, accessFlags := 25, slot := 11, constantValue := 0 }, { name := "T_CHAR", type := .int, accessFlags := 25, slot := 12, constantValue := 0 }, { name := "T_FLOAT", type := .int, accessFlags := 25, slot := 13, constantValue := 0 }, { name := "T_DOUBLE", type := .int, accessFlags := 25, slot := 14, constantValue := 0 }, { name := "T_BYTE", type := .int, accessFlags := 25, slot := 15, constantValue := 0 }, { name := "T_SHORT", type := .int, accessFlags := 25, slot := 16, constantValue := 0 }, { name := "T_INT", type := .int, accessFlags := 25, slot := 17, constantValue := 0 }, { name := "T_LONG", type := .int, accessFlags := 25, slot := 18, constantValue := 0 }, { name := "JLA", type := (.object "jdk/internal/access/JavaLangAccess"), accessFlags := 26, slot := 19, constantValue := 0 }, { name := "SOFT_MAX_ARRAY_LENGTH", type := .int, accessFlags := 25, slot := 20, constantValue := 0 }]
  methods := #[k13m0]
  instanceTypes := #[]
  staticTypes := #[(.object "jdk/internal/misc/Unsafe"), .boolean, .int, .int, .int, .int, .int, .int, .int, .int, .int, .int, .int, .int, .int, .int, .int, .int, .int, (.object "jdk/internal/access/JavaLangAccess"), .int]
  resolved := Array.replicate 378 none
  statics := none }

def pool14 : Array CpInfo := pool [(1, u "java/lang/Cloneable"), (0, .class_ 1), (0, u "java/lang/Object"), (0, .class_ 3)] 3

/-- java/lang/Cloneable -/
def k14 : Class := { plain "java/lang/Cloneable" (some 0) with
  accessFlags := 1537
  interfaces := #[]
  cf := some (fileOf pool14 2 #[] #[] 1537 4 #[] #[])
  fields := #[]
  methods := #[]
  instanceTypes := #[]
  staticTypes := #[]
  resolved := Array.replicate 8 none
  statics := none }

/-- the primitive byte -/
def k15 : Class := { plain "byte" none with kind := .primitive 'B', accessFlags := 0x411 }
/-- [B -/
def k16 : Class := { plain "[B" (some 0) with kind := .array 15 .byte, interfaces := #[14, 2], accessFlags := 1041 }

/-- the primitive char -/
def k17 : Class := { plain "char" none with kind := .primitive 'C', accessFlags := 0x411 }
/-- [C -/
def k18 : Class := { plain "[C" (some 0) with kind := .array 17 .char, interfaces := #[14, 2], accessFlags := 1041 }

/-- the primitive int -/
def k19 : Class := { plain "int" none with kind := .primitive 'I', accessFlags := 0x411 }
/-- [I -/
def k20 : Class := { plain "[I" (some 0) with kind := .array 19 .int, interfaces := #[14, 2], accessFlags := 1041 }

def heap : Heap := #[{ cls := 7, slots := #[.long 0, .int 1, .null, .int 0, .null, .int 0, .int 0], vm := .statics 7 },
  { cls := 12, slots := #[.null, .null, .null], vm := .statics 12 }]
def classes : Array Class := #[k0, k1, k2, k3, k4, k5, k6, k7, k8, k9, k10, k11, k12, k13, k14, k15, k16, k17, k18, k19, k20]
def interned : List (Array UInt16 × Addr) := []
def slotsUsed : Nat := 10
def theMethod : MethodId := ⟨1, 1⟩
def args0 : Array Value := #[.int 5, .int 5, .int 5, .int 5, .int 5]
def aboutOver (below : List Frame) : State where
  vm := { classes := classes, interned := interned.toArray }
  heap := heap
  slotsUsed := slotsUsed
  threads := #[{ frames := .invoking theMethod args0 :: below }]
def below0 : List Frame := [.native { method := ⟨0, 0⟩, args := #[] }]
def about1 : State := aboutOver below0
def p0 : Program := .bare "" "" ""
def e0 : Env := launch0.env 0 0 0
theorem w_frames : about1.frames = Frame.invoking theMethod args0 :: below0 := rfl
set_option maxRecDepth 65536 in
theorem w_args : argsFit about1.vm theMethod args0 = true := by decide +kernel
set_option maxRecDepth 65536 in
theorem w_heap : heapFits about1 = true := by decide +kernel
set_option maxRecDepth 65536 in
theorem w_runnable : about1.curStatus? = some .runnable := by decide +kernel
set_option maxRecDepth 65536 in
theorem w_alone : about1.alone = true := by decide +kernel
set_option maxRecDepth 65536 in
theorem w_named : about1.methodNamed? x = some theMethod := by decide +kernel
set_option maxRecDepth 65536 in
theorem w_hears : about1.hears theMethod below0 = true := by decide +kernel
set_option maxRecDepth 65536 in
theorem w_ripe : about1.ripe theMethod args0 below0 = true := by decide +kernel
theorem w_running : about1.status = .running := rfl
set_option maxRecDepth 65536 in
theorem w_room : about1.hasRoom e0.platform room_1 = true :=
  launch0.hasRoom_least _ room_1 (by decide +kernel) (by decide +kernel) (by decide +kernel) (by decide +kernel) (by decide +kernel) (by decide +kernel)
theorem allAtoms_all (ts : List Jvm.Cond) (a : Array Jvm.Value) (st : Jvm.State) : (allAtoms ts).before a st = ts.all (fun c => c.before a st) := by
  induction ts with
  | nil => rfl
  | cons c t ih =>
    show (Jvm.Cond.and c (allAtoms t)).before a st = _
    rw [Jvm.Cond.before_and, ih, List.all_cons]
def words1 : List Jvm.Cond := Jvm.Cond.code x code maxLocals ret :: tables_1
/-- a 'code' word, met by the world's own term for the bytes: nothing is compared byte by byte -/
theorem code_word {y : MethodName} {bytes : ByteArray} {mx : Nat} {rt : Option FieldType} {a : Array Value} {s : State} {m : MethodId} {meth : Method} {c : Code} (h1 : s.methodNamed? y = some m) (h2 : s.vm.method? m = some meth) (h3 : meth.code = some c) (h4 : c.code = bytes)
    (h5 : (c.maxLocals == mx && c.exceptionTable.isEmpty && decide (c.maxStack ≤ mostOperands) && decide (meth.sig.returnType = rt) && !meth.locks && decide (parseMethodDescriptor y.desc = some meth.sig)) = true) : (Jvm.Cond.code y bytes mx rt).before a s = true := by
  simp only [Bool.and_eq_true, beq_iff_eq, Bool.not_eq_true', decide_eq_true_eq] at h5
  obtain ⟨⟨⟨⟨⟨g1, g2⟩, g3⟩, g4⟩, g5⟩, g6⟩ := h5
  simp [Cond.before, Cond.holds, Cond.value, h1, h2, h3, h4, g1, g2, g3, g4, g5, g6]
def isCode : Jvm.Cond → Bool
  | .code _ _ _ _ => true
  | _ => false
theorem all_split {L : List Jvm.Cond} {P : Jvm.Cond → Bool} (h1 : L.all (fun c => isCode c || P c) = true) (h2 : ∀ c ∈ L.filter isCode, P c = true) : L.all P = true := by
  refine List.all_eq_true.mpr fun c hc => ?_
  have h := List.all_eq_true.mp h1 c hc
  rcases Bool.eq_false_or_eq_true (isCode c) with hi | hi
  · exact h2 c (List.mem_filter.mpr ⟨hc, hi⟩)
  · simpa [hi] using h
set_option maxRecDepth 65536 in
theorem w_c0 : (Jvm.Cond.code x code maxLocals ret).before args0 about1 = true := code_word (m := ⟨1, 1⟩) (meth := k1m1) (c := k1c1) (by decide +kernel) rfl rfl rfl (by decide +kernel)
set_option maxRecDepth 65536 in
theorem w_c1 : (Jvm.Cond.code ({ cls := "java/lang/String", name := "<init>", desc := "([C)V" } : Jvm.MethodName) jdk_42_method_3_code (2 : Nat) (Option.none : Option Jvm.ClassFile.FieldType)).before args0 about1 = true := code_word (m := ⟨7, 1⟩) (meth := k7m1) (c := k7c1) (by decide +kernel) rfl rfl rfl (by decide +kernel)
set_option maxRecDepth 65536 in
theorem w_c2 : (Jvm.Cond.code ({ cls := "java/lang/String", name := "<init>", desc := "([CIILjava/lang/Void;)V" } : Jvm.MethodName) jdk_42_method_149_code (6 : Nat) (Option.none : Option Jvm.ClassFile.FieldType)).before args0 about1 = true := code_word (m := ⟨7, 4⟩) (meth := k7m4) (c := k7c4) (by decide +kernel) rfl rfl rfl (by decide +kernel)
set_option maxRecDepth 65536 in
theorem w_c3 : (Jvm.Cond.code ({ cls := "java/lang/Object", name := "<init>", desc := "()V" } : Jvm.MethodName) object_method_1_code (1 : Nat) (Option.none : Option Jvm.ClassFile.FieldType)).before args0 about1 = true := code_word (m := ⟨0, 0⟩) (meth := k0m0) (c := k0c0) (by decide +kernel) rfl rfl rfl (by decide +kernel)
set_option maxRecDepth 65536 in
theorem w_c4 : (Jvm.Cond.code ({ cls := "java/lang/StringUTF16", name := "compress", desc := "([CII)[B" } : Jvm.MethodName) jdk_52_method_16_code (6 : Nat) (Option.some (Jvm.ClassFile.FieldType.array Jvm.ClassFile.FieldType.byte))).before args0 about1 = true := code_word (m := ⟨8, 2⟩) (meth := k8m2) (c := k8c2) (by decide +kernel) rfl rfl rfl (by decide +kernel)
set_option maxRecDepth 65536 in
theorem w_c5 : (Jvm.Cond.code ({ cls := "java/lang/StringUTF16", name := "compress", desc := "([CI[BII)I" } : Jvm.MethodName) jdk_52_method_21_code (7 : Nat) (Option.some Jvm.ClassFile.FieldType.int)).before args0 about1 = true := code_word (m := ⟨8, 3⟩) (meth := k8m3) (c := k8c3) (by decide +kernel) rfl rfl rfl (by decide +kernel)
set_option maxRecDepth 65536 in
theorem w_c6 : (Jvm.Cond.code ({ cls := "java/lang/StringUTF16", name := "coderFromArrayLen", desc := "([BI)B" } : Jvm.MethodName) jdk_52_method_15_code (2 : Nat) (Option.some Jvm.ClassFile.FieldType.byte)).before args0 about1 = true := code_word (m := ⟨8, 1⟩) (meth := k8m1) (c := k8c1) (by decide +kernel) rfl rfl rfl (by decide +kernel)
set_option maxRecDepth 65536 in
theorem w_c7 : (Jvm.Cond.code ({ cls := "com/example/cerrojo/cerrojo/config/ServerAddress", name := "of", desc := "(Ljava/lang/String;I)Lcom/example/cerrojo/cerrojo/config/ServerAddress;" } : Jvm.MethodName) prog_3_method_3_code (2 : Nat) (Option.some (Jvm.ClassFile.FieldType.object "com/example/cerrojo/cerrojo/config/ServerAddress"))).before args0 about1 = true := code_word (m := ⟨9, 1⟩) (meth := k9m1) (c := k9c1) (by decide +kernel) rfl rfl rfl (by decide +kernel)
set_option maxRecDepth 65536 in
theorem w_c8 : (Jvm.Cond.code ({ cls := "java/util/Objects", name := "requireNonNull", desc := "(Ljava/lang/Object;Ljava/lang/String;)Ljava/lang/Object;" } : Jvm.MethodName) jdk_31_method_11_code (2 : Nat) (Option.some (Jvm.ClassFile.FieldType.object "java/lang/Object"))).before args0 about1 = true := code_word (m := ⟨10, 1⟩) (meth := k10m1) (c := k10c1) (by decide +kernel) rfl rfl rfl (by decide +kernel)
set_option maxRecDepth 65536 in
theorem w_c9 : (Jvm.Cond.code ({ cls := "java/lang/String", name := "isEmpty", desc := "()Z" } : Jvm.MethodName) jdk_42_method_55_code (1 : Nat) (Option.some Jvm.ClassFile.FieldType.boolean)).before args0 about1 = true := code_word (m := ⟨7, 2⟩) (meth := k7m2) (c := k7c2) (by decide +kernel) rfl rfl rfl (by decide +kernel)
set_option maxRecDepth 65536 in
theorem w_c10 : (Jvm.Cond.code ({ cls := "com/example/cerrojo/cerrojo/config/ServerAddress", name := "<init>", desc := "(Ljava/lang/String;I)V" } : Jvm.MethodName) prog_3_method_1_code (3 : Nat) (Option.none : Option Jvm.ClassFile.FieldType)).before args0 about1 = true := code_word (m := ⟨9, 0⟩) (meth := k9m0) (c := k9c0) (by decide +kernel) rfl rfl rfl (by decide +kernel)
set_option maxRecDepth 65536 in
theorem w_c11 : (Jvm.Cond.code ({ cls := "com/example/cerrojo/cerrojo/config/ServerAddress", name := "host", desc := "()Ljava/lang/String;" } : Jvm.MethodName) prog_3_method_7_code (1 : Nat) (Option.some (Jvm.ClassFile.FieldType.object "java/lang/String"))).before args0 about1 = true := code_word (m := ⟨9, 2⟩) (meth := k9m2) (c := k9c2) (by decide +kernel) rfl rfl rfl (by decide +kernel)
set_option maxRecDepth 65536 in
theorem w_c12 : (Jvm.Cond.code ({ cls := "java/lang/String", name := "equals", desc := "(Ljava/lang/Object;)Z" } : Jvm.MethodName) jdk_42_method_66_code (3 : Nat) (Option.some Jvm.ClassFile.FieldType.boolean)).before args0 about1 = true := code_word (m := ⟨7, 3⟩) (meth := k7m3) (c := k7c3) (by decide +kernel) rfl rfl rfl (by decide +kernel)
set_option maxRecDepth 65536 in
theorem w_c13 : (Jvm.Cond.code ({ cls := "com/example/cerrojo/cerrojo/config/ServerAddress", name := "port", desc := "()I" } : Jvm.MethodName) prog_3_method_8_code (1 : Nat) (Option.some Jvm.ClassFile.FieldType.int)).before args0 about1 = true := code_word (m := ⟨9, 3⟩) (meth := k9m3) (c := k9c3) (by decide +kernel) rfl rfl rfl (by decide +kernel)
set_option maxRecDepth 65536 in
theorem w_c14 : (Jvm.Cond.code ({ cls := "com/example/cerrojo/cerrojo/config/ServerAddress", name := "equals", desc := "(Ljava/lang/Object;)Z" } : Jvm.MethodName) prog_3_method_10_code (3 : Nat) (Option.some Jvm.ClassFile.FieldType.boolean)).before args0 about1 = true := code_word (m := ⟨9, 4⟩) (meth := k9m4) (c := k9c4) (by decide +kernel) rfl rfl rfl (by decide +kernel)
set_option maxRecDepth 65536 in
theorem w_c15 : (Jvm.Cond.code ({ cls := "java/lang/StringLatin1", name := "equals", desc := "([B[B)Z" } : Jvm.MethodName) jdk_43_method_13_code (3 : Nat) (Option.some Jvm.ClassFile.FieldType.boolean)).before args0 about1 = true := code_word (m := ⟨11, 1⟩) (meth := k11m1) (c := k11c1) (by decide +kernel) rfl rfl rfl (by decide +kernel)
def codes1 : List Jvm.Cond := [Jvm.Cond.code x code maxLocals ret, Jvm.Cond.code ({ cls := "java/lang/String", name := "<init>", desc := "([C)V" } : Jvm.MethodName) jdk_42_method_3_code (2 : Nat) (Option.none : Option Jvm.ClassFile.FieldType), Jvm.Cond.code ({ cls := "java/lang/String", name := "<init>", desc := "([CIILjava/lang/Void;)V" } : Jvm.MethodName) jdk_42_method_149_code (6 : Nat) (Option.none : Option Jvm.ClassFile.FieldType), Jvm.Cond.code ({ cls := "java/lang/Object", name := "<init>", desc := "()V" } : Jvm.MethodName) object_method_1_code (1 : Nat) (Option.none : Option Jvm.ClassFile.FieldType), Jvm.Cond.code ({ cls := "java/lang/StringUTF16", name := "compress", desc := "([CII)[B" } : Jvm.MethodName) jdk_52_method_16_code (6 : Nat) (Option.some (Jvm.ClassFile.FieldType.array Jvm.ClassFile.FieldType.byte)), Jvm.Cond.code ({ cls := "java/lang/StringUTF16", name := "compress", desc := "([CI[BII)I" } : Jvm.MethodName) jdk_52_method_21_code (7 : Nat) (Option.some Jvm.ClassFile.FieldType.int), Jvm.Cond.code ({ cls := "java/lang/StringUTF16", name := "coderFromArrayLen", desc := "([BI)B" } : Jvm.MethodName) jdk_52_method_15_code (2 : Nat) (Option.some Jvm.ClassFile.FieldType.byte), Jvm.Cond.code ({ cls := "com/example/cerrojo/cerrojo/config/ServerAddress", name := "of", desc := "(Ljava/lang/String;I)Lcom/example/cerrojo/cerrojo/config/ServerAddress;" } : Jvm.MethodName) prog_3_method_3_code (2 : Nat) (Option.some (Jvm.ClassFile.FieldType.object "com/example/cerrojo/cerrojo/config/ServerAddress")), Jvm.Cond.code ({ cls := "java/util/Objects", name := "requireNonNull", desc := "(Ljava/lang/Object;Ljava/lang/String;)Ljava/lang/Object;" } : Jvm.MethodName) jdk_31_method_11_code (2 : Nat) (Option.some (Jvm.ClassFile.FieldType.object "java/lang/Object")), Jvm.Cond.code ({ cls := "java/lang/String", name := "isEmpty", desc := "()Z" } : Jvm.MethodName) jdk_42_method_55_code (1 : Nat) (Option.some Jvm.ClassFile.FieldType.boolean), Jvm.Cond.code ({ cls := "com/example/cerrojo/cerrojo/config/ServerAddress", name := "<init>", desc := "(Ljava/lang/String;I)V" } : Jvm.MethodName) prog_3_method_1_code (3 : Nat) (Option.none : Option Jvm.ClassFile.FieldType), Jvm.Cond.code ({ cls := "com/example/cerrojo/cerrojo/config/ServerAddress", name := "host", desc := "()Ljava/lang/String;" } : Jvm.MethodName) prog_3_method_7_code (1 : Nat) (Option.some (Jvm.ClassFile.FieldType.object "java/lang/String")), Jvm.Cond.code ({ cls := "java/lang/String", name := "equals", desc := "(Ljava/lang/Object;)Z" } : Jvm.MethodName) jdk_42_method_66_code (3 : Nat) (Option.some Jvm.ClassFile.FieldType.boolean), Jvm.Cond.code ({ cls := "com/example/cerrojo/cerrojo/config/ServerAddress", name := "port", desc := "()I" } : Jvm.MethodName) prog_3_method_8_code (1 : Nat) (Option.some Jvm.ClassFile.FieldType.int), Jvm.Cond.code ({ cls := "com/example/cerrojo/cerrojo/config/ServerAddress", name := "equals", desc := "(Ljava/lang/Object;)Z" } : Jvm.MethodName) prog_3_method_10_code (3 : Nat) (Option.some Jvm.ClassFile.FieldType.boolean), Jvm.Cond.code ({ cls := "java/lang/StringLatin1", name := "equals", desc := "([B[B)Z" } : Jvm.MethodName) jdk_43_method_13_code (3 : Nat) (Option.some Jvm.ClassFile.FieldType.boolean)]
set_option maxRecDepth 65536 in
theorem codes_eq : words1.filter isCode = codes1 := rfl
theorem w_codes : ∀ c ∈ words1.filter isCode, c.before args0 about1 = true := by
  rw [codes_eq]
  intro c hc
  simp only [codes1, List.mem_cons, List.not_mem_nil, or_false] at hc
  rcases hc with rfl | rfl | rfl | rfl | rfl | rfl | rfl | rfl | rfl | rfl | rfl | rfl | rfl | rfl | rfl | rfl
  · exact w_c0
  · exact w_c1
  · exact w_c2
  · exact w_c3
  · exact w_c4
  · exact w_c5
  · exact w_c6
  · exact w_c7
  · exact w_c8
  · exact w_c9
  · exact w_c10
  · exact w_c11
  · exact w_c12
  · exact w_c13
  · exact w_c14
  · exact w_c15
set_option maxRecDepth 65536 in
theorem w_t1 : (words1.take 24).all (fun c => isCode c || c.before args0 about1) = true := by decide +kernel
set_option maxRecDepth 65536 in
theorem w_t2 : ((words1.drop 24).take 24).all (fun c => isCode c || c.before args0 about1) = true := by decide +kernel
set_option maxRecDepth 65536 in
theorem w_t3 : (((words1.drop 24).drop 24).take 24).all (fun c => isCode c || c.before args0 about1) = true := by decide +kernel
set_option maxRecDepth 65536 in
theorem w_t4 : (((words1.drop 24).drop 24).drop 24).all (fun c => isCode c || c.before args0 about1) = true := by decide +kernel
theorem w_tables : (allAtoms (Jvm.Cond.code x code maxLocals ret :: tables_1)).before args0 about1 = true := by
  rw [allAtoms_all]
  show words1.all (fun c => c.before args0 about1) = true
  refine all_split ?_ w_codes
  rw [← List.take_append_drop 24 words1, List.all_append, w_t1, ← List.take_append_drop 24 (words1.drop 24), List.all_append, w_t2, ← List.take_append_drop 24 ((words1.drop 24).drop 24), List.all_append, w_t3, w_t4]
  rfl
set_option maxRecDepth 65536 in
theorem w_rest : rest_1_c.before args0 about1 = true := by decide +kernel
set_option maxRecDepth 65536 in
theorem w_case : (Jvm.Cond.and given_1 narrow_1).before args0 about1 = true := by decide +kernel
theorem w_applies : (headSpec (Jvm.Cond.code x code maxLocals ret :: tables_1) room_1).applies x e0.platform about1 = true :=
  (Spec.applies_iff w_frames).mpr ⟨w_running, w_runnable, w_alone, w_named, w_hears, w_ripe, w_room, w_tables⟩
theorem atStart : AtStart classFile x code maxLocals ret World_1 tables_1 room_1 Calls_1 rest_1 Pre_1 launch0 p0 e0 about1 theMethod args0 below0 :=
  ⟨lists_1, trivial, launch0.admits_env _ _ _, launch0.least_env, fairChoices_fair.cas, fairChoices_fair.clock, w_frames, w_args, w_heap, w_applies, trivial, w_rest, w_case⟩
end start1
theorem witness_1 : WitnessClaimed_1 := ⟨start1.p0, start1.e0, start1.about1, start1.theMethod, start1.args0, start1.below0, start1.atStart⟩
end Jvm.Pilot.@@N@@
