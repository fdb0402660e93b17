import JvmDerived
import JvmDerived.Pilot.@@N@@Statement
import JvmDerived.Pilot.@@N@@Code
set_option linter.unusedVariables false
set_option linter.unusedSimpArgs false
set_option maxRecDepth 65536
set_option maxHeartbeats 40000000
namespace Jvm.RoadKit
open Sem ClassFile Op Lib Jvm.Stand Jvm.Free Jvm.LawKit
section New
variable {p : Program} {l : Launch} {e : Env} {R : Room} {s : State} {m : MethodId} {args : Array Value} {below : List Frame} {meth : Method} {c : Code} {T : State} {locs : List Loc} {cells slots : Nat}
theorem retI (X : Stand p l e R s m args below meth c T locs cells slots) (hx : p.tables.exec = Jvm.exec) {pc : Nat} {Ls : Array Slot} {z : Int32} {rest : List Value} (hret : meth.sig.returnType = some .int) (hd : decode c.code pc = .ok (.ireturn, 1)) {fs : List Frame}
    (hl : ∀ (f : JFrame) (acts : List Action), f.method = m → f.locked = none → f.entered = [] → (doReturn e (T.setTop f) acts (some (.int z))).1 = T.setFrames fs) : Steps p.tables e below (T.setTop (mkF m pc Ls (.int z :: rest))) (T.setFrames fs) := by
  have hm' : T.vm.method? m = some meth := X.method'
  have hn : narrow .int (.int z) = .int z := rfl
  show Steps p.tables e below (T.setTop { method := m, pc := pc, locals := Ls, stack := _ :: rest, locked := none }) _
  jvm_step X.here [X.here.top, hx, hd, hm', hret, hn]
  first | (intro acts; rw [hl _ acts rfl rfl rfl]) | rw [hl _ _ rfl rfl rfl]
  exact Steps.refl _
end New
end Jvm.RoadKit
/- laws to paste: Road.backV, Road.eqW, Road.codOf (cut by pick.py; bodies as the Statement names them) -/
namespace Jvm.Pilot.@@N@@
namespace StrChars
open Jvm Sem ClassFile Op Lib Jvm.Stand Jvm.Free.XT Jvm.Free.ALB Jvm.Free.JM Jvm.Free
open Jvm.Lib.Cold (StaticIs)
/-- a char array whose places are chars -/
def Ch (a : Addr) (A : Cell) (U : State) : Prop := Arr .char a A U ∧ Typed .char A
theorem Ch.mv {a : Addr} {A : Cell} {U U' : State} (h : Ch a A U) (hal : U.vm.Alike U'.vm) (hh : U'.heap = U.heap) : Ch a A U' := ⟨h.1.mv hal hh, h.2⟩
theorem Ch.keep {a : Addr} {A : Cell} {U U' : State} (h : Ch a A U) (hal : U.vm.Alike U'.vm) (hk : U'.heap[a]? = some A) : Ch a A U' := ⟨h.1.keep hal hk, h.2⟩
/-- what place i of a char[]'s cell holds -/
def cv (A : Cell) (i : Nat) : Int32 := match A.slots[i]? with | some (.int x) => x | _ => 0
theorem Ch.get {a : Addr} {A : Cell} {U : State} (h : Ch a A U) {i : Nat} (hi : i < A.slots.size) : A.slots[i]? = some (.int (cv A i)) := by
  have e := Array.getElem?_eq_getElem hi
  have f := h.2 i _ e
  unfold cv; rw [e]
  generalize A.slots[i] = v at f
  cases v <;> simp [fits] at f ⊢
/-- the byte that i2b leaves of a char -/
def lo8 (x : Int32) : Int32 := x.toInt8.toInt32
theorem fits_lo8 (y : Int32) : fits .byte (.int (lo8 y)) = true := by
  have h1 := y.toInt8.le_toInt
  have h2 := y.toInt8.toInt_lt
  simp only [lo8, fits, Bool.and_eq_true, decide_eq_true_eq, Int32.le_iff_toInt_le, Int8.toInt_toInt32, show (-128 : Int32).toInt = -128 from by decide, show (127 : Int32).toInt = 127 from by decide]
  omega
/-- A' is A but that each place j of lo .. hi - 1 holds f j -/
def Laid (A A' : Cell) (lo hi : Nat) (f : Nat → Value) : Prop := A'.cls = A.cls ∧ A'.vm = A.vm ∧ A'.slots.size = A.slots.size ∧ ∀ i, A'.slots[i]? = if lo ≤ i ∧ i < hi then some (f i) else A.slots[i]?
theorem Laid.zero (A : Cell) (lo : Nat) (f : Nat → Value) : Laid A A lo (lo + 0) f := ⟨rfl, rfl, rfl, fun i => by rw [if_neg (by omega)]⟩
theorem Laid.step {A Ak : Cell} {lo k : Nat} {f : Nat → Value} {v : Value} (h : Laid A Ak lo k f) (hlo : lo ≤ k) (hk : k < Ak.slots.size) (hv : v = f k) : Laid A (Ak.setSlot k v) lo (k + 1) f := by
  refine ⟨h.1, h.2.1, by simpa [Cell.setSlot] using h.2.2.1, fun i => ?_⟩
  by_cases e : k = i
  · subst e; rw [Cell.slots_setSlot_self v hk, if_pos (by omega), hv]
  · rw [Cell.slots_setSlot_ne v e, h.2.2.2 i]
    by_cases q : lo ≤ i ∧ i < k
    · rw [if_pos q, if_pos (by omega)]
    · rw [if_neg q, if_neg (by omega)]
def U16 : String := "java/lang/StringUTF16"
namespace Cmp5
def yN : MethodName := ⟨"java/lang/StringUTF16", "compress", "([CI[BII)I"⟩
abbrev yB : ByteArray := jdk_52_method_21_code
theorem d0 : decode yB 0 = .ok (.iconst 0, 1) := by decide +kernel
theorem d1 : decode yB 1 = .ok (.istore 5, 2) := by decide +kernel
theorem d3 : decode yB 3 = .ok (.iload 5, 2) := by decide +kernel
theorem d5 : decode yB 5 = .ok (.iload 4, 2) := by decide +kernel
theorem d7 : decode yB 7 = .ok (.if_icmp (.ge) 37, 3) := by decide +kernel
theorem d10 : decode yB 10 = .ok (.aload_n 0, 1) := by decide +kernel
theorem d11 : decode yB 11 = .ok (.iload_n 1, 1) := by decide +kernel
theorem d12 : decode yB 12 = .ok (.caload, 1) := by decide +kernel
theorem d13 : decode yB 13 = .ok (.istore 6, 2) := by decide +kernel
theorem d15 : decode yB 15 = .ok (.iload 6, 2) := by decide +kernel
theorem d17 : decode yB 17 = .ok (.sipush 255, 3) := by decide +kernel
theorem d20 : decode yB 20 = .ok (.if_icmp (.le) 6, 3) := by decide +kernel
theorem d26 : decode yB 26 = .ok (.aload_n 2, 1) := by decide +kernel
theorem d27 : decode yB 27 = .ok (.iload_n 3, 1) := by decide +kernel
theorem d28 : decode yB 28 = .ok (.iload 6, 2) := by decide +kernel
theorem d30 : decode yB 30 = .ok (.i2b, 1) := by decide +kernel
theorem d31 : decode yB 31 = .ok (.bastore, 1) := by decide +kernel
theorem d32 : decode yB 32 = .ok (.iinc 1 1, 3) := by decide +kernel
theorem d35 : decode yB 35 = .ok (.iinc 3 1, 3) := by decide +kernel
theorem d38 : decode yB 38 = .ok (.iinc 5 1, 3) := by decide +kernel
theorem d41 : decode yB 41 = .ok (.goto (-38), 3) := by decide +kernel
theorem d44 : decode yB 44 = .ok (.iload 4, 2) := by decide +kernel
theorem d46 : decode yB 46 = .ok (.ireturn, 1) := by decide +kernel
def site : List Cond := []
def tab : Cond := tabOf yN yB 7 (some .int) site
def P (b : Addr) (A : Cell) (d : Addr) (B : Cell) (o q len : Nat) (args : Array Value) (s : State) : Prop := args = #[.ref b, .int (Int32.ofNat o), .ref d, .int (Int32.ofNat q), .int (Int32.ofNat len)] ∧ Ch b A s ∧ Arr .byte d B s ∧ b ≠ d ∧ o + len ≤ A.slots.size ∧ q + len ≤ B.slots.size ∧ ∀ i, i < len → ¬ 255 < cv A (o + i)
def E (b : Addr) (A : Cell) (d : Addr) (B : Cell) (o q len : Nat) (r : Option Value) (s u : State) : Prop := r = some (.int (Int32.ofNat len)) ∧ ∃ B', Put d B' s u ∧ Laid B B' q (q + len) (fun j => Value.int (lo8 (cv A (o + (j - q)))))
/-- no char of the range above 255: len; the places written hold each char's low byte -/
theorem law (l : Launch) (b : Addr) (A : Cell) (d : Addr) (B : Cell) (o q len : Nat) : Law l yN 5 5 0 0 yB 7 (some .int) site (P b A d B o q len) (E b A d B o q len) (copyLocs d q len) 0 0 := by
  refine Law.of_walk (plainFor_of_name (by decide +kernel)) (by decide +kernel) (by decide +kernel) (by decide) (fun _ _ h => by rw [h.1]; rfl) (fun _ U U' hal hh h => ⟨h.1, h.2.1.mv hal hh, h.2.2.1.mv hal hh, h.2.2.2⟩) (fun r U U' V V' h1 hal h2 h => ⟨h.1, h.2.elim fun B' q => ⟨B', q.1.mv h1 h2, q.2⟩⟩) ?_
  intro p e s m args below meth c s₁ X0 hexec hbytes hml hret hlk hnm hown hh0 W hP
  obtain ⟨rfl, hA, hB, hne, l1, l2, hp⟩ := hP
  have c1 : Steps p.tables e below (s₁.setTop (entryFrame m #[.ref b, .int (Int32.ofNat o), .ref d, .int (Int32.ofNat q), .int (Int32.ofNat len)] 7)) (s₁.setTop (mkF m 0 #[.val (.ref b), .val (.int (Int32.ofNat o)), .val (.ref d), .val (.int (Int32.ofNat q)), .val (.int (Int32.ofNat len)), .unset, .unset] [])) := entry rfl
  have hA0 := hA.1.mv X0.warmed.alike hh0
  have hB0 := hB.mv X0.warmed.alike hh0
  have a31 := hA.1.2.2.2
  have c2 : Steps p.tables e below (s₁.setTop (entryFrame m #[.ref b, .int (Int32.ofNat o), .ref d, .int (Int32.ofNat q), .int (Int32.ofNat len)] 7)) (s₁.setTop (mkF m 3 #[.val (.ref b), .val (.int (Int32.ofNat o)), .val (.ref d), .val (.int (Int32.ofNat q)), .val (.int (Int32.ofNat len)), .val (.int 0), .unset] [])) := c1.trans (by
    refine iconstV X0.here hexec rfl 0 (hb hbytes d0) (by decide) ?_
    refine XS.istore X0.here hexec rfl (hb hbytes d1) rfl rfl ?_
    exact Steps.refl _)
  have loop : ∀ (r i : Nat), i + r = len → ∀ (z : Slot), (z = .unset ∨ ∃ w, z = .val w ∧ w.category = 1) → ∀ (Tl : State) (Bk : Cell), Stand p l e { frames := 0, locals := 0, cells := 0, slots := 0 } s m #[.ref b, .int (Int32.ofNat o), .ref d, .int (Int32.ofNat q), .int (Int32.ofNat len)] below meth c Tl ([] ++ copyLocs d q i) 0 0 → Put d Bk s₁ Tl → Laid B Bk q (q + i) (fun j => Value.int (lo8 (cv A (o + (j - q))))) →
      Steps p.tables e below (s₁.setTop (entryFrame m #[.ref b, .int (Int32.ofNat o), .ref d, .int (Int32.ofNat q), .int (Int32.ofNat len)] 7)) (Tl.setTop (mkF m 3 #[.val (.ref b), .val (.int (Int32.ofNat (o + i))), .val (.ref d), .val (.int (Int32.ofNat (q + i))), .val (.int (Int32.ofNat len)), .val (.int (Int32.ofNat i)), z] [])) → ∃ (T' : State) (B' : Cell) (z' : Slot), Stand p l e { frames := 0, locals := 0, cells := 0, slots := 0 } s m #[.ref b, .int (Int32.ofNat o), .ref d, .int (Int32.ofNat q), .int (Int32.ofNat len)] below meth c T' ([] ++ copyLocs d q len) 0 0 ∧ Put d B' s₁ T' ∧ Laid B B' q (q + len) (fun j => Value.int (lo8 (cv A (o + (j - q))))) ∧
      Steps p.tables e below (s₁.setTop (entryFrame m #[.ref b, .int (Int32.ofNat o), .ref d, .int (Int32.ofNat q), .int (Int32.ofNat len)] 7)) (T'.setTop (mkF m 3 #[.val (.ref b), .val (.int (Int32.ofNat (o + len))), .val (.ref d), .val (.int (Int32.ofNat (q + len))), .val (.int (Int32.ofNat len)), .val (.int (Int32.ofNat len)), z'] [])) := by
    intro r
    induction r with
    | zero =>
      intro i hi z hz Tl Bk Xl pl fl cl
      have hil : i = len := by omega
      rw [hil] at Xl fl cl
      exact ⟨Tl, Bk, z, Xl, pl, fl, cl⟩
    | succ r ih =>
      intro i hi z hz Tl Bk Xl pl fl cl
      have all := X0.warmed.alike.symm.trans Xl.warmed.alike
      have hAl := hA0.keep all (pl.other hne hA0.1)
      have hBk := hB0.like all pl.1 fl.1 fl.2.1 fl.2.2.1
      have hlt : q + i < Bk.slots.size := by rw [fl.2.2.1]; omega
      have c3 : Steps p.tables e below (s₁.setTop (entryFrame m #[.ref b, .int (Int32.ofNat o), .ref d, .int (Int32.ofNat q), .int (Int32.ofNat len)] 7)) (Tl.setTop (mkF m 12 #[.val (.ref b), .val (.int (Int32.ofNat (o + i))), .val (.ref d), .val (.int (Int32.ofNat (q + i))), .val (.int (Int32.ofNat len)), .val (.int (Int32.ofNat i)), z] [.int (Int32.ofNat (o + i)), .ref b])) := cl.trans (by
        refine XS.iload Xl.here hexec rfl (hb hbytes d3) rfl ?_
        refine XS.iload Xl.here hexec rfl (hb hbytes d5) rfl ?_
        refine XS.icmpNo Xl.here hexec rfl (hb hbytes d7) rfl (ii_ge_f (lt32 (by omega) (by omega))) ?_
        refine XS.aloadN Xl.here hexec rfl (hb hbytes d10) rfl rfl ?_
        refine XS.iloadN Xl.here hexec rfl (hb hbytes d11) rfl ?_
        exact Steps.refl _)
      have c4 : Steps p.tables e below (s₁.setTop (entryFrame m #[.ref b, .int (Int32.ofNat o), .ref d, .int (Int32.ofNat q), .int (Int32.ofNat len)] 7)) (Tl.setTop (mkF m 13 #[.val (.ref b), .val (.int (Int32.ofNat (o + i))), .val (.ref d), .val (.int (Int32.ofNat (q + i))), .val (.int (Int32.ofNat len)), .val (.int (Int32.ofNat i)), z] [.int (cv A (o + i))])) := c3.trans (by
        refine Xl.aget hexec hAl rfl (hA.get (i := o + i) (by omega)) rfl rfl (hb hbytes d12) ?_
        exact Steps.refl _)
      have c5 : Steps p.tables e below (s₁.setTop (entryFrame m #[.ref b, .int (Int32.ofNat o), .ref d, .int (Int32.ofNat q), .int (Int32.ofNat len)] 7)) (Tl.setTop (mkF m 15 #[.val (.ref b), .val (.int (Int32.ofNat (o + i))), .val (.ref d), .val (.int (Int32.ofNat (q + i))), .val (.int (Int32.ofNat len)), .val (.int (Int32.ofNat i)), .val (.int (cv A (o + i)))] [])) := c4.trans (by
        refine XS.istoreS Xl.here hexec rfl (hb hbytes d13) rfl rfl hz ?_
        exact Steps.refl _)
      have c6 : Steps p.tables e below (s₁.setTop (entryFrame m #[.ref b, .int (Int32.ofNat o), .ref d, .int (Int32.ofNat q), .int (Int32.ofNat len)] 7)) (Tl.setTop (mkF m 31 #[.val (.ref b), .val (.int (Int32.ofNat (o + i))), .val (.ref d), .val (.int (Int32.ofNat (q + i))), .val (.int (Int32.ofNat len)), .val (.int (Int32.ofNat i)), .val (.int (cv A (o + i)))] [.int (lo8 (cv A (o + i))), .int (Int32.ofNat (q + i)), .ref d])) := c5.trans (by
        refine XS.iload Xl.here hexec rfl (hb hbytes d15) rfl ?_
        refine sipushV Xl.here hexec rfl 255 (hb hbytes d17) (by decide) ?_
        refine XS.icmpYes Xl.here hexec rfl (pc0 := 20) rfl (hb hbytes d20) rfl (ii_le_t (hp i (by omega))) (by decide) rfl ?_
        refine XS.aloadN Xl.here hexec rfl (hb hbytes d26) rfl rfl ?_
        refine XS.iloadN Xl.here hexec rfl (hb hbytes d27) rfl ?_
        refine XS.iload Xl.here hexec rfl (hb hbytes d28) rfl ?_
        refine i2b Xl.here hexec rfl (hb hbytes d30) rfl ?_
        exact Steps.refl _)
      obtain ⟨T7, X7, p7, st7⟩ := Xl.aput hexec hBk rfl hlt rfl (fits_lo8 (cv A (o + i))) (g := (mkF m 31 #[.val (.ref b), .val (.int (Int32.ofNat (o + i))), .val (.ref d), .val (.int (Int32.ofNat (q + i))), .val (.int (Int32.ofNat len)), .val (.int (Int32.ofNat i)), .val (.int (cv A (o + i)))] [.int (lo8 (cv A (o + i))), .int (Int32.ofNat (q + i)), .ref d])) rfl (rest := []) rfl (hb hbytes d31)
      have c8 : Steps p.tables e below (s₁.setTop (entryFrame m #[.ref b, .int (Int32.ofNat o), .ref d, .int (Int32.ofNat q), .int (Int32.ofNat len)] 7)) (T7.setTop (mkF m 32 #[.val (.ref b), .val (.int (Int32.ofNat (o + i))), .val (.ref d), .val (.int (Int32.ofNat (q + i))), .val (.int (Int32.ofNat len)), .val (.int (Int32.ofNat i)), .val (.int (cv A (o + i)))] [])) := c6.trans (st7 _ (Steps.refl _))
      have c9 : Steps p.tables e below (s₁.setTop (entryFrame m #[.ref b, .int (Int32.ofNat o), .ref d, .int (Int32.ofNat q), .int (Int32.ofNat len)] 7)) (T7.setTop (mkF m 3 #[.val (.ref b), .val (.int (Int32.ofNat (o + i) + 1)), .val (.ref d), .val (.int (Int32.ofNat (q + i) + 1)), .val (.int (Int32.ofNat len)), .val (.int (Int32.ofNat i + 1)), .val (.int (cv A (o + i)))] [])) := c8.trans (by
        refine iincV X7.here hexec rfl 1 (hb hbytes d32) (by decide) rfl rfl ?_
        refine iincV X7.here hexec rfl 1 (hb hbytes d35) (by decide) rfl rfl ?_
        refine iincV X7.here hexec rfl 1 (hb hbytes d38) (by decide) rfl rfl ?_
        refine XS.goto X7.here hexec rfl (pc0 := 41) rfl (hb hbytes d41) (by decide) rfl ?_
        exact Steps.refl _)
      have c10 : Steps p.tables e below (s₁.setTop (entryFrame m #[.ref b, .int (Int32.ofNat o), .ref d, .int (Int32.ofNat q), .int (Int32.ofNat len)] 7)) (T7.setTop (mkF m 3 #[.val (.ref b), .val (.int (Int32.ofNat (o + (i + 1)))), .val (.ref d), .val (.int (Int32.ofNat (q + (i + 1)))), .val (.int (Int32.ofNat len)), .val (.int (Int32.ofNat (i + 1))), .val (.int (cv A (o + i)))] [])) := by
        have := c9
        rw [succ32, succ32, succ32] at this
        exact this
      exact ih (i + 1) (by omega) _ (Or.inr ⟨_, rfl, rfl⟩) T7 _ (by rw [copyLocs_step, ← List.append_assoc]; exact X7) (pl.trans p7) (fl.step (by omega) hlt (by simp)) c10
  obtain ⟨T9, B9, z9, X9, p9, f9, g9⟩ := loop len 0 (by omega) .unset (Or.inl rfl) s₁ B (by simpa [copyLocs] using X0) ⟨hB0.1, fun _ _ => rfl, rfl⟩ (Laid.zero _ _ _) c2
  have c11 : Steps p.tables e below (s₁.setTop (entryFrame m #[.ref b, .int (Int32.ofNat o), .ref d, .int (Int32.ofNat q), .int (Int32.ofNat len)] 7)) (T9.setTop (mkF m 46 #[.val (.ref b), .val (.int (Int32.ofNat (o + len))), .val (.ref d), .val (.int (Int32.ofNat (q + len))), .val (.int (Int32.ofNat len)), .val (.int (Int32.ofNat len)), z9] [.int (Int32.ofNat len)])) := g9.trans (by
    refine XS.iload X9.here hexec rfl (hb hbytes d3) rfl ?_
    refine XS.iload X9.here hexec rfl (hb hbytes d5) rfl ?_
    refine XS.icmpYes X9.here hexec rfl (pc0 := 7) rfl (hb hbytes d7) rfl (ii_ge_t (nlt32 (by omega) (Nat.le_refl _))) (by decide) rfl ?_
    refine XS.iload X9.here hexec rfl (hb hbytes d44) rfl ?_
    exact Steps.refl _)
  exact ⟨T9, some (.int (Int32.ofNat len)), _, _, _, X9, by simp, rfl, rfl, (fun h => by cases h), ⟨rfl, B9, p9.from hh0, f9⟩, fun fs hl => c11.trans (X9.ireturnOut hexec hret rfl (Or.inl rfl) (hb hbytes d46) hl)⟩
end Cmp5
namespace Cmp3
def yN : MethodName := ⟨"java/lang/StringUTF16", "compress", "([CII)[B"⟩
abbrev yB : ByteArray := jdk_52_method_16_code
theorem d0 : decode yB 0 = .ok (.iload_n 2, 1) := by decide +kernel
theorem d1 : decode yB 1 = .ok (.newarray .byte, 2) := by decide +kernel
theorem d3 : decode yB 3 = .ok (.astore_n 3, 1) := by decide +kernel
theorem d4 : decode yB 4 = .ok (.aload_n 0, 1) := by decide +kernel
theorem d5 : decode yB 5 = .ok (.iload_n 1, 1) := by decide +kernel
theorem d6 : decode yB 6 = .ok (.aload_n 3, 1) := by decide +kernel
theorem d7 : decode yB 7 = .ok (.iconst 0, 1) := by decide +kernel
theorem d8 : decode yB 8 = .ok (.iload_n 2, 1) := by decide +kernel
theorem d9 : decode yB 9 = .ok (.invokestatic 115, 3) := by decide +kernel
theorem d12 : decode yB 12 = .ok (.istore 4, 2) := by decide +kernel
theorem d14 : decode yB 14 = .ok (.iload 4, 2) := by decide +kernel
theorem d16 : decode yB 16 = .ok (.iload_n 2, 1) := by decide +kernel
theorem d17 : decode yB 17 = .ok (.if_icmp (.eq) 40, 3) := by decide +kernel
theorem d57 : decode yB 57 = .ok (.aload_n 3, 1) := by decide +kernel
theorem d58 : decode yB 58 = .ok (.areturn, 1) := by decide +kernel
def site : List Cond := [.arrayClass .byte, Cmp5.tab] ++ staticW U16 115 Cmp5.yN
def tab : Cond := tabOf yN yB 6 (some (.array .byte)) site
def P (b : Addr) (A : Cell) (o len : Nat) (args : Array Value) (s : State) : Prop := args = #[.ref b, .int (Int32.ofNat o), .int (Int32.ofNat len)] ∧ Ch b A s ∧ o + len ≤ A.slots.size ∧ len ≤ 536870912 ∧ ∀ i, i < len → ¬ 255 < cv A (o + i)
def E (b : Addr) (A : Cell) (o len : Nat) (r : Option Value) (s u : State) : Prop := NewArr .byte "[B" len (fun j => .int (lo8 (cv A (o + j)))) r s u ∧ u.heap.size = s.heap.size + 1
/-- no char of the range above 255: a new byte[] of their low bytes -/
theorem law (l : Launch) (b : Addr) (A : Cell) (o len : Nat) : Law l yN 3 3 1 18 yB 6 (some (.array .byte)) site (P b A o len) (E b A o len) [] 1 len := by
  refine Law.of_walk (plainFor_of_name (by decide +kernel)) (by decide +kernel) (by decide +kernel) (by decide) (fun _ _ h => by rw [h.1]; rfl) (fun _ U U' hal hh h => ⟨h.1, h.2.1.mv hal hh, h.2.2⟩) (fun r U U' V V' h1 hal h2 h => ⟨NewArr.mv r U U' V V' h1 hal h2 h.1, by rw [h1, h2]; exact h.2⟩) ?_
  intro p e s m args below meth c s₁ X0 hexec hbytes hml hret hlk hnm hown hh0 W hP
  obtain ⟨rfl, hA, l1, l2, hp⟩ := hP
  have a31 := hA.1.2.2.2
  have c1 : Steps p.tables e below (s₁.setTop (entryFrame m #[.ref b, .int (Int32.ofNat o), .int (Int32.ofNat len)] 6)) (s₁.setTop (mkF m 0 #[.val (.ref b), .val (.int (Int32.ofNat o)), .val (.int (Int32.ofNat len)), .unset, .unset, .unset] [])) := entry rfl
  have c2 : Steps p.tables e below (s₁.setTop (entryFrame m #[.ref b, .int (Int32.ofNat o), .int (Int32.ofNat len)] 6)) (s₁.setTop (mkF m 1 #[.val (.ref b), .val (.int (Int32.ofNat o)), .val (.int (Int32.ofNat len)), .unset, .unset, .unset] [.int (Int32.ofNat len)])) := c1.trans (by
    refine XS.iloadN X0.here hexec rfl (hb hbytes d0) rfl ?_
    exact Steps.refl _)
  obtain ⟨T3, B3, X3, ba3, bs3, bv3, bh3, bf3, st3⟩ := X0.anew hexec (atype := .byte) (wk W (.arrayClass .byte)) rfl (by show len * 1 ≤ _; omega) (by omega) (g := (mkF m 1 #[.val (.ref b), .val (.int (Int32.ofNat o)), .val (.int (Int32.ofNat len)), .unset, .unset, .unset] [.int (Int32.ofNat len)])) rfl (hb hbytes d1) (rest := []) rfl (Nat.le_refl _) (by show 0 + len ≤ len; omega)
  rw [hh0] at ba3 st3
  have kp3 : XT.Kept s T3 := (XT.Kept.of_eq hh0).push bh3
  have hA3 := hA.keep X3.warmed.alike (kp3 _ _ hA.1.1)
  have hne : b ≠ s.heap.size := hA.1.ne
  have c4 : Steps p.tables e below (s₁.setTop (entryFrame m #[.ref b, .int (Int32.ofNat o), .int (Int32.ofNat len)] 6)) (T3.setTop (mkF m 3 #[.val (.ref b), .val (.int (Int32.ofNat o)), .val (.int (Int32.ofNat len)), .unset, .unset, .unset] [.ref s.heap.size])) := c2.trans (st3 _ (Steps.refl _))
  have c5 : Steps p.tables e below (s₁.setTop (entryFrame m #[.ref b, .int (Int32.ofNat o), .int (Int32.ofNat len)] 6)) (T3.setTop (mkF m 9 #[.val (.ref b), .val (.int (Int32.ofNat o)), .val (.int (Int32.ofNat len)), .val (.ref s.heap.size), .unset, .unset] [.int (Int32.ofNat len), .int 0, .ref s.heap.size, .int (Int32.ofNat o), .ref b])) := c4.trans (by
    refine XS.astoreN X3.here hexec rfl (hb hbytes d3) rfl rfl rfl ?_
    refine XS.aloadN X3.here hexec rfl (hb hbytes d4) rfl rfl ?_
    refine XS.iloadN X3.here hexec rfl (hb hbytes d5) rfl ?_
    refine XS.aloadN X3.here hexec rfl (hb hbytes d6) rfl rfl ?_
    refine iconstV X3.here hexec rfl 0 (hb hbytes d7) (by decide) ?_
    refine XS.iloadN X3.here hexec rfl (hb hbytes d8) rfl ?_
    exact Steps.refl _)
  obtain ⟨v6, T6, X6, E6, g6⟩ := X3.callS hexec (Cmp5.law l b A s.heap.size B3 o 0 len) hown (wks W (staticW U16 115 Cmp5.yN)) (wk W Cmp5.tab) (W := 0) (Nat.le_of_ble_eq_true rfl) (Nat.le_of_ble_eq_true rfl) (Nat.le_refl _) (by show 0 + len + 0 ≤ len; omega) (g := (mkF m 9 #[.val (.ref b), .val (.int (Int32.ofNat o)), .val (.int (Int32.ofNat len)), .val (.ref s.heap.size), .unset, .unset] [.int (Int32.ofNat len), .int (Int32.ofNat 0), .ref s.heap.size, .int (Int32.ofNat o), .ref b])) rfl (by rw [hml]; rfl) c5 (argsL := [.ref b, .int (Int32.ofNat o), .ref s.heap.size, .int (Int32.ofNat 0), .int (Int32.ofNat len)]) (rest := []) rfl rfl (by show 2 * 0 + 0 ≤ _; decide) (hb hbytes d9) (⟨rfl, hA3, ba3, hne, l1, by rw [bs3]; simp, hp⟩)
  obtain ⟨rfl, B6, p6, f6⟩ := E6
  have c7 : Steps p.tables e below (s₁.setTop (entryFrame m #[.ref b, .int (Int32.ofNat o), .int (Int32.ofNat len)] 6)) (T6.setTop (mkF m 12 #[.val (.ref b), .val (.int (Int32.ofNat o)), .val (.int (Int32.ofNat len)), .val (.ref s.heap.size), .unset, .unset] [.int (Int32.ofNat len)])) := g6
  have c8 : Steps p.tables e below (s₁.setTop (entryFrame m #[.ref b, .int (Int32.ofNat o), .int (Int32.ofNat len)] 6)) (T6.setTop (mkF m 58 #[.val (.ref b), .val (.int (Int32.ofNat o)), .val (.int (Int32.ofNat len)), .val (.ref s.heap.size), .val (.int (Int32.ofNat len)), .unset] [.ref s.heap.size])) := c7.trans (by
    refine XS.istore X6.here hexec rfl (hb hbytes d12) rfl rfl ?_
    refine XS.iload X6.here hexec rfl (hb hbytes d14) rfl ?_
    refine XS.iloadN X6.here hexec rfl (hb hbytes d16) rfl ?_
    refine XS.icmpYes X6.here hexec rfl (pc0 := 17) rfl (hb hbytes d17) rfl (ii_eq_t rfl) (by decide) rfl ?_
    refine XS.aloadN X6.here hexec rfl (hb hbytes d57) rfl rfl ?_
    exact Steps.refl _)
  have X8 := X6.wide (L' := []) (cells' := 1) (slots' := len) (fun x hx hlt => by
    simp only [List.nil_append, copyLocs, List.mem_map, List.mem_range] at hx
    obtain ⟨i, -, rfl⟩ := hx
    exact absurd hlt (Nat.lt_irrefl _)) (Nat.le_refl _) (by omega)
  exact ⟨T6, some (.ref s.heap.size), _, _, _, X8, rfl, rfl, rfl, (fun h => by cases h), ⟨⟨rfl, B6, ba3.like (X3.warmed.alike.symm.trans X6.warmed.alike) p6.1 f6.1 f6.2.1 f6.2.2.1, f6.2.1.trans bv3, by rw [X6.warmed.alike.findClass, f6.1]; exact bf3, by rw [f6.2.2.1, bs3]; simp, fun j hj => by rw [f6.2.2.2 j, if_pos (by omega)]; rfl, kp3.put p6 (Nat.le_refl _)⟩, by rw [p6.2.2, bh3, hh0]; simp⟩, fun fs hl => c8.trans (X8.areturnOut hexec rfl hret rfl (hb hbytes d58) hl)⟩
end Cmp3
namespace CodL
def yN : MethodName := ⟨"java/lang/StringUTF16", "coderFromArrayLen", "([BI)B"⟩
abbrev yB : ByteArray := jdk_52_method_15_code
theorem d0 : decode yB 0 = .ok (.iload_n 1, 1) := by decide +kernel
theorem d1 : decode yB 1 = .ok (.aload_n 0, 1) := by decide +kernel
theorem d2 : decode yB 2 = .ok (.arraylength, 1) := by decide +kernel
theorem d3 : decode yB 3 = .ok (.isub, 1) := by decide +kernel
theorem d4 : decode yB 4 = .ok (.bipush 31, 2) := by decide +kernel
theorem d6 : decode yB 6 = .ok (.iushr, 1) := by decide +kernel
theorem d7 : decode yB 7 = .ok (.i2b, 1) := by decide +kernel
theorem d8 : decode yB 8 = .ok (.ireturn, 1) := by decide +kernel
def site : List Cond := []
def tab : Cond := tabOf yN yB 2 (some .byte) site
def P (d : Addr) (B : Cell) (args : Array Value) (s : State) : Prop := args = #[.ref d, .int (Int32.ofNat B.slots.size)] ∧ Arr .byte d B s
def E (r : Option Value) (s u : State) : Prop := XT.PureE (some (.int 0)) r s u
/-- an array as long as the number of chars: LATIN1 -/
theorem law (l : Launch) (d : Addr) (B : Cell) : Law l yN 2 2 0 0 yB 2 (some .byte) site (P d B) E [] 0 0 := by
  refine Law.of_walk (plainFor_of_name (by decide +kernel)) (by decide +kernel) (by decide +kernel) (by decide) (fun _ _ h => by rw [h.1]; rfl) (fun _ U U' hal hh h => ⟨h.1, h.2.mv hal hh⟩) (fun r U U' V V' h1 hal h2 h => XT.PureE.mv r U U' V V' h1 hal h2 h) ?_
  intro p e s m args below meth c s₁ X0 hexec hbytes hml hret hlk hnm hown hh0 W hP
  obtain ⟨rfl, hB⟩ := hP
  have hB0 := hB.mv X0.warmed.alike hh0
  have c1 : Steps p.tables e below (s₁.setTop (entryFrame m #[.ref d, .int (Int32.ofNat B.slots.size)] 2)) (s₁.setTop (mkF m 0 #[.val (.ref d), .val (.int (Int32.ofNat B.slots.size))] [])) := entry rfl
  have c2 : Steps p.tables e below (s₁.setTop (entryFrame m #[.ref d, .int (Int32.ofNat B.slots.size)] 2)) (s₁.setTop (mkF m 2 #[.val (.ref d), .val (.int (Int32.ofNat B.slots.size))] [.ref d, .int (Int32.ofNat B.slots.size)])) := c1.trans (by
    refine XS.iloadN X0.here hexec rfl (hb hbytes d0) rfl ?_
    refine XS.aloadN X0.here hexec rfl (hb hbytes d1) rfl rfl ?_
    exact Steps.refl _)
  have c3 : Steps p.tables e below (s₁.setTop (entryFrame m #[.ref d, .int (Int32.ofNat B.slots.size)] 2)) (s₁.setTop (mkF m 8 #[.val (.ref d), .val (.int (Int32.ofNat B.slots.size))] [.int (lo8 (ushr (Int32.ofNat B.slots.size - Int32.ofNat B.slots.size) 31))])) := c2.trans (by
    refine X0.alen hexec hB0 rfl rfl (hb hbytes d2) ?_
    refine XS.isub X0.here hexec rfl (hb hbytes d3) rfl ?_
    refine bipushV X0.here hexec rfl 31 (hb hbytes d4) (by decide) ?_
    refine iushr X0.here hexec rfl (hb hbytes d6) rfl ?_
    refine i2b X0.here hexec rfl (hb hbytes d7) rfl ?_
    exact Steps.refl _)
  have e0 : lo8 (ushr (Int32.ofNat B.slots.size - Int32.ofNat B.slots.size) 31) = 0 := by rw [Int32.sub_self]; decide
  rw [e0] at c3
  exact ⟨s₁, some (.int 0), _, _, _, X0, rfl, rfl, rfl, (fun h => by cases h), ⟨rfl, hh0⟩, fun fs hl => c3.trans (X0.ireturnOut hexec hret rfl (Or.inr (Or.inr (Or.inl rfl))) (hb hbytes d8) hl)⟩
end CodL
/-- the String at a is Latin-1 over a new byte[] (the heap's one new cell): the low bytes of the len chars of A from o on; every cell but a is kept -/
def Got (a : Addr) (D : Cell) (fV fC : Field) (A : Cell) (o len : Nat) (r : Option Value) (s u : State) : Prop := r = none ∧ ∃ D' V : Cell, Blank "java/lang/String" a D' u ∧ Same D D' [fV.slot, fC.slot] ∧ D'.slots[fV.slot]? = some (.ref s.heap.size) ∧ D'.slots[fC.slot]? = some (.int 0) ∧ Arr .byte s.heap.size V u ∧ V.vm = .none ∧ u.vm.findClass "[B" = some V.cls ∧ V.slots.size = len ∧ (∀ j, j < len → V.slots[j]? = some (.int (lo8 (cv A (o + j))))) ∧ (∀ (y : Addr) (c : Cell), y ≠ a → s.heap[y]? = some c → u.heap[y]? = some c) ∧ u.heap.size = s.heap.size + 1
theorem Got.mv {a : Addr} {D A : Cell} {fV fC : Field} {o len : Nat} : ∀ r (U U' V V' : State), U'.heap = U.heap → V.vm.Alike V'.vm → V'.heap = V.heap → Got a D fV fC A o len r U V → Got a D fV fC A o len r U' V' :=
  fun r U U' V V' h1 hal h2 ⟨e0, D', X, a1, a2, a3, a4, a5, a6, a7, a8, a9, a10, a11⟩ => ⟨e0, D', X, a1.mv hal h2, a2, by rw [h1]; exact a3, a4, by rw [h1]; exact a5.mv hal h2, a6, by rw [hal.findClass]; exact a7, a8, a9, by rw [h1, h2]; exact a10, by rw [h1, h2]; exact a11⟩
namespace New4
def yN : MethodName := ⟨"java/lang/String", "<init>", "([CIILjava/lang/Void;)V"⟩
abbrev yB : ByteArray := jdk_42_method_149_code
theorem d0 : decode yB 0 = .ok (.aload_n 0, 1) := by decide +kernel
theorem d1 : decode yB 1 = .ok (.invokespecial 1, 3) := by decide +kernel
theorem d4 : decode yB 4 = .ok (.iload_n 3, 1) := by decide +kernel
theorem d5 : decode yB 5 = .ok (.ifCond (.ne) 22, 3) := by decide +kernel
theorem d27 : decode yB 27 = .ok (.getstatic 38, 3) := by decide +kernel
theorem d30 : decode yB 30 = .ok (.ifCond (.eq) 28, 3) := by decide +kernel
theorem d33 : decode yB 33 = .ok (.aload_n 1, 1) := by decide +kernel
theorem d34 : decode yB 34 = .ok (.iload_n 2, 1) := by decide +kernel
theorem d35 : decode yB 35 = .ok (.iload_n 3, 1) := by decide +kernel
theorem d36 : decode yB 36 = .ok (.invokestatic 177, 3) := by decide +kernel
theorem d39 : decode yB 39 = .ok (.astore 5, 2) := by decide +kernel
theorem d41 : decode yB 41 = .ok (.aload_n 0, 1) := by decide +kernel
theorem d42 : decode yB 42 = .ok (.aload 5, 2) := by decide +kernel
theorem d44 : decode yB 44 = .ok (.iload_n 3, 1) := by decide +kernel
theorem d45 : decode yB 45 = .ok (.invokestatic 47, 3) := by decide +kernel
theorem d48 : decode yB 48 = .ok (.putfield 15, 3) := by decide +kernel
theorem d51 : decode yB 51 = .ok (.aload_n 0, 1) := by decide +kernel
theorem d52 : decode yB 52 = .ok (.aload 5, 2) := by decide +kernel
theorem d54 : decode yB 54 = .ok (.putfield 9, 3) := by decide +kernel
theorem d57 : decode yB 57 = .ok (.return_, 1) := by decide +kernel
def site : List Cond := [.fieldLink "java/lang/String" 38 "java/lang/String" "COMPACT_STRINGS" "Z", Cmp3.tab, CodL.tab, .laysFinal "java/lang/String" "java/lang/String" "value" "[B", .fieldLink "java/lang/String" 9 "java/lang/String" "value" "[B", .laysFinal "java/lang/String" "java/lang/String" "coder" "B", .fieldLink "java/lang/String" 15 "java/lang/String" "coder" "B"] ++ objW "java/lang/String" 1 ++ staticW "java/lang/String" 177 Cmp3.yN ++ staticW "java/lang/String" 47 CodL.yN
def tab : Cond := tabOf yN yB 6 none site
def P (a : Addr) (D : Cell) (fV fC : Field) (b : Addr) (A : Cell) (z : Int32) (o len : Nat) (args : Array Value) (s : State) : Prop := args = #[.ref a, .ref b, .int (Int32.ofNat o), .int (Int32.ofNat len), .null] ∧ Blank "java/lang/String" a D s ∧ Found "java/lang/String" "value" "[B" fV s ∧ Found "java/lang/String" "coder" "B" fC s ∧ Ch b A s ∧ StaticIs s "java/lang/String" "COMPACT_STRINGS" "Z" (.int z) ∧ ¬ z = 0 ∧ 0 < len ∧ o + len ≤ A.slots.size ∧ len ≤ 536870912 ∧ ∀ i, i < len → ¬ 255 < cv A (o + i)
def E (a : Addr) (D : Cell) (fV fC : Field) (A : Cell) (o len : Nat) (r : Option Value) (s u : State) : Prop := Got a D fV fC A o len r s u
/-- len > 0, no char of the range above 255: a Latin-1 String of their low bytes -/
theorem law (l : Launch) (a : Addr) (D : Cell) (fV fC : Field) (b : Addr) (A : Cell) (z : Int32) (o len : Nat) : Law l yN 5 4 2 35 yB 6 none site (P a D fV fC b A z o len) (E a D fV fC A o len) [⟨a, fC.slot⟩, ⟨a, fV.slot⟩] 1 len := by
  refine Law.of_walk (plainFor_of_name (by decide +kernel)) (by decide +kernel) (by decide +kernel) (by decide) (fun _ _ h => by rw [h.1]; rfl) (fun _ U U' hal hh h => ⟨h.1, h.2.1.mv hal hh, h.2.2.1.al hal, h.2.2.2.1.al hal, h.2.2.2.2.1.mv hal hh, h.2.2.2.2.2.1.there hal hh, h.2.2.2.2.2.2⟩) (fun r U U' V V' h1 hal h2 h => Got.mv r U U' V V' h1 hal h2 h) ?_
  intro p e s m args below meth c s₁ X0 hexec hbytes hml hret hlk hnm hown hh0 W hP
  obtain ⟨rfl, hB, f1, f2, hA, s1, hz, l0, l1, l2, hp⟩ := hP
  have a31 := hA.1.2.2.2
  have c1 : Steps p.tables e below (s₁.setTop (entryFrame m #[.ref a, .ref b, .int (Int32.ofNat o), .int (Int32.ofNat len), .null] 6)) (s₁.setTop (mkF m 0 #[.val (.ref a), .val (.ref b), .val (.int (Int32.ofNat o)), .val (.int (Int32.ofNat len)), .val .null, .unset] [])) := entry rfl
  have c2 : Steps p.tables e below (s₁.setTop (entryFrame m #[.ref a, .ref b, .int (Int32.ofNat o), .int (Int32.ofNat len), .null] 6)) (s₁.setTop (mkF m 1 #[.val (.ref a), .val (.ref b), .val (.int (Int32.ofNat o)), .val (.int (Int32.ofNat len)), .val .null, .unset] [.ref a])) := c1.trans (by
    refine XS.aloadN X0.here hexec rfl (hb hbytes d0) rfl rfl ?_
    exact Steps.refl _)
  obtain ⟨T3, X3, q3, st3⟩ := X0.oinit hexec hown (wks W (objW "java/lang/String" 1)) (g := (mkF m 1 #[.val (.ref a), .val (.ref b), .val (.int (Int32.ofNat o)), .val (.int (Int32.ofNat len)), .val .null, .unset] [.ref a])) rfl (by rw [hml]; rfl) (rest := []) rfl (hb hbytes d1) (W := 0) (by show 2 * 0 + 0 ≤ _; decide) (Nat.le_of_ble_eq_true rfl) (Nat.le_of_ble_eq_true rfl)
  have hh3 := q3.trans hh0
  have c4 : Steps p.tables e below (s₁.setTop (entryFrame m #[.ref a, .ref b, .int (Int32.ofNat o), .int (Int32.ofNat len), .null] 6)) (T3.setTop (mkF m 27 #[.val (.ref a), .val (.ref b), .val (.int (Int32.ofNat o)), .val (.int (Int32.ofNat len)), .val .null, .unset] [])) := (c2.trans (st3 _ (Steps.refl _))).trans (by
    refine XS.iloadN X3.here hexec rfl (hb hbytes d4) rfl ?_
    refine XS.ifYes X3.here hexec rfl (pc0 := 5) rfl (hb hbytes d5) rfl (i0_ne_t (nz32 (by omega) l0)) (by decide) rfl ?_
    exact Steps.refl _)
  obtain ⟨T5, X5, q5, st5⟩ := X3.sget hexec hown (wk W (.fieldLink "java/lang/String" 38 "java/lang/String" "COMPACT_STRINGS" "Z")) s1 (fun _ _ h => by rw [hh3]; exact h) (g := (mkF m 27 #[.val (.ref a), .val (.ref b), .val (.int (Int32.ofNat o)), .val (.int (Int32.ofNat len)), .val .null, .unset] [])) rfl (hb hbytes d27)
  have hh5 := q5.trans hh3
  have c6 : Steps p.tables e below (s₁.setTop (entryFrame m #[.ref a, .ref b, .int (Int32.ofNat o), .int (Int32.ofNat len), .null] 6)) (T5.setTop (mkF m 30 #[.val (.ref a), .val (.ref b), .val (.int (Int32.ofNat o)), .val (.int (Int32.ofNat len)), .val .null, .unset] [.int z])) := c4.trans (st5 _ (Steps.refl _))
  have c7 : Steps p.tables e below (s₁.setTop (entryFrame m #[.ref a, .ref b, .int (Int32.ofNat o), .int (Int32.ofNat len), .null] 6)) (T5.setTop (mkF m 36 #[.val (.ref a), .val (.ref b), .val (.int (Int32.ofNat o)), .val (.int (Int32.ofNat len)), .val .null, .unset] [.int (Int32.ofNat len), .int (Int32.ofNat o), .ref b])) := c6.trans (by
    refine XS.ifNo X5.here hexec rfl (hb hbytes d30) rfl (i0_eq_f hz) ?_
    refine XS.aloadN X5.here hexec rfl (hb hbytes d33) rfl rfl ?_
    refine XS.iloadN X5.here hexec rfl (hb hbytes d34) rfl ?_
    refine XS.iloadN X5.here hexec rfl (hb hbytes d35) rfl ?_
    exact Steps.refl _)
  obtain ⟨v8, T8, X8, E8, g8⟩ := X5.callS hexec (Cmp3.law l b A o len) hown (wks W (staticW "java/lang/String" 177 Cmp3.yN)) (wk W Cmp3.tab) (W := 0) (Nat.le_of_ble_eq_true rfl) (Nat.le_of_ble_eq_true rfl) (Nat.le_refl _) (by show 0 + len ≤ len; omega) (g := (mkF m 36 #[.val (.ref a), .val (.ref b), .val (.int (Int32.ofNat o)), .val (.int (Int32.ofNat len)), .val .null, .unset] [.int (Int32.ofNat len), .int (Int32.ofNat o), .ref b])) rfl (by rw [hml]; rfl) c7 (argsL := [.ref b, .int (Int32.ofNat o), .int (Int32.ofNat len)]) (rest := []) rfl rfl (by show 2 * 0 + 0 ≤ _; decide) (hb hbytes d36) (⟨rfl, hA.mv X5.warmed.alike hh5, l1, l2, hp⟩)
  obtain ⟨e8, z8⟩ := E8
  obtain ⟨rfl, N, n1, n2, n3, n4, n5, n6⟩ := NewArr.mv _ T5 s _ _ hh5.symm (Vm.Alike.refl _) rfl e8
  rw [hh5] at z8
  have hB1 := hB.keep X8.warmed.alike (n6 _ _ hB.1)
  have hne : s.heap.size ≠ a := (Nat.ne_of_lt (Array.getElem?_eq_some_iff.mp hB.1).1).symm
  have c9 : Steps p.tables e below (s₁.setTop (entryFrame m #[.ref a, .ref b, .int (Int32.ofNat o), .int (Int32.ofNat len), .null] 6)) (T8.setTop (mkF m 39 #[.val (.ref a), .val (.ref b), .val (.int (Int32.ofNat o)), .val (.int (Int32.ofNat len)), .val .null, .unset] [.ref s.heap.size])) := g8
  have c10 : Steps p.tables e below (s₁.setTop (entryFrame m #[.ref a, .ref b, .int (Int32.ofNat o), .int (Int32.ofNat len), .null] 6)) (T8.setTop (mkF m 45 #[.val (.ref a), .val (.ref b), .val (.int (Int32.ofNat o)), .val (.int (Int32.ofNat len)), .val .null, .val (.ref s.heap.size)] [.int (Int32.ofNat N.slots.size), .ref s.heap.size, .ref a])) := by
    have hc : Steps p.tables e below (s₁.setTop (entryFrame m #[.ref a, .ref b, .int (Int32.ofNat o), .int (Int32.ofNat len), .null] 6)) (T8.setTop (mkF m 45 #[.val (.ref a), .val (.ref b), .val (.int (Int32.ofNat o)), .val (.int (Int32.ofNat len)), .val .null, .val (.ref s.heap.size)] [.int (Int32.ofNat len), .ref s.heap.size, .ref a])) := c9.trans (by
      refine XS.astore X8.here hexec rfl (hb hbytes d39) rfl rfl rfl ?_
      refine XS.aloadN X8.here hexec rfl (hb hbytes d41) rfl rfl ?_
      refine XS.aload X8.here hexec rfl (hb hbytes d42) rfl rfl ?_
      refine XS.iloadN X8.here hexec rfl (hb hbytes d44) rfl ?_
      exact Steps.refl _)
    rw [n4]; exact hc
  obtain ⟨v11, T11, X11, E11, g11⟩ := X8.callS hexec (CodL.law l s.heap.size N) hown (wks W (staticW "java/lang/String" 47 CodL.yN)) (wk W CodL.tab) (W := 1) (Nat.le_of_ble_eq_true rfl) (Nat.le_of_ble_eq_true rfl) (Nat.le_refl _) (by show 0 + len + 0 ≤ len; omega) (g := (mkF m 45 #[.val (.ref a), .val (.ref b), .val (.int (Int32.ofNat o)), .val (.int (Int32.ofNat len)), .val .null, .val (.ref s.heap.size)] [.int (Int32.ofNat N.slots.size), .ref s.heap.size, .ref a])) rfl (by rw [hml]; rfl) c10 (argsL := [.ref s.heap.size, .int (Int32.ofNat N.slots.size)]) (rest := [.ref a]) rfl rfl (by show 2 * 0 + (1 + 0) ≤ _; decide) (hb hbytes d45) (⟨rfl, n1⟩)
  obtain ⟨rfl, q11⟩ := E11
  have hB11 := hB1.mv (X8.warmed.alike.symm.trans X11.warmed.alike) q11
  have c12 : Steps p.tables e below (s₁.setTop (entryFrame m #[.ref a, .ref b, .int (Int32.ofNat o), .int (Int32.ofNat len), .null] 6)) (T11.setTop (mkF m 48 #[.val (.ref a), .val (.ref b), .val (.int (Int32.ofNat o)), .val (.int (Int32.ofNat len)), .val .null, .val (.ref s.heap.size)] [.int 0, .ref a])) := g11
  obtain ⟨T13, X13, p13, bl13, sl13, st13⟩ := X11.finit hexec hown (wk W (.fieldLink "java/lang/String" 15 "java/lang/String" "coder" "B")) (Or.inr ⟨_, (wk W (.laysFinal "java/lang/String" "java/lang/String" "coder" "B"))⟩) (Or.inl ⟨rfl, hnm⟩) f2 (Or.inl rfl) hB11 (t := .byte) (by decide +kernel) rfl (g := (mkF m 48 #[.val (.ref a), .val (.ref b), .val (.int (Int32.ofNat o)), .val (.int (Int32.ofNat len)), .val .null, .val (.ref s.heap.size)] [.int 0, .ref a])) rfl (rest := []) rfl (hb hbytes d48)
  have c14 : Steps p.tables e below (s₁.setTop (entryFrame m #[.ref a, .ref b, .int (Int32.ofNat o), .int (Int32.ofNat len), .null] 6)) (T13.setTop (mkF m 54 #[.val (.ref a), .val (.ref b), .val (.int (Int32.ofNat o)), .val (.int (Int32.ofNat len)), .val .null, .val (.ref s.heap.size)] [.ref s.heap.size, .ref a])) := (c12.trans (st13 _ (Steps.refl _))).trans (by
    refine XS.aloadN X13.here hexec rfl (hb hbytes d51) rfl rfl ?_
    refine XS.aload X13.here hexec rfl (hb hbytes d52) rfl rfl ?_
    exact Steps.refl _)
  obtain ⟨T15, X15, p15, bl15, sl15, st15⟩ := X13.finit hexec hown (wk W (.fieldLink "java/lang/String" 9 "java/lang/String" "value" "[B")) (Or.inr ⟨_, (wk W (.laysFinal "java/lang/String" "java/lang/String" "value" "[B"))⟩) (Or.inl ⟨rfl, hnm⟩) f1 (Or.inl rfl) bl13 (t := (.array .byte)) (by decide +kernel) rfl (g := (mkF m 54 #[.val (.ref a), .val (.ref b), .val (.int (Int32.ofNat o)), .val (.int (Int32.ofNat len)), .val .null, .val (.ref s.heap.size)] [.ref s.heap.size, .ref a])) rfl (rest := []) rfl (hb hbytes d54)
  have c16 : Steps p.tables e below (s₁.setTop (entryFrame m #[.ref a, .ref b, .int (Int32.ofNat o), .int (Int32.ofNat len), .null] 6)) (T15.setTop (mkF m 57 #[.val (.ref a), .val (.ref b), .val (.int (Int32.ofNat o)), .val (.int (Int32.ofNat len)), .val .null, .val (.ref s.heap.size)] [])) := c14.trans (st15 _ (Steps.refl _))
  have ap := apart (Or.inr ⟨_, (wk W (.laysFinal "java/lang/String" "java/lang/String" "value" "[B"))⟩) (Or.inr ⟨_, (wk W (.laysFinal "java/lang/String" "java/lang/String" "coder" "B"))⟩) f1 f2 (t₁ := .array .byte) (t₂ := .byte) (by decide +kernel) (by decide +kernel) (by decide)
  have al := X8.warmed.alike.symm.trans X15.warmed.alike
  have n7 : T11.heap[s.heap.size]? = some N := by rw [q11]; exact n1.1
  exact ⟨T15, none, _, _, _, X15, by simp, rfl, by omega, (fun _ => rfl), ⟨rfl, _, N, bl15, ((Same.refl D _).set _ (by simp)).set _ (by simp), sl15, (Cell.slots_setSlot_ne _ ap).trans sl13, n1.keep al (p15.other hne (p13.other hne n7)), n2, by rw [al.findClass]; exact n3, n4, n5, fun y c h1 h2 => p15.other h1 (p13.other h1 (by rw [q11]; exact n6 y c h2)), by rw [p15.2.2, p13.2.2, q11]; exact z8⟩, fun fs hl => c16.trans (X15.returnOut hexec hret (hb hbytes d57) hl)⟩
end New4
namespace New1
def yN : MethodName := ⟨"java/lang/String", "<init>", "([C)V"⟩
abbrev yB : ByteArray := jdk_42_method_3_code
theorem d0 : decode yB 0 = .ok (.aload_n 0, 1) := by decide +kernel
theorem d1 : decode yB 1 = .ok (.aload_n 1, 1) := by decide +kernel
theorem d2 : decode yB 2 = .ok (.iconst 0, 1) := by decide +kernel
theorem d3 : decode yB 3 = .ok (.aload_n 1, 1) := by decide +kernel
theorem d4 : decode yB 4 = .ok (.arraylength, 1) := by decide +kernel
theorem d5 : decode yB 5 = .ok (.aconst_null, 1) := by decide +kernel
theorem d6 : decode yB 6 = .ok (.invokespecial 27, 3) := by decide +kernel
theorem d9 : decode yB 9 = .ok (.return_, 1) := by decide +kernel
def site : List Cond := [New4.tab] ++ initW "java/lang/String" 27 New4.yN
def tab : Cond := tabOf yN yB 2 none site
def P (a : Addr) (D : Cell) (fV fC : Field) (b : Addr) (A : Cell) (z : Int32) (args : Array Value) (s : State) : Prop := args = #[.ref a, .ref b] ∧ Blank "java/lang/String" a D s ∧ Found "java/lang/String" "value" "[B" fV s ∧ Found "java/lang/String" "coder" "B" fC s ∧ Ch b A s ∧ StaticIs s "java/lang/String" "COMPACT_STRINGS" "Z" (.int z) ∧ ¬ z = 0 ∧ 0 < A.slots.size ∧ A.slots.size ≤ 536870912 ∧ ∀ i, i < A.slots.size → ¬ 255 < cv A i
def E (a : Addr) (D : Cell) (fV fC : Field) (A : Cell) (r : Option Value) (s u : State) : Prop := Got a D fV fC A 0 A.slots.size r s u
/-- new String(chars), not empty, no char above 255: a Latin-1 String of their low bytes -/
theorem law (l : Launch) (a : Addr) (D : Cell) (fV fC : Field) (b : Addr) (A : Cell) (z : Int32) : Law l yN 2 1 3 52 yB 2 none site (P a D fV fC b A z) (E a D fV fC A) [⟨a, fC.slot⟩, ⟨a, fV.slot⟩] 1 A.slots.size := by
  refine Law.of_walk (plainFor_of_name (by decide +kernel)) (by decide +kernel) (by decide +kernel) (by decide) (fun _ _ h => by rw [h.1]; rfl) (fun _ U U' hal hh h => ⟨h.1, h.2.1.mv hal hh, h.2.2.1.al hal, h.2.2.2.1.al hal, h.2.2.2.2.1.mv hal hh, h.2.2.2.2.2.1.there hal hh, h.2.2.2.2.2.2⟩) (fun r U U' V V' h1 hal h2 h => Got.mv r U U' V V' h1 hal h2 h) ?_
  intro p e s m args below meth c s₁ X0 hexec hbytes hml hret hlk hnm hown hh0 W hP
  obtain ⟨rfl, hB, f1, f2, hA, s1, hz, l0, l2, hp⟩ := hP
  have c1 : Steps p.tables e below (s₁.setTop (entryFrame m #[.ref a, .ref b] 2)) (s₁.setTop (mkF m 0 #[.val (.ref a), .val (.ref b)] [])) := entry rfl
  have c2 : Steps p.tables e below (s₁.setTop (entryFrame m #[.ref a, .ref b] 2)) (s₁.setTop (mkF m 6 #[.val (.ref a), .val (.ref b)] [.null, .int (Int32.ofNat A.slots.size), .int 0, .ref b, .ref a])) := c1.trans (by
    refine XS.aloadN X0.here hexec rfl (hb hbytes d0) rfl rfl ?_
    refine XS.aloadN X0.here hexec rfl (hb hbytes d1) rfl rfl ?_
    refine iconstV X0.here hexec rfl 0 (hb hbytes d2) (by decide) ?_
    refine XS.aloadN X0.here hexec rfl (hb hbytes d3) rfl rfl ?_
    refine X0.alen hexec (hA.1.mv X0.warmed.alike hh0) rfl rfl (hb hbytes d4) ?_
    refine XS.aconstNull X0.here hexec rfl (hb hbytes d5) ?_
    exact Steps.refl _)
  obtain ⟨v3, T3, X3, E3, g3⟩ := X0.callN hexec (New4.law l a D fV fC b A z 0 A.slots.size) rfl hown (wks W (initW "java/lang/String" 27 New4.yN)) (W New4.tab (by simp only [site, List.mem_cons, List.mem_append, true_or, or_true])) (W := 0) (Nat.le_of_ble_eq_true rfl) (Nat.le_of_ble_eq_true rfl) (Nat.le_refl _) (by show 0 + A.slots.size ≤ A.slots.size; omega) (g := (mkF m 6 #[.val (.ref a), .val (.ref b)] [.null, .int (Int32.ofNat A.slots.size), .int (Int32.ofNat 0), .ref b, .ref a])) rfl (by rw [hml]; rfl) c2 (argsL := [.ref b, .int (Int32.ofNat 0), .int (Int32.ofNat A.slots.size), .null]) (rest := []) rfl rfl (by show 2 * 0 + 0 ≤ _; decide) (hb hbytes d6) (⟨rfl, hB.mv X0.warmed.alike hh0, f1.al X0.warmed.alike, f2.al X0.warmed.alike, hA.mv X0.warmed.alike hh0, s1.there X0.warmed.alike hh0, hz, l0, by omega, l2, fun i hi => by rw [Nat.zero_add]; exact hp i hi⟩)
  have e0 := Got.mv _ s₁ s _ _ hh0.symm (Vm.Alike.refl _) rfl E3
  obtain rfl := e0.1
  have c4 : Steps p.tables e below (s₁.setTop (entryFrame m #[.ref a, .ref b] 2)) (T3.setTop (mkF m 9 #[.val (.ref a), .val (.ref b)] [])) := g3
  exact ⟨T3, none, _, _, _, X3, by simp, rfl, by omega, (fun _ => rfl), e0, fun fs hl => c4.trans (X3.returnOut hexec hret (hb hbytes d9) hl)⟩
theorem pays {l : Launch} {R : Room} {p : Program} {e : Env} {below : List Frame} {s : State} {sargs : Array Value} {len W : Nat} (a : Addr) (D : Cell) (fV fC : Field) (b : Addr) (A : Cell) (z : Int32) (htab : tab.before sargs s = true) (hfr : 4 ≤ R.frames) (hlo : W + 65 ≤ R.locals) :
    Back l R p e below s sargs yN len W (fun A₁ a₁ => A₁.cells + 1 ≤ R.cells ∧ A₁.slots + A.slots.size ≤ R.slots ∧ P a D fV fC b A z a₁ A₁.U) (fun A₁ _ v₁ B₁ => E a D fV fC A v₁ A₁.U B₁.U ∧ B₁.locs = A₁.locs ++ [⟨a, fC.slot⟩, ⟨a, fV.slot⟩] ∧ B₁.cells = A₁.cells + 1 ∧ B₁.slots = A₁.slots + A.slots.size) :=
  (law l a D fV fC b A z).pays htab hfr (by omega)
end New1
/-- the byte, read back as charAt reads it, is the char -/
theorem lo8_mask {x : Int32} (h0 : ¬ x < 0) (h1 : ¬ 255 < x) : lo8 x &&& 255 = x := by
  have t : ∀ k : Fin 256, lo8 (Int32.ofNat k.val) &&& 255 = Int32.ofNat k.val := by decide +kernel
  rw [Int32.lt_iff_toInt_lt] at h0 h1
  have e0 : (0 : Int32).toInt = 0 := rfl
  have e1 : (255 : Int32).toInt = 255 := rfl
  obtain ⟨k, hk⟩ : ∃ k : Nat, x.toInt = k := ⟨x.toInt.toNat, by omega⟩
  have hx : x = Int32.ofNat k := Int32.toInt_inj.mp (by rw [hk, Int32.toInt_ofNat_small (by omega)])
  rw [hx]
  exact t ⟨k, by omega⟩
end StrChars
namespace StrChars.Road
open Jvm Sem ClassFile Op Lib Jvm.Stand Jvm.Free Jvm.Free.XT
open Jvm.Lib.Cold (StaticIs)
abbrev ST : String := "java/lang/String"
/-- every table word that New1's law asks, flat -/
abbrev words : List Jvm.Cond := [.code New1.yN New1.yB 2 none, .initialized ST, .methodLink ST 27 New4.yN, .instanceMethod New4.yN,
  .code New4.yN New4.yB 6 none, .fieldLink ST 38 ST "COMPACT_STRINGS" "Z", .laysFinal ST ST "value" "[B", .fieldLink ST 9 ST "value" "[B", .laysFinal ST ST "coder" "B", .fieldLink ST 15 ST "coder" "B",
  .methodLink ST 1 Lib.objectInit, .instanceMethod Lib.objectInit, .code Lib.objectInit ⟨#[0xb1]⟩ 1 none, .methodLink ST 177 Cmp3.yN, .static Cmp3.yN, .methodLink ST 47 CodL.yN, .static CodL.yN,
  .code Cmp3.yN Cmp3.yB 6 (some (.array .byte)), .initialized U16, .arrayClass .byte, .methodLink U16 115 Cmp5.yN, .static Cmp5.yN, .code Cmp5.yN Cmp5.yB 7 (some .int), .code CodL.yN CodL.yB 2 (some .byte)]
theorem tab_of {a : Array Value} {s : State} (h : ∀ w ∈ words, w.before a s = true) : New1.tab.before a s = true := by
  have h5 : Cmp5.tab.before a s = true := unparts (wk h (.code Cmp5.yN Cmp5.yB 7 (some .int))) (wks h (.initialized Cmp5.yN.cls :: Cmp5.site))
  have hc : CodL.tab.before a s = true := unparts (wk h (.code CodL.yN CodL.yB 2 (some .byte))) (wks h (.initialized CodL.yN.cls :: CodL.site))
  have q5 : ∀ w ∈ Cmp5.tab :: words, w.before a s = true := fun w hw => (List.mem_cons.mp hw).elim (fun e => e ▸ h5) (h w)
  have h3 : Cmp3.tab.before a s = true := unparts (wk q5 (.code Cmp3.yN Cmp3.yB 6 (some (.array .byte)))) (wks q5 (.initialized Cmp3.yN.cls :: Cmp3.site))
  have q3 : ∀ w ∈ Cmp3.tab :: CodL.tab :: words, w.before a s = true := fun w hw => (List.mem_cons.mp hw).elim (fun e => e ▸ h3) fun hw => (List.mem_cons.mp hw).elim (fun e => e ▸ hc) (h w)
  have h4 : New4.tab.before a s = true := unparts (wk q3 (.code New4.yN New4.yB 6 none)) (wks q3 (.initialized New4.yN.cls :: New4.site))
  have q4 : ∀ w ∈ New4.tab :: words, w.before a s = true := fun w hw => (List.mem_cons.mp hw).elim (fun e => e ▸ h4) (h w)
  exact unparts (wk q4 (.code New1.yN New1.yB 2 none)) (wks q4 (.initialized New1.yN.cls :: New1.site))
/-- the words ride from the start Z to the walk's own state -/
theorem moved {Z s : State} {a0 args : Array Value} (hZ : Z.Warmed39 s.vm) (hw : ∀ d ∈ words, d.before a0 Z = true) : ∀ d ∈ words, d.before args s = true := fun d hd => by
  have q := hw d hd
  have t : ∀ d ∈ words, d = .arrayClass .byte ∨ (d.onTables && d.keepsFace) = true := by decide +kernel
  rcases t d hd with rfl | t
  · exact RoadKit.mvA hZ q
  · exact RoadKit.mv hZ q t
/-- WHAT COMES BACK, over the tables of the start Z: h the heap at the call, h' behind it -/
def Q (Z : State) (x : Addr) (A : Cell) (h : Heap) (v : Option Value) (h' : Heap) (L : List Loc) : Prop := v = none ∧ (∀ y ∈ L, y.base = x) ∧ RoadKit.Keep h h' [x] ∧ h'.size = h.size + 1 ∧ RoadKit.Exa Z h' x ST ∧ RoadKit.Fld Z h' x ST "value" "[B" (.ref h.size) ∧ RoadKit.Fld Z h' x ST "coder" "B" (.int 0) ∧
  (∃ V : Cell, RoadKit.Arr Z h' h.size V .byte ∧ V.vm = .none ∧ Z.vm.findClass "[B" = some V.cls ∧ V.slots.size = A.slots.size ∧ ∀ j, j < A.slots.size → V.slots[j]? = some (.int (lo8 (cv A j)))) ∧
  ∀ (O n d : String) (w : Value), RoadKit.Fld Z h x O n d w → RoadKit.slotOf Z O n d ≠ RoadKit.slotOf Z ST "value" "[B" → RoadKit.slotOf Z O n d ≠ RoadKit.slotOf Z ST "coder" "B" → RoadKit.Fld Z h' x O n d w
/-- **new String(chars) AT A CALL, IN THE ROAD'S FORM**: for specialBack behind newO: x the fresh String, b the char[] with the cell A -/
theorem back {p : Program} {l : Launch} {e : Env} {R : Room} {s : State} {args : Array Value} {below : List Frame} {len W : Nat} {Z : State} {a0 : Array Value} {h : Heap} (hZ : Z.Warmed39 s.vm) (hw : ∀ d ∈ words, d.before a0 Z = true) {kI : Nat} (wi : (Jvm.Cond.instantiable ST kI).before a0 Z = true)
    {x b : Addr} {A : Cell} {z : Int32} {v0 c0 : Value} (E : RoadKit.Exa Z h x ST) (V : RoadKit.Fld Z h x ST "value" "[B" v0) (C : RoadKit.Fld Z h x ST "coder" "B" c0) (K : RoadKit.Arr Z h b A .char) (hty : Typed .char A) (S : RoadKit.Sta Z h ST "COMPACT_STRINGS" "Z" (.int z)) (hz : ¬ z = 0)
    (l0 : 0 < A.slots.size) (l2 : A.slots.size ≤ 536870912) (hp : ∀ i, i < A.slots.size → ¬ 255 < cv A i) (hfr : 4 ≤ R.frames) (hlo : W + 65 ≤ R.locals) :
    Back l R p e below s args New1.yN len W (fun P a => a = #[.ref x, .ref b] ∧ P.U.heap = h ∧ P.cells + 1 ≤ R.cells ∧ P.slots + A.slots.size ≤ R.slots)
      (fun P _ v B => ∃ L, Q Z x A h v B.U.heap L ∧ B.locs = P.locs ++ L ∧ B.cells = P.cells + 1 ∧ B.slots = P.slots + A.slots.size) := by
  intro m meth c P g ig mk a X hg hsize hdg hW hn hp'
  obtain ⟨rfl, rfl, r1, r2⟩ := hp'
  have al : Z.vm.Alike P.U.vm := hZ.alike.trans X.warmed.alike
  obtain ⟨D, cfV, kV, iV, fV, hD, gV, stV, knV, obV, asV, slV⟩ := id V
  obtain ⟨D', cfC, kC, iC, fC, hD', gC, stC, -, -, asC, slC⟩ := id C
  cases hD.symm.trans hD'
  obtain ⟨D2, kD, e1, e2, e3, e4, e5⟩ := id E
  cases hD.symm.trans e1
  obtain ⟨c2, k2, i1, i2, i3, -⟩ := Cond.instantiable_spec wi
  cases e2.symm.trans i1
  cases e3.symm.trans i2
  obtain ⟨kU, u1, u2⟩ := al.2.2 _ _ e3
  have hB : Blank ST x D P.U := ⟨hD, ⟨knV, fun q hq => by rw [hq] at obV; cases obV⟩, by rw [al.findClass]; exact e2, kU, u1, by rw [u2]; exact i3, by rw [u2]; exact e5 i3⟩
  have F1 : Found ST "value" "[B" fV P.U := ⟨SBG.found_only al ⟨cfV, kV, iV, gV⟩, stV⟩
  have F2 : Found ST "coder" "B" fC P.U := ⟨SBG.found_only al ⟨cfC, kC, iC, gC⟩, stC⟩
  have hA : Ch b A P.U := ⟨⟨K.1, State.isArrayOf_alike al K.2.1, K.2.2, by omega⟩, hty⟩
  have hS : StaticIs P.U ST "COMPACT_STRINGS" "Z" (.int z) := by
    obtain ⟨cfS, iS, kS, fS, st, cS, t1, t2, t3, t4, t5, t6, t7⟩ := S
    exact StaticIs.there (s := { Z with heap := P.U.heap }) ⟨cfS, iS, kS, fS, st, cS, t1, t2, t3, t4, t5, (fun q => by rw [q] at t6; cases t6), t7⟩ al rfl
  obtain ⟨v, B, X', ⟨⟨hv, E', V', q1, q2, q3, q4, q5, q6, q7, q8, q9, q10, q11⟩, hl, hc, hs⟩, st⟩ := New1.pays x D fV fC b A z (tab_of (moved hZ hw)) hfr hlo m meth c P g ig mk _ X hg hsize hdg hW hn ⟨r1, r2, rfl, hB, F1, F2, hA, hS, hz, l0, l2, hp⟩
  have al' : Z.vm.Alike B.U.vm := hZ.alike.trans X'.warmed.alike
  have hsz : E'.slots.size = D.slots.size := by
    obtain ⟨-, -, -, kB, w1, w2, w3⟩ := q1
    obtain ⟨kB', y1, y2⟩ := al'.2.2 _ _ e3
    rw [q2.2.1] at w1
    cases w1.symm.trans y1
    rw [w3, e5 i3, y2]
  refine ⟨v, B, X', ⟨_, ⟨hv, ?_, ⟨by omega, fun y cy hy hn' => q10 y cy (by simpa using hn') hy, fun y cy hy => ?_⟩, q11, ⟨E', _, q1.1, by rw [q2.2.1]; exact e2, by rw [q2.2.1]; exact e3, by rw [q2.1]; exact obV, fun _ => by rw [hsz]; exact e5 i3⟩,
    ⟨E', cfV, kV, iV, fV, q1.1, gV, stV, by rw [q2.1]; exact knV, by rw [q2.1]; exact obV, by rw [q2.2.1]; exact asV, q3⟩, ⟨E', cfC, kC, iC, fC, q1.1, gC, stC, by rw [q2.1]; exact knV, by rw [q2.1]; exact obV, by rw [q2.2.1]; exact asC, q4⟩,
    ⟨V', ⟨q5.1, State.isArrayOf_alike al'.symm q5.2.1, q5.2.2.1⟩, q6, by rw [← al'.findClass]; exact q7, q8, fun j hj => by have := q9 j hj; rwa [Nat.zero_add] at this⟩, fun O n d w F n1 n2 => ?_⟩, hl, hc, hs⟩, st⟩
  · intro y hy
    simp only [List.mem_cons, List.not_mem_nil, or_false] at hy
    rcases hy with rfl | rfl <;> rfl
  · by_cases q : y = x
    · subst q
      cases hD.symm.trans hy
      exact ⟨E', q1.1, q2.2.1, q2.1, hsz⟩
    · exact ⟨cy, q10 y cy q hy, rfl, rfl, rfl⟩
  · obtain ⟨D3, cf, k, i, f, g1, g2, g3, g4, g5, g6, g7⟩ := F
    cases hD.symm.trans g1
    simp only [RoadKit.slotOf, g2, gV, gC, Option.map_some, Option.getD_some] at n1 n2
    exact ⟨E', cf, k, i, f, q1.1, g2, g3, by rw [q2.1]; exact g4, by rw [q2.1]; exact g5, by rw [q2.2.1]; exact g6, by rw [q2.2.2 f.slot (by simp [n1, n2])]; exact g7⟩
end StrChars.Road
namespace StrChars.Road
open Jvm Sem ClassFile Op Lib Jvm.Stand Jvm.Free Jvm.Free.XT
/-- WHAT COMES BACK, the byte[] as a list of values -/
def QA (Z : State) (x : Addr) (zn : Int32) (cs : List Int32) (h : Heap) (v : Option Value) (h' : Heap) (L : List Loc) : Prop := v = none ∧ (∀ y ∈ L, y.base = x) ∧ RoadKit.Keep h h' [x] ∧ h'.size = h.size + 1 ∧ RoadKit.Exa Z h' x ST ∧ RoadKit.Fld Z h' x ST "value" "[B" (.ref h.size) ∧ RoadKit.Fld Z h' x ST "coder" "B" (.int 0) ∧
  (∃ kb, Z.vm.findClass "[B" = some kb ∧ RoadKit.Arv Z h' h.size kb .byte zn (cs.map fun c => .int (lo8 c)) (.int 0)) ∧
  ∀ (O n d : String) (w : Value), RoadKit.Fld Z h x O n d w → RoadKit.slotOf Z O n d ≠ RoadKit.slotOf Z ST "value" "[B" → RoadKit.slotOf Z O n d ≠ RoadKit.slotOf Z ST "coder" "B" → RoadKit.Fld Z h' x O n d w
/-- **new String(chars) AT A CALL, THE ARRAYS AS LISTS**: the char[] at b holds cs, not empty, no char above 255 -/
theorem backArv {p : Program} {l : Launch} {e : Env} {R : Room} {s : State} {args : Array Value} {below : List Frame} {len W : Nat} {Z : State} {a0 : Array Value} {h : Heap} (hZ : Z.Warmed39 s.vm) (hw : ∀ d ∈ words, d.before a0 Z = true) {kI : Nat} (wi : (Jvm.Cond.instantiable ST kI).before a0 Z = true)
    {x b : Addr} {k : ClassId} {zn z : Int32} {cs : List Int32} {dv v0 c0 : Value} (E : RoadKit.Exa Z h x ST) (V : RoadKit.Fld Z h x ST "value" "[B" v0) (C : RoadKit.Fld Z h x ST "coder" "B" c0) (K : RoadKit.Arv Z h b k .char zn (cs.map Value.int) dv) (S : RoadKit.Sta Z h ST "COMPACT_STRINGS" "Z" (.int z)) (hz : ¬ z = 0)
    (hlen : zn.toNatClampNeg = cs.length) (h0 : 0 < cs.length) (hbig : cs.length ≤ 536870912) (hall : ∀ c ∈ cs, ¬ 255 < c) (hfr : 4 ≤ R.frames) (hlo : W + 65 ≤ R.locals) :
    Back l R p e below s args New1.yN len W (fun P a => a = #[.ref x, .ref b] ∧ P.U.heap = h ∧ P.cells + 1 ≤ R.cells ∧ P.slots + cs.length ≤ R.slots)
      (fun P _ v B => ∃ L, QA Z x zn cs h v B.U.heap L ∧ B.locs = P.locs ++ L ∧ B.cells = P.cells + 1 ∧ B.slots = P.slots + cs.length) := by
  obtain ⟨A, K1, K2, K3, K4, K5, K6⟩ := K
  have e : A.slots.size = cs.length := K3.trans hlen
  have hat : ∀ (i : Nat) (hi : i < cs.length), A.slots[i]? = some (.int cs[i]) := fun i hi => by rw [K5 i (by omega)]; simp [List.getD_eq_getElem?_getD, hi]
  have hcv : ∀ (i : Nat) (hi : i < cs.length), cv A i = cs[i] := fun i hi => by unfold cv; rw [hat i hi]
  have hty : Typed .char A := fun i v hv => by
    have hi : i < A.slots.size := (Array.getElem?_eq_some_iff.mp hv).1
    have q := K5 i hi
    rw [hv] at q
    rw [Option.some.inj q]
    exact K6 i hi
  refine Back.mono (back hZ hw wi E V C K1 hty S hz (by omega) (by omega) (fun i hi => by rw [hcv i (by omega)]; exact hall _ (List.getElem_mem _)) hfr hlo) (fun P a hp => ⟨hp.1, hp.2.1, hp.2.2.1, by rw [e]; exact hp.2.2.2⟩) (fun P a v B hp hq => ?_)
  obtain ⟨L, ⟨q1, q2, q3, q4, q5, q6, q7, ⟨V', v1, v2, v3, v4, v5⟩, q9⟩, hl, hc, hs⟩ := hq
  refine ⟨L, ⟨q1, q2, q3, q4, q5, q6, q7, ⟨V'.cls, v3, V', v1, rfl, by rw [v4, e, hlen], K4, fun i hi => ?_, fun i hi => ?_⟩, q9⟩, hl, hc, by rw [hs, e]⟩
  · have hi' : i < cs.length := by omega
    rw [v5 i (by omega), hcv i hi']; simp [List.getD_eq_getElem?_getD, hi']
  · have hi' : i < cs.length := by omega
    simp only [List.getD_eq_getElem?_getD, List.getElem?_map, List.getElem?_eq_getElem hi', Option.map_some, Option.getD_some]
    exact fits_lo8 _
end StrChars.Road
namespace StrChars.Road
open Jvm Sem ClassFile Op Lib Jvm.Stand Jvm.Free Jvm.Free.XT
/-- WHAT COMES BACK, in the writer's own shape -/
def QV (Z : State) (x : Addr) (N : Int32) (bs : List Int32) (h : Heap) (n0 : Nat) (v : Option Value) (h' : Heap) (L : List Loc) : Prop := v = none ∧ RoadKit.Fr n0 L ∧ RoadKit.Keep h h' [x] ∧ RoadKit.Exa Z h' x ST ∧ RoadKit.Fld Z h' x ST "coder" "B" (.int 0) ∧
  ∃ (t : Addr) (kb : ClassId), n0 ≤ t ∧ h.size ≤ t ∧ ¬ t = x ∧ RoadKit.Fld Z h' x ST "value" "[B" (.ref t) ∧ RoadKit.Arv Z h' t kb .byte N (bs.map Value.int) (.int 0)
/-- **new String(chars) AT A CALL, FOR THE WRITER**: a char[] of n known ints, each 0 to 255 -/
theorem backV {p : Program} {l : Launch} {e : Env} {R : Room} {s : State} {args : Array Value} {below : List Frame} {len W : Nat} {Z : State} {a0 : Array Value} {h : Heap} (hZ : Z.Warmed39 s.vm) (hw : ∀ d ∈ words, d.before a0 Z = true) {kI : Nat} (wi : (Jvm.Cond.instantiable ST kI).before a0 Z = true)
    {x b : Addr} {kC : ClassId} {cs bs : List Int32} {d v0 c0 : Value} {z N : Int32} {n n0 : Nat} (hx0 : n0 ≤ x) (hh0 : n0 ≤ h.size) (E : RoadKit.Exa Z h x ST) (V : RoadKit.Fld Z h x ST "value" "[B" v0) (C : RoadKit.Fld Z h x ST "coder" "B" c0) (K : RoadKit.Arv Z h b kC .char N (cs.map Value.int) d) (S : RoadKit.Sta Z h ST "COMPACT_STRINGS" "Z" (.int z)) (hz : ¬ z = 0)
    (hn : cs.length = n) (hN : N = Int32.ofNat n) (l0 : 0 < n) (l2 : n ≤ 4000) (hp : ∀ c ∈ cs, ¬ c < 0 ∧ ¬ (255 : Int32) < c) (hb : bs = cs.map (fun c => c.toInt8.toInt32)) (hfr : 4 ≤ R.frames) (hlo : W + 65 ≤ R.locals) :
    Back l R p e below s args (⟨"java/lang/String", "<init>", "([C)V"⟩ : MethodName) len W (fun P a => a = #[.ref x, .ref b] ∧ P.U.heap = h ∧ P.cells + 1 ≤ R.cells ∧ P.slots + n ≤ R.slots)
      (fun P _ v B => ∃ L, QV Z x N bs h n0 v B.U.heap L ∧ B.locs = P.locs ++ L ∧ B.cells = P.cells + 1 ∧ B.slots = P.slots + n) := by
  subst hn hN hb
  refine Back.mono (backArv hZ hw wi E V C K S hz (n32 (by omega)) l0 (by omega) (fun c hc => (hp c hc).2) hfr hlo) (fun P a hp => hp) (fun P a v B hp hq => ?_)
  obtain ⟨L, ⟨q1, q2, q3, q4, q5, q6, q7, ⟨kb, v1, v2⟩, q9⟩, hl, hc, hs⟩ := hq
  exact ⟨L, ⟨q1, fun y hy => by rw [q2 y hy]; exact hx0, q3, q5, q7, h.size, kb, hh0, Nat.le_refl _, Nat.ne_of_gt E.lt, q6, by rw [List.map_map]; exact v2⟩, hl, hc, hs⟩
end StrChars.Road
namespace StrChars
open Jvm Sem ClassFile Op Lib Jvm.Stand Jvm.Free.XT Jvm.Free.ALB Jvm.Free.JM Jvm.Free
open Jvm.Lib.Cold (StaticIs)
def hi8 (x : Int32) : Int32 := lo8 (x >>> ((8 : Int32) &&& 31))
/-- what StringUTF16.getChar makes of two bytes -/
def pairCh (u v : Int32) : Int32 := (((u &&& 255) <<< ((0 : Int32) &&& 31)) ||| ((v &&& 255) <<< ((8 : Int32) &&& 31))).toUInt32.toUInt16.toUInt32.toInt32
theorem lo8_and (x : Int32) : (lo8 x &&& 255).toBitVec.toNat = x.toBitVec.toNat % 256 := by
  have h : (lo8 x).toBitVec = (x.toBitVec.signExtend 8).signExtend 32 := by rw [lo8, Int8.toBitVec_toInt32, Int32.toBitVec_toInt8]
  rw [Int32.toBitVec_and, BitVec.toNat_and, h]
  have e : ((x.toBitVec.signExtend 8).signExtend 32).toNat % 256 = x.toBitVec.toNat % 256 := by
    rw [BitVec.toNat_signExtend]
    have hlt := x.toBitVec.isLt
    simp only [BitVec.toNat_setWidth, BitVec.toNat_signExtend]
    split <;> split <;> omega
  rw [← e]
  exact Nat.and_two_pow_sub_one_eq_mod _ 8
theorem pair_says {c : Int32} (h0 : ¬ c < 0) (h1 : ¬ 65535 < c) : pairCh (lo8 c) (hi8 c) = c := by
  rw [Int32.lt_iff_toInt_lt] at h0 h1
  have e0 : (0 : Int32).toInt = 0 := rfl
  have e1 : (65535 : Int32).toInt = 65535 := rfl
  have hc : c.toInt = c.toBitVec.toNat := by
    have := c.toBitVec.isLt
    have e : c.toInt = c.toBitVec.toInt := rfl
    rw [e] at h0 h1
    rw [e]
    rw [BitVec.toInt_eq_toNat_cond] at h0 h1 ⊢
    split at h0 <;> split <;> omega
  have hn : c.toBitVec.toNat < 65536 := by omega
  have a1 := lo8_and c
  have a2 : (hi8 c &&& 255).toBitVec.toNat = c.toBitVec.toNat / 256 := by
    rw [hi8, lo8_and]
    have e : ((8 : Int32) &&& 31) = 8 := by decide
    rw [e, Int32.toBitVec_shiftRight]
    have e2 : ((8 : Int32).toBitVec.smod 32) = 8#32 := by decide
    rw [e2, BitVec.sshiftRight_eq', BitVec.toNat_sshiftRight_of_msb_false (by rw [BitVec.msb_eq_false_iff_two_mul_lt]; omega)]
    show c.toBitVec.toNat >>> 8 % 256 = _
    rw [Nat.shiftRight_eq_div_pow]
    omega
  unfold pairCh
  apply Int32.toBitVec_inj.mp
  apply BitVec.eq_of_toNat_eq
  have f0 : ((0 : Int32) &&& 31) = 0 := by decide
  have f8 : ((8 : Int32) &&& 31) = 8 := by decide
  rw [f0, f8]
  have g : (((lo8 c &&& 255) <<< (0 : Int32)) ||| ((hi8 c &&& 255) <<< (8 : Int32))).toBitVec.toNat = c.toBitVec.toNat := by
    rw [Int32.toBitVec_or, Int32.toBitVec_shiftLeft, Int32.toBitVec_shiftLeft]
    have s0 : ((0 : Int32).toBitVec.smod 32) = 0#32 := by decide
    have s8 : ((8 : Int32).toBitVec.smod 32) = 8#32 := by decide
    rw [s0, s8, BitVec.toNat_or]
    simp only [BitVec.shiftLeft_eq', BitVec.toNat_shiftLeft, a1, a2]
    show (c.toBitVec.toNat % 256) <<< 0 % 2 ^ 32 ||| (c.toBitVec.toNat / 256) <<< 8 % 2 ^ 32 = _
    rw [Nat.shiftLeft_zero, Nat.mod_eq_of_lt (show c.toBitVec.toNat % 256 < 2 ^ 32 by omega), Nat.mod_eq_of_lt (show (c.toBitVec.toNat / 256) <<< 8 < 2 ^ 32 by rw [Nat.shiftLeft_eq]; omega), Nat.or_comm, ← Nat.shiftLeft_add_eq_or_of_lt (by omega), Nat.shiftLeft_eq]
    omega
  show BitVec.toNat (((((lo8 c &&& 255) <<< (0 : Int32)) ||| ((hi8 c &&& 255) <<< (8 : Int32))).toBitVec.setWidth 16).setWidth 32) = _
  rw [BitVec.toNat_setWidth, BitVec.toNat_setWidth, g]
  omega
end StrChars
namespace StrChars
open Jvm Sem ClassFile Op Lib Jvm.Stand Jvm.Free.XT Jvm.Free.ALB Jvm.Free.JM Jvm.Free
open Jvm.Lib.Cold (StaticIs)
/-- the array's cell V codes the n chars f 0 .. f (n - 1) by the coder cd, as the JDK does: coder 1 just where some char is above 255 -/
def Cod (cd : Int32) (n : Nat) (f : Nat → Int32) (V : Cell) : Prop := (cd = 0 ∧ V.slots.size = n ∧ ∀ j, j < n → V.slots[j]? = some (.int (lo8 (f j))) ∧ ¬ 255 < f j) ∨ (cd = 1 ∧ V.slots.size = 2 * n ∧ (∀ j, j < n → V.slots[2 * j]? = some (.int (lo8 (f j))) ∧ V.slots[2 * j + 1]? = some (.int (hi8 (f j)))) ∧ ∃ j, j < n ∧ 255 < f j)
/-- **x is a String of the n chars f 0 .. f (n - 1)**, Latin-1 or UTF-16; its array at t has the cell V -/
def Txt (x t : Addr) (V : Cell) (cd : Int32) (n : Nat) (f : Nat → Int32) (U : State) : Prop := Exact "java/lang/String" x U ∧ Has x "java/lang/String" "value" "[B" (.ref t) U ∧ Has x "java/lang/String" "coder" "B" (.int cd) U ∧ XT.Arr .byte t V U ∧ Cod cd n f V ∧ ∀ j, j < n → ¬ f j < 0 ∧ ¬ 65535 < f j
theorem Txt.mv {x t : Addr} {V : Cell} {cd : Int32} {n : Nat} {f : Nat → Int32} {U U' : State} (h : Txt x t V cd n f U) (hal : U.vm.Alike U'.vm) (hh : U'.heap = U.heap) : Txt x t V cd n f U' := ⟨h.1.mv hal hh, h.2.1.mv hal hh, h.2.2.1.mv hal hh, h.2.2.2.1.mv hal hh, h.2.2.2.2⟩
end StrChars
namespace StrChars.Road
open Jvm Sem ClassFile Op Lib Jvm.Stand Jvm.Free Jvm.Free.XT
open Jvm.Lib.Cold (StaticIs)
theorem consq {a : Array Value} {s : State} {c : Jvm.Cond} {L : List Jvm.Cond} (h0 : c.before a s = true) (h : ∀ w ∈ L, w.before a s = true) : ∀ w ∈ c :: L, w.before a s = true := fun w hw => (List.mem_cons.mp hw).elim (fun e => e ▸ h0) (h w)
/-- the bytes of the chars cs, low before high -/
def wideBytes : List Int32 → List Value
  | [] => []
  | c :: cs => .int (lo8 c) :: .int (hi8 c) :: wideBytes cs
theorem wide_lo (d : Value) : ∀ (cs : List Int32) (j : Nat), j < cs.length → (wideBytes cs).getD (2 * j) d = .int (lo8 (cs.getD j 0))
  | [], j, h => absurd h (Nat.not_lt_zero j)
  | c :: cs, 0, _ => rfl
  | c :: cs, j + 1, h => by
    have q := wide_lo d cs j (by simpa using h)
    rw [show 2 * (j + 1) = 2 * j + 1 + 1 from by omega]
    simpa [wideBytes] using q
theorem wide_hi (d : Value) : ∀ (cs : List Int32) (j : Nat), j < cs.length → (wideBytes cs).getD (2 * j + 1) d = .int (hi8 (cs.getD j 0))
  | [], j, h => absurd h (Nat.not_lt_zero j)
  | c :: cs, 0, _ => rfl
  | c :: cs, j + 1, h => by
    have q := wide_hi d cs j (by simpa using h)
    rw [show 2 * (j + 1) + 1 = 2 * j + 1 + 1 + 1 from by omega]
    simpa [wideBytes] using q
theorem low_at (d : Value) (cs : List Int32) (j : Nat) (h : j < cs.length) : (cs.map fun c => Value.int (lo8 c)).getD j d = .int (lo8 (cs.getD j 0)) := by
  simp [List.getD_eq_getElem?_getD, h]
/-- an array of N2 bytes vs codes the chars cs by the coder cd -/
def CodA (cs : List Int32) (cd N2 : Int32) (vs : List Value) : Prop := (cd = 0 ∧ N2 = Int32.ofNat cs.length ∧ vs = (cs.map fun c => Value.int (lo8 c)) ∧ ∀ c ∈ cs, ¬ 255 < c) ∨ (cd = 1 ∧ N2 = Int32.ofNat (2 * cs.length) ∧ vs = wideBytes cs ∧ ∃ c ∈ cs, 255 < c)
theorem CodA.cod {cs : List Int32} {cd N2 : Int32} {vs : List Value} {V : Cell} (h : CodA cs cd N2 vs) (hn : 2 * cs.length < 2 ^ 31) (hs : V.slots.size = N2.toNatClampNeg) (hv : RoadKit.Has V vs (.int 0)) : Cod cd cs.length (fun j => cs.getD j 0) V := by
  rcases h with ⟨rfl, rfl, rfl, h⟩ | ⟨rfl, rfl, rfl, c, hc, hw⟩
  · rw [n32 (by omega)] at hs
    exact Or.inl ⟨rfl, hs, fun j hj => ⟨by rw [hv j (by omega), low_at _ _ _ hj], by
      have e : cs.getD j 0 = cs[j] := by simp [List.getD_eq_getElem?_getD, hj]
      show ¬ 255 < cs.getD j 0
      rw [e]; exact h _ (List.getElem_mem _)⟩⟩
  · rw [n32 (by omega)] at hs
    obtain ⟨j, hj, rfl⟩ := List.getElem_of_mem hc
    exact Or.inr ⟨rfl, hs, fun j hj => ⟨by rw [hv _ (by omega), wide_lo _ _ _ hj], by rw [hv _ (by omega), wide_hi _ _ _ hj]⟩, j, hj, by
      have e : cs.getD j 0 = cs[j] := by simp [List.getD_eq_getElem?_getD, hj]
      show 255 < cs.getD j 0
      rw [e]; exact hw⟩
/-- an object of exactly java/lang/String, its two fields found: as the laws ask it -/
theorem strObj {Z U : State} {a0 : Array Value} {kI : Nat} (wi : (Jvm.Cond.instantiable ST kI).before a0 Z = true) (al : Z.vm.Alike U.vm) {x : Addr} {v0 c0 : Value} (E : RoadKit.Exa Z U.heap x ST) (V : RoadKit.Fld Z U.heap x ST "value" "[B" v0) (C : RoadKit.Fld Z U.heap x ST "coder" "B" c0) :
    ∃ (D : Cell) (fV fC : Field), Blank ST x D U ∧ Found ST "value" "[B" fV U ∧ Found ST "coder" "B" fC U ∧ D.slots[fV.slot]? = some v0 ∧ D.slots[fC.slot]? = some c0 ∧ RoadKit.slotOf Z ST "value" "[B" = fV.slot ∧ RoadKit.slotOf Z ST "coder" "B" = fC.slot := by
  obtain ⟨D, cfV, kV, iV, fV, hD, gV, stV, knV, obV, asV, slV⟩ := V
  obtain ⟨D', cfC, kC, iC, fC, hD', gC, stC, -, -, asC, slC⟩ := C
  cases hD.symm.trans hD'
  obtain ⟨D2, kD, e1, e2, e3, e4, e5⟩ := E
  cases hD.symm.trans e1
  obtain ⟨c2, k2, i1, i2, i3, -⟩ := Cond.instantiable_spec wi
  cases e2.symm.trans i1
  cases e3.symm.trans i2
  obtain ⟨kU, u1, u2⟩ := al.2.2 _ _ e3
  exact ⟨D, fV, fC, ⟨hD, ⟨knV, fun q hq => by rw [hq] at obV; cases obV⟩, by rw [al.findClass]; exact e2, kU, u1, by rw [u2]; exact i3, by rw [u2]; exact e5 i3⟩, ⟨SBG.found_only al ⟨cfV, kV, iV, gV⟩, stV⟩, ⟨SBG.found_only al ⟨cfC, kC, iC, gC⟩, stC⟩, slV, slC, by simp [RoadKit.slotOf, gV], by simp [RoadKit.slotOf, gC]⟩
theorem sta_is {Z U : State} (al : Z.vm.Alike U.vm) {C n d : String} {v : Value} (S : RoadKit.Sta Z U.heap C n d v) : StaticIs U C n d v := by
  obtain ⟨cfS, iS, kS, fS, st, cS, t1, t2, t3, t4, t5, t6, t7⟩ := S
  exact StaticIs.there (s := { Z with heap := U.heap }) ⟨cfS, iS, kS, fS, st, cS, t1, t2, t3, t4, t5, (fun q => by rw [q] at t6; cases t6), t7⟩ al rfl
end StrChars.Road
namespace StrChars
open Jvm Sem ClassFile Op Lib Jvm.Stand Jvm.Free.XT Jvm.Free.ALB Jvm.Free.JM Jvm.Free
open Jvm.Lib.Cold (StaticIs)
/-- what place i of a byte[]'s cell holds -/
def yv (A : Cell) (i : Nat) : Int32 := match A.slots[i]? with | some (.int x) => x | _ => 0
theorem yv_get {a : Addr} {A : Cell} {U : State} (h : XT.Arr .byte a A U) (ht : Typed .byte A) {i : Nat} (hi : i < A.slots.size) : A.slots[i]? = some (.int (yv A i)) := by
  have e := Array.getElem?_eq_getElem hi
  have f := ht i _ e
  unfold yv; rw [e]
  generalize A.slots[i] = v at f
  cases v <;> simp [fits] at f ⊢
/-- the two arrays are equal, place for place -/
def EqC (A B : Cell) : Prop := A.slots.size = B.slots.size ∧ ∀ i, i < A.slots.size → yv A i = yv B i
/-- a boolean that says whether p -/
def Says01 (q : Prop) (r : Option Value) (s u : State) : Prop := ∃ v : Int32, r = some (.int v) ∧ u.heap = s.heap ∧ ((v = 1 ∧ q) ∨ (v = 0 ∧ ¬ q))
theorem Says01.mv {q : Prop} : ∀ r (U U' V V' : State), U'.heap = U.heap → V.vm.Alike V'.vm → V'.heap = V.heap → Says01 q r U V → Says01 q r U' V' :=
  fun r U U' V V' h1 _ h2 ⟨v, a, b, c⟩ => ⟨v, a, by rw [h1, h2]; exact b, c⟩
namespace LEq
def yN : MethodName := ⟨"java/lang/StringLatin1", "equals", "([B[B)Z"⟩
abbrev yB : ByteArray := jdk_43_method_13_code
theorem d0 : decode yB 0 = .ok (.aload_n 0, 1) := by decide +kernel
theorem d1 : decode yB 1 = .ok (.arraylength, 1) := by decide +kernel
theorem d2 : decode yB 2 = .ok (.aload_n 1, 1) := by decide +kernel
theorem d3 : decode yB 3 = .ok (.arraylength, 1) := by decide +kernel
theorem d4 : decode yB 4 = .ok (.if_icmp (.ne) 30, 3) := by decide +kernel
theorem d7 : decode yB 7 = .ok (.iconst 0, 1) := by decide +kernel
theorem d8 : decode yB 8 = .ok (.istore_n 2, 1) := by decide +kernel
theorem d9 : decode yB 9 = .ok (.iload_n 2, 1) := by decide +kernel
theorem d10 : decode yB 10 = .ok (.aload_n 0, 1) := by decide +kernel
theorem d11 : decode yB 11 = .ok (.arraylength, 1) := by decide +kernel
theorem d12 : decode yB 12 = .ok (.if_icmp (.ge) 20, 3) := by decide +kernel
theorem d15 : decode yB 15 = .ok (.aload_n 0, 1) := by decide +kernel
theorem d16 : decode yB 16 = .ok (.iload_n 2, 1) := by decide +kernel
theorem d17 : decode yB 17 = .ok (.baload, 1) := by decide +kernel
theorem d18 : decode yB 18 = .ok (.aload_n 1, 1) := by decide +kernel
theorem d19 : decode yB 19 = .ok (.iload_n 2, 1) := by decide +kernel
theorem d20 : decode yB 20 = .ok (.baload, 1) := by decide +kernel
theorem d21 : decode yB 21 = .ok (.if_icmp (.eq) 5, 3) := by decide +kernel
theorem d24 : decode yB 24 = .ok (.iconst 0, 1) := by decide +kernel
theorem d25 : decode yB 25 = .ok (.ireturn, 1) := by decide +kernel
theorem d26 : decode yB 26 = .ok (.iinc 2 1, 3) := by decide +kernel
theorem d29 : decode yB 29 = .ok (.goto (-20), 3) := by decide +kernel
theorem d32 : decode yB 32 = .ok (.iconst 1, 1) := by decide +kernel
theorem d33 : decode yB 33 = .ok (.ireturn, 1) := by decide +kernel
theorem d34 : decode yB 34 = .ok (.iconst 0, 1) := by decide +kernel
theorem d35 : decode yB 35 = .ok (.ireturn, 1) := by decide +kernel
def site : List Cond := []
def tab : Cond := tabOf yN yB 3 (some .boolean) site
def P (a : Addr) (A : Cell) (b : Addr) (B : Cell) (args : Array Value) (s : State) : Prop := args = #[.ref a, .ref b] ∧ XT.Arr .byte a A s ∧ Typed .byte A ∧ XT.Arr .byte b B s ∧ Typed .byte B
/-- whether two byte[] are equal, place for place -/
theorem law (l : Launch) (a : Addr) (A : Cell) (b : Addr) (B : Cell) : Law l yN 2 2 0 0 yB 3 (some .boolean) site (P a A b B) (Says01 (EqC A B)) [] 0 0 := by
  refine Law.of_walk (plainFor_of_name (by decide +kernel)) (by decide +kernel) (by decide +kernel) (by decide) (fun _ _ h => by rw [h.1]; rfl) (fun _ U U' hal hh h => ⟨h.1, h.2.1.mv hal hh, h.2.2.1, h.2.2.2.1.mv hal hh, h.2.2.2.2⟩) (fun r U U' V V' h1 hal h2 h => Says01.mv r U U' V V' h1 hal h2 h) ?_
  intro p e s m args below meth c s₁ X0 hexec hbytes hml hret hlk hnm hown hh0 W hP
  obtain ⟨rfl, hA, tA, hB, tB⟩ := hP
  have a31 := hA.2.2.2
  have b31 := hB.2.2.2
  have hA0 := hA.mv X0.warmed.alike hh0
  have hB0 := hB.mv X0.warmed.alike hh0
  have c1 : Steps p.tables e below (s₁.setTop (entryFrame m #[.ref a, .ref b] 3)) (s₁.setTop (mkF m 0 #[.val (.ref a), .val (.ref b), .unset] [])) := entry rfl
  have c2 : Steps p.tables e below (s₁.setTop (entryFrame m #[.ref a, .ref b] 3)) (s₁.setTop (mkF m 4 #[.val (.ref a), .val (.ref b), .unset] [.int (Int32.ofNat B.slots.size), .int (Int32.ofNat A.slots.size)])) := c1.trans (by
    refine XS.aloadN X0.here hexec rfl (hb hbytes d0) rfl rfl ?_
    refine X0.alen hexec hA0 rfl rfl (hb hbytes d1) ?_
    refine XS.aloadN X0.here hexec rfl (hb hbytes d2) rfl rfl ?_
    refine X0.alen hexec hB0 rfl rfl (hb hbytes d3) ?_
    exact Steps.refl _)
  by_cases hs : A.slots.size = B.slots.size
  · have c3 : Steps p.tables e below (s₁.setTop (entryFrame m #[.ref a, .ref b] 3)) (s₁.setTop (mkF m 9 #[.val (.ref a), .val (.ref b), .val (.int 0)] [])) := c2.trans (by
      refine XS.icmpNo X0.here hexec rfl (hb hbytes d4) rfl (ii_ne_f (by rw [hs])) ?_
      refine iconstV X0.here hexec rfl 0 (hb hbytes d7) (by decide) ?_
      refine XS.istoreN X0.here hexec rfl (hb hbytes d8) rfl rfl ?_
      exact Steps.refl _)
    have loop : ∀ (r i : Nat), i + r = A.slots.size → (∀ j, j < i → yv A j = yv B j) → Steps p.tables e below (s₁.setTop (entryFrame m #[.ref a, .ref b] 3)) (s₁.setTop (mkF m 9 #[.val (.ref a), .val (.ref b), .val (.int (Int32.ofNat i))] [])) → ∃ (pc : Nat) (Ls : Array Slot) (v : Int32), (pc = 25 ∨ pc = 33) ∧ ((v = 1 ∧ EqC A B) ∨ (v = 0 ∧ ¬ EqC A B)) ∧ Steps p.tables e below (s₁.setTop (entryFrame m #[.ref a, .ref b] 3)) (s₁.setTop (mkF m pc Ls [.int v])) := by
      intro r
      induction r with
      | zero =>
        intro i hi he cl
        exact ⟨33, _, 1, Or.inr rfl, Or.inl ⟨rfl, hs, fun j hj => he j (by omega)⟩, cl.trans (by
          refine XS.iloadN X0.here hexec rfl (hb hbytes d9) rfl ?_
          refine XS.aloadN X0.here hexec rfl (hb hbytes d10) rfl rfl ?_
          refine X0.alen hexec hA0 rfl rfl (hb hbytes d11) ?_
          refine XS.icmpYes X0.here hexec rfl (pc0 := 12) rfl (hb hbytes d12) rfl (ii_ge_t (nlt32 (by omega) (by omega))) (by decide) rfl ?_
          refine iconstV X0.here hexec rfl 1 (hb hbytes d32) (by decide) ?_
          exact Steps.refl _)⟩
      | succ r ih =>
        intro i hi he cl
        have c4 : Steps p.tables e below (s₁.setTop (entryFrame m #[.ref a, .ref b] 3)) (s₁.setTop (mkF m 21 #[.val (.ref a), .val (.ref b), .val (.int (Int32.ofNat i))] [.int (yv B i), .int (yv A i)])) := cl.trans (by
          refine XS.iloadN X0.here hexec rfl (hb hbytes d9) rfl ?_
          refine XS.aloadN X0.here hexec rfl (hb hbytes d10) rfl rfl ?_
          refine X0.alen hexec hA0 rfl rfl (hb hbytes d11) ?_
          refine XS.icmpNo X0.here hexec rfl (hb hbytes d12) rfl (ii_ge_f (lt32 (by omega) (by omega))) ?_
          refine XS.aloadN X0.here hexec rfl (hb hbytes d15) rfl rfl ?_
          refine XS.iloadN X0.here hexec rfl (hb hbytes d16) rfl ?_
          refine X0.aget hexec hA0 rfl (yv_get hA tA (i := i) (by omega)) rfl rfl (hb hbytes d17) ?_
          refine XS.aloadN X0.here hexec rfl (hb hbytes d18) rfl rfl ?_
          refine XS.iloadN X0.here hexec rfl (hb hbytes d19) rfl ?_
          refine X0.aget hexec hB0 rfl (yv_get hB tB (i := i) (by omega)) rfl rfl (hb hbytes d20) ?_
          exact Steps.refl _)
        by_cases hv : yv A i = yv B i
        · have c5 : Steps p.tables e below (s₁.setTop (entryFrame m #[.ref a, .ref b] 3)) (s₁.setTop (mkF m 9 #[.val (.ref a), .val (.ref b), .val (.int (Int32.ofNat i + 1))] [])) := c4.trans (by
            refine XS.icmpYes X0.here hexec rfl (pc0 := 21) rfl (hb hbytes d21) rfl (ii_eq_t hv) (by decide) rfl ?_
            refine iincV X0.here hexec rfl 1 (hb hbytes d26) (by decide) rfl rfl ?_
            refine XS.goto X0.here hexec rfl (pc0 := 29) rfl (hb hbytes d29) (by decide) rfl ?_
            exact Steps.refl _)
          rw [succ32] at c5
          exact ih (i + 1) (by omega) (fun j hj => by
            by_cases e : j = i
            · rw [e]; exact hv
            · exact he j (by omega)) c5
        · exact ⟨25, _, 0, Or.inl rfl, Or.inr ⟨rfl, fun q => hv (q.2 i (by omega))⟩, c4.trans (by
            refine XS.icmpNo X0.here hexec rfl (hb hbytes d21) rfl (ii_eq_f hv) ?_
            refine iconstV X0.here hexec rfl 0 (hb hbytes d24) (by decide) ?_
            exact Steps.refl _)⟩
    obtain ⟨pc, Ls, v, hpc, hv, cz⟩ := loop A.slots.size 0 (by omega) (fun j hj => absurd hj (Nat.not_lt_zero j)) c3
    have nv : narrow .boolean (.int v) = .int v := by rcases hv with ⟨rfl, -⟩ | ⟨rfl, -⟩ <;> rfl
    rcases hpc with rfl | rfl
    · exact ⟨s₁, some (.int v), _, _, _, X0, rfl, rfl, rfl, (fun h => by cases h), ⟨v, rfl, hh0, hv⟩, fun fs hl => cz.trans (X0.ireturnOut hexec hret nv (Or.inr (Or.inl rfl)) (hb hbytes d25) hl)⟩
    · exact ⟨s₁, some (.int v), _, _, _, X0, rfl, rfl, rfl, (fun h => by cases h), ⟨v, rfl, hh0, hv⟩, fun fs hl => cz.trans (X0.ireturnOut hexec hret nv (Or.inr (Or.inl rfl)) (hb hbytes d33) hl)⟩
  · have c3 : Steps p.tables e below (s₁.setTop (entryFrame m #[.ref a, .ref b] 3)) (s₁.setTop (mkF m 35 #[.val (.ref a), .val (.ref b), .unset] [.int 0])) := c2.trans (by
      refine XS.icmpYes X0.here hexec rfl (pc0 := 4) rfl (hb hbytes d4) rfl (ii_ne_t (ne32 a31 b31 hs)) (by decide) rfl ?_
      refine iconstV X0.here hexec rfl 0 (hb hbytes d34) (by decide) ?_
      exact Steps.refl _)
    exact ⟨s₁, some (.int 0), _, _, _, X0, rfl, rfl, rfl, (fun h => by cases h), ⟨0, rfl, hh0, Or.inr ⟨rfl, fun q => hs q.1⟩⟩, fun fs hl => c3.trans (X0.ireturnOut hexec hret rfl (Or.inr (Or.inl rfl)) (hb hbytes d35) hl)⟩
end LEq
theorem Cod.ty {cd : Int32} {n : Nat} {f : Nat → Int32} {V : Cell} (h : Cod cd n f V) : Typed .byte V := fun i v hv => by
  have hi : i < V.slots.size := (Array.getElem?_eq_some_iff.mp hv).1
  rcases h with ⟨-, k1, k2⟩ | ⟨-, k1, k2, -⟩
  · rw [(k2 i (by omega)).1] at hv; cases hv; exact fits_lo8 _
  · rcases Nat.mod_two_eq_zero_or_one i with e | e
    · obtain ⟨j, rfl⟩ : ∃ j, i = 2 * j := ⟨i / 2, by omega⟩
      rw [(k2 j (by omega)).1] at hv; cases hv; exact fits_lo8 _
    · obtain ⟨j, rfl⟩ : ∃ j, i = 2 * j + 1 := ⟨i / 2, by omega⟩
      rw [(k2 j (by omega)).2] at hv; cases hv; exact fits_lo8 _
/-- the same text -/
def SameT (n : Nat) (f : Nat → Int32) (k : Nat) (g : Nat → Int32) : Prop := n = k ∧ ∀ j, j < n → f j = g j
theorem lo8_inj {x y : Int32} (h0 : ¬ x < 0) (h1 : ¬ 255 < x) (k0 : ¬ y < 0) (k1 : ¬ 255 < y) (h : lo8 x = lo8 y) : x = y := by
  rw [← lo8_mask h0 h1, ← lo8_mask k0 k1, h]
/-- arrays coded by one coder are equal just where the texts are -/
theorem Cod.eqv {cd : Int32} {n k : Nat} {f g : Nat → Int32} {V V' : Cell} (h : Cod cd n f V) (h' : Cod cd k g V') (hf : ∀ j, j < n → ¬ f j < 0 ∧ ¬ 65535 < f j) (hg : ∀ j, j < k → ¬ g j < 0 ∧ ¬ 65535 < g j) : EqC V V' ↔ SameT n f k g := by
  have yvv : ∀ {W : Cell} {i : Nat} {x : Int32}, W.slots[i]? = some (.int x) → yv W i = x := fun q => by unfold yv; rw [q]
  rcases h with ⟨rfl, k1, k2⟩ | ⟨rfl, k1, k2, -⟩
  · rcases h' with ⟨-, m1, m2⟩ | ⟨e, -⟩
    · constructor
      · rintro ⟨e1, e2⟩
        refine ⟨by omega, fun j hj => ?_⟩
        have q := e2 j (by omega)
        rw [yvv (k2 j hj).1, yvv (m2 j (by omega)).1] at q
        exact lo8_inj (hf j hj).1 (k2 j hj).2 (hg j (by omega)).1 (m2 j (by omega)).2 q
      · rintro ⟨rfl, e2⟩
        refine ⟨by omega, fun j hj => ?_⟩
        rw [yvv (k2 j (by omega)).1, yvv (m2 j (by omega)).1, e2 j (by omega)]
    · exact absurd e (by decide)
  · rcases h' with ⟨e, -⟩ | ⟨-, m1, m2, -⟩
    · exact absurd e (by decide)
    · constructor
      · rintro ⟨e1, e2⟩
        refine ⟨by omega, fun j hj => ?_⟩
        have q1 := e2 (2 * j) (by omega)
        have q2 := e2 (2 * j + 1) (by omega)
        rw [yvv (k2 j hj).1, yvv (m2 j (by omega)).1] at q1
        rw [yvv (k2 j hj).2, yvv (m2 j (by omega)).2] at q2
        rw [← pair_says (hf j hj).1 (hf j hj).2, ← pair_says (hg j (by omega)).1 (hg j (by omega)).2, q1, q2]
      · rintro ⟨rfl, e2⟩
        refine ⟨by omega, fun i hi => ?_⟩
        rcases Nat.mod_two_eq_zero_or_one i with e | e
        · obtain ⟨j, rfl⟩ : ∃ j, i = 2 * j := ⟨i / 2, by omega⟩
          rw [yvv (k2 j (by omega)).1, yvv (m2 j (by omega)).1, e2 j (by omega)]
        · obtain ⟨j, rfl⟩ : ∃ j, i = 2 * j + 1 := ⟨i / 2, by omega⟩
          rw [yvv (k2 j (by omega)).2, yvv (m2 j (by omega)).2, e2 j (by omega)]
/-- two codings differ: so do the texts -/
theorem Cod.dif {cd cd' : Int32} {n k : Nat} {f g : Nat → Int32} {V V' : Cell} (h : Cod cd n f V) (h' : Cod cd' k g V') (hne : ¬ cd = cd') : ¬ SameT n f k g := by
  rintro ⟨rfl, e⟩
  rcases h with ⟨rfl, -, k2⟩ | ⟨rfl, -, -, j, hj, hw⟩
  · rcases h' with ⟨rfl, -⟩ | ⟨-, -, -, j, hj, hw⟩
    · exact hne rfl
    · exact (k2 j hj).2 (by rw [e j hj]; exact hw)
  · rcases h' with ⟨-, -, m2⟩ | ⟨rfl, -⟩
    · exact (m2 j hj).2 (by rw [← e j hj]; exact hw)
    · exact hne rfl
/-- an object of exactly C is an instance of C -/
theorem cinst {p : Program} {l : Launch} {e : Env} {R : Room} {s : State} {m : MethodId} {args : Array Value} {below : List Frame} {meth : Method} {c : Code} {T : State} {locs : List Loc} {cells slots : Nat} (X : Stand p l e R s m args below meth c T locs cells slots) (hexec : p.tables.exec = Jvm.exec) {own C : String} {index : Nat} (hown : s.vm.findClass own = some m.cls) (hlink : (Cond.classLink own index C).before args s = true) {a : Addr} (hE : Exact C a T)
    {g : JFrame} (hg : g.method = m) {rest : List Value} (hstack : g.stack = .ref a :: rest) (hdg : decode c.code g.pc = .ok (.instanceof index, 3)) :
    ∃ T', Stand p l e R s m args below meth c T' locs cells slots ∧ T'.heap = T.heap ∧ ∀ target, Steps p.tables e below (T'.setTop { g with pc := g.pc + 3, stack := .int 1 :: rest }) target → Steps p.tables e below (T.setTop g) target := by
  obtain ⟨cB, h1, D, h2, h3, h4⟩ := hE
  have h1' : s.vm.findClass C = some cB := by rw [← X.warmed.alike.findClass]; exact h1
  obtain ⟨vm', X', st⟩ := X.instanceofYes hexec hown hlink h2 h4 h1' (by rw [h3]; exact Jvm.Free.SB.assignable_self _ _) hg hstack hdg
  exact ⟨_, X', rfl, st⟩
theorem cself {p : Program} {l : Launch} {e : Env} {R : Room} {s : State} {m : MethodId} {args : Array Value} {below : List Frame} {meth : Method} {c : Code} {T : State} {locs : List Loc} {cells slots : Nat} (X : Stand p l e R s m args below meth c T locs cells slots) (hexec : p.tables.exec = Jvm.exec) {own C : String} {index : Nat} (hown : s.vm.findClass own = some m.cls) (hlink : (Cond.classLink own index C).before args s = true) {a : Addr} (hE : Exact C a T)
    {g : JFrame} (hg : g.method = m) {rest : List Value} (hstack : g.stack = .ref a :: rest) (hdg : decode c.code g.pc = .ok (.checkcast index, 3)) :
    ∃ T', Stand p l e R s m args below meth c T' locs cells slots ∧ T'.heap = T.heap ∧ ∀ target, Steps p.tables e below (T'.setTop { g with pc := g.pc + 3, stack := .ref a :: rest }) target → Steps p.tables e below (T.setTop g) target := by
  obtain ⟨cB, h1, D, h2, h3, h4⟩ := hE
  have h1' : s.vm.findClass C = some cB := by rw [← X.warmed.alike.findClass]; exact h1
  obtain ⟨vm', X', st⟩ := X.checkcastYes hexec hown hlink h2 h4 h1' (by rw [h3]; exact Jvm.Free.SB.assignable_self _ _) hg hstack hdg
  exact ⟨_, X', rfl, fun t h => st t (by rw [← hstack] at h; exact h)⟩
namespace SEq
def yN : MethodName := ⟨"java/lang/String", "equals", "(Ljava/lang/Object;)Z"⟩
abbrev yB : ByteArray := jdk_42_method_66_code
theorem d0 : decode yB 0 = .ok (.aload_n 0, 1) := by decide +kernel
theorem d1 : decode yB 1 = .ok (.aload_n 1, 1) := by decide +kernel
theorem d2 : decode yB 2 = .ok (.if_acmp (.ne) 5, 3) := by decide +kernel
theorem d5 : decode yB 5 = .ok (.iconst 1, 1) := by decide +kernel
theorem d6 : decode yB 6 = .ok (.ireturn, 1) := by decide +kernel
theorem d7 : decode yB 7 = .ok (.aload_n 1, 1) := by decide +kernel
theorem d8 : decode yB 8 = .ok (.instanceof 10, 3) := by decide +kernel
theorem d11 : decode yB 11 = .ok (.ifCond (.eq) 43, 3) := by decide +kernel
theorem d14 : decode yB 14 = .ok (.aload_n 1, 1) := by decide +kernel
theorem d15 : decode yB 15 = .ok (.checkcast 10, 3) := by decide +kernel
theorem d18 : decode yB 18 = .ok (.astore_n 2, 1) := by decide +kernel
theorem d19 : decode yB 19 = .ok (.getstatic 38, 3) := by decide +kernel
theorem d22 : decode yB 22 = .ok (.ifCond (.eq) 14, 3) := by decide +kernel
theorem d25 : decode yB 25 = .ok (.aload_n 0, 1) := by decide +kernel
theorem d26 : decode yB 26 = .ok (.getfield 15, 3) := by decide +kernel
theorem d29 : decode yB 29 = .ok (.aload_n 2, 1) := by decide +kernel
theorem d30 : decode yB 30 = .ok (.getfield 15, 3) := by decide +kernel
theorem d33 : decode yB 33 = .ok (.if_icmp (.ne) 21, 3) := by decide +kernel
theorem d36 : decode yB 36 = .ok (.aload_n 0, 1) := by decide +kernel
theorem d37 : decode yB 37 = .ok (.getfield 9, 3) := by decide +kernel
theorem d40 : decode yB 40 = .ok (.aload_n 2, 1) := by decide +kernel
theorem d41 : decode yB 41 = .ok (.getfield 9, 3) := by decide +kernel
theorem d44 : decode yB 44 = .ok (.invokestatic 541, 3) := by decide +kernel
theorem d47 : decode yB 47 = .ok (.ifCond (.eq) 7, 3) := by decide +kernel
theorem d50 : decode yB 50 = .ok (.iconst 1, 1) := by decide +kernel
theorem d51 : decode yB 51 = .ok (.goto 4, 3) := by decide +kernel
theorem d54 : decode yB 54 = .ok (.iconst 0, 1) := by decide +kernel
theorem d55 : decode yB 55 = .ok (.ireturn, 1) := by decide +kernel
def site : List Cond := [.classLink "java/lang/String" 10 "java/lang/String", .fieldLink "java/lang/String" 38 "java/lang/String" "COMPACT_STRINGS" "Z", .fieldLink "java/lang/String" 15 "java/lang/String" "coder" "B", .fieldLink "java/lang/String" 9 "java/lang/String" "value" "[B", LEq.tab] ++ staticW "java/lang/String" 541 LEq.yN
def tab : Cond := tabOf yN yB 3 (some .boolean) site
def P (x t : Addr) (V : Cell) (cd : Int32) (n : Nat) (f : Nat → Int32) (y t' : Addr) (V' : Cell) (cd' : Int32) (k : Nat) (g : Nat → Int32) (z : Int32) (args : Array Value) (s : State) : Prop := args = #[.ref x, .ref y] ∧ Txt x t V cd n f s ∧ Txt y t' V' cd' k g s ∧ StaticIs s "java/lang/String" "COMPACT_STRINGS" "Z" (.int z) ∧ ¬ z = 0
/-- equals(Object) of two Strings: whether the texts are the same -/
theorem law (l : Launch) (x t : Addr) (V : Cell) (cd : Int32) (n : Nat) (f : Nat → Int32) (y t' : Addr) (V' : Cell) (cd' : Int32) (k : Nat) (g : Nat → Int32) (z : Int32) : Law l yN 2 1 1 14 yB 3 (some .boolean) site (P x t V cd n f y t' V' cd' k g z) (Says01 (SameT n f k g)) [] 0 0 := by
  refine Law.of_walk (plainFor_of_name (by decide +kernel)) (by decide +kernel) (by decide +kernel) (by decide) (fun _ _ h => by rw [h.1]; rfl) (fun _ U U' hal hh h => ⟨h.1, h.2.1.mv hal hh, h.2.2.1.mv hal hh, h.2.2.2.1.there hal hh, h.2.2.2.2⟩) (fun r U U' V V' h1 hal h2 h => Says01.mv r U U' V V' h1 hal h2 h) ?_
  intro p e s m args below meth c s₁ X0 hexec hbytes hml hret hlk hnm hown hh0 W hP
  obtain ⟨rfl, hx, hy, s1, hz⟩ := hP
  have c1 : Steps p.tables e below (s₁.setTop (entryFrame m #[.ref x, .ref y] 3)) (s₁.setTop (mkF m 2 #[.val (.ref x), .val (.ref y), .unset] [.ref y, .ref x])) := Steps.trans (entry rfl) (by
    show Steps p.tables e below (s₁.setTop (mkF m 0 #[.val (.ref x), .val (.ref y), .unset] [])) _
    refine XS.aloadN X0.here hexec rfl (hb hbytes d0) rfl rfl ?_
    refine XS.aloadN X0.here hexec rfl (hb hbytes d1) rfl rfl ?_
    exact Steps.refl _)
  by_cases hxy : x = y
  · have c2 : Steps p.tables e below (s₁.setTop (entryFrame m #[.ref x, .ref y] 3)) (s₁.setTop (mkF m 6 #[.val (.ref x), .val (.ref y), .unset] [.int 1])) := c1.trans (by
      refine acmpNo X0.here hexec rfl (hb hbytes d2) rfl rfl rfl (by simp [acmp, hxy]) ?_
      refine iconstV X0.here hexec rfl 1 (hb hbytes d5) (by decide) ?_
      exact Steps.refl _)
    subst hxy
    have ec : cd = cd' := by
      obtain ⟨D, fd, a1, a2, a3⟩ := hx.2.2.1
      obtain ⟨D', fd', b1, b2, b3⟩ := hy.2.2.1
      cases a1.symm.trans b1
      obtain ⟨q1, q2, q3, q4⟩ := a2.1
      obtain ⟨r1, r2, r3, r4⟩ := b2.1
      cases q4.symm.trans r4
      cases a3.symm.trans b3; rfl
    have et : t = t' := by
      obtain ⟨D, fd, a1, a2, a3⟩ := hx.2.1
      obtain ⟨D', fd', b1, b2, b3⟩ := hy.2.1
      cases a1.symm.trans b1
      obtain ⟨q1, q2, q3, q4⟩ := a2.1
      obtain ⟨r1, r2, r3, r4⟩ := b2.1
      cases q4.symm.trans r4
      cases a3.symm.trans b3; rfl
    subst ec et
    have ev : V = V' := by cases hx.2.2.2.1.1.symm.trans hy.2.2.2.1.1; rfl
    subst ev
    have hs : SameT n f k g := (Cod.eqv hx.2.2.2.2.1 hy.2.2.2.2.1 hx.2.2.2.2.2 hy.2.2.2.2.2).mp ⟨rfl, fun _ _ => rfl⟩
    exact ⟨s₁, some (.int 1), _, _, _, X0, rfl, rfl, rfl, (fun h => by cases h), ⟨1, rfl, hh0, Or.inl ⟨rfl, hs⟩⟩, fun fs hl => c2.trans (X0.ireturnOut hexec hret rfl (Or.inr (Or.inl rfl)) (hb hbytes d6) hl)⟩
  · have c2 : Steps p.tables e below (s₁.setTop (entryFrame m #[.ref x, .ref y] 3)) (s₁.setTop (mkF m 8 #[.val (.ref x), .val (.ref y), .unset] [.ref y])) := c1.trans (by
      refine acmpYes X0.here hexec rfl (pc0 := 2) rfl (hb hbytes d2) rfl rfl rfl (by simp [acmp, hxy]) (by decide) rfl ?_
      refine XS.aloadN X0.here hexec rfl (hb hbytes d7) rfl rfl ?_
      exact Steps.refl _)
    obtain ⟨T3, X3, q3, st3⟩ := cinst X0 hexec hown (wk W (.classLink "java/lang/String" 10 "java/lang/String")) (hy.mv X0.warmed.alike hh0).1 (g := (mkF m 8 #[.val (.ref x), .val (.ref y), .unset] [.ref y])) rfl (rest := []) rfl (hb hbytes d8)
    have hh3 := q3.trans hh0
    have c4 : Steps p.tables e below (s₁.setTop (entryFrame m #[.ref x, .ref y] 3)) (T3.setTop (mkF m 15 #[.val (.ref x), .val (.ref y), .unset] [.ref y])) := (c2.trans (st3 _ (Steps.refl _))).trans (by
      refine XS.ifNo X3.here hexec rfl (hb hbytes d11) rfl (i0_eq_f (by decide)) ?_
      refine XS.aloadN X3.here hexec rfl (hb hbytes d14) rfl rfl ?_
      exact Steps.refl _)
    obtain ⟨T5, X5, q5, st5⟩ := cself X3 hexec hown (wk W (.classLink "java/lang/String" 10 "java/lang/String")) (hy.mv X3.warmed.alike hh3).1 (g := (mkF m 15 #[.val (.ref x), .val (.ref y), .unset] [.ref y])) rfl (rest := []) rfl (hb hbytes d15)
    have hh5 := q5.trans hh3
    have c6 : Steps p.tables e below (s₁.setTop (entryFrame m #[.ref x, .ref y] 3)) (T5.setTop (mkF m 19 #[.val (.ref x), .val (.ref y), .val (.ref y)] [])) := (c4.trans (st5 _ (Steps.refl _))).trans (by
      refine XS.astoreN X5.here hexec rfl (hb hbytes d18) rfl rfl rfl ?_
      exact Steps.refl _)
    obtain ⟨T7, X7, q7, st7⟩ := X5.sget hexec hown (wk W (.fieldLink "java/lang/String" 38 "java/lang/String" "COMPACT_STRINGS" "Z")) s1 (fun _ _ h => by rw [hh5]; exact h) (g := (mkF m 19 #[.val (.ref x), .val (.ref y), .val (.ref y)] [])) rfl (hb hbytes d19)
    have hh7 := q7.trans hh5
    have c8 : Steps p.tables e below (s₁.setTop (entryFrame m #[.ref x, .ref y] 3)) (T7.setTop (mkF m 26 #[.val (.ref x), .val (.ref y), .val (.ref y)] [.ref x])) := (c6.trans (st7 _ (Steps.refl _))).trans (by
      refine XS.ifNo X7.here hexec rfl (hb hbytes d22) rfl (i0_eq_f hz) ?_
      refine XS.aloadN X7.here hexec rfl (hb hbytes d25) rfl rfl ?_
      exact Steps.refl _)
    obtain ⟨T9, X9, q9, st9⟩ := X7.hget hexec hown (wk W (.fieldLink "java/lang/String" 15 "java/lang/String" "coder" "B")) (hx.mv X7.warmed.alike hh7).2.2.1 (g := (mkF m 26 #[.val (.ref x), .val (.ref y), .val (.ref y)] [.ref x])) rfl (rest := []) rfl (hb hbytes d26)
    have hh9 := q9.trans hh7
    have c10 : Steps p.tables e below (s₁.setTop (entryFrame m #[.ref x, .ref y] 3)) (T9.setTop (mkF m 30 #[.val (.ref x), .val (.ref y), .val (.ref y)] [.ref y, .int cd])) := (c8.trans (st9 _ (Steps.refl _))).trans (by
      refine XS.aloadN X9.here hexec rfl (hb hbytes d29) rfl rfl ?_
      exact Steps.refl _)
    obtain ⟨T11, X11, q11, st11⟩ := X9.hget hexec hown (wk W (.fieldLink "java/lang/String" 15 "java/lang/String" "coder" "B")) (hy.mv X9.warmed.alike hh9).2.2.1 (g := (mkF m 30 #[.val (.ref x), .val (.ref y), .val (.ref y)] [.ref y, .int cd])) rfl (rest := [.int cd]) rfl (hb hbytes d30)
    have hh11 := q11.trans hh9
    have c12 : Steps p.tables e below (s₁.setTop (entryFrame m #[.ref x, .ref y] 3)) (T11.setTop (mkF m 33 #[.val (.ref x), .val (.ref y), .val (.ref y)] [.int cd', .int cd])) := c10.trans (st11 _ (Steps.refl _))
    by_cases hcd : cd = cd'
    · subst hcd
      have c13 : Steps p.tables e below (s₁.setTop (entryFrame m #[.ref x, .ref y] 3)) (T11.setTop (mkF m 37 #[.val (.ref x), .val (.ref y), .val (.ref y)] [.ref x])) := c12.trans (by
        refine XS.icmpNo X11.here hexec rfl (hb hbytes d33) rfl (ii_ne_f rfl) ?_
        refine XS.aloadN X11.here hexec rfl (hb hbytes d36) rfl rfl ?_
        exact Steps.refl _)
      obtain ⟨T14, X14, q14, st14⟩ := X11.hget hexec hown (wk W (.fieldLink "java/lang/String" 9 "java/lang/String" "value" "[B")) (hx.mv X11.warmed.alike hh11).2.1 (g := (mkF m 37 #[.val (.ref x), .val (.ref y), .val (.ref y)] [.ref x])) rfl (rest := []) rfl (hb hbytes d37)
      have hh14 := q14.trans hh11
      have c15 : Steps p.tables e below (s₁.setTop (entryFrame m #[.ref x, .ref y] 3)) (T14.setTop (mkF m 41 #[.val (.ref x), .val (.ref y), .val (.ref y)] [.ref y, .ref t])) := (c13.trans (st14 _ (Steps.refl _))).trans (by
        refine XS.aloadN X14.here hexec rfl (hb hbytes d40) rfl rfl ?_
        exact Steps.refl _)
      obtain ⟨T16, X16, q16, st16⟩ := X14.hget hexec hown (wk W (.fieldLink "java/lang/String" 9 "java/lang/String" "value" "[B")) (hy.mv X14.warmed.alike hh14).2.1 (g := (mkF m 41 #[.val (.ref x), .val (.ref y), .val (.ref y)] [.ref y, .ref t])) rfl (rest := [.ref t]) rfl (hb hbytes d41)
      have hh16 := q16.trans hh14
      have c17 : Steps p.tables e below (s₁.setTop (entryFrame m #[.ref x, .ref y] 3)) (T16.setTop (mkF m 44 #[.val (.ref x), .val (.ref y), .val (.ref y)] [.ref t', .ref t])) := c15.trans (st16 _ (Steps.refl _))
      obtain ⟨v18, T18, X18, E18, g18⟩ := X16.callS hexec (LEq.law l t V t' V') hown (wks W (staticW "java/lang/String" 541 LEq.yN)) (wk W LEq.tab) (W := 0) (Nat.le_of_ble_eq_true rfl) (Nat.le_of_ble_eq_true rfl) (Nat.le_refl _) (Nat.le_refl _) (g := (mkF m 44 #[.val (.ref x), .val (.ref y), .val (.ref y)] [.ref t', .ref t])) rfl (by rw [hml]; rfl) c17 (argsL := [.ref t, .ref t']) (rest := []) rfl rfl (by show 2 * 0 + 0 ≤ _; decide) (hb hbytes d44) (⟨rfl, hx.2.2.2.1.mv X16.warmed.alike hh16, hx.2.2.2.2.1.ty, hy.2.2.2.1.mv X16.warmed.alike hh16, hy.2.2.2.2.1.ty⟩)
      obtain ⟨v, rfl, q18, hv⟩ := E18
      have iff := Cod.eqv hx.2.2.2.2.1 hy.2.2.2.2.1 hx.2.2.2.2.2 hy.2.2.2.2.2
      rcases hv with ⟨rfl, he⟩ | ⟨rfl, he⟩
      · have c19 : Steps p.tables e below (s₁.setTop (entryFrame m #[.ref x, .ref y] 3)) (T18.setTop (mkF m 55 #[.val (.ref x), .val (.ref y), .val (.ref y)] [.int 1])) := Steps.trans g18 (by
          refine XS.ifNo X18.here hexec rfl (hb hbytes d47) rfl (i0_eq_f (by decide)) ?_
          refine iconstV X18.here hexec rfl 1 (hb hbytes d50) (by decide) ?_
          refine XS.goto X18.here hexec rfl (pc0 := 51) rfl (hb hbytes d51) (by decide) rfl ?_
          exact Steps.refl _)
        exact ⟨T18, some (.int 1), _, _, _, X18, rfl, rfl, rfl, (fun h => by cases h), ⟨1, rfl, q18.trans hh16, Or.inl ⟨rfl, iff.mp he⟩⟩, fun fs hl => c19.trans (X18.ireturnOut hexec hret rfl (Or.inr (Or.inl rfl)) (hb hbytes d55) hl)⟩
      · have c19 : Steps p.tables e below (s₁.setTop (entryFrame m #[.ref x, .ref y] 3)) (T18.setTop (mkF m 55 #[.val (.ref x), .val (.ref y), .val (.ref y)] [.int 0])) := Steps.trans g18 (by
          refine XS.ifYes X18.here hexec rfl (pc0 := 47) rfl (hb hbytes d47) rfl (i0_eq_t rfl) (by decide) rfl ?_
          refine iconstV X18.here hexec rfl 0 (hb hbytes d54) (by decide) ?_
          exact Steps.refl _)
        exact ⟨T18, some (.int 0), _, _, _, X18, rfl, rfl, rfl, (fun h => by cases h), ⟨0, rfl, q18.trans hh16, Or.inr ⟨rfl, fun q => he (iff.mpr q)⟩⟩, fun fs hl => c19.trans (X18.ireturnOut hexec hret rfl (Or.inr (Or.inl rfl)) (hb hbytes d55) hl)⟩
    · have c13 : Steps p.tables e below (s₁.setTop (entryFrame m #[.ref x, .ref y] 3)) (T11.setTop (mkF m 55 #[.val (.ref x), .val (.ref y), .val (.ref y)] [.int 0])) := c12.trans (by
        refine XS.icmpYes X11.here hexec rfl (pc0 := 33) rfl (hb hbytes d33) rfl (ii_ne_t hcd) (by decide) rfl ?_
        refine iconstV X11.here hexec rfl 0 (hb hbytes d54) (by decide) ?_
        exact Steps.refl _)
      exact ⟨T11, some (.int 0), _, _, _, X11, rfl, rfl, rfl, (fun h => by cases h), ⟨0, rfl, hh11, Or.inr ⟨rfl, Cod.dif hx.2.2.2.2.1 hy.2.2.2.2.1 hcd⟩⟩, fun fs hl => c13.trans (X11.ireturnOut hexec hret rfl (Or.inr (Or.inl rfl)) (hb hbytes d55) hl)⟩
theorem pays {l : Launch} {R : Room} {p : Program} {e : Env} {below : List Frame} {s : State} {sargs : Array Value} {len W : Nat} (x t : Addr) (V : Cell) (cd : Int32) (n : Nat) (f : Nat → Int32) (y t' : Addr) (V' : Cell) (cd' : Int32) (k : Nat) (g : Nat → Int32) (z : Int32) (htab : tab.before sargs s = true) (hfr : 2 ≤ R.frames) (hlo : W + 28 ≤ R.locals) :
    Back l R p e below s sargs yN len W (fun A₁ a₁ => A₁.cells + 0 ≤ R.cells ∧ A₁.slots + 0 ≤ R.slots ∧ P x t V cd n f y t' V' cd' k g z a₁ A₁.U) (fun A₁ _ v₁ B₁ => Says01 (SameT n f k g) v₁ A₁.U B₁.U ∧ B₁.locs = A₁.locs ++ [] ∧ B₁.cells = A₁.cells + 0 ∧ B₁.slots = A₁.slots + 0) :=
  (law l x t V cd n f y t' V' cd' k g z).pays htab hfr (by omega)
end SEq
end StrChars
namespace StrChars.Road
open Jvm Sem ClassFile Op Lib Jvm.Stand Jvm.Free Jvm.Free.XT
open Jvm.Lib.Cold (StaticIs)
/-- the words of String.equals(Object) -/
abbrev wordsEq : List Jvm.Cond := [.code SEq.yN SEq.yB 3 (some .boolean), .initialized ST, .classLink ST 10 ST, .fieldLink ST 38 ST "COMPACT_STRINGS" "Z", .fieldLink ST 15 ST "coder" "B", .fieldLink ST 9 ST "value" "[B", .methodLink ST 541 LEq.yN, .static LEq.yN, .code LEq.yN LEq.yB 3 (some .boolean), .initialized "java/lang/StringLatin1"]
theorem tabEq_of {a : Array Value} {s : State} (h : ∀ w ∈ wordsEq, w.before a s = true) : SEq.tab.before a s = true := by
  have hl : LEq.tab.before a s = true := unparts (wk h (.code LEq.yN LEq.yB 3 (some .boolean))) (wks h (.initialized LEq.yN.cls :: LEq.site))
  have q := consq hl h
  exact unparts (wk q (.code SEq.yN SEq.yB 3 (some .boolean))) (wks q (.initialized SEq.yN.cls :: SEq.site))
theorem movedEq {Z s : State} {a0 args : Array Value} (hZ : Z.Warmed39 s.vm) (hw : ∀ d ∈ wordsEq, d.before a0 Z = true) : ∀ d ∈ wordsEq, d.before args s = true := fun d hd => by
  have t : ∀ d ∈ wordsEq, (d.onTables && d.keepsFace) = true := by decide +kernel
  exact RoadKit.mv hZ (hw d hd) (t d hd)
/-- the road's facts of a String, as the laws ask it -/
theorem txt_of {Z U : State} {a0 : Array Value} {kI : Nat} (wi : (Jvm.Cond.instantiable ST kI).before a0 Z = true) (al : Z.vm.Alike U.vm) {x t : Addr} {kb : ClassId} {cs : List Int32} {cd N2 : Int32} {vs : List Value} (E : RoadKit.Exa Z U.heap x ST) (V : RoadKit.Fld Z U.heap x ST "value" "[B" (.ref t)) (C : RoadKit.Fld Z U.heap x ST "coder" "B" (.int cd)) (K : RoadKit.Arv Z U.heap t kb .byte N2 vs (.int 0)) (hc : CodA cs cd N2 vs) (hb : ∀ c ∈ cs, ¬ c < 0 ∧ ¬ (65535 : Int32) < c) (l2 : cs.length ≤ 4000) :
    ∃ A, Txt x t A cd cs.length (fun j => cs.getD j 0) U := by
  obtain ⟨A, K1, K2, K3, K4, K5, K6⟩ := K
  have hcod := hc.cod (by omega) K3 K5
  obtain ⟨D, fV, fC, hB, F1, F2, g1, g2, -, -⟩ := strObj wi al E V C
  exact ⟨A, ⟨_, hB.2.2.1, D, hB.1, rfl, by cases q : D.vm <;> first | rfl | exact absurd q (hB.2.1.2 _)⟩, Has.of hB F1 g1, Has.of hB F2 g2, ⟨K1.1, State.isArrayOf_alike al K1.2.1, K1.2.2, by rcases hcod with ⟨-, q, -⟩ | ⟨-, q, -⟩ <;> omega⟩, hcod, fun j hj => by
    have e : cs.getD j 0 = cs[j] := by simp [List.getD_eq_getElem?_getD, hj]
    show ¬ cs.getD j 0 < 0 ∧ ¬ 65535 < cs.getD j 0
    rw [e]; exact hb _ (List.getElem_mem _)⟩
theorem same_list (cs ds : List Int32) : SameT cs.length (fun j => cs.getD j 0) ds.length (fun j => ds.getD j 0) ↔ cs = ds := by
  constructor
  · rintro ⟨e, q⟩
    refine List.ext_getElem e fun j h1 h2 => ?_
    have := q j h1
    simpa [List.getD_eq_getElem?_getD, h1, h2] using this
  · rintro rfl
    exact ⟨rfl, fun _ _ => rfl⟩
/-- **equals(Object) OF TWO SUCH STRINGS**: 1 just where the chars are the same -/
theorem eqW {p : Program} {l : Launch} {e : Env} {R : Room} {s : State} {args : Array Value} {below : List Frame} {len W : Nat} {Z : State} {a0 : Array Value} {h : Heap} (hZ : Z.Warmed39 s.vm) (hw : ∀ d ∈ wordsEq, d.before a0 Z = true) {kI : Nat} (wi : (Jvm.Cond.instantiable ST kI).before a0 Z = true)
    {x t : Addr} {kb : ClassId} {cs : List Int32} {cd N2 : Int32} {vs : List Value} (E : RoadKit.Exa Z h x ST) (V : RoadKit.Fld Z h x ST "value" "[B" (.ref t)) (C : RoadKit.Fld Z h x ST "coder" "B" (.int cd)) (K : RoadKit.Arv Z h t kb .byte N2 vs (.int 0)) (hc : CodA cs cd N2 vs) (hb : ∀ c ∈ cs, ¬ c < 0 ∧ ¬ (65535 : Int32) < c) (l2 : cs.length ≤ 4000)
    {y t' : Addr} {kb' : ClassId} {ds : List Int32} {cd' N2' : Int32} {vs' : List Value} (E' : RoadKit.Exa Z h y ST) (V' : RoadKit.Fld Z h y ST "value" "[B" (.ref t')) (C' : RoadKit.Fld Z h y ST "coder" "B" (.int cd')) (K' : RoadKit.Arv Z h t' kb' .byte N2' vs' (.int 0)) (hc' : CodA ds cd' N2' vs') (hb' : ∀ c ∈ ds, ¬ c < 0 ∧ ¬ (65535 : Int32) < c) (l2' : ds.length ≤ 4000)
    {z : Int32} (S : RoadKit.Sta Z h ST "COMPACT_STRINGS" "Z" (.int z)) (hz : ¬ z = 0) (hfr : 2 ≤ R.frames) (hlo : W + 28 ≤ R.locals) :
    Back l R p e below s args (⟨"java/lang/String", "equals", "(Ljava/lang/Object;)Z"⟩ : MethodName) len W (fun P a => a = #[.ref x, .ref y] ∧ P.U.heap = h ∧ P.cells + 0 ≤ R.cells ∧ P.slots + 0 ≤ R.slots)
      (fun P _ v B => ∃ L, (((v = some (.int 1) ∧ cs = ds) ∨ (v = some (.int 0) ∧ ¬ cs = ds)) ∧ L = [] ∧ B.U.heap = h) ∧ B.locs = P.locs ++ L ∧ B.cells = P.cells + 0 ∧ B.slots = P.slots + 0) := by
  intro m meth c P g ig mk a X hg hsize hdg hW hn hp'
  obtain ⟨rfl, rfl, r1, r2⟩ := hp'
  have al : Z.vm.Alike P.U.vm := hZ.alike.trans X.warmed.alike
  obtain ⟨A, hx⟩ := txt_of wi al E V C K hc hb l2
  obtain ⟨A', hy⟩ := txt_of wi al E' V' C' K' hc' hb' l2'
  obtain ⟨v, B, X', ⟨⟨w, hv, hh, hq⟩, hl, hk, hs⟩, st⟩ := SEq.pays x t A cd cs.length (fun j => cs.getD j 0) y t' A' cd' ds.length (fun j => ds.getD j 0) z (tabEq_of (movedEq hZ hw)) hfr hlo m meth c P g ig mk _ X hg hsize hdg hW hn ⟨r1, r2, rfl, hx, hy, sta_is al S, hz⟩
  refine ⟨v, B, X', ⟨[], ⟨?_, rfl, hh⟩, hl, hk, hs⟩, st⟩
  rcases hq with ⟨rfl, q⟩ | ⟨rfl, q⟩
  · exact Or.inl ⟨hv, (same_list cs ds).mp q⟩
  · exact Or.inr ⟨hv, fun e => q ((same_list cs ds).mpr e)⟩
end StrChars.Road
namespace StrChars.Road
open Jvm Sem ClassFile Op Lib Jvm.Stand Jvm.Free Jvm.Free.XT
open Jvm.Lib.Cold (StaticIs)
/-- what backV says of its String, as the contracts of this text ask it: cs's low bytes, coder 0 -/
theorem codOf {cs : List Int32} {n : Nat} (hn : cs.length = n) (hb : ∀ c ∈ cs, ¬ 255 < c) : CodA cs 0 (Int32.ofNat n) ((cs.map lo8).map Value.int) := Or.inl ⟨rfl, by rw [hn], by simp [List.map_map, Function.comp_def], hb⟩
end StrChars.Road
end Jvm.Pilot.@@N@@
namespace Jvm.Pilot.@@N@@
open Jvm Jvm.ClassFile Sem Op Lib Jvm.Free Jvm.Stand Jvm.LawKit Jvm.RoadKit Bundle Jvm.Pilot.@@N@@.Jvm.D
theorem own_w {Z : State} {a0 : Array Value} (hw : ∀ d ∈ tables_1, d.before a0 Z = true) (k : Nat) {d : Jvm.Cond} (h : tables_1[k]? = some d) : d.before a0 Z = true := hw _ (List.mem_of_getElem? h)
abbrev own_R (f c s l : Nat) : Room := { frames := f, cells := c, slots := s, locals := l }
abbrev vU : Slot := .unset
abbrev vS : Slot := .second
abbrev vN : Slot := .val .null
abbrev vI (x : Int32) : Slot := .val (.int x)
abbrev vJ (x : Int64) : Slot := .val (.long x)
abbrev vR (x : Addr) : Slot := .val (.ref x)
abbrev vV (x : Value) : Slot := .val x
abbrev Go (p : Program) (e : Env) (below : List Frame) (T : State) (f : JFrame) (t : State) : Prop := Steps p.tables e below (T.setTop f) t
theorem own_and255L (x : Int32) : ¬ (x &&& (255 : Int32)) < 0 ∧ ¬ (255 : Int32) < (x &&& (255 : Int32)) := by
  have h1 := c_mask x 255 8 (by decide) (by decide)
  have e1 : (255 : Int32).toInt = 255 := rfl
  rw [Int32.lt_iff_toInt_lt, Int32.lt_iff_toInt_lt, Int32.toInt_zero]
  constructor <;> omega
theorem own_narR {v : Value} (t : FieldType) (ht : t.isReference = true) (hv : v.isRef = true) : narrow t v = v := by cases t <;> cases v <;> simp_all [narrow, FieldType.isReference, Value.isRef]
abbrev OwnMet (l : Launch) (y : MethodName) (ws : List Jvm.Cond) (rm : Room) (A : Array Value) (Z : State) (h0 : Heap) (Q : Option Value → Heap → List Loc → Prop) : Prop :=
  MetFree l y (head1 ws rm) (fun a U => a = A ∧ Z.Warmed39 U.vm ∧ U.heap = h0) (fun _ _ _ _ _ => True) (fun _ U o U' => ∃ v L, o = .returned v ∧ Q v U'.heap L ∧ FrameEnd U o U' L rm.cells rm.slots)
theorem own_body {l : Launch} {y : MethodName} {ws : List Jvm.Cond} {rm : Room} {bytes : ByteArray} {maxL : Nat} {ret : Option FieldType} {A : Array Value} {Z : State} {h0 : Heap} {Q : Option Value → Heap → List Loc → Prop} (hp : plainFor y = true)
    (his : ∀ args (s : State) m, (head1 ws rm).pre.before args s = true → s.methodNamed? y = some m → ∃ meth c, s.vm.method? m = some meth ∧ meth.code = some c ∧ c.code = bytes ∧ c.maxLocals = maxL ∧ meth.sig.returnType = ret ∧ meth.locks = false)
    (body : ∀ (p : Program) (e : Env) (s : State) (m : MethodId) (below : List Frame) (meth : Method) (c : Code) (s₁ : State), p.tables.exec = Jvm.exec → c.code = bytes → c.maxLocals = maxL → s.vm.findClass y.cls = some m.cls → meth.name = y.name → meth.sig.returnType = ret → Z.Warmed39 s.vm → Stand p l e rm s m A below meth c s₁ [] 0 0 → s₁.heap = h0 →
      ∃ (v : Option Value) (T : State) (locs : List Loc) (cells slots : Nat) (f : JFrame), Stand p l e rm s m A below meth c T locs cells slots ∧ cells ≤ rm.cells ∧ slots ≤ rm.slots ∧ (ret = none → v = none) ∧ (∀ t, Go p e below T f t → Go p e below s₁ (entryFrame m A maxL) t) ∧
        (∀ fs, (∀ (f : JFrame) (acts : List Action), f.method = m → f.locked = none → f.entered = [] → (doReturn e (T.setTop f) acts v).1 = T.setFrames fs) → Go p e below T f (T.setFrames fs)) ∧ Q v T.heap locs) :
    MetFree l y (head1 ws rm) (fun a U => a = A ∧ Z.Warmed39 U.vm ∧ U.heap = h0) (fun _ _ _ _ _ => True) (fun _ U o U' => ∃ v L, o = .returned v ∧ Q v U'.heap L ∧ FrameEnd U o U' L rm.cells rm.slots) := by
  refine MetFree.of_bodySF hp his ?_
  intro p e s m args below meth c s₁ Bd hml0 hP hK
  obtain ⟨rfl, hZ, hh⟩ := hP
  obtain ⟨v, T, locs, cells, slots, f, X, hc, hs, hv, q, hf, hQ⟩ := body p e s m below meth c s₁ Bd.exec Bd.bytes hml0 (findClass_of_methodNamed Bd.named) (name_of_methodNamed Bd.named Bd.method).1 Bd.returns hZ (Stand.of_body Bd) (by rw [← hh, Bd.state]; rfl)
  obtain ⟨fs, hr, hrun, hended, hW, hsame⟩ := X.leave (v := v) (fun h => hv (Bd.returns ▸ h))
  exact ⟨_, _, q _ (hf fs hr), hrun, hended, v, locs, rfl, hQ, ⟨_, rfl⟩, hW, hsame.mono hc hs⟩
theorem own_eqI {args : Array Value} {Z : State} {t : Term} {k : Int32} (h : (Jvm.Cond.eq t (Term.int k)).value args Z none Z [] = some true) : t.eval args Z none [] Z = some (.int k) := by
  obtain ⟨x, y, e1, e2, k1, k2⟩ := cmp_v (Or.inl h)
  rw [Term.int_eval] at e2; cases Option.some.inj e2
  cases x <;> first | (obtain ⟨z, hz⟩ := k2; cases hz; simp [Cond.value, e1, Term.int_eval] at h; rw [e1, h]) | (obtain ⟨z, hz⟩ := k2; cases hz)
theorem own_fldI {args : Array Value} {Z : State} {t : Term} {k : Int32} {C n d : String} {w : Addr} (ht : t.eval args Z none [] Z = some (.ref w)) (h : (Jvm.Cond.eq (Term.field t C n d) (Term.int k)).value args Z none Z [] = some true) : Fld Z Z.heap w C n d (.int k) :=
  Fld.start ((fld_at ht).symm.trans (own_eqI h))
abbrev sk0 : String := "com/example/vouchsafe/passport/PassportHeaderSupportsPinLawPinLaw"
abbrev sk1 : String := "java/lang/String"
theorem o4 {a b c d e : Prop} (h : e) : a ∨ b ∨ c ∨ d ∨ e := Or.inr (Or.inr (Or.inr (Or.inr h)))
theorem ov {Z : State} {a0 : Array Value} (hw : ∀ d ∈ tables_1, d.before a0 Z = true) (k : Nat) {d : Jvm.Cond} (h : tables_1[k]? = some d) : d.before a0 Z = true := hw _ (List.mem_of_getElem? h)
theorem ow {Z s : State} {a0 args : Array Value} (hZ : Z.Warmed39 s.vm) (hw : ∀ d ∈ tables_1, d.before a0 Z = true) (k : Nat) {d : Jvm.Cond} (h : tables_1[k]? = some d) (hd : (d.onTables && d.keepsFace) = true := by first | rfl | simp [Cond.onTables, Cond.keepsFace, Cond.keeps, Cond.steady]) : d.before args s = true := mvT hZ (own_w hw k h) hd
theorem own_le0 {n : Nat} : 2 * 0 + n ≤ n := Nat.le_of_eq (Nat.zero_add n)
abbrev ym0 : MethodName := ⟨"com/example/vouchsafe/passport/PassportHeaderSupportsPinLawPinLaw", "pick", "(IICJI)C"⟩
abbrev ym1 : MethodName := ⟨"java/lang/StringUTF16", "putChar", "([BII)V"⟩
abbrev ym2 : MethodName := ⟨"java/lang/StringUTF16", "getChar", "([BI)C"⟩
abbrev ym3 : MethodName := ⟨"java/lang/StringUTF16", "newBytesLength", "(I)I"⟩
abbrev ym4 : MethodName := ⟨"java/lang/StringUTF16", "newBytesFor", "(I)[B"⟩
abbrev ym5 : MethodName := ⟨"java/lang/StringUTF16", "toBytes", "([CII)[B"⟩
abbrev ym6 : MethodName := ⟨"java/lang/StringUTF16", "compress", "([CI[BII)I"⟩
abbrev ym7 : MethodName := ⟨"java/lang/StringUTF16", "compress", "([CII)[B"⟩
abbrev ym8 : MethodName := ⟨"java/lang/StringUTF16", "coderFromArrayLen", "([BI)B"⟩
abbrev ym9 : MethodName := ⟨"java/lang/String", "<init>", "([CIILjava/lang/Void;)V"⟩
abbrev ym10 : MethodName := ⟨"java/lang/String", "<init>", "([C)V"⟩
abbrev ym11 : MethodName := ⟨"java/lang/StringLatin1", "canEncode", "(C)Z"⟩
abbrev ym12 : MethodName := ⟨"java/lang/StringLatin1", "toBytes", "(C)[B"⟩
abbrev ym13 : MethodName := ⟨"java/lang/StringUTF16", "toBytes", "(C)[B"⟩
abbrev ym14 : MethodName := ⟨"java/lang/String", "<init>", "([BB)V"⟩
abbrev ym15 : MethodName := ⟨"java/lang/String", "valueOf", "(C)Ljava/lang/String;"⟩
abbrev ym16 : MethodName := ⟨"java/lang/String", "equals", "(Ljava/lang/Object;)Z"⟩
abbrev ym17 : MethodName := ⟨"com/example/vouchsafe/passport/PassportHeader", "supports", "(Ljava/lang/String;)Z"⟩
theorem own_up (cs : List Int32) (h : ∀ c ∈ cs, ¬ c < 0 ∧ ¬ (255 : Int32) < c) : ∀ c ∈ cs, ¬ c < 0 ∧ ¬ (65535 : Int32) < c := fun c hc => ⟨(h c hc).1, fun q => (h c hc).2 (by rw [Int32.lt_iff_toInt_lt] at q ⊢; have e1 : (65535 : Int32).toInt = 65535 := rfl; have e2 : (255 : Int32).toInt = 255 := rfl; omega)⟩
/-- x is a String that spells cs; its bytes lie at t -/
def Str (Z : State) (h : Heap) (x t : Addr) (cs : List Int32) : Prop := ∃ (kb : ClassId) (cd N2 : Int32) (vs : List Value), Exa Z h x "java/lang/String" ∧ Fld Z h x "java/lang/String" "value" "[B" (.ref t) ∧ Fld Z h x "java/lang/String" "coder" "B" (.int cd) ∧ Arv Z h t kb .byte N2 vs (.int 0) ∧ StrChars.Road.CodA cs cd N2 vs ∧ (∀ c ∈ cs, ¬ c < 0 ∧ ¬ (65535 : Int32) < c) ∧ cs.length ≤ 4000
theorem Str.ext {Z : State} {h h' : Heap} {x t : Addr} {cs : List Int32} (F : Str Z h x t cs) (E : Ext h h') : Str Z h' x t cs := by
  obtain ⟨kb, cd, N2, vs, a1, a2, a3, a4, r⟩ := F; exact ⟨kb, cd, N2, vs, a1.ext E, a2.ext E, a3.ext E, a4.ext E, r⟩
theorem Str.keep {Z : State} {h h' : Heap} {x t : Addr} {cs : List Int32} {ws : List Addr} (F : Str Z h x t cs) (K : Keep h h' ws) (q1 : x ∉ ws) (q2 : t ∉ ws) : Str Z h' x t cs := by
  obtain ⟨kb, cd, N2, vs, a1, a2, a3, a4, r⟩ := F; exact ⟨kb, cd, N2, vs, a1.keep K, a2.keep K q1, a3.keep K q1, a4.keep K q2, r⟩
theorem Str.lt {Z : State} {h : Heap} {x t : Addr} {cs : List Int32} (F : Str Z h x t cs) : x < h.size := by obtain ⟨_, _, _, _, a1, _⟩ := F; exact a1.lt
theorem Str.ltt {Z : State} {h : Heap} {x t : Addr} {cs : List Int32} (F : Str Z h x t cs) : t < h.size := by obtain ⟨_, _, _, _, _, _, _, a4, _⟩ := F; exact a4.lt
theorem Str.exa {Z : State} {h : Heap} {x t : Addr} {cs : List Int32} (F : Str Z h x t cs) : Exa Z h x "java/lang/String" := by obtain ⟨_, _, _, _, a1, _⟩ := F; exact a1
theorem own_narc {r : Int32} (h : ¬ r < 0 ∧ ¬ (255 : Int32) < r) : r.toUInt32.toUInt16.toUInt32.toInt32 = r := by
  have h1 := c_i2c r
  have h2 := h.1
  have h3 := h.2
  rw [Int32.lt_iff_toInt_lt] at h2 h3
  have e1 : (0 : Int32).toInt = 0 := by decide
  have e2 : (255 : Int32).toInt = 255 := by decide
  exact Int32.toInt_inj.mp (by omega)
theorem own_cod {cs : List Int32} {N2 : Int32} {vs : List Value} (h1 : N2 = Int32.ofNat cs.length ∧ vs = cs.map (fun c => Value.int (StrChars.lo8 c))) (h2 : ∀ c ∈ cs, ¬ 255 < c) : StrChars.Road.CodA cs 0 N2 vs := Or.inl ⟨rfl, h1.1, h1.2, h2⟩
theorem own_safe_null {Z : State} {EL : List (String × Nat)} {vm : Vm} {h : Heap} {x : Addr} (hal : Z.vm.Alike vm) (F : Fld Z h x "java/lang/String" "value" "[B" .null) (E : Exa Z h x "java/lang/String") : Safe Z EL vm h x := fun B => by
  obtain ⟨cell, cf, k, i, f, e1, e2, e3, e4, e5, e6, e7⟩ := F
  obtain ⟨cell', k', d1, d2, d3, d4, d5⟩ := E
  cases e1.symm.trans d1
  obtain ⟨p, -, u, a, -, q, -, G, rfl | rfl⟩ := B
  · have hc : q.sC = cell := Option.some.inj ((show h[q.sa]? = some q.sC from G.ha).symm.trans e1)
    obtain ⟨cS, ⟨⟨-, -, -, ⟨c1, k1, i1, f1, -⟩, -, -, -, v1, -⟩, -⟩, -⟩ := G
    obtain ⟨k3, e8, -⟩ := State.fieldFound?_setVm (s := ({ Z with heap := h } : State)) hal (show ({ Z with heap := h } : State).fieldFound? _ _ _ = _ from e2)
    have e9 := (show (Wst Z vm h).fieldFound? _ _ _ = _ from e8).symm.trans f1
    simp only [Option.some.injEq, Prod.mk.injEq] at e9
    rw [hc, ← e9.2.2.2, e7] at v1
    simp at v1
  · cases (show h[q.sd]? = some q.SA from G.hd).symm.trans e1
    obtain ⟨cS, -, -, g, -⟩ := G
    have g' : vm.findClass "[B" = some q.SA.cls := g
    rw [hal.findClass] at g'
    obtain ⟨k1, q1, q2⟩ := Vm.findClass_spec g'
    obtain ⟨k2, q3, q4⟩ := Vm.findClass_spec d2
    cases q1.symm.trans q3
    have := q2.symm.trans q4
    exact absurd this (by decide)
def Cx (Z : State) (z_cs : Int32) : Prop := Sta Z Z.heap sk1 "COMPACT_STRINGS" "Z" (.int z_cs) ∧ ¬ (z_cs = (0 : Int32)) ∧ Sta Z Z.heap "java/lang/StringUTF16" "$assertionsDisabled" "Z" (.int 1) ∧ Sta Z Z.heap "java/lang/StringUTF16" "HI_BYTE_SHIFT" "I" (.int 0) ∧ Sta Z Z.heap "java/lang/StringUTF16" "LO_BYTE_SHIFT" "I" (.int 8)
def own_EL : List (String × Nat) := [("com/example/vouchsafe/passport/PassportHeader", 9), ("java/lang/String", 7)]
theorem own_EW {Z : State} {a0 : Array Value} (hw : ∀ d ∈ tables_1, d.before a0 Z = true) : EW Z a0 own_EL := (EW.cons (own_w hw 38 rfl) (by decide) (EW.cons (own_w hw 85 rfl) (by decide) EW.nil))
theorem own_i2c (x : Int32) : ¬ x.toUInt32.toUInt16.toUInt32.toInt32 < 0 ∧ ¬ (65535 : Int32) < x.toUInt32.toUInt16.toUInt32.toInt32 := by
  have h := c_i2c x
  have e : (65535 : Int32).toInt = 65535 := rfl
  rw [Int32.lt_iff_toInt_lt, Int32.lt_iff_toInt_lt, Int32.toInt_zero]
  constructor <;> omega
theorem own_narc16 {r : Int32} (h : ¬ r < 0 ∧ ¬ (65535 : Int32) < r) : r.toUInt32.toUInt16.toUInt32.toInt32 = r := by
  have h1 := c_i2c r
  have h2 := h.1
  have h3 := h.2
  rw [Int32.lt_iff_toInt_lt] at h2 h3
  have e1 : (0 : Int32).toInt = 0 := by decide
  have e2 : (65535 : Int32).toInt = 65535 := by decide
  exact Int32.toInt_inj.mp (by omega)
theorem own_narI (x : Int32) : ¬ nar .char (x.toUInt32.toUInt16.toUInt32.toInt32) < 0 ∧ ¬ (65535 : Int32) < nar .char (x.toUInt32.toUInt16.toUInt32.toInt32) := own_i2c _
theorem own_narP {r : Int32} (h : ¬ r < 0 ∧ ¬ (65535 : Int32) < r) : ¬ nar .char r < 0 ∧ ¬ (65535 : Int32) < nar .char r := by
  have e : nar .char r = r := own_narc16 h
  rw [e]; exact h
def own_hb (c : Int32) : Int32 := nar .byte (((c >>> ((0 : Int32) &&& 31))).toInt8.toInt32)
def own_lb (c : Int32) : Int32 := nar .byte (((c >>> ((8 : Int32) &&& 31))).toInt8.toInt32)
theorem own_gc {c : Int32} (h : ¬ c < 0 ∧ ¬ (65535 : Int32) < c) : nar .char (((((own_hb c) &&& (255 : Int32)) <<< ((0 : Int32) &&& 31)) ||| (((own_lb c) &&& (255 : Int32)) <<< ((8 : Int32) &&& 31))).toUInt32.toUInt16.toUInt32.toInt32) = c := by
  have h2 := h.1
  have h3 := h.2
  rw [Int32.lt_iff_toInt_lt] at h2 h3
  have e1 : (0 : Int32).toInt = 0 := by decide
  have e2 : (65535 : Int32).toInt = 65535 := by decide
  rw [e1] at h2
  rw [e2] at h3
  have a1 := c_ishr c 0 0 (by decide)
  have a2 := c_ishr c 8 8 (by decide)
  have b1 := c_i2b (c >>> ((0 : Int32) &&& 31))
  have b2 := c_i2b ((c >>> ((0 : Int32) &&& 31)).toInt8.toInt32)
  have b3 := c_i2b (c >>> ((8 : Int32) &&& 31))
  have b4 := c_i2b ((c >>> ((8 : Int32) &&& 31)).toInt8.toInt32)
  have m1 := c_mask (own_hb c) 255 8 (by decide) (by decide)
  have m2 := c_mask (own_lb c) 255 8 (by decide) (by decide)
  have p8 : ((2 ^ 8 : Nat) : Int) = 256 := by decide
  have p0 : ((2 ^ 0 : Nat) : Int) = 1 := by decide
  rw [p8] at m1 m2 a2
  rw [p0] at a1
  have o1 : (own_hb c).toInt = ((c >>> ((0 : Int32) &&& 31)).toInt8.toInt32.toInt8.toInt32).toInt := rfl
  have o2 : (own_lb c).toInt = ((c >>> ((8 : Int32) &&& 31)).toInt8.toInt32.toInt8.toInt32).toInt := rfl
  have s1 := c_ishl ((own_hb c) &&& 255) 0 0 (by decide)
  have s2 := c_ishl ((own_lb c) &&& 255) 8 8 (by decide)
  rw [p0] at s1
  rw [p8] at s2
  have r1 := rng32 (((own_hb c) &&& (255 : Int32)) <<< ((0 : Int32) &&& 31))
  have r2 := rng32 (((own_lb c) &&& (255 : Int32)) <<< ((8 : Int32) &&& 31))
  generalize hA : ((own_hb c) &&& (255 : Int32)) <<< ((0 : Int32) &&& 31) = A at *
  generalize hB : ((own_lb c) &&& (255 : Int32)) <<< ((8 : Int32) &&& 31) = B at *
  have hA1 : A.toInt = c.toInt % 256 := by omega
  have hB1 : B.toInt = (c.toInt / 256) * 256 := by omega
  have q := c_or' A B 8 (by decide) 256 (by decide) (by omega) (by omega) (by omega)
  have r3 := rng32 (A ||| B)
  have i1 := c_i2c (A ||| B)
  have i2 := c_i2c ((A ||| B).toUInt32.toUInt16.toUInt32.toInt32)
  show (A ||| B).toUInt32.toUInt16.toUInt32.toInt32.toUInt32.toUInt16.toUInt32.toInt32 = c
  exact Int32.toInt_inj.mp (by omega)
def own_sh (cs : List Int32) : Int32 := if cs = [115, 104, 97, 107, 101, 110] then 1 else 0
theorem ef_1_IIIJI (m : MethodId) (x0 : Int32) (x1 : Int32) (x2 : Int32) (x3 : Int64) (x4 : Int32) : entryFrame m #[(.int x0), (.int x1), (.int x2), (.long x3), (.int x4)] 6 = mkF m 0 #[.val (.int x0), .val (.int x1), .val (.int x2), .val (.long x3), .second, .val (.int x4)] [] := by first | (simp [entryFrame, mkF, argsToLocals, Value.category]; done) | rfl
theorem pn_1 : plainName "com/example/vouchsafe/passport/PassportHeaderSupportsPinLawPinLaw" = true := by first | (simp [plainName, overriddenIn]; done) | decide +kernel
theorem d1_0 : decode method_2_code 0 = .ok (.iload_n 0, 1) := by decide +kernel
theorem d1_1 : decode method_2_code 1 = .ok (.iconst 4, 1) := by decide +kernel
theorem d1_2 : decode method_2_code 2 = .ok (.iload_n 1, 1) := by decide +kernel
theorem d1_3 : decode method_2_code 3 = .ok (.iadd, 1) := by decide +kernel
theorem d1_4 : decode method_2_code 4 = .ok (.iushr, 1) := by decide +kernel
theorem d1_5 : decode method_2_code 5 = .ok (.iconst 1, 1) := by decide +kernel
theorem d1_6 : decode method_2_code 6 = .ok (.iand, 1) := by decide +kernel
theorem d1_7 : decode method_2_code 7 = .ok (.ifCond .eq 5, 3) := by decide +kernel
theorem d1_12 : decode method_2_code 12 = .ok (.lload_n 3, 1) := by decide +kernel
theorem d1_13 : decode method_2_code 13 = .ok (.iload 5, 2) := by decide +kernel
theorem d1_15 : decode method_2_code 15 = .ok (.lushr, 1) := by decide +kernel
theorem d1_16 : decode method_2_code 16 = .ok (.l2i, 1) := by decide +kernel
theorem d1_17 : decode method_2_code 17 = .ok (.i2c, 1) := by decide +kernel
theorem d1_18 : decode method_2_code 18 = .ok (.ireturn, 1) := by decide +kernel
theorem d1_10 : decode method_2_code 10 = .ok (.iload_n 2, 1) := by decide +kernel
theorem d1_11 : decode method_2_code 11 = .ok (.ireturn, 1) := by decide +kernel
def Q_rm1 (Z : State) (p1 : Int32) (p2 : Int32) (p3 : Int32) (q4 : Int64) (p5 : Int32) (z_cs : Int32) (h0 : Heap) (n0 : Nat) (v : Option Value) (h : Heap) (L : List Loc) : Prop := ∃ (r : Int32), v = some (.int r) ∧ Fr n0 L ∧ h = h0 ∧ (¬ r < 0 ∧ ¬ (65535 : Int32) < r)
theorem rm1 (l : Launch) (Z : State) (a0 : Array Value) (hw : ∀ d ∈ tables_1, d.before a0 Z = true) (ws : List Jvm.Cond) {z_cs : Int32} (cx : Cx Z z_cs) (p1 : Int32) (p2 : Int32) (p3 : Int32) (q4 : Int64) (p5 : Int32) (h0 : Heap) (n0 : Nat) (O0 : Old Z n0 h0) (hp : ¬ p3 < 0 ∧ ¬ (65535 : Int32) < p3) :
    OwnMet l ym0 (Jvm.Cond.code ym0 method_2_code 6 (some .char) :: ws) (own_R 0 0 0 0) #[(.int p1), (.int p2), (.int p3), (.long q4), (.int p5)] Z h0 (Q_rm1 Z p1 p2 p3 q4 p5 z_cs h0 n0) := by
  refine own_body (plainFor_of_name pn_1) hisR fun p e s m below meth c s₁ hx hby hml hown hnm hret hZ X0 e0 => ?_
  have N0 := Fr.nil n0
  have pre0 : ∀ t, Go p e below s₁ (mkF m 0 #[vI p1, vI p2, vI p3, vJ q4, vS, vI p5] []) t → Go p e below s₁ (entryFrame m #[(.int p1), (.int p2), (.int p3), (.long q4), (.int p5)] 6) t := fun t k => castTop (ef_1_IIIJI m p1 p2 p3 q4 p5) k
  have q21 := fun t (kt : Go p e below s₁ (mkF m 7 #[vI p1, vI p2, vI p3, vJ q4, vS, vI p5] [(.int (((p1.toUInt32 >>> (((4 : Int32) + p2) &&& 31).toUInt32).toInt32) &&& (1 : Int32)))]) t) => pre0 t (by
    show Go _ _ _ _ (mkF m 0 #[vI p1, vI p2, vI p3, vJ q4, vS, vI p5] []) _
    refine XS.iloadN X0.here hx rfl (hb hby d1_0) rfl ?_
    show Go _ _ _ _ (mkF m 1 _ [(.int p1)]) _
    refine XS.iconst X0.here hx rfl (hb hby d1_1) ?_
    show Go _ _ _ _ (mkF m 2 _ [(.int 4), (.int p1)]) _
    refine XS.iloadN X0.here hx rfl (hb hby d1_2) rfl ?_
    show Go _ _ _ _ (mkF m 3 _ [(.int p2), (.int 4), (.int p1)]) _
    refine XS.iadd X0.here hx rfl (hb hby d1_3) rfl ?_
    show Go _ _ _ _ (mkF m 4 _ [(.int ((4 : Int32) + p2)), (.int p1)]) _
    refine XS.iushr X0.here hx rfl (hb hby d1_4) rfl ?_
    show Go _ _ _ _ (mkF m 5 _ [(.int ((p1.toUInt32 >>> (((4 : Int32) + p2) &&& 31).toUInt32).toInt32))]) _
    refine XS.iconst X0.here hx rfl (hb hby d1_5) ?_
    show Go _ _ _ _ (mkF m 6 _ [(.int 1), (.int ((p1.toUInt32 >>> (((4 : Int32) + p2) &&& 31).toUInt32).toInt32))]) _
    refine XS.iand X0.here hx rfl (hb hby d1_6) rfl ?_
    exact kt)
  by_cases hc22 : (((p1.toUInt32 >>> (((4 : Int32) + p2) &&& 31).toUInt32).toInt32) &&& (1 : Int32)) = (0 : Int32)
  · have q23 := fun t (kt : Go p e below s₁ (mkF m 18 #[vI p1, vI p2, vI p3, vJ q4, vS, vI p5] [(.int ((((q4.toUInt64 >>> (p5 &&& 0x3f).toInt64.toUInt64).toInt64).toInt32).toUInt32.toUInt16.toUInt32.toInt32))]) t) => q21 t (by
      show Go _ _ _ _ (mkF m 7 #[vI p1, vI p2, vI p3, vJ q4, vS, vI p5] [(.int (((p1.toUInt32 >>> (((4 : Int32) + p2) &&& 31).toUInt32).toInt32) &&& (1 : Int32)))]) _
      refine XS.ifYes X0.here hx rfl (pc0 := 7) (pc' := 12) rfl (hb hby d1_7) rfl ((if0 _ _).trans (teq hc22).1) (by decide) (by decide) ?_
      show Go _ _ _ _ (mkF m 12 _ []) _
      refine XS.lloadN X0.here hx rfl (hb hby d1_12) rfl ?_
      show Go _ _ _ _ (mkF m 13 _ [(.long q4)]) _
      refine XS.iload X0.here hx rfl (hb hby d1_13) rfl ?_
      show Go _ _ _ _ (mkF m 15 _ [(.int p5), (.long q4)]) _
      refine XS.lushr X0.here hx rfl (hb hby d1_15) rfl ?_
      show Go _ _ _ _ (mkF m 16 _ [(.long ((q4.toUInt64 >>> (p5 &&& 0x3f).toInt64.toUInt64).toInt64))]) _
      refine XS.l2i X0.here hx rfl (hb hby d1_16) rfl ?_
      show Go _ _ _ _ (mkF m 17 _ [(.int (((q4.toUInt64 >>> (p5 &&& 0x3f).toInt64.toUInt64).toInt64).toInt32))]) _
      refine XS.i2c X0.here hx rfl (hb hby d1_17) rfl ?_
      exact kt)
    exact ⟨some (.int (nar .char ((((q4.toUInt64 >>> (p5 &&& 0x3f).toInt64.toUInt64).toInt64).toInt32).toUInt32.toUInt16.toUInt32.toInt32))), s₁, _, _, _, _, X0, by decide, by decide, nofun, q23, fun fs hr => retN X0 hx (t := .char) hret (by simp) (hb hby d1_18) hr, by rw [e0]; exact ⟨(nar .char ((((q4.toUInt64 >>> (p5 &&& 0x3f).toInt64.toUInt64).toInt64).toInt32).toUInt32.toUInt16.toUInt32.toInt32)), rfl, N0, rfl, (own_narI _)⟩⟩
  · have q24 := fun t (kt : Go p e below s₁ (mkF m 11 #[vI p1, vI p2, vI p3, vJ q4, vS, vI p5] [(.int p3)]) t) => q21 t (by
      show Go _ _ _ _ (mkF m 7 #[vI p1, vI p2, vI p3, vJ q4, vS, vI p5] [(.int (((p1.toUInt32 >>> (((4 : Int32) + p2) &&& 31).toUInt32).toInt32) &&& (1 : Int32)))]) _
      refine XS.ifNo X0.here hx rfl (hb hby d1_7) rfl ((if0 _ _).trans (feq hc22).1) ?_
      show Go _ _ _ _ (mkF m 10 _ []) _
      refine XS.iloadN X0.here hx rfl (hb hby d1_10) rfl ?_
      exact kt)
    exact ⟨some (.int (nar .char p3)), s₁, _, _, _, _, X0, by decide, by decide, nofun, q24, fun fs hr => retN X0 hx (t := .char) hret (by simp) (hb hby d1_11) hr, by rw [e0]; exact ⟨(nar .char p3), rfl, N0, rfl, (own_narP hp)⟩⟩
theorem ef_18_RII (m : MethodId) (x0 : Addr) (x1 : Int32) (x2 : Int32) : entryFrame m #[(.ref x0), (.int x1), (.int x2)] 3 = mkF m 0 #[.val (.ref x0), .val (.int x1), .val (.int x2)] [] := by first | (simp [entryFrame, mkF, argsToLocals, Value.category]; done) | rfl
theorem pn_18 : plainName "java/lang/StringUTF16" = true := by first | (simp [plainName, overriddenIn]; done) | decide +kernel
theorem d18_0 : decode jdk_52_method_4_code 0 = .ok (.getstatic 44, 3) := by decide +kernel
theorem d18_3 : decode jdk_52_method_4_code 3 = .ok (.ifCond .ne 25, 3) := by decide +kernel
theorem d18_28 : decode jdk_52_method_4_code 28 = .ok (.iload_n 1, 1) := by decide +kernel
theorem d18_29 : decode jdk_52_method_4_code 29 = .ok (.iconst 1, 1) := by decide +kernel
theorem d18_30 : decode jdk_52_method_4_code 30 = .ok (.ishl, 1) := by decide +kernel
theorem d18_31 : decode jdk_52_method_4_code 31 = .ok (.istore_n 1, 1) := by decide +kernel
theorem d18_32 : decode jdk_52_method_4_code 32 = .ok (.aload_n 0, 1) := by decide +kernel
theorem d18_33 : decode jdk_52_method_4_code 33 = .ok (.iload_n 1, 1) := by decide +kernel
theorem d18_34 : decode jdk_52_method_4_code 34 = .ok (.iinc 1 1, 3) := by decide +kernel
theorem d18_37 : decode jdk_52_method_4_code 37 = .ok (.iload_n 2, 1) := by decide +kernel
theorem d18_38 : decode jdk_52_method_4_code 38 = .ok (.getstatic 59, 3) := by decide +kernel
theorem d18_41 : decode jdk_52_method_4_code 41 = .ok (.ishr, 1) := by decide +kernel
theorem d18_42 : decode jdk_52_method_4_code 42 = .ok (.i2b, 1) := by decide +kernel
theorem d18_43 : decode jdk_52_method_4_code 43 = .ok (.bastore, 1) := by decide +kernel
theorem d18_44 : decode jdk_52_method_4_code 44 = .ok (.aload_n 0, 1) := by decide +kernel
theorem d18_45 : decode jdk_52_method_4_code 45 = .ok (.iload_n 1, 1) := by decide +kernel
theorem d18_46 : decode jdk_52_method_4_code 46 = .ok (.iload_n 2, 1) := by decide +kernel
theorem d18_47 : decode jdk_52_method_4_code 47 = .ok (.getstatic 63, 3) := by decide +kernel
theorem d18_50 : decode jdk_52_method_4_code 50 = .ok (.ishr, 1) := by decide +kernel
theorem d18_51 : decode jdk_52_method_4_code 51 = .ok (.i2b, 1) := by decide +kernel
theorem d18_52 : decode jdk_52_method_4_code 52 = .ok (.bastore, 1) := by decide +kernel
theorem d18_53 : decode jdk_52_method_4_code 53 = .ok (.return_, 1) := by decide +kernel
def Q_rm18 (Z : State) (b : Addr) (kb : ClassId) (p2 : Int32) (p3 : Int32) (z : Int32) (vs : List Value) (k : Nat) (z_cs : Int32) (h0 : Heap) (n0 : Nat) (v : Option Value) (h : Heap) (L : List Loc) : Prop := v = none ∧ Fr n0 L ∧ Keep h0 h [b] ∧ Arv Z h b kb .byte z ((vs.set k (.int (own_hb p3))).set (k + 1) (.int (own_lb p3))) (.int 0)
theorem rm18 (l : Launch) (Z : State) (a0 : Array Value) (hw : ∀ d ∈ tables_1, d.before a0 Z = true) (ws : List Jvm.Cond) {z_cs : Int32} (cx : Cx Z z_cs) (b : Addr) (kb : ClassId) (p2 : Int32) (p3 : Int32) (z : Int32) (vs : List Value) (k : Nat) (h0 : Heap) (n0 : Nat) (O0 : Old Z n0 h0) (G0 : Arv Z h0 b kb .byte z vs (.int 0)) (g_b : n0 ≤ b) (hz0 : ¬ ((p2 <<< ((1 : Int32) &&& 31)) < 0)) (h1 : (p2 <<< ((1 : Int32) &&& 31)).toNatClampNeg = k) (h2 : k + 1 < z.toNatClampNeg) (h4 : ¬ (((p2 <<< ((1 : Int32) &&& 31)) + (1 : Int32)) < 0)) (h5 : ((p2 <<< ((1 : Int32) &&& 31)) + (1 : Int32)).toNatClampNeg = k + 1) (h3 : vs.length = z.toNatClampNeg) :
    OwnMet l ym1 (Jvm.Cond.code ym1 jdk_52_method_4_code 3 none :: ws) (own_R 0 0 0 0) #[(.ref b), (.int p2), (.int p3)] Z h0 (Q_rm18 Z b kb p2 p3 z vs k z_cs h0 n0) := by
  refine own_body (plainFor_of_name pn_18) hisR fun p e s m below meth c s₁ hx hby hml hown hnm hret hZ X0 e0 => ?_
  have N0 := Fr.nil n0
  have K0 : Keep h0 h0 [b] := Keep.refl _ _
  have pre0 : ∀ t, Go p e below s₁ (mkF m 0 #[vR b, vI p2, vI p3] []) t → Go p e below s₁ (entryFrame m #[(.ref b), (.int p2), (.int p3)] 3) t := fun t k => castTop (ef_18_RII m b p2 p3) k
  obtain ⟨T21, X21, e21, st21⟩ := getS2 X0 hx hZ hown (host := "") (Or.inl (ov hw 76 rfl)) Via.refl e0 (cx.2.2.1.ext O0.2) (g := (mkF m 0 #[vR b, vI p2, vI p3] [])) rfl (hb hby d18_0)
  have q22 := fun t (kt : Go p e below T21 (mkF m 38 #[vR b, vI ((p2 <<< ((1 : Int32) &&& 31)) + (1 : Int32)), vI p3] [(.int p3), (.int (p2 <<< ((1 : Int32) &&& 31))), (.ref b)]) t) => pre0 t (st21 t (by
    show Go _ _ _ _ (mkF m 3 #[vR b, vI p2, vI p3] [(.int 1)]) _
    refine XS.ifYes X21.here hx rfl (pc0 := 3) (pc' := 28) rfl (hb hby d18_3) rfl ((if0 _ _).trans (feq (by decide : ¬ ((1 : Int32) = (0 : Int32)))).2) (by decide) (by decide) ?_
    show Go _ _ _ _ (mkF m 28 _ []) _
    refine XS.iloadN X21.here hx rfl (hb hby d18_28) rfl ?_
    show Go _ _ _ _ (mkF m 29 _ [(.int p2)]) _
    refine XS.iconst X21.here hx rfl (hb hby d18_29) ?_
    show Go _ _ _ _ (mkF m 30 _ [(.int 1), (.int p2)]) _
    refine XS.ishl X21.here hx rfl (hb hby d18_30) rfl ?_
    show Go _ _ _ _ (mkF m 31 _ [(.int (p2 <<< ((1 : Int32) &&& 31)))]) _
    refine XS.istoreN X21.here hx rfl (hb hby d18_31) rfl (l' := #[vR b, vI (p2 <<< ((1 : Int32) &&& 31)), vI p3]) rfl ?_
    show Go _ _ _ _ (mkF m 32 #[vR b, vI (p2 <<< ((1 : Int32) &&& 31)), vI p3] []) _
    refine XS.aloadN X21.here hx rfl (hb hby d18_32) rfl rfl ?_
    show Go _ _ _ _ (mkF m 33 _ [(.ref b)]) _
    refine XS.iloadN X21.here hx rfl (hb hby d18_33) rfl ?_
    show Go _ _ _ _ (mkF m 34 _ [(.int (p2 <<< ((1 : Int32) &&& 31))), (.ref b)]) _
    refine XS.iinc X21.here hx rfl (hb hby d18_34) rfl (l' := #[vR b, vI ((p2 <<< ((1 : Int32) &&& 31)) + (1 : Int32)), vI p3]) rfl ?_
    show Go _ _ _ _ (mkF m 37 #[vR b, vI ((p2 <<< ((1 : Int32) &&& 31)) + (1 : Int32)), vI p3] [(.int (p2 <<< ((1 : Int32) &&& 31))), (.ref b)]) _
    refine XS.iloadN X21.here hx rfl (hb hby d18_37) rfl ?_
    exact kt))
  obtain ⟨T23, X23, e23, st23⟩ := getS2 X21 hx hZ hown (host := "") (Or.inl (ov hw 77 rfl)) Via.refl e21 (cx.2.2.2.1.ext O0.2) (g := (mkF m 38 #[vR b, vI ((p2 <<< ((1 : Int32) &&& 31)) + (1 : Int32)), vI p3] [(.int p3), (.int (p2 <<< ((1 : Int32) &&& 31))), (.ref b)])) rfl (hb hby d18_38)
  have q25 := fun t (kt : Go p e below T23 (mkF m 43 #[vR b, vI ((p2 <<< ((1 : Int32) &&& 31)) + (1 : Int32)), vI p3] [(.int ((p3 >>> ((0 : Int32) &&& 31)).toInt8.toInt32)), (.int (p2 <<< ((1 : Int32) &&& 31))), (.ref b)]) t) => q22 t (st23 t (by
    show Go _ _ _ _ (mkF m 41 #[vR b, vI ((p2 <<< ((1 : Int32) &&& 31)) + (1 : Int32)), vI p3] [(.int 0), (.int p3), (.int (p2 <<< ((1 : Int32) &&& 31))), (.ref b)]) _
    refine XS.ishr X23.here hx rfl (hb hby d18_41) rfl ?_
    show Go _ _ _ _ (mkF m 42 _ [(.int (p3 >>> ((0 : Int32) &&& 31))), (.int (p2 <<< ((1 : Int32) &&& 31))), (.ref b)]) _
    refine XS.i2b X23.here hx rfl (hb hby d18_42) rfl ?_
    exact kt))
  obtain ⟨c24, Ar24, q24, S24, N24, H24, G24⟩ := id G0
  have hi24 : ¬ ((p2 <<< ((1 : Int32) &&& 31)) < 0 ∨ c24.slots.size ≤ ((p2 <<< ((1 : Int32) &&& 31))).toNatClampNeg) := (fun q => q.elim hz0 (fun q => by rw [S24, h1] at q; omega))
  obtain ⟨T26, h26, X26, e26, W26, st26⟩ := stB X23 hx hZ e23 Ar24 (j := (p2 <<< ((1 : Int32) &&& 31))) hi24 (g := (mkF m 43 #[vR b, vI ((p2 <<< ((1 : Int32) &&& 31)) + (1 : Int32)), vI p3] [(.int ((p3 >>> ((0 : Int32) &&& 31)).toInt8.toInt32)), (.int (p2 <<< ((1 : Int32) &&& 31))), (.ref b)])) rfl rfl (hb hby d18_43)
  have V26 : Arv Z h26 b kb .byte z (vs.set k (.int (own_hb p3))) (.int 0) := by
    have vv := Arv.set Ar24 q24 S24 N24 H24 G24 (fits_nar_byte _) W26 k h1 (by rw [h3]; omega)
    exact vv
  have N27 := Fr.snoc X26 N0 g_b
  have O28 := O0.wr W26 g_b
  have K29 := K0.wr W26 (Or.inl (List.mem_of_getElem? (i := 0) rfl))
  have q30 := fun t (kt : Go p e below T26 (mkF m 47 #[vR b, vI ((p2 <<< ((1 : Int32) &&& 31)) + (1 : Int32)), vI p3] [(.int p3), (.int ((p2 <<< ((1 : Int32) &&& 31)) + (1 : Int32))), (.ref b)]) t) => q25 t (st26 t (by
    show Go _ _ _ _ (mkF m 44 #[vR b, vI ((p2 <<< ((1 : Int32) &&& 31)) + (1 : Int32)), vI p3] []) _
    refine XS.aloadN X26.here hx rfl (hb hby d18_44) rfl rfl ?_
    show Go _ _ _ _ (mkF m 45 _ [(.ref b)]) _
    refine XS.iloadN X26.here hx rfl (hb hby d18_45) rfl ?_
    show Go _ _ _ _ (mkF m 46 _ [(.int ((p2 <<< ((1 : Int32) &&& 31)) + (1 : Int32))), (.ref b)]) _
    refine XS.iloadN X26.here hx rfl (hb hby d18_46) rfl ?_
    exact kt))
  obtain ⟨T31, X31, e31, st31⟩ := getS2 X26 hx hZ hown (host := "") (Or.inl (ov hw 78 rfl)) Via.refl e26 (cx.2.2.2.2.ext O28.2) (g := (mkF m 47 #[vR b, vI ((p2 <<< ((1 : Int32) &&& 31)) + (1 : Int32)), vI p3] [(.int p3), (.int ((p2 <<< ((1 : Int32) &&& 31)) + (1 : Int32))), (.ref b)])) rfl (hb hby d18_47)
  have q33 := fun t (kt : Go p e below T31 (mkF m 52 #[vR b, vI ((p2 <<< ((1 : Int32) &&& 31)) + (1 : Int32)), vI p3] [(.int ((p3 >>> ((8 : Int32) &&& 31)).toInt8.toInt32)), (.int ((p2 <<< ((1 : Int32) &&& 31)) + (1 : Int32))), (.ref b)]) t) => q30 t (st31 t (by
    show Go _ _ _ _ (mkF m 50 #[vR b, vI ((p2 <<< ((1 : Int32) &&& 31)) + (1 : Int32)), vI p3] [(.int 8), (.int p3), (.int ((p2 <<< ((1 : Int32) &&& 31)) + (1 : Int32))), (.ref b)]) _
    refine XS.ishr X31.here hx rfl (hb hby d18_50) rfl ?_
    show Go _ _ _ _ (mkF m 51 _ [(.int (p3 >>> ((8 : Int32) &&& 31))), (.int ((p2 <<< ((1 : Int32) &&& 31)) + (1 : Int32))), (.ref b)]) _
    refine XS.i2b X31.here hx rfl (hb hby d18_51) rfl ?_
    exact kt))
  obtain ⟨c32, Ar32, q32, S32, N32, H32, G32⟩ := id V26
  have hi32 : ¬ (((p2 <<< ((1 : Int32) &&& 31)) + (1 : Int32)) < 0 ∨ c32.slots.size ≤ (((p2 <<< ((1 : Int32) &&& 31)) + (1 : Int32))).toNatClampNeg) := (fun q => q.elim h4 (fun q => by rw [S32, h5] at q; omega))
  obtain ⟨T34, h34, X34, e34, W34, st34⟩ := stB X31 hx hZ e31 Ar32 (j := ((p2 <<< ((1 : Int32) &&& 31)) + (1 : Int32))) hi32 (g := (mkF m 52 #[vR b, vI ((p2 <<< ((1 : Int32) &&& 31)) + (1 : Int32)), vI p3] [(.int ((p3 >>> ((8 : Int32) &&& 31)).toInt8.toInt32)), (.int ((p2 <<< ((1 : Int32) &&& 31)) + (1 : Int32))), (.ref b)])) rfl rfl (hb hby d18_52)
  have V34 : Arv Z h34 b kb .byte z ((vs.set k (.int (own_hb p3))).set (k + 1) (.int (own_lb p3))) (.int 0) := by
    have vv := Arv.set Ar32 q32 S32 N32 H32 G32 (fits_nar_byte _) W34 (k + 1) h5 (by rw [List.length_set, h3]; omega)
    exact vv
  have N35 := Fr.snoc X34 N27 g_b
  have O36 := O28.wr W34 g_b
  have K37 := K29.wr W34 (Or.inl (List.mem_of_getElem? (i := 0) rfl))
  have q38 := fun t (kt : Go p e below T34 (mkF m 53 #[vR b, vI ((p2 <<< ((1 : Int32) &&& 31)) + (1 : Int32)), vI p3] []) t) => q33 t (st34 t kt)
  exact ⟨none, T34, _, _, _, _, X34, by decide, by decide, fun _ => rfl, q38, fun fs hr => X34.returnOut hx hret (hb hby d18_53) hr, by rw [e34]; exact ⟨rfl, N35, K37, V34⟩⟩
theorem ef_19_RI (m : MethodId) (x0 : Addr) (x1 : Int32) : entryFrame m #[(.ref x0), (.int x1)] 2 = mkF m 0 #[.val (.ref x0), .val (.int x1)] [] := by first | (simp [entryFrame, mkF, argsToLocals, Value.category]; done) | rfl
theorem pn_19 : plainName "java/lang/StringUTF16" = true := by first | (simp [plainName, overriddenIn]; done) | decide +kernel
theorem d19_0 : decode jdk_52_method_5_code 0 = .ok (.getstatic 44, 3) := by decide +kernel
theorem d19_3 : decode jdk_52_method_5_code 3 = .ok (.ifCond .ne 25, 3) := by decide +kernel
theorem d19_28 : decode jdk_52_method_5_code 28 = .ok (.iload_n 1, 1) := by decide +kernel
theorem d19_29 : decode jdk_52_method_5_code 29 = .ok (.iconst 1, 1) := by decide +kernel
theorem d19_30 : decode jdk_52_method_5_code 30 = .ok (.ishl, 1) := by decide +kernel
theorem d19_31 : decode jdk_52_method_5_code 31 = .ok (.istore_n 1, 1) := by decide +kernel
theorem d19_32 : decode jdk_52_method_5_code 32 = .ok (.aload_n 0, 1) := by decide +kernel
theorem d19_33 : decode jdk_52_method_5_code 33 = .ok (.iload_n 1, 1) := by decide +kernel
theorem d19_34 : decode jdk_52_method_5_code 34 = .ok (.iinc 1 1, 3) := by decide +kernel
theorem d19_37 : decode jdk_52_method_5_code 37 = .ok (.baload, 1) := by decide +kernel
theorem d19_38 : decode jdk_52_method_5_code 38 = .ok (.sipush 255, 3) := by decide +kernel
theorem d19_41 : decode jdk_52_method_5_code 41 = .ok (.iand, 1) := by decide +kernel
theorem d19_42 : decode jdk_52_method_5_code 42 = .ok (.getstatic 59, 3) := by decide +kernel
theorem d19_45 : decode jdk_52_method_5_code 45 = .ok (.ishl, 1) := by decide +kernel
theorem d19_46 : decode jdk_52_method_5_code 46 = .ok (.aload_n 0, 1) := by decide +kernel
theorem d19_47 : decode jdk_52_method_5_code 47 = .ok (.iload_n 1, 1) := by decide +kernel
theorem d19_48 : decode jdk_52_method_5_code 48 = .ok (.baload, 1) := by decide +kernel
theorem d19_49 : decode jdk_52_method_5_code 49 = .ok (.sipush 255, 3) := by decide +kernel
theorem d19_52 : decode jdk_52_method_5_code 52 = .ok (.iand, 1) := by decide +kernel
theorem d19_53 : decode jdk_52_method_5_code 53 = .ok (.getstatic 63, 3) := by decide +kernel
theorem d19_56 : decode jdk_52_method_5_code 56 = .ok (.ishl, 1) := by decide +kernel
theorem d19_57 : decode jdk_52_method_5_code 57 = .ok (.ior, 1) := by decide +kernel
theorem d19_58 : decode jdk_52_method_5_code 58 = .ok (.i2c, 1) := by decide +kernel
theorem d19_59 : decode jdk_52_method_5_code 59 = .ok (.ireturn, 1) := by decide +kernel
def Q_rm19 (Z : State) (b : Addr) (kb : ClassId) (p2 : Int32) (c0 : Int32) (z : Int32) (vs : List Value) (k : Nat) (z_cs : Int32) (h0 : Heap) (n0 : Nat) (v : Option Value) (h : Heap) (L : List Loc) : Prop := v = some (.int c0) ∧ Fr n0 L ∧ h = h0
theorem rm19 (l : Launch) (Z : State) (a0 : Array Value) (hw : ∀ d ∈ tables_1, d.before a0 Z = true) (ws : List Jvm.Cond) {z_cs : Int32} (cx : Cx Z z_cs) (b : Addr) (kb : ClassId) (p2 : Int32) (c0 : Int32) (z : Int32) (vs : List Value) (k : Nat) (h0 : Heap) (n0 : Nat) (O0 : Old Z n0 h0) (G0 : Arv Z h0 b kb .byte z vs (.int 0)) (hz0 : ¬ ((p2 <<< ((1 : Int32) &&& 31)) < 0)) (h1 : (p2 <<< ((1 : Int32) &&& 31)).toNatClampNeg = k) (h2 : k + 1 < z.toNatClampNeg) (h4 : ¬ (((p2 <<< ((1 : Int32) &&& 31)) + (1 : Int32)) < 0)) (h5 : ((p2 <<< ((1 : Int32) &&& 31)) + (1 : Int32)).toNatClampNeg = k + 1) (g0 : vs.getD k (.int 0) = (.int (own_hb c0))) (g1 : vs.getD (k + 1) (.int 0) = (.int (own_lb c0))) (hc : ¬ c0 < 0 ∧ ¬ (65535 : Int32) < c0) :
    OwnMet l ym2 (Jvm.Cond.code ym2 jdk_52_method_5_code 2 (some .char) :: ws) (own_R 0 0 0 0) #[(.ref b), (.int p2)] Z h0 (Q_rm19 Z b kb p2 c0 z vs k z_cs h0 n0) := by
  refine own_body (plainFor_of_name pn_19) hisR fun p e s m below meth c s₁ hx hby hml hown hnm hret hZ X0 e0 => ?_
  have N0 := Fr.nil n0
  have pre0 : ∀ t, Go p e below s₁ (mkF m 0 #[vR b, vI p2] []) t → Go p e below s₁ (entryFrame m #[(.ref b), (.int p2)] 2) t := fun t k => castTop (ef_19_RI m b p2) k
  obtain ⟨T21, X21, e21, st21⟩ := getS2 X0 hx hZ hown (host := "") (Or.inl (ov hw 76 rfl)) Via.refl e0 (cx.2.2.1.ext O0.2) (g := (mkF m 0 #[vR b, vI p2] [])) rfl (hb hby d19_0)
  have q23 := fun t (kt : Go p e below T21 (mkF m 37 #[vR b, vI ((p2 <<< ((1 : Int32) &&& 31)) + (1 : Int32))] [(.int (p2 <<< ((1 : Int32) &&& 31))), (.ref b)]) t) => pre0 t (st21 t (by
    show Go _ _ _ _ (mkF m 3 #[vR b, vI p2] [(.int 1)]) _
    refine XS.ifYes X21.here hx rfl (pc0 := 3) (pc' := 28) rfl (hb hby d19_3) rfl ((if0 _ _).trans (feq (by decide : ¬ ((1 : Int32) = (0 : Int32)))).2) (by decide) (by decide) ?_
    show Go _ _ _ _ (mkF m 28 _ []) _
    refine XS.iloadN X21.here hx rfl (hb hby d19_28) rfl ?_
    show Go _ _ _ _ (mkF m 29 _ [(.int p2)]) _
    refine XS.iconst X21.here hx rfl (hb hby d19_29) ?_
    show Go _ _ _ _ (mkF m 30 _ [(.int 1), (.int p2)]) _
    refine XS.ishl X21.here hx rfl (hb hby d19_30) rfl ?_
    show Go _ _ _ _ (mkF m 31 _ [(.int (p2 <<< ((1 : Int32) &&& 31)))]) _
    refine XS.istoreN X21.here hx rfl (hb hby d19_31) rfl (l' := #[vR b, vI (p2 <<< ((1 : Int32) &&& 31))]) rfl ?_
    show Go _ _ _ _ (mkF m 32 #[vR b, vI (p2 <<< ((1 : Int32) &&& 31))] []) _
    refine XS.aloadN X21.here hx rfl (hb hby d19_32) rfl rfl ?_
    show Go _ _ _ _ (mkF m 33 _ [(.ref b)]) _
    refine XS.iloadN X21.here hx rfl (hb hby d19_33) rfl ?_
    show Go _ _ _ _ (mkF m 34 _ [(.int (p2 <<< ((1 : Int32) &&& 31))), (.ref b)]) _
    refine XS.iinc X21.here hx rfl (hb hby d19_34) rfl (l' := #[vR b, vI ((p2 <<< ((1 : Int32) &&& 31)) + (1 : Int32))]) rfl ?_
    exact kt))
  obtain ⟨c22, Ar22, -, S22, N22, H22, -⟩ := id G0
  have q24 := fun t (kt : Go p e below T21 (mkF m 42 #[vR b, vI ((p2 <<< ((1 : Int32) &&& 31)) + (1 : Int32))] [(.int ((own_hb c0) &&& (255 : Int32)))]) t) => q23 t (by
    show Go _ _ _ _ (mkF m 37 #[vR b, vI ((p2 <<< ((1 : Int32) &&& 31)) + (1 : Int32))] [(.int (p2 <<< ((1 : Int32) &&& 31))), (.ref b)]) _
    refine X21.baloadBytes hx (j := (p2 <<< ((1 : Int32) &&& 31))) (v := (.int (own_hb c0))) (by rw [e21]; exact Ar22.1) (State.isArrayOf_alike hZ.alike Ar22.2.1) Ar22.2.2 (fun q => q.elim hz0 (fun q => by rw [S22, h1] at q; omega)) (Has.at H22 (fun q => q.elim hz0 (fun q => by rw [S22, h1] at q; omega)) (by rw [h1]; exact g0)) (g := (mkF m 37 #[vR b, vI ((p2 <<< ((1 : Int32) &&& 31)) + (1 : Int32))] [(.int (p2 <<< ((1 : Int32) &&& 31))), (.ref b)])) rfl rfl (hb hby d19_37) _ ?_
    show Go _ _ _ _ (mkF m 38 _ [(.int (own_hb c0))]) _
    refine XS.sipush X21.here hx rfl (hb hby d19_38) ?_
    show Go _ _ _ _ (mkF m 41 _ [(.int 255), (.int (own_hb c0))]) _
    refine XS.iand X21.here hx rfl (hb hby d19_41) rfl ?_
    exact kt)
  obtain ⟨T25, X25, e25, st25⟩ := getS2 X21 hx hZ hown (host := "") (Or.inl (ov hw 77 rfl)) Via.refl e21 (cx.2.2.2.1.ext O0.2) (g := (mkF m 42 #[vR b, vI ((p2 <<< ((1 : Int32) &&& 31)) + (1 : Int32))] [(.int ((own_hb c0) &&& (255 : Int32)))])) rfl (hb hby d19_42)
  have q27 := fun t (kt : Go p e below T25 (mkF m 48 #[vR b, vI ((p2 <<< ((1 : Int32) &&& 31)) + (1 : Int32))] [(.int ((p2 <<< ((1 : Int32) &&& 31)) + (1 : Int32))), (.ref b), (.int (((own_hb c0) &&& (255 : Int32)) <<< ((0 : Int32) &&& 31)))]) t) => q24 t (st25 t (by
    show Go _ _ _ _ (mkF m 45 #[vR b, vI ((p2 <<< ((1 : Int32) &&& 31)) + (1 : Int32))] [(.int 0), (.int ((own_hb c0) &&& (255 : Int32)))]) _
    refine XS.ishl X25.here hx rfl (hb hby d19_45) rfl ?_
    show Go _ _ _ _ (mkF m 46 _ [(.int (((own_hb c0) &&& (255 : Int32)) <<< ((0 : Int32) &&& 31)))]) _
    refine XS.aloadN X25.here hx rfl (hb hby d19_46) rfl rfl ?_
    show Go _ _ _ _ (mkF m 47 _ [(.ref b), (.int (((own_hb c0) &&& (255 : Int32)) <<< ((0 : Int32) &&& 31)))]) _
    refine XS.iloadN X25.here hx rfl (hb hby d19_47) rfl ?_
    exact kt))
  obtain ⟨c26, Ar26, -, S26, N26, H26, -⟩ := id G0
  have q28 := fun t (kt : Go p e below T25 (mkF m 53 #[vR b, vI ((p2 <<< ((1 : Int32) &&& 31)) + (1 : Int32))] [(.int ((own_lb c0) &&& (255 : Int32))), (.int (((own_hb c0) &&& (255 : Int32)) <<< ((0 : Int32) &&& 31)))]) t) => q27 t (by
    show Go _ _ _ _ (mkF m 48 #[vR b, vI ((p2 <<< ((1 : Int32) &&& 31)) + (1 : Int32))] [(.int ((p2 <<< ((1 : Int32) &&& 31)) + (1 : Int32))), (.ref b), (.int (((own_hb c0) &&& (255 : Int32)) <<< ((0 : Int32) &&& 31)))]) _
    refine X25.baloadBytes hx (j := ((p2 <<< ((1 : Int32) &&& 31)) + (1 : Int32))) (v := (.int (own_lb c0))) (by rw [e25]; exact Ar26.1) (State.isArrayOf_alike hZ.alike Ar26.2.1) Ar26.2.2 (fun q => q.elim h4 (fun q => by rw [S26, h5] at q; omega)) (Has.at H26 (fun q => q.elim h4 (fun q => by rw [S26, h5] at q; omega)) (by rw [h5]; exact g1)) (g := (mkF m 48 #[vR b, vI ((p2 <<< ((1 : Int32) &&& 31)) + (1 : Int32))] [(.int ((p2 <<< ((1 : Int32) &&& 31)) + (1 : Int32))), (.ref b), (.int (((own_hb c0) &&& (255 : Int32)) <<< ((0 : Int32) &&& 31)))])) rfl rfl (hb hby d19_48) _ ?_
    show Go _ _ _ _ (mkF m 49 _ [(.int (own_lb c0)), (.int (((own_hb c0) &&& (255 : Int32)) <<< ((0 : Int32) &&& 31)))]) _
    refine XS.sipush X25.here hx rfl (hb hby d19_49) ?_
    show Go _ _ _ _ (mkF m 52 _ [(.int 255), (.int (own_lb c0)), (.int (((own_hb c0) &&& (255 : Int32)) <<< ((0 : Int32) &&& 31)))]) _
    refine XS.iand X25.here hx rfl (hb hby d19_52) rfl ?_
    exact kt)
  obtain ⟨T29, X29, e29, st29⟩ := getS2 X25 hx hZ hown (host := "") (Or.inl (ov hw 78 rfl)) Via.refl e25 (cx.2.2.2.2.ext O0.2) (g := (mkF m 53 #[vR b, vI ((p2 <<< ((1 : Int32) &&& 31)) + (1 : Int32))] [(.int ((own_lb c0) &&& (255 : Int32))), (.int (((own_hb c0) &&& (255 : Int32)) <<< ((0 : Int32) &&& 31)))])) rfl (hb hby d19_53)
  have q30 := fun t (kt : Go p e below T29 (mkF m 59 #[vR b, vI ((p2 <<< ((1 : Int32) &&& 31)) + (1 : Int32))] [(.int (((((own_hb c0) &&& (255 : Int32)) <<< ((0 : Int32) &&& 31)) ||| (((own_lb c0) &&& (255 : Int32)) <<< ((8 : Int32) &&& 31))).toUInt32.toUInt16.toUInt32.toInt32))]) t) => q28 t (st29 t (by
    show Go _ _ _ _ (mkF m 56 #[vR b, vI ((p2 <<< ((1 : Int32) &&& 31)) + (1 : Int32))] [(.int 8), (.int ((own_lb c0) &&& (255 : Int32))), (.int (((own_hb c0) &&& (255 : Int32)) <<< ((0 : Int32) &&& 31)))]) _
    refine XS.ishl X29.here hx rfl (hb hby d19_56) rfl ?_
    show Go _ _ _ _ (mkF m 57 _ [(.int (((own_lb c0) &&& (255 : Int32)) <<< ((8 : Int32) &&& 31))), (.int (((own_hb c0) &&& (255 : Int32)) <<< ((0 : Int32) &&& 31)))]) _
    refine XS.ior X29.here hx rfl (hb hby d19_57) rfl ?_
    show Go _ _ _ _ (mkF m 58 _ [(.int ((((own_hb c0) &&& (255 : Int32)) <<< ((0 : Int32) &&& 31)) ||| (((own_lb c0) &&& (255 : Int32)) <<< ((8 : Int32) &&& 31))))]) _
    refine XS.i2c X29.here hx rfl (hb hby d19_58) rfl ?_
    exact kt))
  exact ⟨some (.int (nar .char (((((own_hb c0) &&& (255 : Int32)) <<< ((0 : Int32) &&& 31)) ||| (((own_lb c0) &&& (255 : Int32)) <<< ((8 : Int32) &&& 31))).toUInt32.toUInt16.toUInt32.toInt32))), T29, _, _, _, _, X29, by decide, by decide, nofun, q30, fun fs hr => retN X29 hx (t := .char) hret (by simp) (hb hby d19_59) hr, by rw [e29]; exact ⟨(congrArg (fun z => some (Value.int z)) (own_gc hc)), N0, rfl⟩⟩
theorem ef_17_I (m : MethodId) (x0 : Int32) : entryFrame m #[(.int x0)] 1 = mkF m 0 #[.val (.int x0)] [] := by first | (simp [entryFrame, mkF, argsToLocals, Value.category]; done) | rfl
theorem pn_17 : plainName "java/lang/StringUTF16" = true := by first | (simp [plainName, overriddenIn]; done) | decide +kernel
theorem d17_0 : decode jdk_52_method_3_code 0 = .ok (.iload_n 0, 1) := by decide +kernel
theorem d17_1 : decode jdk_52_method_3_code 1 = .ok (.ifCond .ge 11, 3) := by decide +kernel
theorem d17_12 : decode jdk_52_method_3_code 12 = .ok (.iload_n 0, 1) := by decide +kernel
theorem d17_13 : decode jdk_52_method_3_code 13 = .ok (.ldc 20, 2) := by decide +kernel
theorem d17_15 : decode jdk_52_method_3_code 15 = .ok (.if_icmp .lt 40, 3) := by decide +kernel
theorem d17_55 : decode jdk_52_method_3_code 55 = .ok (.iload_n 0, 1) := by decide +kernel
theorem d17_56 : decode jdk_52_method_3_code 56 = .ok (.iconst 1, 1) := by decide +kernel
theorem d17_57 : decode jdk_52_method_3_code 57 = .ok (.ishl, 1) := by decide +kernel
theorem d17_58 : decode jdk_52_method_3_code 58 = .ok (.ireturn, 1) := by decide +kernel
def Q_rm17 (Z : State) (p1 : Int32) (z_cs : Int32) (h0 : Heap) (n0 : Nat) (v : Option Value) (h : Heap) (L : List Loc) : Prop := v = some (.int (p1 <<< ((1 : Int32) &&& 31))) ∧ Fr n0 L ∧ h = h0
theorem rm17 (l : Launch) (Z : State) (a0 : Array Value) (hw : ∀ d ∈ tables_1, d.before a0 Z = true) (ws : List Jvm.Cond) {z_cs : Int32} (cx : Cx Z z_cs) (p1 : Int32) (h0 : Heap) (n0 : Nat) (O0 : Old Z n0 h0) (h1 : ¬ (p1 < (0 : Int32))) (h2 : p1 < (1073741823 : Int32)) :
    OwnMet l ym3 (Jvm.Cond.code ym3 jdk_52_method_3_code 1 (some .int) :: ws) (own_R 0 0 0 0) #[(.int p1)] Z h0 (Q_rm17 Z p1 z_cs h0 n0) := by
  refine own_body (plainFor_of_name pn_17) hisR fun p e s m below meth c s₁ hx hby hml hown hnm hret hZ X0 e0 => ?_
  have N0 := Fr.nil n0
  have pre0 : ∀ t, Go p e below s₁ (mkF m 0 #[vI p1] []) t → Go p e below s₁ (entryFrame m #[(.int p1)] 1) t := fun t k => castTop (ef_17_I m p1) k
  have q21 := fun t (kt : Go p e below s₁ (mkF m 58 #[vI p1] [(.int (p1 <<< ((1 : Int32) &&& 31)))]) t) => pre0 t (by
    show Go _ _ _ _ (mkF m 0 #[vI p1] []) _
    refine XS.iloadN X0.here hx rfl (hb hby d17_0) rfl ?_
    show Go _ _ _ _ (mkF m 1 _ [(.int p1)]) _
    refine XS.ifYes X0.here hx rfl (pc0 := 1) (pc' := 12) rfl (hb hby d17_1) rfl ((if0 _ _).trans (flt h1).2.1) (by decide) (by decide) ?_
    show Go _ _ _ _ (mkF m 12 _ []) _
    refine XS.iloadN X0.here hx rfl (hb hby d17_12) rfl ?_
    show Go _ _ _ _ (mkF m 13 _ [(.int p1)]) _
    refine X0.ldcInt hx hown (ow hZ hw 72 rfl) (g := (mkF m 13 #[vI p1] [(.int p1)])) rfl (hb hby d17_13) _ ?_
    show Go _ _ _ _ (mkF m 15 _ [(.int 1073741823), (.int p1)]) _
    refine XS.icmpYes X0.here hx rfl (pc0 := 15) (pc' := 55) rfl (hb hby d17_15) rfl (tlt h2).1 (by decide) (by decide) ?_
    show Go _ _ _ _ (mkF m 55 _ []) _
    refine XS.iloadN X0.here hx rfl (hb hby d17_55) rfl ?_
    show Go _ _ _ _ (mkF m 56 _ [(.int p1)]) _
    refine XS.iconst X0.here hx rfl (hb hby d17_56) ?_
    show Go _ _ _ _ (mkF m 57 _ [(.int 1), (.int p1)]) _
    refine XS.ishl X0.here hx rfl (hb hby d17_57) rfl ?_
    exact kt)
  exact ⟨some (.int (p1 <<< ((1 : Int32) &&& 31))), s₁, _, _, _, _, X0, by decide, by decide, nofun, q21, fun fs hr => retI X0 hx hret (hb hby d17_58) hr, by rw [e0]; exact ⟨rfl, N0, rfl⟩⟩
theorem ef_16_I (m : MethodId) (x0 : Int32) : entryFrame m #[(.int x0)] 1 = mkF m 0 #[.val (.int x0)] [] := by first | (simp [entryFrame, mkF, argsToLocals, Value.category]; done) | rfl
theorem pn_16 : plainName "java/lang/StringUTF16" = true := by first | (simp [plainName, overriddenIn]; done) | decide +kernel
theorem d16_0 : decode jdk_52_method_2_code 0 = .ok (.iload_n 0, 1) := by decide +kernel
theorem d16_1 : decode jdk_52_method_2_code 1 = .ok (.invokestatic 11, 3) := by decide +kernel
theorem pd_0 : parseMethodDescriptor "(I)I" = some ⟨[.int], some .int⟩ := by decide +kernel
theorem d16_4 : decode jdk_52_method_2_code 4 = .ok (.newarray .byte, 2) := by decide +kernel
theorem d16_6 : decode jdk_52_method_2_code 6 = .ok (.areturn, 1) := by decide +kernel
def Q_rm16_5 (Z : State) (z_cs : Int32) (h0 : Heap) (n0 : Nat) (v : Option Value) (h : Heap) (L : List Loc) : Prop := ∃ (b : Addr) (kb : ClassId), v = some (.ref b) ∧ Fr n0 L ∧ Keep h0 h [] ∧ h0.size ≤ b ∧ Arv Z h b kb .byte (10 : Int32) [(.int 0), (.int 0), (.int 0), (.int 0), (.int 0), (.int 0), (.int 0), (.int 0), (.int 0), (.int 0)] (.int 0)
theorem rm16_5 (l : Launch) (Z : State) (a0 : Array Value) (hw : ∀ d ∈ tables_1, d.before a0 Z = true) (ws : List Jvm.Cond) {z_cs : Int32} (cx : Cx Z z_cs) (h0 : Heap) (n0 : Nat) (O0 : Old Z n0 h0) :
    OwnMet l ym4 (Jvm.Cond.code ym4 jdk_52_method_2_code 1 (some (.array .byte)) :: ws) (own_R 1 1 10 12) #[(.int 5)] Z h0 (Q_rm16_5 Z  z_cs h0 n0) := by
  refine own_body (plainFor_of_name pn_16) hisR fun p e s m below meth c s₁ hx hby hml hown hnm hret hZ X0 e0 => ?_
  have N0 := Fr.nil n0
  have K0 : Keep h0 h0 [] := Keep.refl _ _
  have pre0 : ∀ t, Go p e below s₁ (mkF m 0 #[vI 5] []) t → Go p e below s₁ (entryFrame m #[(.int 5)] 1) t := fun t k => castTop (ef_16_I m (5 : Int32)) k
  have q21 := fun t (kt : Go p e below s₁ (mkF m 1 #[vI 5] [(.int 5)]) t) => pre0 t (by
    show Go _ _ _ _ (mkF m 0 #[vI 5] []) _
    refine XS.iloadN X0.here hx rfl (hb hby d16_0) rfl ?_
    exact kt)
  obtain ⟨_, _, ⟨T22, L22, k22, n22⟩, -, X22, ⟨_, hQ22, l22, y22, z22⟩, st22⟩ := Jvm.LawKit.callS X0 hx (y := ym3) hown (ow hZ hw 69 rfl) (ow hZ hw 70 rfl) (ow hZ hw 25 rfl) (ow hZ hw 71 rfl) (by decide) (backOf (W := 0) (rm17 l Z a0 hw [] cx (5 : Int32) h0 n0 O0 (by decide : ¬ ((5 : Int32) < (0 : Int32))) (by decide : (5 : Int32) < (1073741823 : Int32))) hZ (ov hw 71 rfl) (ov hw 25 rfl) (by decide) (by decide)) (g := (mkF m 1 #[vI 5] [(.int 5)])) rfl (by rw [hml]; rfl) (argsL := [(.int 5)]) (rest := []) (lenOf pd_0 rfl) rfl own_le0 (hb hby d16_1) (fun _ _ => ⟨rfl, e0, (by decide : 0 + 0 ≤ _), (by decide : 0 + 0 ≤ _)⟩)
  dsimp only [Pt.U, Pt.locs, Pt.cells, Pt.slots] at X22 l22 y22 z22 st22 hQ22
  subst l22 y22 z22
  obtain ⟨rfl, Nq22, eq22⟩ := hQ22
  have N23 := Fr.app N0 Nq22
  have q24 := fun t (kt : Go p e below T22 (mkF m 4 #[vI 5] [(.int ((5 : Int32) <<< ((1 : Int32) &&& 31)))]) t) => q21 t (st22 t kt)
  have q25 := fun t (kt : Go p e below T22 (mkF m 4 #[vI 5] [(.int 10)]) t) => q24 t (by rw [(by decide : ((5 : Int32) <<< ((1 : Int32) &&& 31)) = (10 : Int32))]; exact kt)
  obtain ⟨T26, h26, k26, X26, e26, E26, A26, st26⟩ := newP X22 hx hZ (ov hw 27 rfl) eq22 (g := (mkF m 4 #[vI 5] [(.int 10)])) rfl (hb hby d16_4) rfl (by decide) (cap := 10) (by decide) (by decide) (by decide) (by decide)
  obtain ⟨b26, g26⟩ : ∃ z, z = h0.size := ⟨_, rfl⟩
  rw [← g26] at A26 st26
  have gg27 : n0 ≤ b26 := Nat.le_trans (O0.1 ▸ O0.2.1) (Nat.le_of_eq g26.symm)
  have sz28 : h0.size ≤ b26 := Nat.le_trans K0.1 (Nat.le_of_eq g26.symm)
  have O29 := O0.ext E26
  have K30 := K0.ext E26
  have V26 : Arv Z h26 b26 k26 .byte (10 : Int32) [(.int 0), (.int 0), (.int 0), (.int 0), (.int 0), (.int 0), (.int 0), (.int 0), (.int 0), (.int 0)] (.int 0) := (Arv.new A26 (by decide)).pad (pad_rep [] (.int 0) 10)
  have q31 := fun t (kt : Go p e below T26 (mkF m 6 #[vI 5] [(.ref b26)]) t) => q25 t (st26 t kt)
  exact ⟨some (.ref b26), T26, _, _, _, _, X26, by decide, by decide, nofun, q31, fun fs hr => retOut X26 hx hret rfl (o4 ⟨rfl, rfl, rfl⟩) (hb hby d16_6) hr, by rw [e26]; exact ⟨b26, k26, rfl, N23, K30, sz28, V26⟩⟩
theorem ef_15_RII (m : MethodId) (x0 : Addr) (x1 : Int32) (x2 : Int32) : entryFrame m #[(.ref x0), (.int x1), (.int x2)] 5 = mkF m 0 #[.val (.ref x0), .val (.int x1), .val (.int x2), .unset, .unset] [] := by first | (simp [entryFrame, mkF, argsToLocals, Value.category]; done) | rfl
theorem pn_15 : plainName "java/lang/StringUTF16" = true := by first | (simp [plainName, overriddenIn]; done) | decide +kernel
theorem d15_0 : decode jdk_52_method_14_code 0 = .ok (.iload_n 2, 1) := by decide +kernel
theorem d15_1 : decode jdk_52_method_14_code 1 = .ok (.invokestatic 107, 3) := by decide +kernel
theorem pd_1 : parseMethodDescriptor "(I)[B" = some ⟨[.int], some (.array .byte)⟩ := by decide +kernel
theorem d15_4 : decode jdk_52_method_14_code 4 = .ok (.astore_n 3, 1) := by decide +kernel
theorem d15_5 : decode jdk_52_method_14_code 5 = .ok (.iconst 0, 1) := by decide +kernel
theorem d15_6 : decode jdk_52_method_14_code 6 = .ok (.istore 4, 2) := by decide +kernel
theorem d15_8 : decode jdk_52_method_14_code 8 = .ok (.iload 4, 2) := by decide +kernel
theorem d15_10 : decode jdk_52_method_14_code 10 = .ok (.iload_n 2, 1) := by decide +kernel
theorem d15_11 : decode jdk_52_method_14_code 11 = .ok (.if_icmp .ge 21, 3) := by decide +kernel
theorem d15_14 : decode jdk_52_method_14_code 14 = .ok (.aload_n 3, 1) := by decide +kernel
theorem d15_15 : decode jdk_52_method_14_code 15 = .ok (.iload 4, 2) := by decide +kernel
theorem d15_17 : decode jdk_52_method_14_code 17 = .ok (.aload_n 0, 1) := by decide +kernel
theorem d15_18 : decode jdk_52_method_14_code 18 = .ok (.iload_n 1, 1) := by decide +kernel
theorem d15_19 : decode jdk_52_method_14_code 19 = .ok (.caload, 1) := by decide +kernel
theorem d15_20 : decode jdk_52_method_14_code 20 = .ok (.invokestatic 111, 3) := by decide +kernel
theorem pd_2 : parseMethodDescriptor "([BII)V" = some ⟨[(.array .byte), .int, .int], none⟩ := by decide +kernel
theorem d15_23 : decode jdk_52_method_14_code 23 = .ok (.iinc 1 1, 3) := by decide +kernel
theorem d15_26 : decode jdk_52_method_14_code 26 = .ok (.iinc 4 1, 3) := by decide +kernel
theorem d15_29 : decode jdk_52_method_14_code 29 = .ok (.goto (-21), 3) := by decide +kernel
theorem d15_32 : decode jdk_52_method_14_code 32 = .ok (.aload_n 3, 1) := by decide +kernel
theorem d15_33 : decode jdk_52_method_14_code 33 = .ok (.areturn, 1) := by decide +kernel
def Q_rm15_5 (Z : State) (a1 : Addr) (ka : ClassId) (c0 : Int32) (c1 : Int32) (c2 : Int32) (c3 : Int32) (c4 : Int32) (z_cs : Int32) (h0 : Heap) (n0 : Nat) (v : Option Value) (h : Heap) (L : List Loc) : Prop := ∃ (b : Addr) (kb : ClassId), v = some (.ref b) ∧ Fr n0 L ∧ Keep h0 h [] ∧ h0.size ≤ b ∧ Arv Z h b kb .byte (10 : Int32) [(.int (own_hb c0)), (.int (own_lb c0)), (.int (own_hb c1)), (.int (own_lb c1)), (.int (own_hb c2)), (.int (own_lb c2)), (.int (own_hb c3)), (.int (own_lb c3)), (.int (own_hb c4)), (.int (own_lb c4))] (.int 0)
theorem rm15_5 (l : Launch) (Z : State) (a0 : Array Value) (hw : ∀ d ∈ tables_1, d.before a0 Z = true) (ws : List Jvm.Cond) {z_cs : Int32} (cx : Cx Z z_cs) (a1 : Addr) (ka : ClassId) (c0 : Int32) (c1 : Int32) (c2 : Int32) (c3 : Int32) (c4 : Int32) (h0 : Heap) (n0 : Nat) (O0 : Old Z n0 h0) (G0 : Arv Z h0 a1 ka .char (5 : Int32) [(.int c0), (.int c1), (.int c2), (.int c3), (.int c4)] (.int 0)) :
    OwnMet l ym5 (Jvm.Cond.code ym5 jdk_52_method_14_code 5 (some (.array .byte)) :: ws) (own_R 2 1 10 24) #[(.ref a1), (.int 0), (.int 5)] Z h0 (Q_rm15_5 Z a1 ka c0 c1 c2 c3 c4 z_cs h0 n0) := by
  refine own_body (plainFor_of_name pn_15) hisR fun p e s m below meth c s₁ hx hby hml hown hnm hret hZ X0 e0 => ?_
  have N0 := Fr.nil n0
  have K0 : Keep h0 h0 [] := Keep.refl _ _
  have pre0 : ∀ t, Go p e below s₁ (mkF m 0 #[vR a1, vI 0, vI 5, vU, vU] []) t → Go p e below s₁ (entryFrame m #[(.ref a1), (.int 0), (.int 5)] 5) t := fun t k => castTop (ef_15_RII m a1 (0 : Int32) (5 : Int32)) k
  have q21 := fun t (kt : Go p e below s₁ (mkF m 1 #[vR a1, vI 0, vI 5, vU, vU] [(.int 5)]) t) => pre0 t (by
    show Go _ _ _ _ (mkF m 0 #[vR a1, vI 0, vI 5, vU, vU] []) _
    refine XS.iloadN X0.here hx rfl (hb hby d15_0) rfl ?_
    exact kt)
  obtain ⟨_, _, ⟨T22, L22, k22, n22⟩, -, X22, ⟨_, hQ22, l22, y22, z22⟩, st22⟩ := Jvm.LawKit.callS X0 hx (y := ym4) hown (ow hZ hw 66 rfl) (ow hZ hw 67 rfl) (ow hZ hw 25 rfl) (ow hZ hw 68 rfl) (by decide) (backOf (W := 0) (rm16_5 l Z a0 hw [] cx  h0 n0 O0 ) hZ (ov hw 68 rfl) (ov hw 25 rfl) (by decide) (by decide)) (g := (mkF m 1 #[vR a1, vI 0, vI 5, vU, vU] [(.int 5)])) rfl (by rw [hml]; rfl) (argsL := [(.int 5)]) (rest := []) (lenOf pd_1 rfl) rfl own_le0 (hb hby d15_1) (fun _ _ => ⟨rfl, e0, (by decide : 0 + 1 ≤ _), (by decide : 0 + 10 ≤ _)⟩)
  dsimp only [Pt.U, Pt.locs, Pt.cells, Pt.slots] at X22 l22 y22 z22 st22 hQ22
  subst l22 y22 z22
  obtain ⟨b_22, kb_22, rfl, Nq22, Kq22, fr22_0, fq22_0⟩ := hQ22
  have N23 := Fr.app N0 Nq22
  have gg24 : n0 ≤ b_22 := Nat.le_trans (O0.1 ▸ O0.2.1) fr22_0
  have sz25 : h0.size ≤ b_22 := Nat.le_trans K0.1 fr22_0
  have O26 := O0.keep Kq22 all0
  have K27 := K0.trans Kq22 all0
  have f28 := (G0.keep Kq22 nin0)
  have q30 := fun t (kt : Go p e below T22 (mkF m 19 #[vR a1, vI 0, vI 5, vR b_22, vI 0] [(.int 0), (.ref a1), (.int 0), (.ref b_22)]) t) => q21 t (st22 t (by
    show Go _ _ _ _ (mkF m 4 #[vR a1, vI 0, vI 5, vU, vU] [(.ref b_22)]) _
    refine XS.astoreN X22.here hx rfl (hb hby d15_4) rfl rfl (l' := #[vR a1, vI 0, vI 5, vR b_22, vU]) rfl ?_
    show Go _ _ _ _ (mkF m 5 #[vR a1, vI 0, vI 5, vR b_22, vU] []) _
    refine XS.iconst X22.here hx rfl (hb hby d15_5) ?_
    show Go _ _ _ _ (mkF m 6 _ [(.int 0)]) _
    refine XS.istore X22.here hx rfl (hb hby d15_6) rfl (l' := #[vR a1, vI 0, vI 5, vR b_22, vI 0]) rfl ?_
    show Go _ _ _ _ (mkF m 8 #[vR a1, vI 0, vI 5, vR b_22, vI 0] []) _
    refine XS.iload X22.here hx rfl (hb hby d15_8) rfl ?_
    show Go _ _ _ _ (mkF m 10 _ [(.int 0)]) _
    refine XS.iloadN X22.here hx rfl (hb hby d15_10) rfl ?_
    show Go _ _ _ _ (mkF m 11 _ [(.int 5), (.int 0)]) _
    refine XS.icmpNo X22.here hx rfl (hb hby d15_11) rfl (tlt (by decide : (0 : Int32) < (5 : Int32))).2.1 ?_
    show Go _ _ _ _ (mkF m 14 _ []) _
    refine XS.aloadN X22.here hx rfl (hb hby d15_14) rfl rfl ?_
    show Go _ _ _ _ (mkF m 15 _ [(.ref b_22)]) _
    refine XS.iload X22.here hx rfl (hb hby d15_15) rfl ?_
    show Go _ _ _ _ (mkF m 17 _ [(.int 0), (.ref b_22)]) _
    refine XS.aloadN X22.here hx rfl (hb hby d15_17) rfl rfl ?_
    show Go _ _ _ _ (mkF m 18 _ [(.ref a1), (.int 0), (.ref b_22)]) _
    refine XS.iloadN X22.here hx rfl (hb hby d15_18) rfl ?_
    exact kt))
  obtain ⟨c29, Ar29, -, S29, N29, H29, -⟩ := id f28
  have q31 := fun t (kt : Go p e below T22 (mkF m 20 #[vR a1, vI 0, vI 5, vR b_22, vI 0] [(.int c0), (.int 0), (.ref b_22)]) t) => q30 t (by
    show Go _ _ _ _ (mkF m 19 #[vR a1, vI 0, vI 5, vR b_22, vI 0] [(.int 0), (.ref a1), (.int 0), (.ref b_22)]) _
    refine X22.caload hx (j := (0 : Int32)) (v := (.int c0)) Ar29.1 (State.isArrayOf_alike hZ.alike Ar29.2.1) Ar29.2.2 (inb_of S29 ⟨by decide, by decide⟩) (Has.at H29 (inb_of S29 ⟨by decide, by decide⟩) rfl) (g := (mkF m 19 #[vR a1, vI 0, vI 5, vR b_22, vI 0] [(.int 0), (.ref a1), (.int 0), (.ref b_22)])) rfl rfl (hb hby d15_19) _ ?_
    exact kt)
  obtain ⟨_, _, ⟨T32, L32, k32, n32⟩, -, X32, ⟨_, hQ32, l32, y32, z32⟩, st32⟩ := Jvm.LawKit.callS X22 hx (y := ym1) hown (ow hZ hw 73 rfl) (ow hZ hw 74 rfl) (ow hZ hw 25 rfl) (ow hZ hw 75 rfl) (by decide) (backOf (W := 0) (rm18 l Z a0 hw [] cx b_22 kb_22 (0 : Int32) c0 (10 : Int32) [(.int 0), (.int 0), (.int 0), (.int 0), (.int 0), (.int 0), (.int 0), (.int 0), (.int 0), (.int 0)] 0 T22.heap n0 O26 fq22_0 gg24 (by decide) (by decide) (by decide) (by decide) (by decide) rfl) hZ (ov hw 75 rfl) (ov hw 25 rfl) (by decide) (by decide)) (g := (mkF m 20 #[vR a1, vI 0, vI 5, vR b_22, vI 0] [(.int c0), (.int 0), (.ref b_22)])) rfl (by rw [hml]; rfl) (argsL := [(.ref b_22), (.int 0), (.int c0)]) (rest := []) (lenOf pd_2 rfl) rfl own_le0 (hb hby d15_20) (fun _ _ => ⟨rfl, rfl, (by decide : 1 + 0 ≤ _), (by decide : 10 + 0 ≤ _)⟩)
  dsimp only [Pt.U, Pt.locs, Pt.cells, Pt.slots] at X32 l32 y32 z32 st32 hQ32
  subst l32 y32 z32
  obtain ⟨rfl, Nq32, Kq32, fq32_0⟩ := hQ32
  have N33 := Fr.app N23 Nq32
  have O34 := O26.keep Kq32 (allS gg24 all0)
  have K35 := K27.trans Kq32 (allS (Or.inr sz25) all0)
  have Vp36 : Arv Z T32.heap b_22 kb_22 .byte (10 : Int32) [(.int (own_hb c0)), (.int (own_lb c0)), (.int 0), (.int 0), (.int 0), (.int 0), (.int 0), (.int 0), (.int 0), (.int 0)] (.int 0) := fq32_0
  have ne37 : a1 ≠ b_22 := (Nat.ne_of_lt (Nat.lt_of_lt_of_le G0.lt fr22_0))
  have f38 := (f28.keep Kq32 (ninS ne37 nin0))
  have q40 := fun t (kt : Go p e below T32 (mkF m 19 #[vR a1, vI 1, vI 5, vR b_22, vI 1] [(.int 1), (.ref a1), (.int 1), (.ref b_22)]) t) => q31 t (st32 t (by
    show Go _ _ _ _ (mkF m 23 #[vR a1, vI 0, vI 5, vR b_22, vI 0] []) _
    refine XS.iinc X32.here hx rfl (hb hby d15_23) rfl (l' := #[vR a1, vI 1, vI 5, vR b_22, vI 0]) rfl ?_
    show Go _ _ _ _ (mkF m 26 #[vR a1, vI 1, vI 5, vR b_22, vI 0] []) _
    refine XS.iinc X32.here hx rfl (hb hby d15_26) rfl (l' := #[vR a1, vI 1, vI 5, vR b_22, vI 1]) rfl ?_
    show Go _ _ _ _ (mkF m 29 #[vR a1, vI 1, vI 5, vR b_22, vI 1] []) _
    refine XS.goto X32.here hx rfl (pc0 := 29) (pc' := 8) rfl (hb hby d15_29) (by decide) (by decide) ?_
    show Go _ _ _ _ (mkF m 8 _ []) _
    refine XS.iload X32.here hx rfl (hb hby d15_8) rfl ?_
    show Go _ _ _ _ (mkF m 10 _ [(.int 1)]) _
    refine XS.iloadN X32.here hx rfl (hb hby d15_10) rfl ?_
    show Go _ _ _ _ (mkF m 11 _ [(.int 5), (.int 1)]) _
    refine XS.icmpNo X32.here hx rfl (hb hby d15_11) rfl (tlt (by decide : (1 : Int32) < (5 : Int32))).2.1 ?_
    show Go _ _ _ _ (mkF m 14 _ []) _
    refine XS.aloadN X32.here hx rfl (hb hby d15_14) rfl rfl ?_
    show Go _ _ _ _ (mkF m 15 _ [(.ref b_22)]) _
    refine XS.iload X32.here hx rfl (hb hby d15_15) rfl ?_
    show Go _ _ _ _ (mkF m 17 _ [(.int 1), (.ref b_22)]) _
    refine XS.aloadN X32.here hx rfl (hb hby d15_17) rfl rfl ?_
    show Go _ _ _ _ (mkF m 18 _ [(.ref a1), (.int 1), (.ref b_22)]) _
    refine XS.iloadN X32.here hx rfl (hb hby d15_18) rfl ?_
    exact kt))
  obtain ⟨c39, Ar39, -, S39, N39, H39, -⟩ := id f38
  have q41 := fun t (kt : Go p e below T32 (mkF m 20 #[vR a1, vI 1, vI 5, vR b_22, vI 1] [(.int c1), (.int 1), (.ref b_22)]) t) => q40 t (by
    show Go _ _ _ _ (mkF m 19 #[vR a1, vI 1, vI 5, vR b_22, vI 1] [(.int 1), (.ref a1), (.int 1), (.ref b_22)]) _
    refine X32.caload hx (j := (1 : Int32)) (v := (.int c1)) Ar39.1 (State.isArrayOf_alike hZ.alike Ar39.2.1) Ar39.2.2 (inb_of S39 ⟨by decide, by decide⟩) (Has.at H39 (inb_of S39 ⟨by decide, by decide⟩) rfl) (g := (mkF m 19 #[vR a1, vI 1, vI 5, vR b_22, vI 1] [(.int 1), (.ref a1), (.int 1), (.ref b_22)])) rfl rfl (hb hby d15_19) _ ?_
    exact kt)
  obtain ⟨_, _, ⟨T42, L42, k42, n42⟩, -, X42, ⟨_, hQ42, l42, y42, z42⟩, st42⟩ := Jvm.LawKit.callS X32 hx (y := ym1) hown (ow hZ hw 73 rfl) (ow hZ hw 74 rfl) (ow hZ hw 25 rfl) (ow hZ hw 75 rfl) (by decide) (backOf (W := 0) (rm18 l Z a0 hw [] cx b_22 kb_22 (1 : Int32) c1 (10 : Int32) [(.int (own_hb c0)), (.int (own_lb c0)), (.int 0), (.int 0), (.int 0), (.int 0), (.int 0), (.int 0), (.int 0), (.int 0)] 2 T32.heap n0 O34 Vp36 gg24 (by decide) (by decide) (by decide) (by decide) (by decide) rfl) hZ (ov hw 75 rfl) (ov hw 25 rfl) (by decide) (by decide)) (g := (mkF m 20 #[vR a1, vI 1, vI 5, vR b_22, vI 1] [(.int c1), (.int 1), (.ref b_22)])) rfl (by rw [hml]; rfl) (argsL := [(.ref b_22), (.int 1), (.int c1)]) (rest := []) (lenOf pd_2 rfl) rfl own_le0 (hb hby d15_20) (fun _ _ => ⟨rfl, rfl, (by decide : 1 + 0 ≤ _), (by decide : 10 + 0 ≤ _)⟩)
  dsimp only [Pt.U, Pt.locs, Pt.cells, Pt.slots] at X42 l42 y42 z42 st42 hQ42
  subst l42 y42 z42
  obtain ⟨rfl, Nq42, Kq42, fq42_0⟩ := hQ42
  have N43 := Fr.app N33 Nq42
  have O44 := O34.keep Kq42 (allS gg24 all0)
  have K45 := K35.trans Kq42 (allS (Or.inr sz25) all0)
  have Vp46 : Arv Z T42.heap b_22 kb_22 .byte (10 : Int32) [(.int (own_hb c0)), (.int (own_lb c0)), (.int (own_hb c1)), (.int (own_lb c1)), (.int 0), (.int 0), (.int 0), (.int 0), (.int 0), (.int 0)] (.int 0) := fq42_0
  have f47 := (f38.keep Kq42 (ninS ne37 nin0))
  have q49 := fun t (kt : Go p e below T42 (mkF m 19 #[vR a1, vI 2, vI 5, vR b_22, vI 2] [(.int 2), (.ref a1), (.int 2), (.ref b_22)]) t) => q41 t (st42 t (by
    show Go _ _ _ _ (mkF m 23 #[vR a1, vI 1, vI 5, vR b_22, vI 1] []) _
    refine XS.iinc X42.here hx rfl (hb hby d15_23) rfl (l' := #[vR a1, vI 2, vI 5, vR b_22, vI 1]) rfl ?_
    show Go _ _ _ _ (mkF m 26 #[vR a1, vI 2, vI 5, vR b_22, vI 1] []) _
    refine XS.iinc X42.here hx rfl (hb hby d15_26) rfl (l' := #[vR a1, vI 2, vI 5, vR b_22, vI 2]) rfl ?_
    show Go _ _ _ _ (mkF m 29 #[vR a1, vI 2, vI 5, vR b_22, vI 2] []) _
    refine XS.goto X42.here hx rfl (pc0 := 29) (pc' := 8) rfl (hb hby d15_29) (by decide) (by decide) ?_
    show Go _ _ _ _ (mkF m 8 _ []) _
    refine XS.iload X42.here hx rfl (hb hby d15_8) rfl ?_
    show Go _ _ _ _ (mkF m 10 _ [(.int 2)]) _
    refine XS.iloadN X42.here hx rfl (hb hby d15_10) rfl ?_
    show Go _ _ _ _ (mkF m 11 _ [(.int 5), (.int 2)]) _
    refine XS.icmpNo X42.here hx rfl (hb hby d15_11) rfl (tlt (by decide : (2 : Int32) < (5 : Int32))).2.1 ?_
    show Go _ _ _ _ (mkF m 14 _ []) _
    refine XS.aloadN X42.here hx rfl (hb hby d15_14) rfl rfl ?_
    show Go _ _ _ _ (mkF m 15 _ [(.ref b_22)]) _
    refine XS.iload X42.here hx rfl (hb hby d15_15) rfl ?_
    show Go _ _ _ _ (mkF m 17 _ [(.int 2), (.ref b_22)]) _
    refine XS.aloadN X42.here hx rfl (hb hby d15_17) rfl rfl ?_
    show Go _ _ _ _ (mkF m 18 _ [(.ref a1), (.int 2), (.ref b_22)]) _
    refine XS.iloadN X42.here hx rfl (hb hby d15_18) rfl ?_
    exact kt))
  obtain ⟨c48, Ar48, -, S48, N48, H48, -⟩ := id f47
  have q50 := fun t (kt : Go p e below T42 (mkF m 20 #[vR a1, vI 2, vI 5, vR b_22, vI 2] [(.int c2), (.int 2), (.ref b_22)]) t) => q49 t (by
    show Go _ _ _ _ (mkF m 19 #[vR a1, vI 2, vI 5, vR b_22, vI 2] [(.int 2), (.ref a1), (.int 2), (.ref b_22)]) _
    refine X42.caload hx (j := (2 : Int32)) (v := (.int c2)) Ar48.1 (State.isArrayOf_alike hZ.alike Ar48.2.1) Ar48.2.2 (inb_of S48 ⟨by decide, by decide⟩) (Has.at H48 (inb_of S48 ⟨by decide, by decide⟩) rfl) (g := (mkF m 19 #[vR a1, vI 2, vI 5, vR b_22, vI 2] [(.int 2), (.ref a1), (.int 2), (.ref b_22)])) rfl rfl (hb hby d15_19) _ ?_
    exact kt)
  obtain ⟨_, _, ⟨T51, L51, k51, n51⟩, -, X51, ⟨_, hQ51, l51, y51, z51⟩, st51⟩ := Jvm.LawKit.callS X42 hx (y := ym1) hown (ow hZ hw 73 rfl) (ow hZ hw 74 rfl) (ow hZ hw 25 rfl) (ow hZ hw 75 rfl) (by decide) (backOf (W := 0) (rm18 l Z a0 hw [] cx b_22 kb_22 (2 : Int32) c2 (10 : Int32) [(.int (own_hb c0)), (.int (own_lb c0)), (.int (own_hb c1)), (.int (own_lb c1)), (.int 0), (.int 0), (.int 0), (.int 0), (.int 0), (.int 0)] 4 T42.heap n0 O44 Vp46 gg24 (by decide) (by decide) (by decide) (by decide) (by decide) rfl) hZ (ov hw 75 rfl) (ov hw 25 rfl) (by decide) (by decide)) (g := (mkF m 20 #[vR a1, vI 2, vI 5, vR b_22, vI 2] [(.int c2), (.int 2), (.ref b_22)])) rfl (by rw [hml]; rfl) (argsL := [(.ref b_22), (.int 2), (.int c2)]) (rest := []) (lenOf pd_2 rfl) rfl own_le0 (hb hby d15_20) (fun _ _ => ⟨rfl, rfl, (by decide : 1 + 0 ≤ _), (by decide : 10 + 0 ≤ _)⟩)
  dsimp only [Pt.U, Pt.locs, Pt.cells, Pt.slots] at X51 l51 y51 z51 st51 hQ51
  subst l51 y51 z51
  obtain ⟨rfl, Nq51, Kq51, fq51_0⟩ := hQ51
  have N52 := Fr.app N43 Nq51
  have O53 := O44.keep Kq51 (allS gg24 all0)
  have K54 := K45.trans Kq51 (allS (Or.inr sz25) all0)
  have Vp55 : Arv Z T51.heap b_22 kb_22 .byte (10 : Int32) [(.int (own_hb c0)), (.int (own_lb c0)), (.int (own_hb c1)), (.int (own_lb c1)), (.int (own_hb c2)), (.int (own_lb c2)), (.int 0), (.int 0), (.int 0), (.int 0)] (.int 0) := fq51_0
  have f56 := (f47.keep Kq51 (ninS ne37 nin0))
  have q58 := fun t (kt : Go p e below T51 (mkF m 19 #[vR a1, vI 3, vI 5, vR b_22, vI 3] [(.int 3), (.ref a1), (.int 3), (.ref b_22)]) t) => q50 t (st51 t (by
    show Go _ _ _ _ (mkF m 23 #[vR a1, vI 2, vI 5, vR b_22, vI 2] []) _
    refine XS.iinc X51.here hx rfl (hb hby d15_23) rfl (l' := #[vR a1, vI 3, vI 5, vR b_22, vI 2]) rfl ?_
    show Go _ _ _ _ (mkF m 26 #[vR a1, vI 3, vI 5, vR b_22, vI 2] []) _
    refine XS.iinc X51.here hx rfl (hb hby d15_26) rfl (l' := #[vR a1, vI 3, vI 5, vR b_22, vI 3]) rfl ?_
    show Go _ _ _ _ (mkF m 29 #[vR a1, vI 3, vI 5, vR b_22, vI 3] []) _
    refine XS.goto X51.here hx rfl (pc0 := 29) (pc' := 8) rfl (hb hby d15_29) (by decide) (by decide) ?_
    show Go _ _ _ _ (mkF m 8 _ []) _
    refine XS.iload X51.here hx rfl (hb hby d15_8) rfl ?_
    show Go _ _ _ _ (mkF m 10 _ [(.int 3)]) _
    refine XS.iloadN X51.here hx rfl (hb hby d15_10) rfl ?_
    show Go _ _ _ _ (mkF m 11 _ [(.int 5), (.int 3)]) _
    refine XS.icmpNo X51.here hx rfl (hb hby d15_11) rfl (tlt (by decide : (3 : Int32) < (5 : Int32))).2.1 ?_
    show Go _ _ _ _ (mkF m 14 _ []) _
    refine XS.aloadN X51.here hx rfl (hb hby d15_14) rfl rfl ?_
    show Go _ _ _ _ (mkF m 15 _ [(.ref b_22)]) _
    refine XS.iload X51.here hx rfl (hb hby d15_15) rfl ?_
    show Go _ _ _ _ (mkF m 17 _ [(.int 3), (.ref b_22)]) _
    refine XS.aloadN X51.here hx rfl (hb hby d15_17) rfl rfl ?_
    show Go _ _ _ _ (mkF m 18 _ [(.ref a1), (.int 3), (.ref b_22)]) _
    refine XS.iloadN X51.here hx rfl (hb hby d15_18) rfl ?_
    exact kt))
  obtain ⟨c57, Ar57, -, S57, N57, H57, -⟩ := id f56
  have q59 := fun t (kt : Go p e below T51 (mkF m 20 #[vR a1, vI 3, vI 5, vR b_22, vI 3] [(.int c3), (.int 3), (.ref b_22)]) t) => q58 t (by
    show Go _ _ _ _ (mkF m 19 #[vR a1, vI 3, vI 5, vR b_22, vI 3] [(.int 3), (.ref a1), (.int 3), (.ref b_22)]) _
    refine X51.caload hx (j := (3 : Int32)) (v := (.int c3)) Ar57.1 (State.isArrayOf_alike hZ.alike Ar57.2.1) Ar57.2.2 (inb_of S57 ⟨by decide, by decide⟩) (Has.at H57 (inb_of S57 ⟨by decide, by decide⟩) rfl) (g := (mkF m 19 #[vR a1, vI 3, vI 5, vR b_22, vI 3] [(.int 3), (.ref a1), (.int 3), (.ref b_22)])) rfl rfl (hb hby d15_19) _ ?_
    exact kt)
  obtain ⟨_, _, ⟨T60, L60, k60, n60⟩, -, X60, ⟨_, hQ60, l60, y60, z60⟩, st60⟩ := Jvm.LawKit.callS X51 hx (y := ym1) hown (ow hZ hw 73 rfl) (ow hZ hw 74 rfl) (ow hZ hw 25 rfl) (ow hZ hw 75 rfl) (by decide) (backOf (W := 0) (rm18 l Z a0 hw [] cx b_22 kb_22 (3 : Int32) c3 (10 : Int32) [(.int (own_hb c0)), (.int (own_lb c0)), (.int (own_hb c1)), (.int (own_lb c1)), (.int (own_hb c2)), (.int (own_lb c2)), (.int 0), (.int 0), (.int 0), (.int 0)] 6 T51.heap n0 O53 Vp55 gg24 (by decide) (by decide) (by decide) (by decide) (by decide) rfl) hZ (ov hw 75 rfl) (ov hw 25 rfl) (by decide) (by decide)) (g := (mkF m 20 #[vR a1, vI 3, vI 5, vR b_22, vI 3] [(.int c3), (.int 3), (.ref b_22)])) rfl (by rw [hml]; rfl) (argsL := [(.ref b_22), (.int 3), (.int c3)]) (rest := []) (lenOf pd_2 rfl) rfl own_le0 (hb hby d15_20) (fun _ _ => ⟨rfl, rfl, (by decide : 1 + 0 ≤ _), (by decide : 10 + 0 ≤ _)⟩)
  dsimp only [Pt.U, Pt.locs, Pt.cells, Pt.slots] at X60 l60 y60 z60 st60 hQ60
  subst l60 y60 z60
  obtain ⟨rfl, Nq60, Kq60, fq60_0⟩ := hQ60
  have N61 := Fr.app N52 Nq60
  have O62 := O53.keep Kq60 (allS gg24 all0)
  have K63 := K54.trans Kq60 (allS (Or.inr sz25) all0)
  have Vp64 : Arv Z T60.heap b_22 kb_22 .byte (10 : Int32) [(.int (own_hb c0)), (.int (own_lb c0)), (.int (own_hb c1)), (.int (own_lb c1)), (.int (own_hb c2)), (.int (own_lb c2)), (.int (own_hb c3)), (.int (own_lb c3)), (.int 0), (.int 0)] (.int 0) := fq60_0
  have f65 := (f56.keep Kq60 (ninS ne37 nin0))
  have q67 := fun t (kt : Go p e below T60 (mkF m 19 #[vR a1, vI 4, vI 5, vR b_22, vI 4] [(.int 4), (.ref a1), (.int 4), (.ref b_22)]) t) => q59 t (st60 t (by
    show Go _ _ _ _ (mkF m 23 #[vR a1, vI 3, vI 5, vR b_22, vI 3] []) _
    refine XS.iinc X60.here hx rfl (hb hby d15_23) rfl (l' := #[vR a1, vI 4, vI 5, vR b_22, vI 3]) rfl ?_
    show Go _ _ _ _ (mkF m 26 #[vR a1, vI 4, vI 5, vR b_22, vI 3] []) _
    refine XS.iinc X60.here hx rfl (hb hby d15_26) rfl (l' := #[vR a1, vI 4, vI 5, vR b_22, vI 4]) rfl ?_
    show Go _ _ _ _ (mkF m 29 #[vR a1, vI 4, vI 5, vR b_22, vI 4] []) _
    refine XS.goto X60.here hx rfl (pc0 := 29) (pc' := 8) rfl (hb hby d15_29) (by decide) (by decide) ?_
    show Go _ _ _ _ (mkF m 8 _ []) _
    refine XS.iload X60.here hx rfl (hb hby d15_8) rfl ?_
    show Go _ _ _ _ (mkF m 10 _ [(.int 4)]) _
    refine XS.iloadN X60.here hx rfl (hb hby d15_10) rfl ?_
    show Go _ _ _ _ (mkF m 11 _ [(.int 5), (.int 4)]) _
    refine XS.icmpNo X60.here hx rfl (hb hby d15_11) rfl (tlt (by decide : (4 : Int32) < (5 : Int32))).2.1 ?_
    show Go _ _ _ _ (mkF m 14 _ []) _
    refine XS.aloadN X60.here hx rfl (hb hby d15_14) rfl rfl ?_
    show Go _ _ _ _ (mkF m 15 _ [(.ref b_22)]) _
    refine XS.iload X60.here hx rfl (hb hby d15_15) rfl ?_
    show Go _ _ _ _ (mkF m 17 _ [(.int 4), (.ref b_22)]) _
    refine XS.aloadN X60.here hx rfl (hb hby d15_17) rfl rfl ?_
    show Go _ _ _ _ (mkF m 18 _ [(.ref a1), (.int 4), (.ref b_22)]) _
    refine XS.iloadN X60.here hx rfl (hb hby d15_18) rfl ?_
    exact kt))
  obtain ⟨c66, Ar66, -, S66, N66, H66, -⟩ := id f65
  have q68 := fun t (kt : Go p e below T60 (mkF m 20 #[vR a1, vI 4, vI 5, vR b_22, vI 4] [(.int c4), (.int 4), (.ref b_22)]) t) => q67 t (by
    show Go _ _ _ _ (mkF m 19 #[vR a1, vI 4, vI 5, vR b_22, vI 4] [(.int 4), (.ref a1), (.int 4), (.ref b_22)]) _
    refine X60.caload hx (j := (4 : Int32)) (v := (.int c4)) Ar66.1 (State.isArrayOf_alike hZ.alike Ar66.2.1) Ar66.2.2 (inb_of S66 ⟨by decide, by decide⟩) (Has.at H66 (inb_of S66 ⟨by decide, by decide⟩) rfl) (g := (mkF m 19 #[vR a1, vI 4, vI 5, vR b_22, vI 4] [(.int 4), (.ref a1), (.int 4), (.ref b_22)])) rfl rfl (hb hby d15_19) _ ?_
    exact kt)
  obtain ⟨_, _, ⟨T69, L69, k69, n69⟩, -, X69, ⟨_, hQ69, l69, y69, z69⟩, st69⟩ := Jvm.LawKit.callS X60 hx (y := ym1) hown (ow hZ hw 73 rfl) (ow hZ hw 74 rfl) (ow hZ hw 25 rfl) (ow hZ hw 75 rfl) (by decide) (backOf (W := 0) (rm18 l Z a0 hw [] cx b_22 kb_22 (4 : Int32) c4 (10 : Int32) [(.int (own_hb c0)), (.int (own_lb c0)), (.int (own_hb c1)), (.int (own_lb c1)), (.int (own_hb c2)), (.int (own_lb c2)), (.int (own_hb c3)), (.int (own_lb c3)), (.int 0), (.int 0)] 8 T60.heap n0 O62 Vp64 gg24 (by decide) (by decide) (by decide) (by decide) (by decide) rfl) hZ (ov hw 75 rfl) (ov hw 25 rfl) (by decide) (by decide)) (g := (mkF m 20 #[vR a1, vI 4, vI 5, vR b_22, vI 4] [(.int c4), (.int 4), (.ref b_22)])) rfl (by rw [hml]; rfl) (argsL := [(.ref b_22), (.int 4), (.int c4)]) (rest := []) (lenOf pd_2 rfl) rfl own_le0 (hb hby d15_20) (fun _ _ => ⟨rfl, rfl, (by decide : 1 + 0 ≤ _), (by decide : 10 + 0 ≤ _)⟩)
  dsimp only [Pt.U, Pt.locs, Pt.cells, Pt.slots] at X69 l69 y69 z69 st69 hQ69
  subst l69 y69 z69
  obtain ⟨rfl, Nq69, Kq69, fq69_0⟩ := hQ69
  have N70 := Fr.app N61 Nq69
  have O71 := O62.keep Kq69 (allS gg24 all0)
  have K72 := K63.trans Kq69 (allS (Or.inr sz25) all0)
  have Vp73 : Arv Z T69.heap b_22 kb_22 .byte (10 : Int32) [(.int (own_hb c0)), (.int (own_lb c0)), (.int (own_hb c1)), (.int (own_lb c1)), (.int (own_hb c2)), (.int (own_lb c2)), (.int (own_hb c3)), (.int (own_lb c3)), (.int (own_hb c4)), (.int (own_lb c4))] (.int 0) := fq69_0
  have q74 := fun t (kt : Go p e below T69 (mkF m 33 #[vR a1, vI 5, vI 5, vR b_22, vI 5] [(.ref b_22)]) t) => q68 t (st69 t (by
    show Go _ _ _ _ (mkF m 23 #[vR a1, vI 4, vI 5, vR b_22, vI 4] []) _
    refine XS.iinc X69.here hx rfl (hb hby d15_23) rfl (l' := #[vR a1, vI 5, vI 5, vR b_22, vI 4]) rfl ?_
    show Go _ _ _ _ (mkF m 26 #[vR a1, vI 5, vI 5, vR b_22, vI 4] []) _
    refine XS.iinc X69.here hx rfl (hb hby d15_26) rfl (l' := #[vR a1, vI 5, vI 5, vR b_22, vI 5]) rfl ?_
    show Go _ _ _ _ (mkF m 29 #[vR a1, vI 5, vI 5, vR b_22, vI 5] []) _
    refine XS.goto X69.here hx rfl (pc0 := 29) (pc' := 8) rfl (hb hby d15_29) (by decide) (by decide) ?_
    show Go _ _ _ _ (mkF m 8 _ []) _
    refine XS.iload X69.here hx rfl (hb hby d15_8) rfl ?_
    show Go _ _ _ _ (mkF m 10 _ [(.int 5)]) _
    refine XS.iloadN X69.here hx rfl (hb hby d15_10) rfl ?_
    show Go _ _ _ _ (mkF m 11 _ [(.int 5), (.int 5)]) _
    refine XS.icmpYes X69.here hx rfl (pc0 := 11) (pc' := 32) rfl (hb hby d15_11) rfl (flt (by decide : ¬ ((5 : Int32) < (5 : Int32)))).2.1 (by decide) (by decide) ?_
    show Go _ _ _ _ (mkF m 32 _ []) _
    refine XS.aloadN X69.here hx rfl (hb hby d15_32) rfl rfl ?_
    exact kt))
  exact ⟨some (.ref b_22), T69, _, _, _, _, X69, by decide, by decide, nofun, q74, fun fs hr => retOut X69 hx hret rfl (o4 ⟨rfl, rfl, rfl⟩) (hb hby d15_33) hr, ⟨b_22, kb_22, rfl, N70, K72, sz25, Vp73⟩⟩
theorem ef_7_RIRII (m : MethodId) (x0 : Addr) (x1 : Int32) (x2 : Addr) (x3 : Int32) (x4 : Int32) : entryFrame m #[(.ref x0), (.int x1), (.ref x2), (.int x3), (.int x4)] 7 = mkF m 0 #[.val (.ref x0), .val (.int x1), .val (.ref x2), .val (.int x3), .val (.int x4), .unset, .unset] [] := by first | (simp [entryFrame, mkF, argsToLocals, Value.category]; done) | rfl
theorem pn_7 : plainName "java/lang/StringUTF16" = true := by first | (simp [plainName, overriddenIn]; done) | decide +kernel
theorem d7_0 : decode jdk_52_method_21_code 0 = .ok (.iconst 0, 1) := by decide +kernel
theorem d7_1 : decode jdk_52_method_21_code 1 = .ok (.istore 5, 2) := by decide +kernel
theorem d7_3 : decode jdk_52_method_21_code 3 = .ok (.iload 5, 2) := by decide +kernel
theorem d7_5 : decode jdk_52_method_21_code 5 = .ok (.iload 4, 2) := by decide +kernel
theorem d7_7 : decode jdk_52_method_21_code 7 = .ok (.if_icmp .ge 37, 3) := by decide +kernel
theorem d7_10 : decode jdk_52_method_21_code 10 = .ok (.aload_n 0, 1) := by decide +kernel
theorem d7_11 : decode jdk_52_method_21_code 11 = .ok (.iload_n 1, 1) := by decide +kernel
theorem d7_12 : decode jdk_52_method_21_code 12 = .ok (.caload, 1) := by decide +kernel
theorem d7_13 : decode jdk_52_method_21_code 13 = .ok (.istore 6, 2) := by decide +kernel
theorem d7_15 : decode jdk_52_method_21_code 15 = .ok (.iload 6, 2) := by decide +kernel
theorem d7_17 : decode jdk_52_method_21_code 17 = .ok (.sipush 255, 3) := by decide +kernel
theorem d7_20 : decode jdk_52_method_21_code 20 = .ok (.if_icmp .le 6, 3) := by decide +kernel
theorem d7_23 : decode jdk_52_method_21_code 23 = .ok (.iload 5, 2) := by decide +kernel
theorem d7_25 : decode jdk_52_method_21_code 25 = .ok (.ireturn, 1) := by decide +kernel
theorem d7_26 : decode jdk_52_method_21_code 26 = .ok (.aload_n 2, 1) := by decide +kernel
theorem d7_27 : decode jdk_52_method_21_code 27 = .ok (.iload_n 3, 1) := by decide +kernel
theorem d7_28 : decode jdk_52_method_21_code 28 = .ok (.iload 6, 2) := by decide +kernel
theorem d7_30 : decode jdk_52_method_21_code 30 = .ok (.i2b, 1) := by decide +kernel
theorem d7_31 : decode jdk_52_method_21_code 31 = .ok (.bastore, 1) := by decide +kernel
theorem d7_32 : decode jdk_52_method_21_code 32 = .ok (.iinc 1 1, 3) := by decide +kernel
theorem d7_35 : decode jdk_52_method_21_code 35 = .ok (.iinc 3 1, 3) := by decide +kernel
theorem d7_38 : decode jdk_52_method_21_code 38 = .ok (.iinc 5 1, 3) := by decide +kernel
theorem d7_41 : decode jdk_52_method_21_code 41 = .ok (.goto (-38), 3) := by decide +kernel
def Q_rm7_5 (Z : State) (a1 : Addr) (b : Addr) (ka : ClassId) (kb : ClassId) (c0 : Int32) (c1 : Int32) (c2 : Int32) (c3 : Int32) (c4 : Int32) (z_cs : Int32) (h0 : Heap) (n0 : Nat) (v : Option Value) (h : Heap) (L : List Loc) : Prop := ∃ (r : Int32), v = some (.int r) ∧ Fr n0 L ∧ Keep h0 h [b] ∧ ((r = (0 : Int32) ∧ (255 : Int32) < c0) ∨ (r = (1 : Int32) ∧ (255 : Int32) < c1) ∨ (r = (2 : Int32) ∧ (255 : Int32) < c2) ∨ (r = (3 : Int32) ∧ (255 : Int32) < c3) ∨ (r = (4 : Int32) ∧ (255 : Int32) < c4))
theorem rm7_5 (l : Launch) (Z : State) (a0 : Array Value) (hw : ∀ d ∈ tables_1, d.before a0 Z = true) (ws : List Jvm.Cond) {z_cs : Int32} (cx : Cx Z z_cs) (a1 : Addr) (b : Addr) (ka : ClassId) (kb : ClassId) (c0 : Int32) (c1 : Int32) (c2 : Int32) (c3 : Int32) (c4 : Int32) (h0 : Heap) (n0 : Nat) (O0 : Old Z n0 h0) (G0 : Arv Z h0 a1 ka .char (5 : Int32) [(.int c0), (.int c1), (.int c2), (.int c3), (.int c4)] (.int 0)) (G1 : Arv Z h0 b kb .byte (5 : Int32) [(.int 0), (.int 0), (.int 0), (.int 0), (.int 0)] (.int 0)) (g_b : n0 ≤ b) (hB : (255 : Int32) < c0 ∨ (255 : Int32) < c1 ∨ (255 : Int32) < c2 ∨ (255 : Int32) < c3 ∨ (255 : Int32) < c4) (hne : a1 ≠ b) :
    OwnMet l ym6 (Jvm.Cond.code ym6 jdk_52_method_21_code 7 (some .int) :: ws) (own_R 0 0 0 0) #[(.ref a1), (.int 0), (.ref b), (.int 0), (.int 5)] Z h0 (Q_rm7_5 Z a1 b ka kb c0 c1 c2 c3 c4 z_cs h0 n0) := by
  refine own_body (plainFor_of_name pn_7) hisR fun p e s m below meth c s₁ hx hby hml hown hnm hret hZ X0 e0 => ?_
  have N0 := Fr.nil n0
  have K0 : Keep h0 h0 [b] := Keep.refl _ _
  have pre0 : ∀ t, Go p e below s₁ (mkF m 0 #[vR a1, vI 0, vR b, vI 0, vI 5, vU, vU] []) t → Go p e below s₁ (entryFrame m #[(.ref a1), (.int 0), (.ref b), (.int 0), (.int 5)] 7) t := fun t k => castTop (ef_7_RIRII m a1 (0 : Int32) b (0 : Int32) (5 : Int32)) k
  have q22 := fun t (kt : Go p e below s₁ (mkF m 12 #[vR a1, vI 0, vR b, vI 0, vI 5, vI 0, vU] [(.int 0), (.ref a1)]) t) => pre0 t (by
    show Go _ _ _ _ (mkF m 0 #[vR a1, vI 0, vR b, vI 0, vI 5, vU, vU] []) _
    refine XS.iconst X0.here hx rfl (hb hby d7_0) ?_
    show Go _ _ _ _ (mkF m 1 _ [(.int 0)]) _
    refine XS.istore X0.here hx rfl (hb hby d7_1) rfl (l' := #[vR a1, vI 0, vR b, vI 0, vI 5, vI 0, vU]) rfl ?_
    show Go _ _ _ _ (mkF m 3 #[vR a1, vI 0, vR b, vI 0, vI 5, vI 0, vU] []) _
    refine XS.iload X0.here hx rfl (hb hby d7_3) rfl ?_
    show Go _ _ _ _ (mkF m 5 _ [(.int 0)]) _
    refine XS.iload X0.here hx rfl (hb hby d7_5) rfl ?_
    show Go _ _ _ _ (mkF m 7 _ [(.int 5), (.int 0)]) _
    refine XS.icmpNo X0.here hx rfl (hb hby d7_7) rfl (tlt (by decide : (0 : Int32) < (5 : Int32))).2.1 ?_
    show Go _ _ _ _ (mkF m 10 _ []) _
    refine XS.aloadN X0.here hx rfl (hb hby d7_10) rfl rfl ?_
    show Go _ _ _ _ (mkF m 11 _ [(.ref a1)]) _
    refine XS.iloadN X0.here hx rfl (hb hby d7_11) rfl ?_
    exact kt)
  obtain ⟨c21, Ar21, -, S21, N21, H21, -⟩ := id G0
  have q23 := fun t (kt : Go p e below s₁ (mkF m 20 #[vR a1, vI 0, vR b, vI 0, vI 5, vI 0, vI c0] [(.int 255), (.int c0)]) t) => q22 t (by
    show Go _ _ _ _ (mkF m 12 #[vR a1, vI 0, vR b, vI 0, vI 5, vI 0, vU] [(.int 0), (.ref a1)]) _
    refine X0.caload hx (j := (0 : Int32)) (v := (.int c0)) (by rw [e0]; exact Ar21.1) (State.isArrayOf_alike hZ.alike Ar21.2.1) Ar21.2.2 (inb_of S21 ⟨by decide, by decide⟩) (Has.at H21 (inb_of S21 ⟨by decide, by decide⟩) rfl) (g := (mkF m 12 #[vR a1, vI 0, vR b, vI 0, vI 5, vI 0, vU] [(.int 0), (.ref a1)])) rfl rfl (hb hby d7_12) _ ?_
    show Go _ _ _ _ (mkF m 13 _ [(.int c0)]) _
    refine XS.istore X0.here hx rfl (hb hby d7_13) rfl (l' := #[vR a1, vI 0, vR b, vI 0, vI 5, vI 0, vI c0]) rfl ?_
    show Go _ _ _ _ (mkF m 15 #[vR a1, vI 0, vR b, vI 0, vI 5, vI 0, vI c0] []) _
    refine XS.iload X0.here hx rfl (hb hby d7_15) rfl ?_
    show Go _ _ _ _ (mkF m 17 _ [(.int c0)]) _
    refine XS.sipush X0.here hx rfl (hb hby d7_17) ?_
    exact kt)
  by_cases hc24 : (255 : Int32) < c0
  · have q25 := fun t (kt : Go p e below s₁ (mkF m 25 #[vR a1, vI 0, vR b, vI 0, vI 5, vI 0, vI c0] [(.int 0)]) t) => q23 t (by
      show Go _ _ _ _ (mkF m 20 #[vR a1, vI 0, vR b, vI 0, vI 5, vI 0, vI c0] [(.int 255), (.int c0)]) _
      refine XS.icmpNo X0.here hx rfl (hb hby d7_20) rfl (tlt hc24).2.2.2 ?_
      show Go _ _ _ _ (mkF m 23 _ []) _
      refine XS.iload X0.here hx rfl (hb hby d7_23) rfl ?_
      exact kt)
    exact ⟨some (.int 0), s₁, _, _, _, _, X0, by decide, by decide, nofun, q25, fun fs hr => retI X0 hx hret (hb hby d7_25) hr, by rw [e0]; exact ⟨(0 : Int32), rfl, N0, K0, (Or.inl ⟨rfl, hc24⟩)⟩⟩
  · have q27 := fun t (kt : Go p e below s₁ (mkF m 31 #[vR a1, vI 0, vR b, vI 0, vI 5, vI 0, vI c0] [(.int (c0.toInt8.toInt32)), (.int 0), (.ref b)]) t) => q23 t (by
      show Go _ _ _ _ (mkF m 20 #[vR a1, vI 0, vR b, vI 0, vI 5, vI 0, vI c0] [(.int 255), (.int c0)]) _
      refine XS.icmpYes X0.here hx rfl (pc0 := 20) (pc' := 26) rfl (hb hby d7_20) rfl (flt hc24).2.2.2 (by decide) (by decide) ?_
      show Go _ _ _ _ (mkF m 26 _ []) _
      refine XS.aloadN X0.here hx rfl (hb hby d7_26) rfl rfl ?_
      show Go _ _ _ _ (mkF m 27 _ [(.ref b)]) _
      refine XS.iloadN X0.here hx rfl (hb hby d7_27) rfl ?_
      show Go _ _ _ _ (mkF m 28 _ [(.int 0), (.ref b)]) _
      refine XS.iload X0.here hx rfl (hb hby d7_28) rfl ?_
      show Go _ _ _ _ (mkF m 30 _ [(.int c0), (.int 0), (.ref b)]) _
      refine XS.i2b X0.here hx rfl (hb hby d7_30) rfl ?_
      exact kt)
    obtain ⟨c26, Ar26, q26, S26, N26, H26, G26⟩ := id G1
    have hi26 : ¬ ((0 : Int32) < 0 ∨ c26.slots.size ≤ ((0 : Int32)).toNatClampNeg) := inb_of S26 ⟨by decide, by decide⟩
    obtain ⟨T28, h28, X28, e28, W28, st28⟩ := stB X0 hx hZ e0 Ar26 (j := (0 : Int32)) hi26 (g := (mkF m 31 #[vR a1, vI 0, vR b, vI 0, vI 5, vI 0, vI c0] [(.int (c0.toInt8.toInt32)), (.int 0), (.ref b)])) rfl rfl (hb hby d7_31)
    have V28 : Arv Z h28 b kb .byte (5 : Int32) [(.int (nar .byte (c0.toInt8.toInt32))), (.int 0), (.int 0), (.int 0), (.int 0)] (.int 0) := Arv.set Ar26 q26 S26 N26 H26 G26 (fits_nar_byte _) W28 0 rfl (Nat.le_of_ble_eq_true rfl)
    have N29 := Fr.snoc X28 N0 g_b
    have O30 := O0.wr W28 g_b
    have K31 := K0.wr W28 (Or.inl (List.mem_of_getElem? (i := 0) rfl))
    have f32 := (G0.other W28 hne)
    have q34 := fun t (kt : Go p e below T28 (mkF m 12 #[vR a1, vI 1, vR b, vI 1, vI 5, vI 1, vI c0] [(.int 1), (.ref a1)]) t) => q27 t (st28 t (by
      show Go _ _ _ _ (mkF m 32 #[vR a1, vI 0, vR b, vI 0, vI 5, vI 0, vI c0] []) _
      refine XS.iinc X28.here hx rfl (hb hby d7_32) rfl (l' := #[vR a1, vI 1, vR b, vI 0, vI 5, vI 0, vI c0]) rfl ?_
      show Go _ _ _ _ (mkF m 35 #[vR a1, vI 1, vR b, vI 0, vI 5, vI 0, vI c0] []) _
      refine XS.iinc X28.here hx rfl (hb hby d7_35) rfl (l' := #[vR a1, vI 1, vR b, vI 1, vI 5, vI 0, vI c0]) rfl ?_
      show Go _ _ _ _ (mkF m 38 #[vR a1, vI 1, vR b, vI 1, vI 5, vI 0, vI c0] []) _
      refine XS.iinc X28.here hx rfl (hb hby d7_38) rfl (l' := #[vR a1, vI 1, vR b, vI 1, vI 5, vI 1, vI c0]) rfl ?_
      show Go _ _ _ _ (mkF m 41 #[vR a1, vI 1, vR b, vI 1, vI 5, vI 1, vI c0] []) _
      refine XS.goto X28.here hx rfl (pc0 := 41) (pc' := 3) rfl (hb hby d7_41) (by decide) (by decide) ?_
      show Go _ _ _ _ (mkF m 3 _ []) _
      refine XS.iload X28.here hx rfl (hb hby d7_3) rfl ?_
      show Go _ _ _ _ (mkF m 5 _ [(.int 1)]) _
      refine XS.iload X28.here hx rfl (hb hby d7_5) rfl ?_
      show Go _ _ _ _ (mkF m 7 _ [(.int 5), (.int 1)]) _
      refine XS.icmpNo X28.here hx rfl (hb hby d7_7) rfl (tlt (by decide : (1 : Int32) < (5 : Int32))).2.1 ?_
      show Go _ _ _ _ (mkF m 10 _ []) _
      refine XS.aloadN X28.here hx rfl (hb hby d7_10) rfl rfl ?_
      show Go _ _ _ _ (mkF m 11 _ [(.ref a1)]) _
      refine XS.iloadN X28.here hx rfl (hb hby d7_11) rfl ?_
      exact kt))
    obtain ⟨c33, Ar33, -, S33, N33, H33, -⟩ := id f32
    have q35 := fun t (kt : Go p e below T28 (mkF m 20 #[vR a1, vI 1, vR b, vI 1, vI 5, vI 1, vI c1] [(.int 255), (.int c1)]) t) => q34 t (by
      show Go _ _ _ _ (mkF m 12 #[vR a1, vI 1, vR b, vI 1, vI 5, vI 1, vI c0] [(.int 1), (.ref a1)]) _
      refine X28.caload hx (j := (1 : Int32)) (v := (.int c1)) (by rw [e28]; exact Ar33.1) (State.isArrayOf_alike hZ.alike Ar33.2.1) Ar33.2.2 (inb_of S33 ⟨by decide, by decide⟩) (Has.at H33 (inb_of S33 ⟨by decide, by decide⟩) rfl) (g := (mkF m 12 #[vR a1, vI 1, vR b, vI 1, vI 5, vI 1, vI c0] [(.int 1), (.ref a1)])) rfl rfl (hb hby d7_12) _ ?_
      show Go _ _ _ _ (mkF m 13 _ [(.int c1)]) _
      refine XS.istore X28.here hx rfl (hb hby d7_13) rfl (l' := #[vR a1, vI 1, vR b, vI 1, vI 5, vI 1, vI c1]) rfl ?_
      show Go _ _ _ _ (mkF m 15 #[vR a1, vI 1, vR b, vI 1, vI 5, vI 1, vI c1] []) _
      refine XS.iload X28.here hx rfl (hb hby d7_15) rfl ?_
      show Go _ _ _ _ (mkF m 17 _ [(.int c1)]) _
      refine XS.sipush X28.here hx rfl (hb hby d7_17) ?_
      exact kt)
    by_cases hc36 : (255 : Int32) < c1
    · have q37 := fun t (kt : Go p e below T28 (mkF m 25 #[vR a1, vI 1, vR b, vI 1, vI 5, vI 1, vI c1] [(.int 1)]) t) => q35 t (by
        show Go _ _ _ _ (mkF m 20 #[vR a1, vI 1, vR b, vI 1, vI 5, vI 1, vI c1] [(.int 255), (.int c1)]) _
        refine XS.icmpNo X28.here hx rfl (hb hby d7_20) rfl (tlt hc36).2.2.2 ?_
        show Go _ _ _ _ (mkF m 23 _ []) _
        refine XS.iload X28.here hx rfl (hb hby d7_23) rfl ?_
        exact kt)
      exact ⟨some (.int 1), T28, _, _, _, _, X28, by decide, by decide, nofun, q37, fun fs hr => retI X28 hx hret (hb hby d7_25) hr, by rw [e28]; exact ⟨(1 : Int32), rfl, N29, K31, (Or.inr (Or.inl ⟨rfl, hc36⟩))⟩⟩
    · have q39 := fun t (kt : Go p e below T28 (mkF m 31 #[vR a1, vI 1, vR b, vI 1, vI 5, vI 1, vI c1] [(.int (c1.toInt8.toInt32)), (.int 1), (.ref b)]) t) => q35 t (by
        show Go _ _ _ _ (mkF m 20 #[vR a1, vI 1, vR b, vI 1, vI 5, vI 1, vI c1] [(.int 255), (.int c1)]) _
        refine XS.icmpYes X28.here hx rfl (pc0 := 20) (pc' := 26) rfl (hb hby d7_20) rfl (flt hc36).2.2.2 (by decide) (by decide) ?_
        show Go _ _ _ _ (mkF m 26 _ []) _
        refine XS.aloadN X28.here hx rfl (hb hby d7_26) rfl rfl ?_
        show Go _ _ _ _ (mkF m 27 _ [(.ref b)]) _
        refine XS.iloadN X28.here hx rfl (hb hby d7_27) rfl ?_
        show Go _ _ _ _ (mkF m 28 _ [(.int 1), (.ref b)]) _
        refine XS.iload X28.here hx rfl (hb hby d7_28) rfl ?_
        show Go _ _ _ _ (mkF m 30 _ [(.int c1), (.int 1), (.ref b)]) _
        refine XS.i2b X28.here hx rfl (hb hby d7_30) rfl ?_
        exact kt)
      obtain ⟨c38, Ar38, q38, S38, N38, H38, G38⟩ := id V28
      have hi38 : ¬ ((1 : Int32) < 0 ∨ c38.slots.size ≤ ((1 : Int32)).toNatClampNeg) := inb_of S38 ⟨by decide, by decide⟩
      obtain ⟨T40, h40, X40, e40, W40, st40⟩ := stB X28 hx hZ e28 Ar38 (j := (1 : Int32)) hi38 (g := (mkF m 31 #[vR a1, vI 1, vR b, vI 1, vI 5, vI 1, vI c1] [(.int (c1.toInt8.toInt32)), (.int 1), (.ref b)])) rfl rfl (hb hby d7_31)
      have V40 : Arv Z h40 b kb .byte (5 : Int32) [(.int (nar .byte (c0.toInt8.toInt32))), (.int (nar .byte (c1.toInt8.toInt32))), (.int 0), (.int 0), (.int 0)] (.int 0) := Arv.set Ar38 q38 S38 N38 H38 G38 (fits_nar_byte _) W40 1 rfl (Nat.le_of_ble_eq_true rfl)
      have N41 := Fr.snoc X40 N29 g_b
      have O42 := O30.wr W40 g_b
      have K43 := K31.wr W40 (Or.inl (List.mem_of_getElem? (i := 0) rfl))
      have f44 := (f32.other W40 hne)
      have q46 := fun t (kt : Go p e below T40 (mkF m 12 #[vR a1, vI 2, vR b, vI 2, vI 5, vI 2, vI c1] [(.int 2), (.ref a1)]) t) => q39 t (st40 t (by
        show Go _ _ _ _ (mkF m 32 #[vR a1, vI 1, vR b, vI 1, vI 5, vI 1, vI c1] []) _
        refine XS.iinc X40.here hx rfl (hb hby d7_32) rfl (l' := #[vR a1, vI 2, vR b, vI 1, vI 5, vI 1, vI c1]) rfl ?_
        show Go _ _ _ _ (mkF m 35 #[vR a1, vI 2, vR b, vI 1, vI 5, vI 1, vI c1] []) _
        refine XS.iinc X40.here hx rfl (hb hby d7_35) rfl (l' := #[vR a1, vI 2, vR b, vI 2, vI 5, vI 1, vI c1]) rfl ?_
        show Go _ _ _ _ (mkF m 38 #[vR a1, vI 2, vR b, vI 2, vI 5, vI 1, vI c1] []) _
        refine XS.iinc X40.here hx rfl (hb hby d7_38) rfl (l' := #[vR a1, vI 2, vR b, vI 2, vI 5, vI 2, vI c1]) rfl ?_
        show Go _ _ _ _ (mkF m 41 #[vR a1, vI 2, vR b, vI 2, vI 5, vI 2, vI c1] []) _
        refine XS.goto X40.here hx rfl (pc0 := 41) (pc' := 3) rfl (hb hby d7_41) (by decide) (by decide) ?_
        show Go _ _ _ _ (mkF m 3 _ []) _
        refine XS.iload X40.here hx rfl (hb hby d7_3) rfl ?_
        show Go _ _ _ _ (mkF m 5 _ [(.int 2)]) _
        refine XS.iload X40.here hx rfl (hb hby d7_5) rfl ?_
        show Go _ _ _ _ (mkF m 7 _ [(.int 5), (.int 2)]) _
        refine XS.icmpNo X40.here hx rfl (hb hby d7_7) rfl (tlt (by decide : (2 : Int32) < (5 : Int32))).2.1 ?_
        show Go _ _ _ _ (mkF m 10 _ []) _
        refine XS.aloadN X40.here hx rfl (hb hby d7_10) rfl rfl ?_
        show Go _ _ _ _ (mkF m 11 _ [(.ref a1)]) _
        refine XS.iloadN X40.here hx rfl (hb hby d7_11) rfl ?_
        exact kt))
      obtain ⟨c45, Ar45, -, S45, N45, H45, -⟩ := id f44
      have q47 := fun t (kt : Go p e below T40 (mkF m 20 #[vR a1, vI 2, vR b, vI 2, vI 5, vI 2, vI c2] [(.int 255), (.int c2)]) t) => q46 t (by
        show Go _ _ _ _ (mkF m 12 #[vR a1, vI 2, vR b, vI 2, vI 5, vI 2, vI c1] [(.int 2), (.ref a1)]) _
        refine X40.caload hx (j := (2 : Int32)) (v := (.int c2)) (by rw [e40]; exact Ar45.1) (State.isArrayOf_alike hZ.alike Ar45.2.1) Ar45.2.2 (inb_of S45 ⟨by decide, by decide⟩) (Has.at H45 (inb_of S45 ⟨by decide, by decide⟩) rfl) (g := (mkF m 12 #[vR a1, vI 2, vR b, vI 2, vI 5, vI 2, vI c1] [(.int 2), (.ref a1)])) rfl rfl (hb hby d7_12) _ ?_
        show Go _ _ _ _ (mkF m 13 _ [(.int c2)]) _
        refine XS.istore X40.here hx rfl (hb hby d7_13) rfl (l' := #[vR a1, vI 2, vR b, vI 2, vI 5, vI 2, vI c2]) rfl ?_
        show Go _ _ _ _ (mkF m 15 #[vR a1, vI 2, vR b, vI 2, vI 5, vI 2, vI c2] []) _
        refine XS.iload X40.here hx rfl (hb hby d7_15) rfl ?_
        show Go _ _ _ _ (mkF m 17 _ [(.int c2)]) _
        refine XS.sipush X40.here hx rfl (hb hby d7_17) ?_
        exact kt)
      by_cases hc48 : (255 : Int32) < c2
      · have q49 := fun t (kt : Go p e below T40 (mkF m 25 #[vR a1, vI 2, vR b, vI 2, vI 5, vI 2, vI c2] [(.int 2)]) t) => q47 t (by
          show Go _ _ _ _ (mkF m 20 #[vR a1, vI 2, vR b, vI 2, vI 5, vI 2, vI c2] [(.int 255), (.int c2)]) _
          refine XS.icmpNo X40.here hx rfl (hb hby d7_20) rfl (tlt hc48).2.2.2 ?_
          show Go _ _ _ _ (mkF m 23 _ []) _
          refine XS.iload X40.here hx rfl (hb hby d7_23) rfl ?_
          exact kt)
        exact ⟨some (.int 2), T40, _, _, _, _, X40, by decide, by decide, nofun, q49, fun fs hr => retI X40 hx hret (hb hby d7_25) hr, by rw [e40]; exact ⟨(2 : Int32), rfl, N41, K43, (Or.inr (Or.inr (Or.inl ⟨rfl, hc48⟩)))⟩⟩
      · have q51 := fun t (kt : Go p e below T40 (mkF m 31 #[vR a1, vI 2, vR b, vI 2, vI 5, vI 2, vI c2] [(.int (c2.toInt8.toInt32)), (.int 2), (.ref b)]) t) => q47 t (by
          show Go _ _ _ _ (mkF m 20 #[vR a1, vI 2, vR b, vI 2, vI 5, vI 2, vI c2] [(.int 255), (.int c2)]) _
          refine XS.icmpYes X40.here hx rfl (pc0 := 20) (pc' := 26) rfl (hb hby d7_20) rfl (flt hc48).2.2.2 (by decide) (by decide) ?_
          show Go _ _ _ _ (mkF m 26 _ []) _
          refine XS.aloadN X40.here hx rfl (hb hby d7_26) rfl rfl ?_
          show Go _ _ _ _ (mkF m 27 _ [(.ref b)]) _
          refine XS.iloadN X40.here hx rfl (hb hby d7_27) rfl ?_
          show Go _ _ _ _ (mkF m 28 _ [(.int 2), (.ref b)]) _
          refine XS.iload X40.here hx rfl (hb hby d7_28) rfl ?_
          show Go _ _ _ _ (mkF m 30 _ [(.int c2), (.int 2), (.ref b)]) _
          refine XS.i2b X40.here hx rfl (hb hby d7_30) rfl ?_
          exact kt)
        obtain ⟨c50, Ar50, q50, S50, N50, H50, G50⟩ := id V40
        have hi50 : ¬ ((2 : Int32) < 0 ∨ c50.slots.size ≤ ((2 : Int32)).toNatClampNeg) := inb_of S50 ⟨by decide, by decide⟩
        obtain ⟨T52, h52, X52, e52, W52, st52⟩ := stB X40 hx hZ e40 Ar50 (j := (2 : Int32)) hi50 (g := (mkF m 31 #[vR a1, vI 2, vR b, vI 2, vI 5, vI 2, vI c2] [(.int (c2.toInt8.toInt32)), (.int 2), (.ref b)])) rfl rfl (hb hby d7_31)
        have V52 : Arv Z h52 b kb .byte (5 : Int32) [(.int (nar .byte (c0.toInt8.toInt32))), (.int (nar .byte (c1.toInt8.toInt32))), (.int (nar .byte (c2.toInt8.toInt32))), (.int 0), (.int 0)] (.int 0) := Arv.set Ar50 q50 S50 N50 H50 G50 (fits_nar_byte _) W52 2 rfl (Nat.le_of_ble_eq_true rfl)
        have N53 := Fr.snoc X52 N41 g_b
        have O54 := O42.wr W52 g_b
        have K55 := K43.wr W52 (Or.inl (List.mem_of_getElem? (i := 0) rfl))
        have f56 := (f44.other W52 hne)
        have q58 := fun t (kt : Go p e below T52 (mkF m 12 #[vR a1, vI 3, vR b, vI 3, vI 5, vI 3, vI c2] [(.int 3), (.ref a1)]) t) => q51 t (st52 t (by
          show Go _ _ _ _ (mkF m 32 #[vR a1, vI 2, vR b, vI 2, vI 5, vI 2, vI c2] []) _
          refine XS.iinc X52.here hx rfl (hb hby d7_32) rfl (l' := #[vR a1, vI 3, vR b, vI 2, vI 5, vI 2, vI c2]) rfl ?_
          show Go _ _ _ _ (mkF m 35 #[vR a1, vI 3, vR b, vI 2, vI 5, vI 2, vI c2] []) _
          refine XS.iinc X52.here hx rfl (hb hby d7_35) rfl (l' := #[vR a1, vI 3, vR b, vI 3, vI 5, vI 2, vI c2]) rfl ?_
          show Go _ _ _ _ (mkF m 38 #[vR a1, vI 3, vR b, vI 3, vI 5, vI 2, vI c2] []) _
          refine XS.iinc X52.here hx rfl (hb hby d7_38) rfl (l' := #[vR a1, vI 3, vR b, vI 3, vI 5, vI 3, vI c2]) rfl ?_
          show Go _ _ _ _ (mkF m 41 #[vR a1, vI 3, vR b, vI 3, vI 5, vI 3, vI c2] []) _
          refine XS.goto X52.here hx rfl (pc0 := 41) (pc' := 3) rfl (hb hby d7_41) (by decide) (by decide) ?_
          show Go _ _ _ _ (mkF m 3 _ []) _
          refine XS.iload X52.here hx rfl (hb hby d7_3) rfl ?_
          show Go _ _ _ _ (mkF m 5 _ [(.int 3)]) _
          refine XS.iload X52.here hx rfl (hb hby d7_5) rfl ?_
          show Go _ _ _ _ (mkF m 7 _ [(.int 5), (.int 3)]) _
          refine XS.icmpNo X52.here hx rfl (hb hby d7_7) rfl (tlt (by decide : (3 : Int32) < (5 : Int32))).2.1 ?_
          show Go _ _ _ _ (mkF m 10 _ []) _
          refine XS.aloadN X52.here hx rfl (hb hby d7_10) rfl rfl ?_
          show Go _ _ _ _ (mkF m 11 _ [(.ref a1)]) _
          refine XS.iloadN X52.here hx rfl (hb hby d7_11) rfl ?_
          exact kt))
        obtain ⟨c57, Ar57, -, S57, N57, H57, -⟩ := id f56
        have q59 := fun t (kt : Go p e below T52 (mkF m 20 #[vR a1, vI 3, vR b, vI 3, vI 5, vI 3, vI c3] [(.int 255), (.int c3)]) t) => q58 t (by
          show Go _ _ _ _ (mkF m 12 #[vR a1, vI 3, vR b, vI 3, vI 5, vI 3, vI c2] [(.int 3), (.ref a1)]) _
          refine X52.caload hx (j := (3 : Int32)) (v := (.int c3)) (by rw [e52]; exact Ar57.1) (State.isArrayOf_alike hZ.alike Ar57.2.1) Ar57.2.2 (inb_of S57 ⟨by decide, by decide⟩) (Has.at H57 (inb_of S57 ⟨by decide, by decide⟩) rfl) (g := (mkF m 12 #[vR a1, vI 3, vR b, vI 3, vI 5, vI 3, vI c2] [(.int 3), (.ref a1)])) rfl rfl (hb hby d7_12) _ ?_
          show Go _ _ _ _ (mkF m 13 _ [(.int c3)]) _
          refine XS.istore X52.here hx rfl (hb hby d7_13) rfl (l' := #[vR a1, vI 3, vR b, vI 3, vI 5, vI 3, vI c3]) rfl ?_
          show Go _ _ _ _ (mkF m 15 #[vR a1, vI 3, vR b, vI 3, vI 5, vI 3, vI c3] []) _
          refine XS.iload X52.here hx rfl (hb hby d7_15) rfl ?_
          show Go _ _ _ _ (mkF m 17 _ [(.int c3)]) _
          refine XS.sipush X52.here hx rfl (hb hby d7_17) ?_
          exact kt)
        by_cases hc60 : (255 : Int32) < c3
        · have q61 := fun t (kt : Go p e below T52 (mkF m 25 #[vR a1, vI 3, vR b, vI 3, vI 5, vI 3, vI c3] [(.int 3)]) t) => q59 t (by
            show Go _ _ _ _ (mkF m 20 #[vR a1, vI 3, vR b, vI 3, vI 5, vI 3, vI c3] [(.int 255), (.int c3)]) _
            refine XS.icmpNo X52.here hx rfl (hb hby d7_20) rfl (tlt hc60).2.2.2 ?_
            show Go _ _ _ _ (mkF m 23 _ []) _
            refine XS.iload X52.here hx rfl (hb hby d7_23) rfl ?_
            exact kt)
          exact ⟨some (.int 3), T52, _, _, _, _, X52, by decide, by decide, nofun, q61, fun fs hr => retI X52 hx hret (hb hby d7_25) hr, by rw [e52]; exact ⟨(3 : Int32), rfl, N53, K55, (Or.inr (Or.inr (Or.inr (Or.inl ⟨rfl, hc60⟩))))⟩⟩
        · have q63 := fun t (kt : Go p e below T52 (mkF m 31 #[vR a1, vI 3, vR b, vI 3, vI 5, vI 3, vI c3] [(.int (c3.toInt8.toInt32)), (.int 3), (.ref b)]) t) => q59 t (by
            show Go _ _ _ _ (mkF m 20 #[vR a1, vI 3, vR b, vI 3, vI 5, vI 3, vI c3] [(.int 255), (.int c3)]) _
            refine XS.icmpYes X52.here hx rfl (pc0 := 20) (pc' := 26) rfl (hb hby d7_20) rfl (flt hc60).2.2.2 (by decide) (by decide) ?_
            show Go _ _ _ _ (mkF m 26 _ []) _
            refine XS.aloadN X52.here hx rfl (hb hby d7_26) rfl rfl ?_
            show Go _ _ _ _ (mkF m 27 _ [(.ref b)]) _
            refine XS.iloadN X52.here hx rfl (hb hby d7_27) rfl ?_
            show Go _ _ _ _ (mkF m 28 _ [(.int 3), (.ref b)]) _
            refine XS.iload X52.here hx rfl (hb hby d7_28) rfl ?_
            show Go _ _ _ _ (mkF m 30 _ [(.int c3), (.int 3), (.ref b)]) _
            refine XS.i2b X52.here hx rfl (hb hby d7_30) rfl ?_
            exact kt)
          obtain ⟨c62, Ar62, q62, S62, N62, H62, G62⟩ := id V52
          have hi62 : ¬ ((3 : Int32) < 0 ∨ c62.slots.size ≤ ((3 : Int32)).toNatClampNeg) := inb_of S62 ⟨by decide, by decide⟩
          obtain ⟨T64, h64, X64, e64, W64, st64⟩ := stB X52 hx hZ e52 Ar62 (j := (3 : Int32)) hi62 (g := (mkF m 31 #[vR a1, vI 3, vR b, vI 3, vI 5, vI 3, vI c3] [(.int (c3.toInt8.toInt32)), (.int 3), (.ref b)])) rfl rfl (hb hby d7_31)
          have V64 : Arv Z h64 b kb .byte (5 : Int32) [(.int (nar .byte (c0.toInt8.toInt32))), (.int (nar .byte (c1.toInt8.toInt32))), (.int (nar .byte (c2.toInt8.toInt32))), (.int (nar .byte (c3.toInt8.toInt32))), (.int 0)] (.int 0) := Arv.set Ar62 q62 S62 N62 H62 G62 (fits_nar_byte _) W64 3 rfl (Nat.le_of_ble_eq_true rfl)
          have N65 := Fr.snoc X64 N53 g_b
          have O66 := O54.wr W64 g_b
          have K67 := K55.wr W64 (Or.inl (List.mem_of_getElem? (i := 0) rfl))
          have f68 := (f56.other W64 hne)
          have q70 := fun t (kt : Go p e below T64 (mkF m 12 #[vR a1, vI 4, vR b, vI 4, vI 5, vI 4, vI c3] [(.int 4), (.ref a1)]) t) => q63 t (st64 t (by
            show Go _ _ _ _ (mkF m 32 #[vR a1, vI 3, vR b, vI 3, vI 5, vI 3, vI c3] []) _
            refine XS.iinc X64.here hx rfl (hb hby d7_32) rfl (l' := #[vR a1, vI 4, vR b, vI 3, vI 5, vI 3, vI c3]) rfl ?_
            show Go _ _ _ _ (mkF m 35 #[vR a1, vI 4, vR b, vI 3, vI 5, vI 3, vI c3] []) _
            refine XS.iinc X64.here hx rfl (hb hby d7_35) rfl (l' := #[vR a1, vI 4, vR b, vI 4, vI 5, vI 3, vI c3]) rfl ?_
            show Go _ _ _ _ (mkF m 38 #[vR a1, vI 4, vR b, vI 4, vI 5, vI 3, vI c3] []) _
            refine XS.iinc X64.here hx rfl (hb hby d7_38) rfl (l' := #[vR a1, vI 4, vR b, vI 4, vI 5, vI 4, vI c3]) rfl ?_
            show Go _ _ _ _ (mkF m 41 #[vR a1, vI 4, vR b, vI 4, vI 5, vI 4, vI c3] []) _
            refine XS.goto X64.here hx rfl (pc0 := 41) (pc' := 3) rfl (hb hby d7_41) (by decide) (by decide) ?_
            show Go _ _ _ _ (mkF m 3 _ []) _
            refine XS.iload X64.here hx rfl (hb hby d7_3) rfl ?_
            show Go _ _ _ _ (mkF m 5 _ [(.int 4)]) _
            refine XS.iload X64.here hx rfl (hb hby d7_5) rfl ?_
            show Go _ _ _ _ (mkF m 7 _ [(.int 5), (.int 4)]) _
            refine XS.icmpNo X64.here hx rfl (hb hby d7_7) rfl (tlt (by decide : (4 : Int32) < (5 : Int32))).2.1 ?_
            show Go _ _ _ _ (mkF m 10 _ []) _
            refine XS.aloadN X64.here hx rfl (hb hby d7_10) rfl rfl ?_
            show Go _ _ _ _ (mkF m 11 _ [(.ref a1)]) _
            refine XS.iloadN X64.here hx rfl (hb hby d7_11) rfl ?_
            exact kt))
          obtain ⟨c69, Ar69, -, S69, N69, H69, -⟩ := id f68
          have q71 := fun t (kt : Go p e below T64 (mkF m 20 #[vR a1, vI 4, vR b, vI 4, vI 5, vI 4, vI c4] [(.int 255), (.int c4)]) t) => q70 t (by
            show Go _ _ _ _ (mkF m 12 #[vR a1, vI 4, vR b, vI 4, vI 5, vI 4, vI c3] [(.int 4), (.ref a1)]) _
            refine X64.caload hx (j := (4 : Int32)) (v := (.int c4)) (by rw [e64]; exact Ar69.1) (State.isArrayOf_alike hZ.alike Ar69.2.1) Ar69.2.2 (inb_of S69 ⟨by decide, by decide⟩) (Has.at H69 (inb_of S69 ⟨by decide, by decide⟩) rfl) (g := (mkF m 12 #[vR a1, vI 4, vR b, vI 4, vI 5, vI 4, vI c3] [(.int 4), (.ref a1)])) rfl rfl (hb hby d7_12) _ ?_
            show Go _ _ _ _ (mkF m 13 _ [(.int c4)]) _
            refine XS.istore X64.here hx rfl (hb hby d7_13) rfl (l' := #[vR a1, vI 4, vR b, vI 4, vI 5, vI 4, vI c4]) rfl ?_
            show Go _ _ _ _ (mkF m 15 #[vR a1, vI 4, vR b, vI 4, vI 5, vI 4, vI c4] []) _
            refine XS.iload X64.here hx rfl (hb hby d7_15) rfl ?_
            show Go _ _ _ _ (mkF m 17 _ [(.int c4)]) _
            refine XS.sipush X64.here hx rfl (hb hby d7_17) ?_
            exact kt)
          by_cases hc72 : (255 : Int32) < c4
          · have q73 := fun t (kt : Go p e below T64 (mkF m 25 #[vR a1, vI 4, vR b, vI 4, vI 5, vI 4, vI c4] [(.int 4)]) t) => q71 t (by
              show Go _ _ _ _ (mkF m 20 #[vR a1, vI 4, vR b, vI 4, vI 5, vI 4, vI c4] [(.int 255), (.int c4)]) _
              refine XS.icmpNo X64.here hx rfl (hb hby d7_20) rfl (tlt hc72).2.2.2 ?_
              show Go _ _ _ _ (mkF m 23 _ []) _
              refine XS.iload X64.here hx rfl (hb hby d7_23) rfl ?_
              exact kt)
            exact ⟨some (.int 4), T64, _, _, _, _, X64, by decide, by decide, nofun, q73, fun fs hr => retI X64 hx hret (hb hby d7_25) hr, by rw [e64]; exact ⟨(4 : Int32), rfl, N65, K67, (Or.inr (Or.inr (Or.inr (Or.inr ⟨rfl, hc72⟩))))⟩⟩
          · have q75 := fun t (kt : Go p e below T64 (mkF m 31 #[vR a1, vI 4, vR b, vI 4, vI 5, vI 4, vI c4] [(.int (c4.toInt8.toInt32)), (.int 4), (.ref b)]) t) => q71 t (by
              show Go _ _ _ _ (mkF m 20 #[vR a1, vI 4, vR b, vI 4, vI 5, vI 4, vI c4] [(.int 255), (.int c4)]) _
              refine XS.icmpYes X64.here hx rfl (pc0 := 20) (pc' := 26) rfl (hb hby d7_20) rfl (flt hc72).2.2.2 (by decide) (by decide) ?_
              show Go _ _ _ _ (mkF m 26 _ []) _
              refine XS.aloadN X64.here hx rfl (hb hby d7_26) rfl rfl ?_
              show Go _ _ _ _ (mkF m 27 _ [(.ref b)]) _
              refine XS.iloadN X64.here hx rfl (hb hby d7_27) rfl ?_
              show Go _ _ _ _ (mkF m 28 _ [(.int 4), (.ref b)]) _
              refine XS.iload X64.here hx rfl (hb hby d7_28) rfl ?_
              show Go _ _ _ _ (mkF m 30 _ [(.int c4), (.int 4), (.ref b)]) _
              refine XS.i2b X64.here hx rfl (hb hby d7_30) rfl ?_
              exact kt)
            obtain ⟨c74, Ar74, q74, S74, N74, H74, G74⟩ := id V64
            have hi74 : ¬ ((4 : Int32) < 0 ∨ c74.slots.size ≤ ((4 : Int32)).toNatClampNeg) := inb_of S74 ⟨by decide, by decide⟩
            obtain ⟨T76, h76, X76, e76, W76, st76⟩ := stB X64 hx hZ e64 Ar74 (j := (4 : Int32)) hi74 (g := (mkF m 31 #[vR a1, vI 4, vR b, vI 4, vI 5, vI 4, vI c4] [(.int (c4.toInt8.toInt32)), (.int 4), (.ref b)])) rfl rfl (hb hby d7_31)
            have V76 : Arv Z h76 b kb .byte (5 : Int32) [(.int (nar .byte (c0.toInt8.toInt32))), (.int (nar .byte (c1.toInt8.toInt32))), (.int (nar .byte (c2.toInt8.toInt32))), (.int (nar .byte (c3.toInt8.toInt32))), (.int (nar .byte (c4.toInt8.toInt32)))] (.int 0) := Arv.set Ar74 q74 S74 N74 H74 G74 (fits_nar_byte _) W76 4 rfl (Nat.le_of_ble_eq_true rfl)
            have N77 := Fr.snoc X76 N65 g_b
            have O78 := O66.wr W76 g_b
            have K79 := K67.wr W76 (Or.inl (List.mem_of_getElem? (i := 0) rfl))
            have q80 := fun t (kt : Go p e below T76 (mkF m 44 #[vR a1, vI 5, vR b, vI 5, vI 5, vI 5, vI c4] []) t) => q75 t (st76 t (by
              show Go _ _ _ _ (mkF m 32 #[vR a1, vI 4, vR b, vI 4, vI 5, vI 4, vI c4] []) _
              refine XS.iinc X76.here hx rfl (hb hby d7_32) rfl (l' := #[vR a1, vI 5, vR b, vI 4, vI 5, vI 4, vI c4]) rfl ?_
              show Go _ _ _ _ (mkF m 35 #[vR a1, vI 5, vR b, vI 4, vI 5, vI 4, vI c4] []) _
              refine XS.iinc X76.here hx rfl (hb hby d7_35) rfl (l' := #[vR a1, vI 5, vR b, vI 5, vI 5, vI 4, vI c4]) rfl ?_
              show Go _ _ _ _ (mkF m 38 #[vR a1, vI 5, vR b, vI 5, vI 5, vI 4, vI c4] []) _
              refine XS.iinc X76.here hx rfl (hb hby d7_38) rfl (l' := #[vR a1, vI 5, vR b, vI 5, vI 5, vI 5, vI c4]) rfl ?_
              show Go _ _ _ _ (mkF m 41 #[vR a1, vI 5, vR b, vI 5, vI 5, vI 5, vI c4] []) _
              refine XS.goto X76.here hx rfl (pc0 := 41) (pc' := 3) rfl (hb hby d7_41) (by decide) (by decide) ?_
              show Go _ _ _ _ (mkF m 3 _ []) _
              refine XS.iload X76.here hx rfl (hb hby d7_3) rfl ?_
              show Go _ _ _ _ (mkF m 5 _ [(.int 5)]) _
              refine XS.iload X76.here hx rfl (hb hby d7_5) rfl ?_
              show Go _ _ _ _ (mkF m 7 _ [(.int 5), (.int 5)]) _
              refine XS.icmpYes X76.here hx rfl (pc0 := 7) (pc' := 44) rfl (hb hby d7_7) rfl (flt (by decide : ¬ ((5 : Int32) < (5 : Int32)))).2.1 (by decide) (by decide) ?_
              exact kt))
            exact absurd hB (by simp [hB, hc24, hc36, hc48, hc60, hc72])
theorem ef_6_RII (m : MethodId) (x0 : Addr) (x1 : Int32) (x2 : Int32) : entryFrame m #[(.ref x0), (.int x1), (.int x2)] 6 = mkF m 0 #[.val (.ref x0), .val (.int x1), .val (.int x2), .unset, .unset, .unset] [] := by first | (simp [entryFrame, mkF, argsToLocals, Value.category]; done) | rfl
theorem pn_6 : plainName "java/lang/StringUTF16" = true := by first | (simp [plainName, overriddenIn]; done) | decide +kernel
theorem d6_0 : decode jdk_52_method_16_code 0 = .ok (.iload_n 2, 1) := by decide +kernel
theorem d6_1 : decode jdk_52_method_16_code 1 = .ok (.newarray .byte, 2) := by decide +kernel
theorem d6_3 : decode jdk_52_method_16_code 3 = .ok (.astore_n 3, 1) := by decide +kernel
theorem d6_4 : decode jdk_52_method_16_code 4 = .ok (.aload_n 0, 1) := by decide +kernel
theorem d6_5 : decode jdk_52_method_16_code 5 = .ok (.iload_n 1, 1) := by decide +kernel
theorem d6_6 : decode jdk_52_method_16_code 6 = .ok (.aload_n 3, 1) := by decide +kernel
theorem d6_7 : decode jdk_52_method_16_code 7 = .ok (.iconst 0, 1) := by decide +kernel
theorem d6_8 : decode jdk_52_method_16_code 8 = .ok (.iload_n 2, 1) := by decide +kernel
theorem d6_9 : decode jdk_52_method_16_code 9 = .ok (.invokestatic 115, 3) := by decide +kernel
theorem pd_3 : parseMethodDescriptor "([CI[BII)I" = some ⟨[(.array .char), .int, (.array .byte), .int, .int], some .int⟩ := by decide +kernel
theorem d6_12 : decode jdk_52_method_16_code 12 = .ok (.istore 4, 2) := by decide +kernel
theorem d6_14 : decode jdk_52_method_16_code 14 = .ok (.iload 4, 2) := by decide +kernel
theorem d6_16 : decode jdk_52_method_16_code 16 = .ok (.iload_n 2, 1) := by decide +kernel
theorem d6_17 : decode jdk_52_method_16_code 17 = .ok (.if_icmp .eq 40, 3) := by decide +kernel
theorem d6_20 : decode jdk_52_method_16_code 20 = .ok (.aload_n 0, 1) := by decide +kernel
theorem d6_21 : decode jdk_52_method_16_code 21 = .ok (.iload_n 1, 1) := by decide +kernel
theorem d6_22 : decode jdk_52_method_16_code 22 = .ok (.iload_n 2, 1) := by decide +kernel
theorem d6_23 : decode jdk_52_method_16_code 23 = .ok (.invokestatic 119, 3) := by decide +kernel
theorem pd_4 : parseMethodDescriptor "([CII)[B" = some ⟨[(.array .char), .int, .int], some (.array .byte)⟩ := by decide +kernel
theorem d6_26 : decode jdk_52_method_16_code 26 = .ok (.astore 5, 2) := by decide +kernel
theorem d6_28 : decode jdk_52_method_16_code 28 = .ok (.aload 5, 2) := by decide +kernel
theorem d6_30 : decode jdk_52_method_16_code 30 = .ok (.iload 4, 2) := by decide +kernel
theorem d6_32 : decode jdk_52_method_16_code 32 = .ok (.invokestatic 71, 3) := by decide +kernel
theorem pd_5 : parseMethodDescriptor "([BI)C" = some ⟨[(.array .byte), .int], some .char⟩ := by decide +kernel
theorem d6_35 : decode jdk_52_method_16_code 35 = .ok (.sipush 255, 3) := by decide +kernel
theorem d6_38 : decode jdk_52_method_16_code 38 = .ok (.if_icmp .gt 16, 3) := by decide +kernel
theorem d6_54 : decode jdk_52_method_16_code 54 = .ok (.aload 5, 2) := by decide +kernel
theorem d6_56 : decode jdk_52_method_16_code 56 = .ok (.areturn, 1) := by decide +kernel
def Q_rm6_5 (Z : State) (a1 : Addr) (ka : ClassId) (c0 : Int32) (c1 : Int32) (c2 : Int32) (c3 : Int32) (c4 : Int32) (z_cs : Int32) (h0 : Heap) (n0 : Nat) (v : Option Value) (h : Heap) (L : List Loc) : Prop := ∃ (b : Addr) (kb : ClassId), v = some (.ref b) ∧ Fr n0 L ∧ Keep h0 h [] ∧ h0.size ≤ b ∧ Arv Z h b kb .byte (10 : Int32) [(.int (own_hb c0)), (.int (own_lb c0)), (.int (own_hb c1)), (.int (own_lb c1)), (.int (own_hb c2)), (.int (own_lb c2)), (.int (own_hb c3)), (.int (own_lb c3)), (.int (own_hb c4)), (.int (own_lb c4))] (.int 0)
theorem rm6_5 (l : Launch) (Z : State) (a0 : Array Value) (hw : ∀ d ∈ tables_1, d.before a0 Z = true) (ws : List Jvm.Cond) {z_cs : Int32} (cx : Cx Z z_cs) (a1 : Addr) (ka : ClassId) (c0 : Int32) (c1 : Int32) (c2 : Int32) (c3 : Int32) (c4 : Int32) (h0 : Heap) (n0 : Nat) (O0 : Old Z n0 h0) (G0 : Arv Z h0 a1 ka .char (5 : Int32) [(.int c0), (.int c1), (.int c2), (.int c3), (.int c4)] (.int 0)) (hB : (255 : Int32) < c0 ∨ (255 : Int32) < c1 ∨ (255 : Int32) < c2 ∨ (255 : Int32) < c3 ∨ (255 : Int32) < c4) (hc900 : ¬ c0 < 0 ∧ ¬ (65535 : Int32) < c0) (hc901 : ¬ c1 < 0 ∧ ¬ (65535 : Int32) < c1) (hc902 : ¬ c2 < 0 ∧ ¬ (65535 : Int32) < c2) (hc903 : ¬ c3 < 0 ∧ ¬ (65535 : Int32) < c3) (hc904 : ¬ c4 < 0 ∧ ¬ (65535 : Int32) < c4) :
    OwnMet l ym7 (Jvm.Cond.code ym7 jdk_52_method_16_code 6 (some (.array .byte)) :: ws) (own_R 3 2 15 40) #[(.ref a1), (.int 0), (.int 5)] Z h0 (Q_rm6_5 Z a1 ka c0 c1 c2 c3 c4 z_cs h0 n0) := by
  refine own_body (plainFor_of_name pn_6) hisR fun p e s m below meth c s₁ hx hby hml hown hnm hret hZ X0 e0 => ?_
  have N0 := Fr.nil n0
  have K0 : Keep h0 h0 [] := Keep.refl _ _
  have pre0 : ∀ t, Go p e below s₁ (mkF m 0 #[vR a1, vI 0, vI 5, vU, vU, vU] []) t → Go p e below s₁ (entryFrame m #[(.ref a1), (.int 0), (.int 5)] 6) t := fun t k => castTop (ef_6_RII m a1 (0 : Int32) (5 : Int32)) k
  have q21 := fun t (kt : Go p e below s₁ (mkF m 1 #[vR a1, vI 0, vI 5, vU, vU, vU] [(.int 5)]) t) => pre0 t (by
    show Go _ _ _ _ (mkF m 0 #[vR a1, vI 0, vI 5, vU, vU, vU] []) _
    refine XS.iloadN X0.here hx rfl (hb hby d6_0) rfl ?_
    exact kt)
  obtain ⟨T22, h22, k22, X22, e22, E22, A22, st22⟩ := newP X0 hx hZ (ov hw 27 rfl) e0 (g := (mkF m 1 #[vR a1, vI 0, vI 5, vU, vU, vU] [(.int 5)])) rfl (hb hby d6_1) rfl (by decide) (cap := 5) (by decide) (by decide) (by decide) (by decide)
  obtain ⟨b22, g22⟩ : ∃ z, z = h0.size := ⟨_, rfl⟩
  rw [← g22] at A22 st22
  have gg23 : n0 ≤ b22 := Nat.le_trans (O0.1 ▸ O0.2.1) (Nat.le_of_eq g22.symm)
  have sz24 : h0.size ≤ b22 := Nat.le_trans K0.1 (Nat.le_of_eq g22.symm)
  have O25 := O0.ext E22
  have K26 := K0.ext E22
  have V22 : Arv Z h22 b22 k22 .byte (5 : Int32) [(.int 0), (.int 0), (.int 0), (.int 0), (.int 0)] (.int 0) := (Arv.new A22 (by decide)).pad (pad_rep [] (.int 0) 5)
  have f27 := (G0.ext E22)
  have ne28 : a1 ≠ b22 := (Nat.ne_of_lt (Nat.lt_of_lt_of_le G0.lt (Nat.le_of_eq g22.symm)))
  have q29 := fun t (kt : Go p e below T22 (mkF m 9 #[vR a1, vI 0, vI 5, vR b22, vU, vU] [(.int 5), (.int 0), (.ref b22), (.int 0), (.ref a1)]) t) => q21 t (st22 t (by
    show Go _ _ _ _ (mkF m 3 #[vR a1, vI 0, vI 5, vU, vU, vU] [(.ref b22)]) _
    refine XS.astoreN X22.here hx rfl (hb hby d6_3) rfl rfl (l' := #[vR a1, vI 0, vI 5, vR b22, vU, vU]) rfl ?_
    show Go _ _ _ _ (mkF m 4 #[vR a1, vI 0, vI 5, vR b22, vU, vU] []) _
    refine XS.aloadN X22.here hx rfl (hb hby d6_4) rfl rfl ?_
    show Go _ _ _ _ (mkF m 5 _ [(.ref a1)]) _
    refine XS.iloadN X22.here hx rfl (hb hby d6_5) rfl ?_
    show Go _ _ _ _ (mkF m 6 _ [(.int 0), (.ref a1)]) _
    refine XS.aloadN X22.here hx rfl (hb hby d6_6) rfl rfl ?_
    show Go _ _ _ _ (mkF m 7 _ [(.ref b22), (.int 0), (.ref a1)]) _
    refine XS.iconst X22.here hx rfl (hb hby d6_7) ?_
    show Go _ _ _ _ (mkF m 8 _ [(.int 0), (.ref b22), (.int 0), (.ref a1)]) _
    refine XS.iloadN X22.here hx rfl (hb hby d6_8) rfl ?_
    exact kt))
  obtain ⟨_, _, ⟨T30, L30, k30, n30⟩, -, X30, ⟨_, hQ30, l30, y30, z30⟩, st30⟩ := Jvm.LawKit.callS X22 hx (y := ym6) hown (ow hZ hw 28 rfl) (ow hZ hw 29 rfl) (ow hZ hw 25 rfl) (ow hZ hw 30 rfl) (by decide) (backOf (W := 0) (rm7_5 l Z a0 hw [] cx a1 b22 ka k22 c0 c1 c2 c3 c4 h22 n0 O25 f27 V22 gg23 hB ne28) hZ (ov hw 30 rfl) (ov hw 25 rfl) (by decide) (by decide)) (g := (mkF m 9 #[vR a1, vI 0, vI 5, vR b22, vU, vU] [(.int 5), (.int 0), (.ref b22), (.int 0), (.ref a1)])) rfl (by rw [hml]; rfl) (argsL := [(.ref a1), (.int 0), (.ref b22), (.int 0), (.int 5)]) (rest := []) (lenOf pd_3 rfl) rfl own_le0 (hb hby d6_9) (fun _ _ => ⟨rfl, e22, (by decide : 1 + 0 ≤ _), (by decide : 5 + 0 ≤ _)⟩)
  dsimp only [Pt.U, Pt.locs, Pt.cells, Pt.slots] at X30 l30 y30 z30 st30 hQ30
  subst l30 y30 z30
  obtain ⟨r_30, rfl, Nq30, Kq30, pq30_0⟩ := hQ30
  have N31 := Fr.app N0 Nq30
  have O32 := O25.keep Kq30 (allS gg23 all0)
  have K33 := K26.trans Kq30 (allS (Or.inr sz24) all0)
  have f34 := (f27.keep Kq30 (ninS ne28 nin0))
  have q35 := fun t (kt : Go p e below T30 (mkF m 23 #[vR a1, vI 0, vI 5, vR b22, vI r_30, vU] [(.int 5), (.int 0), (.ref a1)]) t) => q29 t (st30 t (by
    show Go _ _ _ _ (mkF m 12 #[vR a1, vI 0, vI 5, vR b22, vU, vU] [(.int r_30)]) _
    refine XS.istore X30.here hx rfl (hb hby d6_12) rfl (l' := #[vR a1, vI 0, vI 5, vR b22, vI r_30, vU]) rfl ?_
    show Go _ _ _ _ (mkF m 14 #[vR a1, vI 0, vI 5, vR b22, vI r_30, vU] []) _
    refine XS.iload X30.here hx rfl (hb hby d6_14) rfl ?_
    show Go _ _ _ _ (mkF m 16 _ [(.int r_30)]) _
    refine XS.iloadN X30.here hx rfl (hb hby d6_16) rfl ?_
    show Go _ _ _ _ (mkF m 17 _ [(.int 5), (.int r_30)]) _
    refine XS.icmpNo X30.here hx rfl (hb hby d6_17) rfl (feq (by intro z; rw [z] at pq30_0; rcases pq30_0 with ⟨h, -⟩ | ⟨h, -⟩ | ⟨h, -⟩ | ⟨h, -⟩ | ⟨h, -⟩ <;> exact absurd h (by decide))).1 ?_
    show Go _ _ _ _ (mkF m 20 _ []) _
    refine XS.aloadN X30.here hx rfl (hb hby d6_20) rfl rfl ?_
    show Go _ _ _ _ (mkF m 21 _ [(.ref a1)]) _
    refine XS.iloadN X30.here hx rfl (hb hby d6_21) rfl ?_
    show Go _ _ _ _ (mkF m 22 _ [(.int 0), (.ref a1)]) _
    refine XS.iloadN X30.here hx rfl (hb hby d6_22) rfl ?_
    exact kt))
  obtain ⟨_, _, ⟨T36, L36, k36, n36⟩, -, X36, ⟨_, hQ36, l36, y36, z36⟩, st36⟩ := Jvm.LawKit.callS X30 hx (y := ym5) hown (ow hZ hw 63 rfl) (ow hZ hw 64 rfl) (ow hZ hw 25 rfl) (ow hZ hw 65 rfl) (by decide) (backOf (W := 0) (rm15_5 l Z a0 hw [] cx a1 ka c0 c1 c2 c3 c4 T30.heap n0 O32 f34) hZ (ov hw 65 rfl) (ov hw 25 rfl) (by decide) (by decide)) (g := (mkF m 23 #[vR a1, vI 0, vI 5, vR b22, vI r_30, vU] [(.int 5), (.int 0), (.ref a1)])) rfl (by rw [hml]; rfl) (argsL := [(.ref a1), (.int 0), (.int 5)]) (rest := []) (lenOf pd_4 rfl) rfl own_le0 (hb hby d6_23) (fun _ _ => ⟨rfl, rfl, (by decide : 1 + 1 ≤ _), (by decide : 5 + 10 ≤ _)⟩)
  dsimp only [Pt.U, Pt.locs, Pt.cells, Pt.slots] at X36 l36 y36 z36 st36 hQ36
  subst l36 y36 z36
  obtain ⟨b_36, kb_36, rfl, Nq36, Kq36, fr36_0, fq36_0⟩ := hQ36
  have N37 := Fr.app N31 Nq36
  have gg38 : n0 ≤ b_36 := Nat.le_trans (O32.1 ▸ O32.2.1) fr36_0
  have sz39 : h0.size ≤ b_36 := Nat.le_trans K33.1 fr36_0
  have O40 := O32.keep Kq36 all0
  have K41 := K33.trans Kq36 all0
  have q42 := fun t (kt : Go p e below T36 (mkF m 30 #[vR a1, vI 0, vI 5, vR b22, vI r_30, vR b_36] [(.ref b_36)]) t) => q35 t (st36 t (by
    show Go _ _ _ _ (mkF m 26 #[vR a1, vI 0, vI 5, vR b22, vI r_30, vU] [(.ref b_36)]) _
    refine XS.astore X36.here hx rfl (hb hby d6_26) rfl rfl (l' := #[vR a1, vI 0, vI 5, vR b22, vI r_30, vR b_36]) rfl ?_
    show Go _ _ _ _ (mkF m 28 #[vR a1, vI 0, vI 5, vR b22, vI r_30, vR b_36] []) _
    refine XS.aload X36.here hx rfl (hb hby d6_28) rfl rfl ?_
    exact kt))
  rcases pq30_0 with ⟨hj, hj'⟩ | ⟨hj, hj'⟩ | ⟨hj, hj'⟩ | ⟨hj, hj'⟩ | ⟨hj, hj'⟩
  · skip
    have q43 := fun t (kt : Go p e below T36 (mkF m 30 #[vR a1, vI 0, vI 5, vR b22, vI 0, vR b_36] [(.ref b_36)]) t) => q42 t (by rw [hj]; exact kt)
    have q44 := fun t (kt : Go p e below T36 (mkF m 32 #[vR a1, vI 0, vI 5, vR b22, vI 0, vR b_36] [(.int 0), (.ref b_36)]) t) => q43 t (by
      show Go _ _ _ _ (mkF m 30 #[vR a1, vI 0, vI 5, vR b22, vI 0, vR b_36] [(.ref b_36)]) _
      refine XS.iload X36.here hx rfl (hb hby d6_30) rfl ?_
      exact kt)
    obtain ⟨_, _, ⟨T45, L45, k45, n45⟩, -, X45, ⟨_, hQ45, l45, y45, z45⟩, st45⟩ := Jvm.LawKit.callS X36 hx (y := ym2) hown (ow hZ hw 79 rfl) (ow hZ hw 80 rfl) (ow hZ hw 25 rfl) (ow hZ hw 81 rfl) (by decide) (backOf (W := 0) (rm19 l Z a0 hw [] cx b_36 kb_36 (0 : Int32) c0 (10 : Int32) [(.int (own_hb c0)), (.int (own_lb c0)), (.int (own_hb c1)), (.int (own_lb c1)), (.int (own_hb c2)), (.int (own_lb c2)), (.int (own_hb c3)), (.int (own_lb c3)), (.int (own_hb c4)), (.int (own_lb c4))] 0 T36.heap n0 O40 fq36_0 (by decide) (by decide) (by decide) (by decide) (by decide) rfl rfl hc900) hZ (ov hw 81 rfl) (ov hw 25 rfl) (by decide) (by decide)) (g := (mkF m 32 #[vR a1, vI 0, vI 5, vR b22, vI 0, vR b_36] [(.int 0), (.ref b_36)])) rfl (by rw [hml]; rfl) (argsL := [(.ref b_36), (.int 0)]) (rest := []) (lenOf pd_5 rfl) rfl own_le0 (hb hby d6_32) (fun _ _ => ⟨rfl, rfl, (by decide : 2 + 0 ≤ _), (by decide : 15 + 0 ≤ _)⟩)
    dsimp only [Pt.U, Pt.locs, Pt.cells, Pt.slots] at X45 l45 y45 z45 st45 hQ45
    subst l45 y45 z45
    obtain ⟨rfl, Nq45, eq45⟩ := hQ45
    have N46 := Fr.app N37 Nq45
    have q47 := fun t (kt : Go p e below T45 (mkF m 56 #[vR a1, vI 0, vI 5, vR b22, vI 0, vR b_36] [(.ref b_36)]) t) => q44 t (st45 t (by
      show Go _ _ _ _ (mkF m 35 #[vR a1, vI 0, vI 5, vR b22, vI 0, vR b_36] [(.int c0)]) _
      refine XS.sipush X45.here hx rfl (hb hby d6_35) ?_
      show Go _ _ _ _ (mkF m 38 _ [(.int 255), (.int c0)]) _
      refine XS.icmpYes X45.here hx rfl (pc0 := 38) (pc' := 54) rfl (hb hby d6_38) rfl (tlt hj').2.2.1 (by decide) (by decide) ?_
      show Go _ _ _ _ (mkF m 54 _ []) _
      refine XS.aload X45.here hx rfl (hb hby d6_54) rfl rfl ?_
      exact kt))
    exact ⟨some (.ref b_36), T45, _, _, _, _, X45, by decide, by decide, nofun, q47, fun fs hr => retOut X45 hx hret rfl (o4 ⟨rfl, rfl, rfl⟩) (hb hby d6_56) hr, by rw [eq45]; exact ⟨b_36, kb_36, rfl, N46, K41, sz39, fq36_0⟩⟩
  · skip
    have q48 := fun t (kt : Go p e below T36 (mkF m 30 #[vR a1, vI 0, vI 5, vR b22, vI 1, vR b_36] [(.ref b_36)]) t) => q42 t (by rw [hj]; exact kt)
    have q49 := fun t (kt : Go p e below T36 (mkF m 32 #[vR a1, vI 0, vI 5, vR b22, vI 1, vR b_36] [(.int 1), (.ref b_36)]) t) => q48 t (by
      show Go _ _ _ _ (mkF m 30 #[vR a1, vI 0, vI 5, vR b22, vI 1, vR b_36] [(.ref b_36)]) _
      refine XS.iload X36.here hx rfl (hb hby d6_30) rfl ?_
      exact kt)
    obtain ⟨_, _, ⟨T50, L50, k50, n50⟩, -, X50, ⟨_, hQ50, l50, y50, z50⟩, st50⟩ := Jvm.LawKit.callS X36 hx (y := ym2) hown (ow hZ hw 79 rfl) (ow hZ hw 80 rfl) (ow hZ hw 25 rfl) (ow hZ hw 81 rfl) (by decide) (backOf (W := 0) (rm19 l Z a0 hw [] cx b_36 kb_36 (1 : Int32) c1 (10 : Int32) [(.int (own_hb c0)), (.int (own_lb c0)), (.int (own_hb c1)), (.int (own_lb c1)), (.int (own_hb c2)), (.int (own_lb c2)), (.int (own_hb c3)), (.int (own_lb c3)), (.int (own_hb c4)), (.int (own_lb c4))] 2 T36.heap n0 O40 fq36_0 (by decide) (by decide) (by decide) (by decide) (by decide) rfl rfl hc901) hZ (ov hw 81 rfl) (ov hw 25 rfl) (by decide) (by decide)) (g := (mkF m 32 #[vR a1, vI 0, vI 5, vR b22, vI 1, vR b_36] [(.int 1), (.ref b_36)])) rfl (by rw [hml]; rfl) (argsL := [(.ref b_36), (.int 1)]) (rest := []) (lenOf pd_5 rfl) rfl own_le0 (hb hby d6_32) (fun _ _ => ⟨rfl, rfl, (by decide : 2 + 0 ≤ _), (by decide : 15 + 0 ≤ _)⟩)
    dsimp only [Pt.U, Pt.locs, Pt.cells, Pt.slots] at X50 l50 y50 z50 st50 hQ50
    subst l50 y50 z50
    obtain ⟨rfl, Nq50, eq50⟩ := hQ50
    have N51 := Fr.app N37 Nq50
    have q52 := fun t (kt : Go p e below T50 (mkF m 56 #[vR a1, vI 0, vI 5, vR b22, vI 1, vR b_36] [(.ref b_36)]) t) => q49 t (st50 t (by
      show Go _ _ _ _ (mkF m 35 #[vR a1, vI 0, vI 5, vR b22, vI 1, vR b_36] [(.int c1)]) _
      refine XS.sipush X50.here hx rfl (hb hby d6_35) ?_
      show Go _ _ _ _ (mkF m 38 _ [(.int 255), (.int c1)]) _
      refine XS.icmpYes X50.here hx rfl (pc0 := 38) (pc' := 54) rfl (hb hby d6_38) rfl (tlt hj').2.2.1 (by decide) (by decide) ?_
      show Go _ _ _ _ (mkF m 54 _ []) _
      refine XS.aload X50.here hx rfl (hb hby d6_54) rfl rfl ?_
      exact kt))
    exact ⟨some (.ref b_36), T50, _, _, _, _, X50, by decide, by decide, nofun, q52, fun fs hr => retOut X50 hx hret rfl (o4 ⟨rfl, rfl, rfl⟩) (hb hby d6_56) hr, by rw [eq50]; exact ⟨b_36, kb_36, rfl, N51, K41, sz39, fq36_0⟩⟩
  · skip
    have q53 := fun t (kt : Go p e below T36 (mkF m 30 #[vR a1, vI 0, vI 5, vR b22, vI 2, vR b_36] [(.ref b_36)]) t) => q42 t (by rw [hj]; exact kt)
    have q54 := fun t (kt : Go p e below T36 (mkF m 32 #[vR a1, vI 0, vI 5, vR b22, vI 2, vR b_36] [(.int 2), (.ref b_36)]) t) => q53 t (by
      show Go _ _ _ _ (mkF m 30 #[vR a1, vI 0, vI 5, vR b22, vI 2, vR b_36] [(.ref b_36)]) _
      refine XS.iload X36.here hx rfl (hb hby d6_30) rfl ?_
      exact kt)
    obtain ⟨_, _, ⟨T55, L55, k55, n55⟩, -, X55, ⟨_, hQ55, l55, y55, z55⟩, st55⟩ := Jvm.LawKit.callS X36 hx (y := ym2) hown (ow hZ hw 79 rfl) (ow hZ hw 80 rfl) (ow hZ hw 25 rfl) (ow hZ hw 81 rfl) (by decide) (backOf (W := 0) (rm19 l Z a0 hw [] cx b_36 kb_36 (2 : Int32) c2 (10 : Int32) [(.int (own_hb c0)), (.int (own_lb c0)), (.int (own_hb c1)), (.int (own_lb c1)), (.int (own_hb c2)), (.int (own_lb c2)), (.int (own_hb c3)), (.int (own_lb c3)), (.int (own_hb c4)), (.int (own_lb c4))] 4 T36.heap n0 O40 fq36_0 (by decide) (by decide) (by decide) (by decide) (by decide) rfl rfl hc902) hZ (ov hw 81 rfl) (ov hw 25 rfl) (by decide) (by decide)) (g := (mkF m 32 #[vR a1, vI 0, vI 5, vR b22, vI 2, vR b_36] [(.int 2), (.ref b_36)])) rfl (by rw [hml]; rfl) (argsL := [(.ref b_36), (.int 2)]) (rest := []) (lenOf pd_5 rfl) rfl own_le0 (hb hby d6_32) (fun _ _ => ⟨rfl, rfl, (by decide : 2 + 0 ≤ _), (by decide : 15 + 0 ≤ _)⟩)
    dsimp only [Pt.U, Pt.locs, Pt.cells, Pt.slots] at X55 l55 y55 z55 st55 hQ55
    subst l55 y55 z55
    obtain ⟨rfl, Nq55, eq55⟩ := hQ55
    have N56 := Fr.app N37 Nq55
    have q57 := fun t (kt : Go p e below T55 (mkF m 56 #[vR a1, vI 0, vI 5, vR b22, vI 2, vR b_36] [(.ref b_36)]) t) => q54 t (st55 t (by
      show Go _ _ _ _ (mkF m 35 #[vR a1, vI 0, vI 5, vR b22, vI 2, vR b_36] [(.int c2)]) _
      refine XS.sipush X55.here hx rfl (hb hby d6_35) ?_
      show Go _ _ _ _ (mkF m 38 _ [(.int 255), (.int c2)]) _
      refine XS.icmpYes X55.here hx rfl (pc0 := 38) (pc' := 54) rfl (hb hby d6_38) rfl (tlt hj').2.2.1 (by decide) (by decide) ?_
      show Go _ _ _ _ (mkF m 54 _ []) _
      refine XS.aload X55.here hx rfl (hb hby d6_54) rfl rfl ?_
      exact kt))
    exact ⟨some (.ref b_36), T55, _, _, _, _, X55, by decide, by decide, nofun, q57, fun fs hr => retOut X55 hx hret rfl (o4 ⟨rfl, rfl, rfl⟩) (hb hby d6_56) hr, by rw [eq55]; exact ⟨b_36, kb_36, rfl, N56, K41, sz39, fq36_0⟩⟩
  · skip
    have q58 := fun t (kt : Go p e below T36 (mkF m 30 #[vR a1, vI 0, vI 5, vR b22, vI 3, vR b_36] [(.ref b_36)]) t) => q42 t (by rw [hj]; exact kt)
    have q59 := fun t (kt : Go p e below T36 (mkF m 32 #[vR a1, vI 0, vI 5, vR b22, vI 3, vR b_36] [(.int 3), (.ref b_36)]) t) => q58 t (by
      show Go _ _ _ _ (mkF m 30 #[vR a1, vI 0, vI 5, vR b22, vI 3, vR b_36] [(.ref b_36)]) _
      refine XS.iload X36.here hx rfl (hb hby d6_30) rfl ?_
      exact kt)
    obtain ⟨_, _, ⟨T60, L60, k60, n60⟩, -, X60, ⟨_, hQ60, l60, y60, z60⟩, st60⟩ := Jvm.LawKit.callS X36 hx (y := ym2) hown (ow hZ hw 79 rfl) (ow hZ hw 80 rfl) (ow hZ hw 25 rfl) (ow hZ hw 81 rfl) (by decide) (backOf (W := 0) (rm19 l Z a0 hw [] cx b_36 kb_36 (3 : Int32) c3 (10 : Int32) [(.int (own_hb c0)), (.int (own_lb c0)), (.int (own_hb c1)), (.int (own_lb c1)), (.int (own_hb c2)), (.int (own_lb c2)), (.int (own_hb c3)), (.int (own_lb c3)), (.int (own_hb c4)), (.int (own_lb c4))] 6 T36.heap n0 O40 fq36_0 (by decide) (by decide) (by decide) (by decide) (by decide) rfl rfl hc903) hZ (ov hw 81 rfl) (ov hw 25 rfl) (by decide) (by decide)) (g := (mkF m 32 #[vR a1, vI 0, vI 5, vR b22, vI 3, vR b_36] [(.int 3), (.ref b_36)])) rfl (by rw [hml]; rfl) (argsL := [(.ref b_36), (.int 3)]) (rest := []) (lenOf pd_5 rfl) rfl own_le0 (hb hby d6_32) (fun _ _ => ⟨rfl, rfl, (by decide : 2 + 0 ≤ _), (by decide : 15 + 0 ≤ _)⟩)
    dsimp only [Pt.U, Pt.locs, Pt.cells, Pt.slots] at X60 l60 y60 z60 st60 hQ60
    subst l60 y60 z60
    obtain ⟨rfl, Nq60, eq60⟩ := hQ60
    have N61 := Fr.app N37 Nq60
    have q62 := fun t (kt : Go p e below T60 (mkF m 56 #[vR a1, vI 0, vI 5, vR b22, vI 3, vR b_36] [(.ref b_36)]) t) => q59 t (st60 t (by
      show Go _ _ _ _ (mkF m 35 #[vR a1, vI 0, vI 5, vR b22, vI 3, vR b_36] [(.int c3)]) _
      refine XS.sipush X60.here hx rfl (hb hby d6_35) ?_
      show Go _ _ _ _ (mkF m 38 _ [(.int 255), (.int c3)]) _
      refine XS.icmpYes X60.here hx rfl (pc0 := 38) (pc' := 54) rfl (hb hby d6_38) rfl (tlt hj').2.2.1 (by decide) (by decide) ?_
      show Go _ _ _ _ (mkF m 54 _ []) _
      refine XS.aload X60.here hx rfl (hb hby d6_54) rfl rfl ?_
      exact kt))
    exact ⟨some (.ref b_36), T60, _, _, _, _, X60, by decide, by decide, nofun, q62, fun fs hr => retOut X60 hx hret rfl (o4 ⟨rfl, rfl, rfl⟩) (hb hby d6_56) hr, by rw [eq60]; exact ⟨b_36, kb_36, rfl, N61, K41, sz39, fq36_0⟩⟩
  · skip
    have q63 := fun t (kt : Go p e below T36 (mkF m 30 #[vR a1, vI 0, vI 5, vR b22, vI 4, vR b_36] [(.ref b_36)]) t) => q42 t (by rw [hj]; exact kt)
    have q64 := fun t (kt : Go p e below T36 (mkF m 32 #[vR a1, vI 0, vI 5, vR b22, vI 4, vR b_36] [(.int 4), (.ref b_36)]) t) => q63 t (by
      show Go _ _ _ _ (mkF m 30 #[vR a1, vI 0, vI 5, vR b22, vI 4, vR b_36] [(.ref b_36)]) _
      refine XS.iload X36.here hx rfl (hb hby d6_30) rfl ?_
      exact kt)
    obtain ⟨_, _, ⟨T65, L65, k65, n65⟩, -, X65, ⟨_, hQ65, l65, y65, z65⟩, st65⟩ := Jvm.LawKit.callS X36 hx (y := ym2) hown (ow hZ hw 79 rfl) (ow hZ hw 80 rfl) (ow hZ hw 25 rfl) (ow hZ hw 81 rfl) (by decide) (backOf (W := 0) (rm19 l Z a0 hw [] cx b_36 kb_36 (4 : Int32) c4 (10 : Int32) [(.int (own_hb c0)), (.int (own_lb c0)), (.int (own_hb c1)), (.int (own_lb c1)), (.int (own_hb c2)), (.int (own_lb c2)), (.int (own_hb c3)), (.int (own_lb c3)), (.int (own_hb c4)), (.int (own_lb c4))] 8 T36.heap n0 O40 fq36_0 (by decide) (by decide) (by decide) (by decide) (by decide) rfl rfl hc904) hZ (ov hw 81 rfl) (ov hw 25 rfl) (by decide) (by decide)) (g := (mkF m 32 #[vR a1, vI 0, vI 5, vR b22, vI 4, vR b_36] [(.int 4), (.ref b_36)])) rfl (by rw [hml]; rfl) (argsL := [(.ref b_36), (.int 4)]) (rest := []) (lenOf pd_5 rfl) rfl own_le0 (hb hby d6_32) (fun _ _ => ⟨rfl, rfl, (by decide : 2 + 0 ≤ _), (by decide : 15 + 0 ≤ _)⟩)
    dsimp only [Pt.U, Pt.locs, Pt.cells, Pt.slots] at X65 l65 y65 z65 st65 hQ65
    subst l65 y65 z65
    obtain ⟨rfl, Nq65, eq65⟩ := hQ65
    have N66 := Fr.app N37 Nq65
    have q67 := fun t (kt : Go p e below T65 (mkF m 56 #[vR a1, vI 0, vI 5, vR b22, vI 4, vR b_36] [(.ref b_36)]) t) => q64 t (st65 t (by
      show Go _ _ _ _ (mkF m 35 #[vR a1, vI 0, vI 5, vR b22, vI 4, vR b_36] [(.int c4)]) _
      refine XS.sipush X65.here hx rfl (hb hby d6_35) ?_
      show Go _ _ _ _ (mkF m 38 _ [(.int 255), (.int c4)]) _
      refine XS.icmpYes X65.here hx rfl (pc0 := 38) (pc' := 54) rfl (hb hby d6_38) rfl (tlt hj').2.2.1 (by decide) (by decide) ?_
      show Go _ _ _ _ (mkF m 54 _ []) _
      refine XS.aload X65.here hx rfl (hb hby d6_54) rfl rfl ?_
      exact kt))
    exact ⟨some (.ref b_36), T65, _, _, _, _, X65, by decide, by decide, nofun, q67, fun fs hr => retOut X65 hx hret rfl (o4 ⟨rfl, rfl, rfl⟩) (hb hby d6_56) hr, by rw [eq65]; exact ⟨b_36, kb_36, rfl, N66, K41, sz39, fq36_0⟩⟩
theorem ef_8_RI (m : MethodId) (x0 : Addr) (x1 : Int32) : entryFrame m #[(.ref x0), (.int x1)] 2 = mkF m 0 #[.val (.ref x0), .val (.int x1)] [] := by first | (simp [entryFrame, mkF, argsToLocals, Value.category]; done) | rfl
theorem pn_8 : plainName "java/lang/StringUTF16" = true := by first | (simp [plainName, overriddenIn]; done) | decide +kernel
theorem d8_0 : decode jdk_52_method_15_code 0 = .ok (.iload_n 1, 1) := by decide +kernel
theorem d8_1 : decode jdk_52_method_15_code 1 = .ok (.aload_n 0, 1) := by decide +kernel
theorem d8_2 : decode jdk_52_method_15_code 2 = .ok (.arraylength, 1) := by decide +kernel
theorem d8_3 : decode jdk_52_method_15_code 3 = .ok (.isub, 1) := by decide +kernel
theorem d8_4 : decode jdk_52_method_15_code 4 = .ok (.bipush 31, 2) := by decide +kernel
theorem d8_6 : decode jdk_52_method_15_code 6 = .ok (.iushr, 1) := by decide +kernel
theorem d8_7 : decode jdk_52_method_15_code 7 = .ok (.i2b, 1) := by decide +kernel
theorem d8_8 : decode jdk_52_method_15_code 8 = .ok (.ireturn, 1) := by decide +kernel
def Q_rm8_5 (Z : State) (b : Addr) (kb : ClassId) (e0 : Value) (e1 : Value) (e2 : Value) (e3 : Value) (e4 : Value) (e5 : Value) (e6 : Value) (e7 : Value) (e8 : Value) (e9 : Value) (z_cs : Int32) (h0 : Heap) (n0 : Nat) (v : Option Value) (h : Heap) (L : List Loc) : Prop := v = some (.int 1) ∧ Fr n0 L ∧ h = h0
theorem rm8_5 (l : Launch) (Z : State) (a0 : Array Value) (hw : ∀ d ∈ tables_1, d.before a0 Z = true) (ws : List Jvm.Cond) {z_cs : Int32} (cx : Cx Z z_cs) (b : Addr) (kb : ClassId) (e0 : Value) (e1 : Value) (e2 : Value) (e3 : Value) (e4 : Value) (e5 : Value) (e6 : Value) (e7 : Value) (e8 : Value) (e9 : Value) (h0 : Heap) (n0 : Nat) (O0 : Old Z n0 h0) (G0 : Arv Z h0 b kb .byte (10 : Int32) [e0, e1, e2, e3, e4, e5, e6, e7, e8, e9] (.int 0)) :
    OwnMet l ym8 (Jvm.Cond.code ym8 jdk_52_method_15_code 2 (some .byte) :: ws) (own_R 0 0 0 0) #[(.ref b), (.int 5)] Z h0 (Q_rm8_5 Z b kb e0 e1 e2 e3 e4 e5 e6 e7 e8 e9 z_cs h0 n0) := by
  refine own_body (plainFor_of_name pn_8) hisR fun p e s m below meth c s₁ hx hby hml hown hnm hret hZ X0 e0 => ?_
  have N0 := Fr.nil n0
  have pre0 : ∀ t, Go p e below s₁ (mkF m 0 #[vR b, vI 5] []) t → Go p e below s₁ (entryFrame m #[(.ref b), (.int 5)] 2) t := fun t k => castTop (ef_8_RI m b (5 : Int32)) k
  have q22 := fun t (kt : Go p e below s₁ (mkF m 2 #[vR b, vI 5] [(.ref b), (.int 5)]) t) => pre0 t (by
    show Go _ _ _ _ (mkF m 0 #[vR b, vI 5] []) _
    refine XS.iloadN X0.here hx rfl (hb hby d8_0) rfl ?_
    show Go _ _ _ _ (mkF m 1 _ [(.int 5)]) _
    refine XS.aloadN X0.here hx rfl (hb hby d8_1) rfl rfl ?_
    exact kt)
  obtain ⟨c21, Ar21, -, S21, N21, -, -⟩ := id G0
  have q23 := fun t (kt : Go p e below s₁ (mkF m 8 #[vR b, vI 5] [(.int ((((-5 : Int32).toUInt32 >>> ((31 : Int32) &&& 31).toUInt32).toInt32).toInt8.toInt32))]) t) => q22 t (by
    show Go _ _ _ _ (mkF m 2 #[vR b, vI 5] [(.ref b), (.int 5)]) _
    refine X0.arraylength hx (by rw [e0]; exact Ar21.1) (State.isArrayOf_alike hZ.alike Ar21.2.1) (g := (mkF m 2 #[vR b, vI 5] [(.ref b), (.int 5)])) rfl rfl (hb hby d8_2) _ ?_
    rw [len_of S21 N21]
    show Go _ _ _ _ (mkF m 3 _ [(.int 10), (.int 5)]) _
    refine XS.isub X0.here hx rfl (hb hby d8_3) rfl ?_
    show Go _ _ _ _ (mkF m 4 _ [(.int (-5 : Int32))]) _
    refine XS.bipush X0.here hx rfl (hb hby d8_4) ?_
    show Go _ _ _ _ (mkF m 6 _ [(.int 31), (.int (-5 : Int32))]) _
    refine XS.iushr X0.here hx rfl (hb hby d8_6) rfl ?_
    show Go _ _ _ _ (mkF m 7 _ [(.int (((-5 : Int32).toUInt32 >>> ((31 : Int32) &&& 31).toUInt32).toInt32))]) _
    refine XS.i2b X0.here hx rfl (hb hby d8_7) rfl ?_
    exact kt)
  exact ⟨some (.int (nar .byte ((((-5 : Int32).toUInt32 >>> ((31 : Int32) &&& 31).toUInt32).toInt32).toInt8.toInt32))), s₁, _, _, _, _, X0, by decide, by decide, nofun, q23, fun fs hr => retN X0 hx (t := .byte) hret (by simp) (hb hby d8_8) hr, by rw [e0]; exact ⟨(by decide), N0, rfl⟩⟩
theorem ef_4_RRIIN (m : MethodId) (x0 : Addr) (x1 : Addr) (x2 : Int32) (x3 : Int32) : entryFrame m #[(.ref x0), (.ref x1), (.int x2), (.int x3), .null] 6 = mkF m 0 #[.val (.ref x0), .val (.ref x1), .val (.int x2), .val (.int x3), .val .null, .unset] [] := by first | (simp [entryFrame, mkF, argsToLocals, Value.category]; done) | rfl
theorem pn_4 : plainName "java/lang/String" = true := by first | (simp [plainName, overriddenIn]; done) | decide +kernel
theorem d4_0 : decode jdk_42_method_149_code 0 = .ok (.aload_n 0, 1) := by decide +kernel
theorem d4_1 : decode jdk_42_method_149_code 1 = .ok (.invokespecial 1, 3) := by decide +kernel
theorem d4_4 : decode jdk_42_method_149_code 4 = .ok (.iload_n 3, 1) := by decide +kernel
theorem d4_5 : decode jdk_42_method_149_code 5 = .ok (.ifCond .ne 22, 3) := by decide +kernel
theorem d4_27 : decode jdk_42_method_149_code 27 = .ok (.getstatic 38, 3) := by decide +kernel
theorem d4_30 : decode jdk_42_method_149_code 30 = .ok (.ifCond .eq 28, 3) := by decide +kernel
theorem d4_33 : decode jdk_42_method_149_code 33 = .ok (.aload_n 1, 1) := by decide +kernel
theorem d4_34 : decode jdk_42_method_149_code 34 = .ok (.iload_n 2, 1) := by decide +kernel
theorem d4_35 : decode jdk_42_method_149_code 35 = .ok (.iload_n 3, 1) := by decide +kernel
theorem d4_36 : decode jdk_42_method_149_code 36 = .ok (.invokestatic 177, 3) := by decide +kernel
theorem d4_39 : decode jdk_42_method_149_code 39 = .ok (.astore 5, 2) := by decide +kernel
theorem d4_41 : decode jdk_42_method_149_code 41 = .ok (.aload_n 0, 1) := by decide +kernel
theorem d4_42 : decode jdk_42_method_149_code 42 = .ok (.aload 5, 2) := by decide +kernel
theorem d4_44 : decode jdk_42_method_149_code 44 = .ok (.iload_n 3, 1) := by decide +kernel
theorem d4_45 : decode jdk_42_method_149_code 45 = .ok (.invokestatic 47, 3) := by decide +kernel
theorem pd_6 : parseMethodDescriptor "([BI)B" = some ⟨[(.array .byte), .int], some .byte⟩ := by decide +kernel
theorem d4_48 : decode jdk_42_method_149_code 48 = .ok (.putfield 15, 3) := by decide +kernel
theorem d4_51 : decode jdk_42_method_149_code 51 = .ok (.aload_n 0, 1) := by decide +kernel
theorem d4_52 : decode jdk_42_method_149_code 52 = .ok (.aload 5, 2) := by decide +kernel
theorem d4_54 : decode jdk_42_method_149_code 54 = .ok (.putfield 9, 3) := by decide +kernel
theorem d4_57 : decode jdk_42_method_149_code 57 = .ok (.return_, 1) := by decide +kernel
def Q_rm4_5 (Z : State) (a1 : Addr) (a2 : Addr) (ka : ClassId) (c0 : Int32) (c1 : Int32) (c2 : Int32) (c3 : Int32) (c4 : Int32) (z_cs : Int32) (h0 : Heap) (n0 : Nat) (v : Option Value) (h : Heap) (L : List Loc) : Prop := ∃ (t : Addr), v = none ∧ Fr n0 L ∧ Keep h0 h [a1] ∧ Fld Z h a1 sk1 "value" "[B" (.ref t) ∧ Fld Z h a1 sk1 "coder" "B" (.int 1)
theorem rm4_5 (l : Launch) (Z : State) (a0 : Array Value) (hw : ∀ d ∈ tables_1, d.before a0 Z = true) (ws : List Jvm.Cond) {z_cs : Int32} (cx : Cx Z z_cs) (a1 : Addr) (a2 : Addr) (ka : ClassId) (c0 : Int32) (c1 : Int32) (c2 : Int32) (c3 : Int32) (c4 : Int32) (h0 : Heap) (n0 : Nat) (O0 : Old Z n0 h0) (G0 : Exa Z h0 a1 sk1) (G1 : Fld Z h0 a1 sk1 "value" "[B" .null) (G2 : Fld Z h0 a1 sk1 "coder" "B" (.int 0)) (G3 : Arv Z h0 a2 ka .char (5 : Int32) [(.int c0), (.int c1), (.int c2), (.int c3), (.int c4)] (.int 0)) (g_a1 : n0 ≤ a1) (hB : (255 : Int32) < c0 ∨ (255 : Int32) < c1 ∨ (255 : Int32) < c2 ∨ (255 : Int32) < c3 ∨ (255 : Int32) < c4) (hc900 : ¬ c0 < 0 ∧ ¬ (65535 : Int32) < c0) (hc901 : ¬ c1 < 0 ∧ ¬ (65535 : Int32) < c1) (hc902 : ¬ c2 < 0 ∧ ¬ (65535 : Int32) < c2) (hc903 : ¬ c3 < 0 ∧ ¬ (65535 : Int32) < c3) (hc904 : ¬ c4 < 0 ∧ ¬ (65535 : Int32) < c4) :
    OwnMet l ym9 (Jvm.Cond.code ym9 jdk_42_method_149_code 6 none :: ws) (own_R 4 2 15 57) #[(.ref a1), (.ref a2), (.int 0), (.int 5), .null] Z h0 (Q_rm4_5 Z a1 a2 ka c0 c1 c2 c3 c4 z_cs h0 n0) := by
  refine own_body (plainFor_of_name pn_4) hisR fun p e s m below meth c s₁ hx hby hml hown hnm hret hZ X0 e0 => ?_
  have N0 := Fr.nil n0
  have K0 : Keep h0 h0 [a1] := Keep.refl _ _
  have pre0 : ∀ t, Go p e below s₁ (mkF m 0 #[vR a1, vR a2, vI 0, vI 5, vN, vU] []) t → Go p e below s₁ (entryFrame m #[(.ref a1), (.ref a2), (.int 0), (.int 5), .null] 6) t := fun t k => castTop (ef_4_RRIIN m a1 a2 (0 : Int32) (5 : Int32)) k
  have q21 := fun t (kt : Go p e below s₁ (mkF m 1 #[vR a1, vR a2, vI 0, vI 5, vN, vU] [(.ref a1)]) t) => pre0 t (by
    show Go _ _ _ _ (mkF m 0 #[vR a1, vR a2, vI 0, vI 5, vN, vU] []) _
    refine XS.aloadN X0.here hx rfl (hb hby d4_0) rfl rfl ?_
    exact kt)
  obtain ⟨T22, X22, e22, st22⟩ := initO X0 hx hZ hown (ov hw 19 rfl) (ov hw 20 rfl) (ov hw 21 rfl) e0 (g := (mkF m 1 #[vR a1, vR a2, vI 0, vI 5, vN, vU] [(.ref a1)])) rfl (by rw [hml]; rfl) rfl (hb hby d4_1) (by decide) (W := 0) own_le0 (by decide)
  have q23 := fun t (kt : Go p e below T22 (mkF m 27 #[vR a1, vR a2, vI 0, vI 5, vN, vU] []) t) => q21 t (st22 t (by
    show Go _ _ _ _ (mkF m 4 #[vR a1, vR a2, vI 0, vI 5, vN, vU] []) _
    refine XS.iloadN X22.here hx rfl (hb hby d4_4) rfl ?_
    show Go _ _ _ _ (mkF m 5 _ [(.int 5)]) _
    refine XS.ifYes X22.here hx rfl (pc0 := 5) (pc' := 27) rfl (hb hby d4_5) rfl ((if0 _ _).trans (feq (by decide : ¬ ((5 : Int32) = (0 : Int32)))).2) (by decide) (by decide) ?_
    exact kt))
  obtain ⟨T24, X24, e24, st24⟩ := getS2 X22 hx hZ hown (host := "") (Or.inl (ov hw 22 rfl)) Via.refl e22 (cx.1.ext O0.2) (g := (mkF m 27 #[vR a1, vR a2, vI 0, vI 5, vN, vU] [])) rfl (hb hby d4_27)
  have q25 := fun t (kt : Go p e below T24 (mkF m 36 #[vR a1, vR a2, vI 0, vI 5, vN, vU] [(.int 5), (.int 0), (.ref a2)]) t) => q23 t (st24 t (by
    show Go _ _ _ _ (mkF m 30 #[vR a1, vR a2, vI 0, vI 5, vN, vU] [(.int z_cs)]) _
    refine XS.ifNo X24.here hx rfl (hb hby d4_30) rfl ((if0 _ _).trans (feq cx.2.1).1) ?_
    show Go _ _ _ _ (mkF m 33 _ []) _
    refine XS.aloadN X24.here hx rfl (hb hby d4_33) rfl rfl ?_
    show Go _ _ _ _ (mkF m 34 _ [(.ref a2)]) _
    refine XS.iloadN X24.here hx rfl (hb hby d4_34) rfl ?_
    show Go _ _ _ _ (mkF m 35 _ [(.int 0), (.ref a2)]) _
    refine XS.iloadN X24.here hx rfl (hb hby d4_35) rfl ?_
    exact kt))
  obtain ⟨_, _, ⟨T26, L26, k26, n26⟩, -, X26, ⟨_, hQ26, l26, y26, z26⟩, st26⟩ := Jvm.LawKit.callS X24 hx (y := ym7) hown (ow hZ hw 23 rfl) (ow hZ hw 24 rfl) (ow hZ hw 25 rfl) (ow hZ hw 26 rfl) (by decide) (backOf (W := 0) (rm6_5 l Z a0 hw [] cx a2 ka c0 c1 c2 c3 c4 h0 n0 O0 G3 hB hc900 hc901 hc902 hc903 hc904) hZ (ov hw 26 rfl) (ov hw 25 rfl) (by decide) (by decide)) (g := (mkF m 36 #[vR a1, vR a2, vI 0, vI 5, vN, vU] [(.int 5), (.int 0), (.ref a2)])) rfl (by rw [hml]; rfl) (argsL := [(.ref a2), (.int 0), (.int 5)]) (rest := []) (lenOf pd_4 rfl) rfl own_le0 (hb hby d4_36) (fun _ _ => ⟨rfl, e24, (by decide : 0 + 2 ≤ _), (by decide : 0 + 15 ≤ _)⟩)
  dsimp only [Pt.U, Pt.locs, Pt.cells, Pt.slots] at X26 l26 y26 z26 st26 hQ26
  subst l26 y26 z26
  obtain ⟨b_26, kb_26, rfl, Nq26, Kq26, fr26_0, fq26_0⟩ := hQ26
  have N27 := Fr.app N0 Nq26
  have gg28 : n0 ≤ b_26 := Nat.le_trans (O0.1 ▸ O0.2.1) fr26_0
  have sz29 : h0.size ≤ b_26 := Nat.le_trans K0.1 fr26_0
  have O30 := O0.keep Kq26 all0
  have K31 := K0.trans Kq26 all0
  have q32 := fun t (kt : Go p e below T26 (mkF m 45 #[vR a1, vR a2, vI 0, vI 5, vN, vR b_26] [(.int 5), (.ref b_26), (.ref a1)]) t) => q25 t (st26 t (by
    show Go _ _ _ _ (mkF m 39 #[vR a1, vR a2, vI 0, vI 5, vN, vU] [(.ref b_26)]) _
    refine XS.astore X26.here hx rfl (hb hby d4_39) rfl rfl (l' := #[vR a1, vR a2, vI 0, vI 5, vN, vR b_26]) rfl ?_
    show Go _ _ _ _ (mkF m 41 #[vR a1, vR a2, vI 0, vI 5, vN, vR b_26] []) _
    refine XS.aloadN X26.here hx rfl (hb hby d4_41) rfl rfl ?_
    show Go _ _ _ _ (mkF m 42 _ [(.ref a1)]) _
    refine XS.aload X26.here hx rfl (hb hby d4_42) rfl rfl ?_
    show Go _ _ _ _ (mkF m 44 _ [(.ref b_26), (.ref a1)]) _
    refine XS.iloadN X26.here hx rfl (hb hby d4_44) rfl ?_
    exact kt))
  obtain ⟨_, _, ⟨T33, L33, k33, n33⟩, -, X33, ⟨_, hQ33, l33, y33, z33⟩, st33⟩ := Jvm.LawKit.callS X26 hx (y := ym8) hown (ow hZ hw 31 rfl) (ow hZ hw 32 rfl) (ow hZ hw 25 rfl) (ow hZ hw 33 rfl) (by decide) (backOf (W := 1) (rm8_5 l Z a0 hw [] cx b_26 kb_26 (.int (own_hb c0)) (.int (own_lb c0)) (.int (own_hb c1)) (.int (own_lb c1)) (.int (own_hb c2)) (.int (own_lb c2)) (.int (own_hb c3)) (.int (own_lb c3)) (.int (own_hb c4)) (.int (own_lb c4)) T26.heap n0 O30 fq26_0) hZ (ov hw 33 rfl) (ov hw 25 rfl) (by decide) (by decide)) (g := (mkF m 45 #[vR a1, vR a2, vI 0, vI 5, vN, vR b_26] [(.int 5), (.ref b_26), (.ref a1)])) rfl (by rw [hml]; rfl) (argsL := [(.ref b_26), (.int 5)]) (rest := [(.ref a1)]) (lenOf pd_6 rfl) rfl own_le0 (hb hby d4_45) (fun _ _ => ⟨rfl, rfl, (by decide : 2 + 0 ≤ _), (by decide : 15 + 0 ≤ _)⟩)
  dsimp only [Pt.U, Pt.locs, Pt.cells, Pt.slots] at X33 l33 y33 z33 st33 hQ33
  subst l33 y33 z33
  obtain ⟨rfl, Nq33, eq33⟩ := hQ33
  have N34 := Fr.app N27 Nq33
  have f35 := (G0.keep Kq26)
  have f36 := (G2.keep Kq26 nin0)
  obtain ⟨T37, h37, X37, e37, W37, st37⟩ := putFN X33 hx hZ hown (ov hw 34 rfl) Via.refl eq33 f36 f35 (Or.inr ⟨(ov hw 35 rfl), rfl, hnm⟩) (ov hw 9 rfl) (ty := .byte) (v' := (.int 1)) (by decide) rfl rfl (g := (mkF m 48 #[vR a1, vR a2, vI 0, vI 5, vN, vR b_26] [(.int 1), (.ref a1)])) rfl rfl (hb hby d4_48)
  have f38 : Fld Z h37 a1 sk1 "coder" "B" (.int 1) := f36.same W37
  have N39 := Fr.snoc X37 N34 g_a1
  have O40 := O30.wr W37 g_a1
  have K41 := K31.wr W37 (Or.inl (List.mem_of_getElem? (i := 0) rfl))
  have f42 := (f35.wr W37)
  have f43 := ((G1.keep Kq26 nin0).other W37 (Or.inr (slot_ne (Or.inr (ov hw 37 rfl)) (Or.inr (ov hw 35 rfl)) (by decide) (t := (.array .byte)) (t' := .byte) (by decide) (by decide))))
  have q44 := fun t (kt : Go p e below T37 (mkF m 54 #[vR a1, vR a2, vI 0, vI 5, vN, vR b_26] [(.ref b_26), (.ref a1)]) t) => q32 t (st33 t (st37 t (by
    show Go _ _ _ _ (mkF m 51 #[vR a1, vR a2, vI 0, vI 5, vN, vR b_26] []) _
    refine XS.aloadN X37.here hx rfl (hb hby d4_51) rfl rfl ?_
    show Go _ _ _ _ (mkF m 52 _ [(.ref a1)]) _
    refine XS.aload X37.here hx rfl (hb hby d4_52) rfl rfl ?_
    exact kt)))
  obtain ⟨T45, h45, X45, e45, W45, st45⟩ := putF X37 hx hZ hown (host := "") (Or.inl (ov hw 36 rfl)) Via.refl e37 f43 f42 (Or.inr ⟨(ov hw 37 rfl), rfl, hnm⟩) (ov hw 9 rfl) (ty := (.array .byte)) (by decide) rfl rfl (g := (mkF m 54 #[vR a1, vR a2, vI 0, vI 5, vN, vR b_26] [(.ref b_26), (.ref a1)])) rfl rfl (hb hby d4_54)
  have f46 : Fld Z h45 a1 sk1 "value" "[B" (.ref b_26) := f43.same W45
  have N47 := Fr.snoc X45 N39 g_a1
  have O48 := O40.wr W45 g_a1
  have K49 := K41.wr W45 (Or.inl (List.mem_of_getElem? (i := 0) rfl))
  have q50 := fun t (kt : Go p e below T45 (mkF m 57 #[vR a1, vR a2, vI 0, vI 5, vN, vR b_26] []) t) => q44 t (st45 t kt)
  have f51 := (f38.other W45 (Or.inr (slot_ne (Or.inr (ov hw 35 rfl)) (Or.inr (ov hw 37 rfl)) (by decide) (t := .byte) (t' := (.array .byte)) (by decide) (by decide))))
  exact ⟨none, T45, _, _, _, _, X45, by decide, by decide, fun _ => rfl, q50, fun fs hr => X45.returnOut hx hret (hb hby d4_57) hr, by rw [e45]; exact ⟨b_26, rfl, N47, K49, f46, f51⟩⟩
theorem ef_3_RR (m : MethodId) (x0 : Addr) (x1 : Addr) : entryFrame m #[(.ref x0), (.ref x1)] 2 = mkF m 0 #[.val (.ref x0), .val (.ref x1)] [] := by first | (simp [entryFrame, mkF, argsToLocals, Value.category]; done) | rfl
theorem pn_3 : plainName "java/lang/String" = true := by first | (simp [plainName, overriddenIn]; done) | decide +kernel
theorem d3_0 : decode jdk_42_method_3_code 0 = .ok (.aload_n 0, 1) := by decide +kernel
theorem d3_1 : decode jdk_42_method_3_code 1 = .ok (.aload_n 1, 1) := by decide +kernel
theorem d3_2 : decode jdk_42_method_3_code 2 = .ok (.iconst 0, 1) := by decide +kernel
theorem d3_3 : decode jdk_42_method_3_code 3 = .ok (.aload_n 1, 1) := by decide +kernel
theorem d3_4 : decode jdk_42_method_3_code 4 = .ok (.arraylength, 1) := by decide +kernel
theorem d3_5 : decode jdk_42_method_3_code 5 = .ok (.aconst_null, 1) := by decide +kernel
theorem d3_6 : decode jdk_42_method_3_code 6 = .ok (.invokespecial 27, 3) := by decide +kernel
theorem pd_7 : parseMethodDescriptor "([CIILjava/lang/Void;)V" = some ⟨[(.array .char), .int, .int, (.object "java/lang/Void")], none⟩ := by decide +kernel
theorem d3_9 : decode jdk_42_method_3_code 9 = .ok (.return_, 1) := by decide +kernel
def Q_rm3_5 (Z : State) (a1 : Addr) (a2 : Addr) (ka : ClassId) (c0 : Int32) (c1 : Int32) (c2 : Int32) (c3 : Int32) (c4 : Int32) (z_cs : Int32) (h0 : Heap) (n0 : Nat) (v : Option Value) (h : Heap) (L : List Loc) : Prop := ∃ (t : Addr), v = none ∧ Fr n0 L ∧ Keep h0 h [a1] ∧ Fld Z h a1 sk1 "value" "[B" (.ref t) ∧ Fld Z h a1 sk1 "coder" "B" (.int 1)
theorem rm3_5 (l : Launch) (Z : State) (a0 : Array Value) (hw : ∀ d ∈ tables_1, d.before a0 Z = true) (ws : List Jvm.Cond) {z_cs : Int32} (cx : Cx Z z_cs) (a1 : Addr) (a2 : Addr) (ka : ClassId) (c0 : Int32) (c1 : Int32) (c2 : Int32) (c3 : Int32) (c4 : Int32) (h0 : Heap) (n0 : Nat) (O0 : Old Z n0 h0) (G0 : Exa Z h0 a1 sk1) (G1 : Fld Z h0 a1 sk1 "value" "[B" .null) (G2 : Fld Z h0 a1 sk1 "coder" "B" (.int 0)) (G3 : Arv Z h0 a2 ka .char (5 : Int32) [(.int c0), (.int c1), (.int c2), (.int c3), (.int c4)] (.int 0)) (g_a1 : n0 ≤ a1) (hB : (255 : Int32) < c0 ∨ (255 : Int32) < c1 ∨ (255 : Int32) < c2 ∨ (255 : Int32) < c3 ∨ (255 : Int32) < c4) (hc900 : ¬ c0 < 0 ∧ ¬ (65535 : Int32) < c0) (hc901 : ¬ c1 < 0 ∧ ¬ (65535 : Int32) < c1) (hc902 : ¬ c2 < 0 ∧ ¬ (65535 : Int32) < c2) (hc903 : ¬ c3 < 0 ∧ ¬ (65535 : Int32) < c3) (hc904 : ¬ c4 < 0 ∧ ¬ (65535 : Int32) < c4) :
    OwnMet l ym10 (Jvm.Cond.code ym10 jdk_42_method_3_code 2 none :: ws) (own_R 5 2 15 74) #[(.ref a1), (.ref a2)] Z h0 (Q_rm3_5 Z a1 a2 ka c0 c1 c2 c3 c4 z_cs h0 n0) := by
  refine own_body (plainFor_of_name pn_3) hisR fun p e s m below meth c s₁ hx hby hml hown hnm hret hZ X0 e0 => ?_
  have N0 := Fr.nil n0
  have K0 : Keep h0 h0 [a1] := Keep.refl _ _
  have pre0 : ∀ t, Go p e below s₁ (mkF m 0 #[vR a1, vR a2] []) t → Go p e below s₁ (entryFrame m #[(.ref a1), (.ref a2)] 2) t := fun t k => castTop (ef_3_RR m a1 a2) k
  have q22 := fun t (kt : Go p e below s₁ (mkF m 4 #[vR a1, vR a2] [(.ref a2), (.int 0), (.ref a2), (.ref a1)]) t) => pre0 t (by
    show Go _ _ _ _ (mkF m 0 #[vR a1, vR a2] []) _
    refine XS.aloadN X0.here hx rfl (hb hby d3_0) rfl rfl ?_
    show Go _ _ _ _ (mkF m 1 _ [(.ref a1)]) _
    refine XS.aloadN X0.here hx rfl (hb hby d3_1) rfl rfl ?_
    show Go _ _ _ _ (mkF m 2 _ [(.ref a2), (.ref a1)]) _
    refine XS.iconst X0.here hx rfl (hb hby d3_2) ?_
    show Go _ _ _ _ (mkF m 3 _ [(.int 0), (.ref a2), (.ref a1)]) _
    refine XS.aloadN X0.here hx rfl (hb hby d3_3) rfl rfl ?_
    exact kt)
  obtain ⟨c21, Ar21, -, S21, N21, -, -⟩ := id G3
  have q23 := fun t (kt : Go p e below s₁ (mkF m 6 #[vR a1, vR a2] [.null, (.int 5), (.int 0), (.ref a2), (.ref a1)]) t) => q22 t (by
    show Go _ _ _ _ (mkF m 4 #[vR a1, vR a2] [(.ref a2), (.int 0), (.ref a2), (.ref a1)]) _
    refine X0.arraylength hx (by rw [e0]; exact Ar21.1) (State.isArrayOf_alike hZ.alike Ar21.2.1) (g := (mkF m 4 #[vR a1, vR a2] [(.ref a2), (.int 0), (.ref a2), (.ref a1)])) rfl rfl (hb hby d3_4) _ ?_
    rw [len_of S21 N21]
    show Go _ _ _ _ (mkF m 5 _ [(.int 5), (.int 0), (.ref a2), (.ref a1)]) _
    refine XS.aconstNull X0.here hx rfl (hb hby d3_5) ?_
    exact kt)
  obtain ⟨_, _, ⟨T24, L24, k24, n24⟩, -, X24, ⟨_, hQ24, l24, y24, z24⟩, st24⟩ := X0.specialBack hx (y := ym9) rfl hown (ow hZ hw 15 rfl) (ow hZ hw 16 rfl) (ow hZ hw 18 rfl) (by decide) (backOf (W := 0) (rm4_5 l Z a0 hw [] cx a1 a2 ka c0 c1 c2 c3 c4 h0 n0 O0 G0 G1 G2 G3 g_a1 hB hc900 hc901 hc902 hc903 hc904) hZ (ov hw 18 rfl) (ov hw 10 rfl) (by decide) (by decide)) (g := (mkF m 6 #[vR a1, vR a2] [.null, (.int 5), (.int 0), (.ref a2), (.ref a1)])) rfl (by rw [hml]; rfl) (Steps.refl _) (a := a1) (argsL := [(.ref a2), (.int 0), (.int 5), .null]) (rest := []) (lenOf pd_7 rfl) rfl own_le0 (hb hby d3_6) (fun _ _ => ⟨rfl, e0, (by decide : 0 + 2 ≤ _), (by decide : 0 + 15 ≤ _)⟩)
  dsimp only [Pt.U, Pt.locs, Pt.cells, Pt.slots] at X24 l24 y24 z24 st24 hQ24
  subst l24 y24 z24
  obtain ⟨t_24, rfl, Nq24, Kq24, fq24_0, fq24_1⟩ := hQ24
  have N25 := Fr.app N0 Nq24
  have O26 := O0.keep Kq24 (allS g_a1 all0)
  have K27 := K0.trans Kq24 (allS (Or.inl (List.mem_of_getElem? (i := 0) rfl)) all0)
  have q28 := fun t (kt : Go p e below T24 (mkF m 9 #[vR a1, vR a2] []) t) => q23 t (st24.trans kt)
  exact ⟨none, T24, _, _, _, _, X24, by decide, by decide, fun _ => rfl, q28, fun fs hr => X24.returnOut hx hret (hb hby d3_9) hr, ⟨t_24, rfl, N25, K27, fq24_0, fq24_1⟩⟩
def Q_rm16_6 (Z : State) (z_cs : Int32) (h0 : Heap) (n0 : Nat) (v : Option Value) (h : Heap) (L : List Loc) : Prop := ∃ (b : Addr) (kb : ClassId), v = some (.ref b) ∧ Fr n0 L ∧ Keep h0 h [] ∧ h0.size ≤ b ∧ Arv Z h b kb .byte (12 : Int32) [(.int 0), (.int 0), (.int 0), (.int 0), (.int 0), (.int 0), (.int 0), (.int 0), (.int 0), (.int 0), (.int 0), (.int 0)] (.int 0)
theorem rm16_6 (l : Launch) (Z : State) (a0 : Array Value) (hw : ∀ d ∈ tables_1, d.before a0 Z = true) (ws : List Jvm.Cond) {z_cs : Int32} (cx : Cx Z z_cs) (h0 : Heap) (n0 : Nat) (O0 : Old Z n0 h0) :
    OwnMet l ym4 (Jvm.Cond.code ym4 jdk_52_method_2_code 1 (some (.array .byte)) :: ws) (own_R 1 1 12 12) #[(.int 6)] Z h0 (Q_rm16_6 Z  z_cs h0 n0) := by
  refine own_body (plainFor_of_name pn_16) hisR fun p e s m below meth c s₁ hx hby hml hown hnm hret hZ X0 e0 => ?_
  have N0 := Fr.nil n0
  have K0 : Keep h0 h0 [] := Keep.refl _ _
  have pre0 : ∀ t, Go p e below s₁ (mkF m 0 #[vI 6] []) t → Go p e below s₁ (entryFrame m #[(.int 6)] 1) t := fun t k => castTop (ef_16_I m (6 : Int32)) k
  have q21 := fun t (kt : Go p e below s₁ (mkF m 1 #[vI 6] [(.int 6)]) t) => pre0 t (by
    show Go _ _ _ _ (mkF m 0 #[vI 6] []) _
    refine XS.iloadN X0.here hx rfl (hb hby d16_0) rfl ?_
    exact kt)
  obtain ⟨_, _, ⟨T22, L22, k22, n22⟩, -, X22, ⟨_, hQ22, l22, y22, z22⟩, st22⟩ := Jvm.LawKit.callS X0 hx (y := ym3) hown (ow hZ hw 69 rfl) (ow hZ hw 70 rfl) (ow hZ hw 25 rfl) (ow hZ hw 71 rfl) (by decide) (backOf (W := 0) (rm17 l Z a0 hw [] cx (6 : Int32) h0 n0 O0 (by decide : ¬ ((6 : Int32) < (0 : Int32))) (by decide : (6 : Int32) < (1073741823 : Int32))) hZ (ov hw 71 rfl) (ov hw 25 rfl) (by decide) (by decide)) (g := (mkF m 1 #[vI 6] [(.int 6)])) rfl (by rw [hml]; rfl) (argsL := [(.int 6)]) (rest := []) (lenOf pd_0 rfl) rfl own_le0 (hb hby d16_1) (fun _ _ => ⟨rfl, e0, (by decide : 0 + 0 ≤ _), (by decide : 0 + 0 ≤ _)⟩)
  dsimp only [Pt.U, Pt.locs, Pt.cells, Pt.slots] at X22 l22 y22 z22 st22 hQ22
  subst l22 y22 z22
  obtain ⟨rfl, Nq22, eq22⟩ := hQ22
  have N23 := Fr.app N0 Nq22
  have q24 := fun t (kt : Go p e below T22 (mkF m 4 #[vI 6] [(.int ((6 : Int32) <<< ((1 : Int32) &&& 31)))]) t) => q21 t (st22 t kt)
  have q25 := fun t (kt : Go p e below T22 (mkF m 4 #[vI 6] [(.int 12)]) t) => q24 t (by rw [(by decide : ((6 : Int32) <<< ((1 : Int32) &&& 31)) = (12 : Int32))]; exact kt)
  obtain ⟨T26, h26, k26, X26, e26, E26, A26, st26⟩ := newP X22 hx hZ (ov hw 27 rfl) eq22 (g := (mkF m 4 #[vI 6] [(.int 12)])) rfl (hb hby d16_4) rfl (by decide) (cap := 12) (by decide) (by decide) (by decide) (by decide)
  obtain ⟨b26, g26⟩ : ∃ z, z = h0.size := ⟨_, rfl⟩
  rw [← g26] at A26 st26
  have gg27 : n0 ≤ b26 := Nat.le_trans (O0.1 ▸ O0.2.1) (Nat.le_of_eq g26.symm)
  have sz28 : h0.size ≤ b26 := Nat.le_trans K0.1 (Nat.le_of_eq g26.symm)
  have O29 := O0.ext E26
  have K30 := K0.ext E26
  have V26 : Arv Z h26 b26 k26 .byte (12 : Int32) [(.int 0), (.int 0), (.int 0), (.int 0), (.int 0), (.int 0), (.int 0), (.int 0), (.int 0), (.int 0), (.int 0), (.int 0)] (.int 0) := (Arv.new A26 (by decide)).pad (pad_rep [] (.int 0) 12)
  have q31 := fun t (kt : Go p e below T26 (mkF m 6 #[vI 6] [(.ref b26)]) t) => q25 t (st26 t kt)
  exact ⟨some (.ref b26), T26, _, _, _, _, X26, by decide, by decide, nofun, q31, fun fs hr => retOut X26 hx hret rfl (o4 ⟨rfl, rfl, rfl⟩) (hb hby d16_6) hr, by rw [e26]; exact ⟨b26, k26, rfl, N23, K30, sz28, V26⟩⟩
def Q_rm15_6 (Z : State) (a1 : Addr) (ka : ClassId) (c0 : Int32) (c1 : Int32) (c2 : Int32) (c3 : Int32) (c4 : Int32) (c5 : Int32) (z_cs : Int32) (h0 : Heap) (n0 : Nat) (v : Option Value) (h : Heap) (L : List Loc) : Prop := ∃ (b : Addr) (kb : ClassId), v = some (.ref b) ∧ Fr n0 L ∧ Keep h0 h [] ∧ h0.size ≤ b ∧ Arv Z h b kb .byte (12 : Int32) [(.int (own_hb c0)), (.int (own_lb c0)), (.int (own_hb c1)), (.int (own_lb c1)), (.int (own_hb c2)), (.int (own_lb c2)), (.int (own_hb c3)), (.int (own_lb c3)), (.int (own_hb c4)), (.int (own_lb c4)), (.int (own_hb c5)), (.int (own_lb c5))] (.int 0)
theorem rm15_6 (l : Launch) (Z : State) (a0 : Array Value) (hw : ∀ d ∈ tables_1, d.before a0 Z = true) (ws : List Jvm.Cond) {z_cs : Int32} (cx : Cx Z z_cs) (a1 : Addr) (ka : ClassId) (c0 : Int32) (c1 : Int32) (c2 : Int32) (c3 : Int32) (c4 : Int32) (c5 : Int32) (h0 : Heap) (n0 : Nat) (O0 : Old Z n0 h0) (G0 : Arv Z h0 a1 ka .char (6 : Int32) [(.int c0), (.int c1), (.int c2), (.int c3), (.int c4), (.int c5)] (.int 0)) :
    OwnMet l ym5 (Jvm.Cond.code ym5 jdk_52_method_14_code 5 (some (.array .byte)) :: ws) (own_R 2 1 12 24) #[(.ref a1), (.int 0), (.int 6)] Z h0 (Q_rm15_6 Z a1 ka c0 c1 c2 c3 c4 c5 z_cs h0 n0) := by
  refine own_body (plainFor_of_name pn_15) hisR fun p e s m below meth c s₁ hx hby hml hown hnm hret hZ X0 e0 => ?_
  have N0 := Fr.nil n0
  have K0 : Keep h0 h0 [] := Keep.refl _ _
  have pre0 : ∀ t, Go p e below s₁ (mkF m 0 #[vR a1, vI 0, vI 6, vU, vU] []) t → Go p e below s₁ (entryFrame m #[(.ref a1), (.int 0), (.int 6)] 5) t := fun t k => castTop (ef_15_RII m a1 (0 : Int32) (6 : Int32)) k
  have q21 := fun t (kt : Go p e below s₁ (mkF m 1 #[vR a1, vI 0, vI 6, vU, vU] [(.int 6)]) t) => pre0 t (by
    show Go _ _ _ _ (mkF m 0 #[vR a1, vI 0, vI 6, vU, vU] []) _
    refine XS.iloadN X0.here hx rfl (hb hby d15_0) rfl ?_
    exact kt)
  obtain ⟨_, _, ⟨T22, L22, k22, n22⟩, -, X22, ⟨_, hQ22, l22, y22, z22⟩, st22⟩ := Jvm.LawKit.callS X0 hx (y := ym4) hown (ow hZ hw 66 rfl) (ow hZ hw 67 rfl) (ow hZ hw 25 rfl) (ow hZ hw 68 rfl) (by decide) (backOf (W := 0) (rm16_6 l Z a0 hw [] cx  h0 n0 O0 ) hZ (ov hw 68 rfl) (ov hw 25 rfl) (by decide) (by decide)) (g := (mkF m 1 #[vR a1, vI 0, vI 6, vU, vU] [(.int 6)])) rfl (by rw [hml]; rfl) (argsL := [(.int 6)]) (rest := []) (lenOf pd_1 rfl) rfl own_le0 (hb hby d15_1) (fun _ _ => ⟨rfl, e0, (by decide : 0 + 1 ≤ _), (by decide : 0 + 12 ≤ _)⟩)
  dsimp only [Pt.U, Pt.locs, Pt.cells, Pt.slots] at X22 l22 y22 z22 st22 hQ22
  subst l22 y22 z22
  obtain ⟨b_22, kb_22, rfl, Nq22, Kq22, fr22_0, fq22_0⟩ := hQ22
  have N23 := Fr.app N0 Nq22
  have gg24 : n0 ≤ b_22 := Nat.le_trans (O0.1 ▸ O0.2.1) fr22_0
  have sz25 : h0.size ≤ b_22 := Nat.le_trans K0.1 fr22_0
  have O26 := O0.keep Kq22 all0
  have K27 := K0.trans Kq22 all0
  have f28 := (G0.keep Kq22 nin0)
  have q30 := fun t (kt : Go p e below T22 (mkF m 19 #[vR a1, vI 0, vI 6, vR b_22, vI 0] [(.int 0), (.ref a1), (.int 0), (.ref b_22)]) t) => q21 t (st22 t (by
    show Go _ _ _ _ (mkF m 4 #[vR a1, vI 0, vI 6, vU, vU] [(.ref b_22)]) _
    refine XS.astoreN X22.here hx rfl (hb hby d15_4) rfl rfl (l' := #[vR a1, vI 0, vI 6, vR b_22, vU]) rfl ?_
    show Go _ _ _ _ (mkF m 5 #[vR a1, vI 0, vI 6, vR b_22, vU] []) _
    refine XS.iconst X22.here hx rfl (hb hby d15_5) ?_
    show Go _ _ _ _ (mkF m 6 _ [(.int 0)]) _
    refine XS.istore X22.here hx rfl (hb hby d15_6) rfl (l' := #[vR a1, vI 0, vI 6, vR b_22, vI 0]) rfl ?_
    show Go _ _ _ _ (mkF m 8 #[vR a1, vI 0, vI 6, vR b_22, vI 0] []) _
    refine XS.iload X22.here hx rfl (hb hby d15_8) rfl ?_
    show Go _ _ _ _ (mkF m 10 _ [(.int 0)]) _
    refine XS.iloadN X22.here hx rfl (hb hby d15_10) rfl ?_
    show Go _ _ _ _ (mkF m 11 _ [(.int 6), (.int 0)]) _
    refine XS.icmpNo X22.here hx rfl (hb hby d15_11) rfl (tlt (by decide : (0 : Int32) < (6 : Int32))).2.1 ?_
    show Go _ _ _ _ (mkF m 14 _ []) _
    refine XS.aloadN X22.here hx rfl (hb hby d15_14) rfl rfl ?_
    show Go _ _ _ _ (mkF m 15 _ [(.ref b_22)]) _
    refine XS.iload X22.here hx rfl (hb hby d15_15) rfl ?_
    show Go _ _ _ _ (mkF m 17 _ [(.int 0), (.ref b_22)]) _
    refine XS.aloadN X22.here hx rfl (hb hby d15_17) rfl rfl ?_
    show Go _ _ _ _ (mkF m 18 _ [(.ref a1), (.int 0), (.ref b_22)]) _
    refine XS.iloadN X22.here hx rfl (hb hby d15_18) rfl ?_
    exact kt))
  obtain ⟨c29, Ar29, -, S29, N29, H29, -⟩ := id f28
  have q31 := fun t (kt : Go p e below T22 (mkF m 20 #[vR a1, vI 0, vI 6, vR b_22, vI 0] [(.int c0), (.int 0), (.ref b_22)]) t) => q30 t (by
    show Go _ _ _ _ (mkF m 19 #[vR a1, vI 0, vI 6, vR b_22, vI 0] [(.int 0), (.ref a1), (.int 0), (.ref b_22)]) _
    refine X22.caload hx (j := (0 : Int32)) (v := (.int c0)) Ar29.1 (State.isArrayOf_alike hZ.alike Ar29.2.1) Ar29.2.2 (inb_of S29 ⟨by decide, by decide⟩) (Has.at H29 (inb_of S29 ⟨by decide, by decide⟩) rfl) (g := (mkF m 19 #[vR a1, vI 0, vI 6, vR b_22, vI 0] [(.int 0), (.ref a1), (.int 0), (.ref b_22)])) rfl rfl (hb hby d15_19) _ ?_
    exact kt)
  obtain ⟨_, _, ⟨T32, L32, k32, n32⟩, -, X32, ⟨_, hQ32, l32, y32, z32⟩, st32⟩ := Jvm.LawKit.callS X22 hx (y := ym1) hown (ow hZ hw 73 rfl) (ow hZ hw 74 rfl) (ow hZ hw 25 rfl) (ow hZ hw 75 rfl) (by decide) (backOf (W := 0) (rm18 l Z a0 hw [] cx b_22 kb_22 (0 : Int32) c0 (12 : Int32) [(.int 0), (.int 0), (.int 0), (.int 0), (.int 0), (.int 0), (.int 0), (.int 0), (.int 0), (.int 0), (.int 0), (.int 0)] 0 T22.heap n0 O26 fq22_0 gg24 (by decide) (by decide) (by decide) (by decide) (by decide) rfl) hZ (ov hw 75 rfl) (ov hw 25 rfl) (by decide) (by decide)) (g := (mkF m 20 #[vR a1, vI 0, vI 6, vR b_22, vI 0] [(.int c0), (.int 0), (.ref b_22)])) rfl (by rw [hml]; rfl) (argsL := [(.ref b_22), (.int 0), (.int c0)]) (rest := []) (lenOf pd_2 rfl) rfl own_le0 (hb hby d15_20) (fun _ _ => ⟨rfl, rfl, (by decide : 1 + 0 ≤ _), (by decide : 12 + 0 ≤ _)⟩)
  dsimp only [Pt.U, Pt.locs, Pt.cells, Pt.slots] at X32 l32 y32 z32 st32 hQ32
  subst l32 y32 z32
  obtain ⟨rfl, Nq32, Kq32, fq32_0⟩ := hQ32
  have N33 := Fr.app N23 Nq32
  have O34 := O26.keep Kq32 (allS gg24 all0)
  have K35 := K27.trans Kq32 (allS (Or.inr sz25) all0)
  have Vp36 : Arv Z T32.heap b_22 kb_22 .byte (12 : Int32) [(.int (own_hb c0)), (.int (own_lb c0)), (.int 0), (.int 0), (.int 0), (.int 0), (.int 0), (.int 0), (.int 0), (.int 0), (.int 0), (.int 0)] (.int 0) := fq32_0
  have ne37 : a1 ≠ b_22 := (Nat.ne_of_lt (Nat.lt_of_lt_of_le G0.lt fr22_0))
  have f38 := (f28.keep Kq32 (ninS ne37 nin0))
  have q40 := fun t (kt : Go p e below T32 (mkF m 19 #[vR a1, vI 1, vI 6, vR b_22, vI 1] [(.int 1), (.ref a1), (.int 1), (.ref b_22)]) t) => q31 t (st32 t (by
    show Go _ _ _ _ (mkF m 23 #[vR a1, vI 0, vI 6, vR b_22, vI 0] []) _
    refine XS.iinc X32.here hx rfl (hb hby d15_23) rfl (l' := #[vR a1, vI 1, vI 6, vR b_22, vI 0]) rfl ?_
    show Go _ _ _ _ (mkF m 26 #[vR a1, vI 1, vI 6, vR b_22, vI 0] []) _
    refine XS.iinc X32.here hx rfl (hb hby d15_26) rfl (l' := #[vR a1, vI 1, vI 6, vR b_22, vI 1]) rfl ?_
    show Go _ _ _ _ (mkF m 29 #[vR a1, vI 1, vI 6, vR b_22, vI 1] []) _
    refine XS.goto X32.here hx rfl (pc0 := 29) (pc' := 8) rfl (hb hby d15_29) (by decide) (by decide) ?_
    show Go _ _ _ _ (mkF m 8 _ []) _
    refine XS.iload X32.here hx rfl (hb hby d15_8) rfl ?_
    show Go _ _ _ _ (mkF m 10 _ [(.int 1)]) _
    refine XS.iloadN X32.here hx rfl (hb hby d15_10) rfl ?_
    show Go _ _ _ _ (mkF m 11 _ [(.int 6), (.int 1)]) _
    refine XS.icmpNo X32.here hx rfl (hb hby d15_11) rfl (tlt (by decide : (1 : Int32) < (6 : Int32))).2.1 ?_
    show Go _ _ _ _ (mkF m 14 _ []) _
    refine XS.aloadN X32.here hx rfl (hb hby d15_14) rfl rfl ?_
    show Go _ _ _ _ (mkF m 15 _ [(.ref b_22)]) _
    refine XS.iload X32.here hx rfl (hb hby d15_15) rfl ?_
    show Go _ _ _ _ (mkF m 17 _ [(.int 1), (.ref b_22)]) _
    refine XS.aloadN X32.here hx rfl (hb hby d15_17) rfl rfl ?_
    show Go _ _ _ _ (mkF m 18 _ [(.ref a1), (.int 1), (.ref b_22)]) _
    refine XS.iloadN X32.here hx rfl (hb hby d15_18) rfl ?_
    exact kt))
  obtain ⟨c39, Ar39, -, S39, N39, H39, -⟩ := id f38
  have q41 := fun t (kt : Go p e below T32 (mkF m 20 #[vR a1, vI 1, vI 6, vR b_22, vI 1] [(.int c1), (.int 1), (.ref b_22)]) t) => q40 t (by
    show Go _ _ _ _ (mkF m 19 #[vR a1, vI 1, vI 6, vR b_22, vI 1] [(.int 1), (.ref a1), (.int 1), (.ref b_22)]) _
    refine X32.caload hx (j := (1 : Int32)) (v := (.int c1)) Ar39.1 (State.isArrayOf_alike hZ.alike Ar39.2.1) Ar39.2.2 (inb_of S39 ⟨by decide, by decide⟩) (Has.at H39 (inb_of S39 ⟨by decide, by decide⟩) rfl) (g := (mkF m 19 #[vR a1, vI 1, vI 6, vR b_22, vI 1] [(.int 1), (.ref a1), (.int 1), (.ref b_22)])) rfl rfl (hb hby d15_19) _ ?_
    exact kt)
  obtain ⟨_, _, ⟨T42, L42, k42, n42⟩, -, X42, ⟨_, hQ42, l42, y42, z42⟩, st42⟩ := Jvm.LawKit.callS X32 hx (y := ym1) hown (ow hZ hw 73 rfl) (ow hZ hw 74 rfl) (ow hZ hw 25 rfl) (ow hZ hw 75 rfl) (by decide) (backOf (W := 0) (rm18 l Z a0 hw [] cx b_22 kb_22 (1 : Int32) c1 (12 : Int32) [(.int (own_hb c0)), (.int (own_lb c0)), (.int 0), (.int 0), (.int 0), (.int 0), (.int 0), (.int 0), (.int 0), (.int 0), (.int 0), (.int 0)] 2 T32.heap n0 O34 Vp36 gg24 (by decide) (by decide) (by decide) (by decide) (by decide) rfl) hZ (ov hw 75 rfl) (ov hw 25 rfl) (by decide) (by decide)) (g := (mkF m 20 #[vR a1, vI 1, vI 6, vR b_22, vI 1] [(.int c1), (.int 1), (.ref b_22)])) rfl (by rw [hml]; rfl) (argsL := [(.ref b_22), (.int 1), (.int c1)]) (rest := []) (lenOf pd_2 rfl) rfl own_le0 (hb hby d15_20) (fun _ _ => ⟨rfl, rfl, (by decide : 1 + 0 ≤ _), (by decide : 12 + 0 ≤ _)⟩)
  dsimp only [Pt.U, Pt.locs, Pt.cells, Pt.slots] at X42 l42 y42 z42 st42 hQ42
  subst l42 y42 z42
  obtain ⟨rfl, Nq42, Kq42, fq42_0⟩ := hQ42
  have N43 := Fr.app N33 Nq42
  have O44 := O34.keep Kq42 (allS gg24 all0)
  have K45 := K35.trans Kq42 (allS (Or.inr sz25) all0)
  have Vp46 : Arv Z T42.heap b_22 kb_22 .byte (12 : Int32) [(.int (own_hb c0)), (.int (own_lb c0)), (.int (own_hb c1)), (.int (own_lb c1)), (.int 0), (.int 0), (.int 0), (.int 0), (.int 0), (.int 0), (.int 0), (.int 0)] (.int 0) := fq42_0
  have f47 := (f38.keep Kq42 (ninS ne37 nin0))
  have q49 := fun t (kt : Go p e below T42 (mkF m 19 #[vR a1, vI 2, vI 6, vR b_22, vI 2] [(.int 2), (.ref a1), (.int 2), (.ref b_22)]) t) => q41 t (st42 t (by
    show Go _ _ _ _ (mkF m 23 #[vR a1, vI 1, vI 6, vR b_22, vI 1] []) _
    refine XS.iinc X42.here hx rfl (hb hby d15_23) rfl (l' := #[vR a1, vI 2, vI 6, vR b_22, vI 1]) rfl ?_
    show Go _ _ _ _ (mkF m 26 #[vR a1, vI 2, vI 6, vR b_22, vI 1] []) _
    refine XS.iinc X42.here hx rfl (hb hby d15_26) rfl (l' := #[vR a1, vI 2, vI 6, vR b_22, vI 2]) rfl ?_
    show Go _ _ _ _ (mkF m 29 #[vR a1, vI 2, vI 6, vR b_22, vI 2] []) _
    refine XS.goto X42.here hx rfl (pc0 := 29) (pc' := 8) rfl (hb hby d15_29) (by decide) (by decide) ?_
    show Go _ _ _ _ (mkF m 8 _ []) _
    refine XS.iload X42.here hx rfl (hb hby d15_8) rfl ?_
    show Go _ _ _ _ (mkF m 10 _ [(.int 2)]) _
    refine XS.iloadN X42.here hx rfl (hb hby d15_10) rfl ?_
    show Go _ _ _ _ (mkF m 11 _ [(.int 6), (.int 2)]) _
    refine XS.icmpNo X42.here hx rfl (hb hby d15_11) rfl (tlt (by decide : (2 : Int32) < (6 : Int32))).2.1 ?_
    show Go _ _ _ _ (mkF m 14 _ []) _
    refine XS.aloadN X42.here hx rfl (hb hby d15_14) rfl rfl ?_
    show Go _ _ _ _ (mkF m 15 _ [(.ref b_22)]) _
    refine XS.iload X42.here hx rfl (hb hby d15_15) rfl ?_
    show Go _ _ _ _ (mkF m 17 _ [(.int 2), (.ref b_22)]) _
    refine XS.aloadN X42.here hx rfl (hb hby d15_17) rfl rfl ?_
    show Go _ _ _ _ (mkF m 18 _ [(.ref a1), (.int 2), (.ref b_22)]) _
    refine XS.iloadN X42.here hx rfl (hb hby d15_18) rfl ?_
    exact kt))
  obtain ⟨c48, Ar48, -, S48, N48, H48, -⟩ := id f47
  have q50 := fun t (kt : Go p e below T42 (mkF m 20 #[vR a1, vI 2, vI 6, vR b_22, vI 2] [(.int c2), (.int 2), (.ref b_22)]) t) => q49 t (by
    show Go _ _ _ _ (mkF m 19 #[vR a1, vI 2, vI 6, vR b_22, vI 2] [(.int 2), (.ref a1), (.int 2), (.ref b_22)]) _
    refine X42.caload hx (j := (2 : Int32)) (v := (.int c2)) Ar48.1 (State.isArrayOf_alike hZ.alike Ar48.2.1) Ar48.2.2 (inb_of S48 ⟨by decide, by decide⟩) (Has.at H48 (inb_of S48 ⟨by decide, by decide⟩) rfl) (g := (mkF m 19 #[vR a1, vI 2, vI 6, vR b_22, vI 2] [(.int 2), (.ref a1), (.int 2), (.ref b_22)])) rfl rfl (hb hby d15_19) _ ?_
    exact kt)
  obtain ⟨_, _, ⟨T51, L51, k51, n51⟩, -, X51, ⟨_, hQ51, l51, y51, z51⟩, st51⟩ := Jvm.LawKit.callS X42 hx (y := ym1) hown (ow hZ hw 73 rfl) (ow hZ hw 74 rfl) (ow hZ hw 25 rfl) (ow hZ hw 75 rfl) (by decide) (backOf (W := 0) (rm18 l Z a0 hw [] cx b_22 kb_22 (2 : Int32) c2 (12 : Int32) [(.int (own_hb c0)), (.int (own_lb c0)), (.int (own_hb c1)), (.int (own_lb c1)), (.int 0), (.int 0), (.int 0), (.int 0), (.int 0), (.int 0), (.int 0), (.int 0)] 4 T42.heap n0 O44 Vp46 gg24 (by decide) (by decide) (by decide) (by decide) (by decide) rfl) hZ (ov hw 75 rfl) (ov hw 25 rfl) (by decide) (by decide)) (g := (mkF m 20 #[vR a1, vI 2, vI 6, vR b_22, vI 2] [(.int c2), (.int 2), (.ref b_22)])) rfl (by rw [hml]; rfl) (argsL := [(.ref b_22), (.int 2), (.int c2)]) (rest := []) (lenOf pd_2 rfl) rfl own_le0 (hb hby d15_20) (fun _ _ => ⟨rfl, rfl, (by decide : 1 + 0 ≤ _), (by decide : 12 + 0 ≤ _)⟩)
  dsimp only [Pt.U, Pt.locs, Pt.cells, Pt.slots] at X51 l51 y51 z51 st51 hQ51
  subst l51 y51 z51
  obtain ⟨rfl, Nq51, Kq51, fq51_0⟩ := hQ51
  have N52 := Fr.app N43 Nq51
  have O53 := O44.keep Kq51 (allS gg24 all0)
  have K54 := K45.trans Kq51 (allS (Or.inr sz25) all0)
  have Vp55 : Arv Z T51.heap b_22 kb_22 .byte (12 : Int32) [(.int (own_hb c0)), (.int (own_lb c0)), (.int (own_hb c1)), (.int (own_lb c1)), (.int (own_hb c2)), (.int (own_lb c2)), (.int 0), (.int 0), (.int 0), (.int 0), (.int 0), (.int 0)] (.int 0) := fq51_0
  have f56 := (f47.keep Kq51 (ninS ne37 nin0))
  have q58 := fun t (kt : Go p e below T51 (mkF m 19 #[vR a1, vI 3, vI 6, vR b_22, vI 3] [(.int 3), (.ref a1), (.int 3), (.ref b_22)]) t) => q50 t (st51 t (by
    show Go _ _ _ _ (mkF m 23 #[vR a1, vI 2, vI 6, vR b_22, vI 2] []) _
    refine XS.iinc X51.here hx rfl (hb hby d15_23) rfl (l' := #[vR a1, vI 3, vI 6, vR b_22, vI 2]) rfl ?_
    show Go _ _ _ _ (mkF m 26 #[vR a1, vI 3, vI 6, vR b_22, vI 2] []) _
    refine XS.iinc X51.here hx rfl (hb hby d15_26) rfl (l' := #[vR a1, vI 3, vI 6, vR b_22, vI 3]) rfl ?_
    show Go _ _ _ _ (mkF m 29 #[vR a1, vI 3, vI 6, vR b_22, vI 3] []) _
    refine XS.goto X51.here hx rfl (pc0 := 29) (pc' := 8) rfl (hb hby d15_29) (by decide) (by decide) ?_
    show Go _ _ _ _ (mkF m 8 _ []) _
    refine XS.iload X51.here hx rfl (hb hby d15_8) rfl ?_
    show Go _ _ _ _ (mkF m 10 _ [(.int 3)]) _
    refine XS.iloadN X51.here hx rfl (hb hby d15_10) rfl ?_
    show Go _ _ _ _ (mkF m 11 _ [(.int 6), (.int 3)]) _
    refine XS.icmpNo X51.here hx rfl (hb hby d15_11) rfl (tlt (by decide : (3 : Int32) < (6 : Int32))).2.1 ?_
    show Go _ _ _ _ (mkF m 14 _ []) _
    refine XS.aloadN X51.here hx rfl (hb hby d15_14) rfl rfl ?_
    show Go _ _ _ _ (mkF m 15 _ [(.ref b_22)]) _
    refine XS.iload X51.here hx rfl (hb hby d15_15) rfl ?_
    show Go _ _ _ _ (mkF m 17 _ [(.int 3), (.ref b_22)]) _
    refine XS.aloadN X51.here hx rfl (hb hby d15_17) rfl rfl ?_
    show Go _ _ _ _ (mkF m 18 _ [(.ref a1), (.int 3), (.ref b_22)]) _
    refine XS.iloadN X51.here hx rfl (hb hby d15_18) rfl ?_
    exact kt))
  obtain ⟨c57, Ar57, -, S57, N57, H57, -⟩ := id f56
  have q59 := fun t (kt : Go p e below T51 (mkF m 20 #[vR a1, vI 3, vI 6, vR b_22, vI 3] [(.int c3), (.int 3), (.ref b_22)]) t) => q58 t (by
    show Go _ _ _ _ (mkF m 19 #[vR a1, vI 3, vI 6, vR b_22, vI 3] [(.int 3), (.ref a1), (.int 3), (.ref b_22)]) _
    refine X51.caload hx (j := (3 : Int32)) (v := (.int c3)) Ar57.1 (State.isArrayOf_alike hZ.alike Ar57.2.1) Ar57.2.2 (inb_of S57 ⟨by decide, by decide⟩) (Has.at H57 (inb_of S57 ⟨by decide, by decide⟩) rfl) (g := (mkF m 19 #[vR a1, vI 3, vI 6, vR b_22, vI 3] [(.int 3), (.ref a1), (.int 3), (.ref b_22)])) rfl rfl (hb hby d15_19) _ ?_
    exact kt)
  obtain ⟨_, _, ⟨T60, L60, k60, n60⟩, -, X60, ⟨_, hQ60, l60, y60, z60⟩, st60⟩ := Jvm.LawKit.callS X51 hx (y := ym1) hown (ow hZ hw 73 rfl) (ow hZ hw 74 rfl) (ow hZ hw 25 rfl) (ow hZ hw 75 rfl) (by decide) (backOf (W := 0) (rm18 l Z a0 hw [] cx b_22 kb_22 (3 : Int32) c3 (12 : Int32) [(.int (own_hb c0)), (.int (own_lb c0)), (.int (own_hb c1)), (.int (own_lb c1)), (.int (own_hb c2)), (.int (own_lb c2)), (.int 0), (.int 0), (.int 0), (.int 0), (.int 0), (.int 0)] 6 T51.heap n0 O53 Vp55 gg24 (by decide) (by decide) (by decide) (by decide) (by decide) rfl) hZ (ov hw 75 rfl) (ov hw 25 rfl) (by decide) (by decide)) (g := (mkF m 20 #[vR a1, vI 3, vI 6, vR b_22, vI 3] [(.int c3), (.int 3), (.ref b_22)])) rfl (by rw [hml]; rfl) (argsL := [(.ref b_22), (.int 3), (.int c3)]) (rest := []) (lenOf pd_2 rfl) rfl own_le0 (hb hby d15_20) (fun _ _ => ⟨rfl, rfl, (by decide : 1 + 0 ≤ _), (by decide : 12 + 0 ≤ _)⟩)
  dsimp only [Pt.U, Pt.locs, Pt.cells, Pt.slots] at X60 l60 y60 z60 st60 hQ60
  subst l60 y60 z60
  obtain ⟨rfl, Nq60, Kq60, fq60_0⟩ := hQ60
  have N61 := Fr.app N52 Nq60
  have O62 := O53.keep Kq60 (allS gg24 all0)
  have K63 := K54.trans Kq60 (allS (Or.inr sz25) all0)
  have Vp64 : Arv Z T60.heap b_22 kb_22 .byte (12 : Int32) [(.int (own_hb c0)), (.int (own_lb c0)), (.int (own_hb c1)), (.int (own_lb c1)), (.int (own_hb c2)), (.int (own_lb c2)), (.int (own_hb c3)), (.int (own_lb c3)), (.int 0), (.int 0), (.int 0), (.int 0)] (.int 0) := fq60_0
  have f65 := (f56.keep Kq60 (ninS ne37 nin0))
  have q67 := fun t (kt : Go p e below T60 (mkF m 19 #[vR a1, vI 4, vI 6, vR b_22, vI 4] [(.int 4), (.ref a1), (.int 4), (.ref b_22)]) t) => q59 t (st60 t (by
    show Go _ _ _ _ (mkF m 23 #[vR a1, vI 3, vI 6, vR b_22, vI 3] []) _
    refine XS.iinc X60.here hx rfl (hb hby d15_23) rfl (l' := #[vR a1, vI 4, vI 6, vR b_22, vI 3]) rfl ?_
    show Go _ _ _ _ (mkF m 26 #[vR a1, vI 4, vI 6, vR b_22, vI 3] []) _
    refine XS.iinc X60.here hx rfl (hb hby d15_26) rfl (l' := #[vR a1, vI 4, vI 6, vR b_22, vI 4]) rfl ?_
    show Go _ _ _ _ (mkF m 29 #[vR a1, vI 4, vI 6, vR b_22, vI 4] []) _
    refine XS.goto X60.here hx rfl (pc0 := 29) (pc' := 8) rfl (hb hby d15_29) (by decide) (by decide) ?_
    show Go _ _ _ _ (mkF m 8 _ []) _
    refine XS.iload X60.here hx rfl (hb hby d15_8) rfl ?_
    show Go _ _ _ _ (mkF m 10 _ [(.int 4)]) _
    refine XS.iloadN X60.here hx rfl (hb hby d15_10) rfl ?_
    show Go _ _ _ _ (mkF m 11 _ [(.int 6), (.int 4)]) _
    refine XS.icmpNo X60.here hx rfl (hb hby d15_11) rfl (tlt (by decide : (4 : Int32) < (6 : Int32))).2.1 ?_
    show Go _ _ _ _ (mkF m 14 _ []) _
    refine XS.aloadN X60.here hx rfl (hb hby d15_14) rfl rfl ?_
    show Go _ _ _ _ (mkF m 15 _ [(.ref b_22)]) _
    refine XS.iload X60.here hx rfl (hb hby d15_15) rfl ?_
    show Go _ _ _ _ (mkF m 17 _ [(.int 4), (.ref b_22)]) _
    refine XS.aloadN X60.here hx rfl (hb hby d15_17) rfl rfl ?_
    show Go _ _ _ _ (mkF m 18 _ [(.ref a1), (.int 4), (.ref b_22)]) _
    refine XS.iloadN X60.here hx rfl (hb hby d15_18) rfl ?_
    exact kt))
  obtain ⟨c66, Ar66, -, S66, N66, H66, -⟩ := id f65
  have q68 := fun t (kt : Go p e below T60 (mkF m 20 #[vR a1, vI 4, vI 6, vR b_22, vI 4] [(.int c4), (.int 4), (.ref b_22)]) t) => q67 t (by
    show Go _ _ _ _ (mkF m 19 #[vR a1, vI 4, vI 6, vR b_22, vI 4] [(.int 4), (.ref a1), (.int 4), (.ref b_22)]) _
    refine X60.caload hx (j := (4 : Int32)) (v := (.int c4)) Ar66.1 (State.isArrayOf_alike hZ.alike Ar66.2.1) Ar66.2.2 (inb_of S66 ⟨by decide, by decide⟩) (Has.at H66 (inb_of S66 ⟨by decide, by decide⟩) rfl) (g := (mkF m 19 #[vR a1, vI 4, vI 6, vR b_22, vI 4] [(.int 4), (.ref a1), (.int 4), (.ref b_22)])) rfl rfl (hb hby d15_19) _ ?_
    exact kt)
  obtain ⟨_, _, ⟨T69, L69, k69, n69⟩, -, X69, ⟨_, hQ69, l69, y69, z69⟩, st69⟩ := Jvm.LawKit.callS X60 hx (y := ym1) hown (ow hZ hw 73 rfl) (ow hZ hw 74 rfl) (ow hZ hw 25 rfl) (ow hZ hw 75 rfl) (by decide) (backOf (W := 0) (rm18 l Z a0 hw [] cx b_22 kb_22 (4 : Int32) c4 (12 : Int32) [(.int (own_hb c0)), (.int (own_lb c0)), (.int (own_hb c1)), (.int (own_lb c1)), (.int (own_hb c2)), (.int (own_lb c2)), (.int (own_hb c3)), (.int (own_lb c3)), (.int 0), (.int 0), (.int 0), (.int 0)] 8 T60.heap n0 O62 Vp64 gg24 (by decide) (by decide) (by decide) (by decide) (by decide) rfl) hZ (ov hw 75 rfl) (ov hw 25 rfl) (by decide) (by decide)) (g := (mkF m 20 #[vR a1, vI 4, vI 6, vR b_22, vI 4] [(.int c4), (.int 4), (.ref b_22)])) rfl (by rw [hml]; rfl) (argsL := [(.ref b_22), (.int 4), (.int c4)]) (rest := []) (lenOf pd_2 rfl) rfl own_le0 (hb hby d15_20) (fun _ _ => ⟨rfl, rfl, (by decide : 1 + 0 ≤ _), (by decide : 12 + 0 ≤ _)⟩)
  dsimp only [Pt.U, Pt.locs, Pt.cells, Pt.slots] at X69 l69 y69 z69 st69 hQ69
  subst l69 y69 z69
  obtain ⟨rfl, Nq69, Kq69, fq69_0⟩ := hQ69
  have N70 := Fr.app N61 Nq69
  have O71 := O62.keep Kq69 (allS gg24 all0)
  have K72 := K63.trans Kq69 (allS (Or.inr sz25) all0)
  have Vp73 : Arv Z T69.heap b_22 kb_22 .byte (12 : Int32) [(.int (own_hb c0)), (.int (own_lb c0)), (.int (own_hb c1)), (.int (own_lb c1)), (.int (own_hb c2)), (.int (own_lb c2)), (.int (own_hb c3)), (.int (own_lb c3)), (.int (own_hb c4)), (.int (own_lb c4)), (.int 0), (.int 0)] (.int 0) := fq69_0
  have f74 := (f65.keep Kq69 (ninS ne37 nin0))
  have q76 := fun t (kt : Go p e below T69 (mkF m 19 #[vR a1, vI 5, vI 6, vR b_22, vI 5] [(.int 5), (.ref a1), (.int 5), (.ref b_22)]) t) => q68 t (st69 t (by
    show Go _ _ _ _ (mkF m 23 #[vR a1, vI 4, vI 6, vR b_22, vI 4] []) _
    refine XS.iinc X69.here hx rfl (hb hby d15_23) rfl (l' := #[vR a1, vI 5, vI 6, vR b_22, vI 4]) rfl ?_
    show Go _ _ _ _ (mkF m 26 #[vR a1, vI 5, vI 6, vR b_22, vI 4] []) _
    refine XS.iinc X69.here hx rfl (hb hby d15_26) rfl (l' := #[vR a1, vI 5, vI 6, vR b_22, vI 5]) rfl ?_
    show Go _ _ _ _ (mkF m 29 #[vR a1, vI 5, vI 6, vR b_22, vI 5] []) _
    refine XS.goto X69.here hx rfl (pc0 := 29) (pc' := 8) rfl (hb hby d15_29) (by decide) (by decide) ?_
    show Go _ _ _ _ (mkF m 8 _ []) _
    refine XS.iload X69.here hx rfl (hb hby d15_8) rfl ?_
    show Go _ _ _ _ (mkF m 10 _ [(.int 5)]) _
    refine XS.iloadN X69.here hx rfl (hb hby d15_10) rfl ?_
    show Go _ _ _ _ (mkF m 11 _ [(.int 6), (.int 5)]) _
    refine XS.icmpNo X69.here hx rfl (hb hby d15_11) rfl (tlt (by decide : (5 : Int32) < (6 : Int32))).2.1 ?_
    show Go _ _ _ _ (mkF m 14 _ []) _
    refine XS.aloadN X69.here hx rfl (hb hby d15_14) rfl rfl ?_
    show Go _ _ _ _ (mkF m 15 _ [(.ref b_22)]) _
    refine XS.iload X69.here hx rfl (hb hby d15_15) rfl ?_
    show Go _ _ _ _ (mkF m 17 _ [(.int 5), (.ref b_22)]) _
    refine XS.aloadN X69.here hx rfl (hb hby d15_17) rfl rfl ?_
    show Go _ _ _ _ (mkF m 18 _ [(.ref a1), (.int 5), (.ref b_22)]) _
    refine XS.iloadN X69.here hx rfl (hb hby d15_18) rfl ?_
    exact kt))
  obtain ⟨c75, Ar75, -, S75, N75, H75, -⟩ := id f74
  have q77 := fun t (kt : Go p e below T69 (mkF m 20 #[vR a1, vI 5, vI 6, vR b_22, vI 5] [(.int c5), (.int 5), (.ref b_22)]) t) => q76 t (by
    show Go _ _ _ _ (mkF m 19 #[vR a1, vI 5, vI 6, vR b_22, vI 5] [(.int 5), (.ref a1), (.int 5), (.ref b_22)]) _
    refine X69.caload hx (j := (5 : Int32)) (v := (.int c5)) Ar75.1 (State.isArrayOf_alike hZ.alike Ar75.2.1) Ar75.2.2 (inb_of S75 ⟨by decide, by decide⟩) (Has.at H75 (inb_of S75 ⟨by decide, by decide⟩) rfl) (g := (mkF m 19 #[vR a1, vI 5, vI 6, vR b_22, vI 5] [(.int 5), (.ref a1), (.int 5), (.ref b_22)])) rfl rfl (hb hby d15_19) _ ?_
    exact kt)
  obtain ⟨_, _, ⟨T78, L78, k78, n78⟩, -, X78, ⟨_, hQ78, l78, y78, z78⟩, st78⟩ := Jvm.LawKit.callS X69 hx (y := ym1) hown (ow hZ hw 73 rfl) (ow hZ hw 74 rfl) (ow hZ hw 25 rfl) (ow hZ hw 75 rfl) (by decide) (backOf (W := 0) (rm18 l Z a0 hw [] cx b_22 kb_22 (5 : Int32) c5 (12 : Int32) [(.int (own_hb c0)), (.int (own_lb c0)), (.int (own_hb c1)), (.int (own_lb c1)), (.int (own_hb c2)), (.int (own_lb c2)), (.int (own_hb c3)), (.int (own_lb c3)), (.int (own_hb c4)), (.int (own_lb c4)), (.int 0), (.int 0)] 10 T69.heap n0 O71 Vp73 gg24 (by decide) (by decide) (by decide) (by decide) (by decide) rfl) hZ (ov hw 75 rfl) (ov hw 25 rfl) (by decide) (by decide)) (g := (mkF m 20 #[vR a1, vI 5, vI 6, vR b_22, vI 5] [(.int c5), (.int 5), (.ref b_22)])) rfl (by rw [hml]; rfl) (argsL := [(.ref b_22), (.int 5), (.int c5)]) (rest := []) (lenOf pd_2 rfl) rfl own_le0 (hb hby d15_20) (fun _ _ => ⟨rfl, rfl, (by decide : 1 + 0 ≤ _), (by decide : 12 + 0 ≤ _)⟩)
  dsimp only [Pt.U, Pt.locs, Pt.cells, Pt.slots] at X78 l78 y78 z78 st78 hQ78
  subst l78 y78 z78
  obtain ⟨rfl, Nq78, Kq78, fq78_0⟩ := hQ78
  have N79 := Fr.app N70 Nq78
  have O80 := O71.keep Kq78 (allS gg24 all0)
  have K81 := K72.trans Kq78 (allS (Or.inr sz25) all0)
  have Vp82 : Arv Z T78.heap b_22 kb_22 .byte (12 : Int32) [(.int (own_hb c0)), (.int (own_lb c0)), (.int (own_hb c1)), (.int (own_lb c1)), (.int (own_hb c2)), (.int (own_lb c2)), (.int (own_hb c3)), (.int (own_lb c3)), (.int (own_hb c4)), (.int (own_lb c4)), (.int (own_hb c5)), (.int (own_lb c5))] (.int 0) := fq78_0
  have q83 := fun t (kt : Go p e below T78 (mkF m 33 #[vR a1, vI 6, vI 6, vR b_22, vI 6] [(.ref b_22)]) t) => q77 t (st78 t (by
    show Go _ _ _ _ (mkF m 23 #[vR a1, vI 5, vI 6, vR b_22, vI 5] []) _
    refine XS.iinc X78.here hx rfl (hb hby d15_23) rfl (l' := #[vR a1, vI 6, vI 6, vR b_22, vI 5]) rfl ?_
    show Go _ _ _ _ (mkF m 26 #[vR a1, vI 6, vI 6, vR b_22, vI 5] []) _
    refine XS.iinc X78.here hx rfl (hb hby d15_26) rfl (l' := #[vR a1, vI 6, vI 6, vR b_22, vI 6]) rfl ?_
    show Go _ _ _ _ (mkF m 29 #[vR a1, vI 6, vI 6, vR b_22, vI 6] []) _
    refine XS.goto X78.here hx rfl (pc0 := 29) (pc' := 8) rfl (hb hby d15_29) (by decide) (by decide) ?_
    show Go _ _ _ _ (mkF m 8 _ []) _
    refine XS.iload X78.here hx rfl (hb hby d15_8) rfl ?_
    show Go _ _ _ _ (mkF m 10 _ [(.int 6)]) _
    refine XS.iloadN X78.here hx rfl (hb hby d15_10) rfl ?_
    show Go _ _ _ _ (mkF m 11 _ [(.int 6), (.int 6)]) _
    refine XS.icmpYes X78.here hx rfl (pc0 := 11) (pc' := 32) rfl (hb hby d15_11) rfl (flt (by decide : ¬ ((6 : Int32) < (6 : Int32)))).2.1 (by decide) (by decide) ?_
    show Go _ _ _ _ (mkF m 32 _ []) _
    refine XS.aloadN X78.here hx rfl (hb hby d15_32) rfl rfl ?_
    exact kt))
  exact ⟨some (.ref b_22), T78, _, _, _, _, X78, by decide, by decide, nofun, q83, fun fs hr => retOut X78 hx hret rfl (o4 ⟨rfl, rfl, rfl⟩) (hb hby d15_33) hr, ⟨b_22, kb_22, rfl, N79, K81, sz25, Vp82⟩⟩
def Q_rm7_6 (Z : State) (a1 : Addr) (b : Addr) (ka : ClassId) (kb : ClassId) (c0 : Int32) (c1 : Int32) (c2 : Int32) (c3 : Int32) (c4 : Int32) (c5 : Int32) (z_cs : Int32) (h0 : Heap) (n0 : Nat) (v : Option Value) (h : Heap) (L : List Loc) : Prop := ∃ (r : Int32), v = some (.int r) ∧ Fr n0 L ∧ Keep h0 h [b] ∧ ((r = (0 : Int32) ∧ (255 : Int32) < c0) ∨ (r = (1 : Int32) ∧ (255 : Int32) < c1) ∨ (r = (2 : Int32) ∧ (255 : Int32) < c2) ∨ (r = (3 : Int32) ∧ (255 : Int32) < c3) ∨ (r = (4 : Int32) ∧ (255 : Int32) < c4) ∨ (r = (5 : Int32) ∧ (255 : Int32) < c5))
theorem rm7_6 (l : Launch) (Z : State) (a0 : Array Value) (hw : ∀ d ∈ tables_1, d.before a0 Z = true) (ws : List Jvm.Cond) {z_cs : Int32} (cx : Cx Z z_cs) (a1 : Addr) (b : Addr) (ka : ClassId) (kb : ClassId) (c0 : Int32) (c1 : Int32) (c2 : Int32) (c3 : Int32) (c4 : Int32) (c5 : Int32) (h0 : Heap) (n0 : Nat) (O0 : Old Z n0 h0) (G0 : Arv Z h0 a1 ka .char (6 : Int32) [(.int c0), (.int c1), (.int c2), (.int c3), (.int c4), (.int c5)] (.int 0)) (G1 : Arv Z h0 b kb .byte (6 : Int32) [(.int 0), (.int 0), (.int 0), (.int 0), (.int 0), (.int 0)] (.int 0)) (g_b : n0 ≤ b) (hB : (255 : Int32) < c0 ∨ (255 : Int32) < c1 ∨ (255 : Int32) < c2 ∨ (255 : Int32) < c3 ∨ (255 : Int32) < c4 ∨ (255 : Int32) < c5) (hne : a1 ≠ b) :
    OwnMet l ym6 (Jvm.Cond.code ym6 jdk_52_method_21_code 7 (some .int) :: ws) (own_R 0 0 0 0) #[(.ref a1), (.int 0), (.ref b), (.int 0), (.int 6)] Z h0 (Q_rm7_6 Z a1 b ka kb c0 c1 c2 c3 c4 c5 z_cs h0 n0) := by
  refine own_body (plainFor_of_name pn_7) hisR fun p e s m below meth c s₁ hx hby hml hown hnm hret hZ X0 e0 => ?_
  have N0 := Fr.nil n0
  have K0 : Keep h0 h0 [b] := Keep.refl _ _
  have pre0 : ∀ t, Go p e below s₁ (mkF m 0 #[vR a1, vI 0, vR b, vI 0, vI 6, vU, vU] []) t → Go p e below s₁ (entryFrame m #[(.ref a1), (.int 0), (.ref b), (.int 0), (.int 6)] 7) t := fun t k => castTop (ef_7_RIRII m a1 (0 : Int32) b (0 : Int32) (6 : Int32)) k
  have q22 := fun t (kt : Go p e below s₁ (mkF m 12 #[vR a1, vI 0, vR b, vI 0, vI 6, vI 0, vU] [(.int 0), (.ref a1)]) t) => pre0 t (by
    show Go _ _ _ _ (mkF m 0 #[vR a1, vI 0, vR b, vI 0, vI 6, vU, vU] []) _
    refine XS.iconst X0.here hx rfl (hb hby d7_0) ?_
    show Go _ _ _ _ (mkF m 1 _ [(.int 0)]) _
    refine XS.istore X0.here hx rfl (hb hby d7_1) rfl (l' := #[vR a1, vI 0, vR b, vI 0, vI 6, vI 0, vU]) rfl ?_
    show Go _ _ _ _ (mkF m 3 #[vR a1, vI 0, vR b, vI 0, vI 6, vI 0, vU] []) _
    refine XS.iload X0.here hx rfl (hb hby d7_3) rfl ?_
    show Go _ _ _ _ (mkF m 5 _ [(.int 0)]) _
    refine XS.iload X0.here hx rfl (hb hby d7_5) rfl ?_
    show Go _ _ _ _ (mkF m 7 _ [(.int 6), (.int 0)]) _
    refine XS.icmpNo X0.here hx rfl (hb hby d7_7) rfl (tlt (by decide : (0 : Int32) < (6 : Int32))).2.1 ?_
    show Go _ _ _ _ (mkF m 10 _ []) _
    refine XS.aloadN X0.here hx rfl (hb hby d7_10) rfl rfl ?_
    show Go _ _ _ _ (mkF m 11 _ [(.ref a1)]) _
    refine XS.iloadN X0.here hx rfl (hb hby d7_11) rfl ?_
    exact kt)
  obtain ⟨c21, Ar21, -, S21, N21, H21, -⟩ := id G0
  have q23 := fun t (kt : Go p e below s₁ (mkF m 20 #[vR a1, vI 0, vR b, vI 0, vI 6, vI 0, vI c0] [(.int 255), (.int c0)]) t) => q22 t (by
    show Go _ _ _ _ (mkF m 12 #[vR a1, vI 0, vR b, vI 0, vI 6, vI 0, vU] [(.int 0), (.ref a1)]) _
    refine X0.caload hx (j := (0 : Int32)) (v := (.int c0)) (by rw [e0]; exact Ar21.1) (State.isArrayOf_alike hZ.alike Ar21.2.1) Ar21.2.2 (inb_of S21 ⟨by decide, by decide⟩) (Has.at H21 (inb_of S21 ⟨by decide, by decide⟩) rfl) (g := (mkF m 12 #[vR a1, vI 0, vR b, vI 0, vI 6, vI 0, vU] [(.int 0), (.ref a1)])) rfl rfl (hb hby d7_12) _ ?_
    show Go _ _ _ _ (mkF m 13 _ [(.int c0)]) _
    refine XS.istore X0.here hx rfl (hb hby d7_13) rfl (l' := #[vR a1, vI 0, vR b, vI 0, vI 6, vI 0, vI c0]) rfl ?_
    show Go _ _ _ _ (mkF m 15 #[vR a1, vI 0, vR b, vI 0, vI 6, vI 0, vI c0] []) _
    refine XS.iload X0.here hx rfl (hb hby d7_15) rfl ?_
    show Go _ _ _ _ (mkF m 17 _ [(.int c0)]) _
    refine XS.sipush X0.here hx rfl (hb hby d7_17) ?_
    exact kt)
  by_cases hc24 : (255 : Int32) < c0
  · have q25 := fun t (kt : Go p e below s₁ (mkF m 25 #[vR a1, vI 0, vR b, vI 0, vI 6, vI 0, vI c0] [(.int 0)]) t) => q23 t (by
      show Go _ _ _ _ (mkF m 20 #[vR a1, vI 0, vR b, vI 0, vI 6, vI 0, vI c0] [(.int 255), (.int c0)]) _
      refine XS.icmpNo X0.here hx rfl (hb hby d7_20) rfl (tlt hc24).2.2.2 ?_
      show Go _ _ _ _ (mkF m 23 _ []) _
      refine XS.iload X0.here hx rfl (hb hby d7_23) rfl ?_
      exact kt)
    exact ⟨some (.int 0), s₁, _, _, _, _, X0, by decide, by decide, nofun, q25, fun fs hr => retI X0 hx hret (hb hby d7_25) hr, by rw [e0]; exact ⟨(0 : Int32), rfl, N0, K0, (Or.inl ⟨rfl, hc24⟩)⟩⟩
  · have q27 := fun t (kt : Go p e below s₁ (mkF m 31 #[vR a1, vI 0, vR b, vI 0, vI 6, vI 0, vI c0] [(.int (c0.toInt8.toInt32)), (.int 0), (.ref b)]) t) => q23 t (by
      show Go _ _ _ _ (mkF m 20 #[vR a1, vI 0, vR b, vI 0, vI 6, vI 0, vI c0] [(.int 255), (.int c0)]) _
      refine XS.icmpYes X0.here hx rfl (pc0 := 20) (pc' := 26) rfl (hb hby d7_20) rfl (flt hc24).2.2.2 (by decide) (by decide) ?_
      show Go _ _ _ _ (mkF m 26 _ []) _
      refine XS.aloadN X0.here hx rfl (hb hby d7_26) rfl rfl ?_
      show Go _ _ _ _ (mkF m 27 _ [(.ref b)]) _
      refine XS.iloadN X0.here hx rfl (hb hby d7_27) rfl ?_
      show Go _ _ _ _ (mkF m 28 _ [(.int 0), (.ref b)]) _
      refine XS.iload X0.here hx rfl (hb hby d7_28) rfl ?_
      show Go _ _ _ _ (mkF m 30 _ [(.int c0), (.int 0), (.ref b)]) _
      refine XS.i2b X0.here hx rfl (hb hby d7_30) rfl ?_
      exact kt)
    obtain ⟨c26, Ar26, q26, S26, N26, H26, G26⟩ := id G1
    have hi26 : ¬ ((0 : Int32) < 0 ∨ c26.slots.size ≤ ((0 : Int32)).toNatClampNeg) := inb_of S26 ⟨by decide, by decide⟩
    obtain ⟨T28, h28, X28, e28, W28, st28⟩ := stB X0 hx hZ e0 Ar26 (j := (0 : Int32)) hi26 (g := (mkF m 31 #[vR a1, vI 0, vR b, vI 0, vI 6, vI 0, vI c0] [(.int (c0.toInt8.toInt32)), (.int 0), (.ref b)])) rfl rfl (hb hby d7_31)
    have V28 : Arv Z h28 b kb .byte (6 : Int32) [(.int (nar .byte (c0.toInt8.toInt32))), (.int 0), (.int 0), (.int 0), (.int 0), (.int 0)] (.int 0) := Arv.set Ar26 q26 S26 N26 H26 G26 (fits_nar_byte _) W28 0 rfl (Nat.le_of_ble_eq_true rfl)
    have N29 := Fr.snoc X28 N0 g_b
    have O30 := O0.wr W28 g_b
    have K31 := K0.wr W28 (Or.inl (List.mem_of_getElem? (i := 0) rfl))
    have f32 := (G0.other W28 hne)
    have q34 := fun t (kt : Go p e below T28 (mkF m 12 #[vR a1, vI 1, vR b, vI 1, vI 6, vI 1, vI c0] [(.int 1), (.ref a1)]) t) => q27 t (st28 t (by
      show Go _ _ _ _ (mkF m 32 #[vR a1, vI 0, vR b, vI 0, vI 6, vI 0, vI c0] []) _
      refine XS.iinc X28.here hx rfl (hb hby d7_32) rfl (l' := #[vR a1, vI 1, vR b, vI 0, vI 6, vI 0, vI c0]) rfl ?_
      show Go _ _ _ _ (mkF m 35 #[vR a1, vI 1, vR b, vI 0, vI 6, vI 0, vI c0] []) _
      refine XS.iinc X28.here hx rfl (hb hby d7_35) rfl (l' := #[vR a1, vI 1, vR b, vI 1, vI 6, vI 0, vI c0]) rfl ?_
      show Go _ _ _ _ (mkF m 38 #[vR a1, vI 1, vR b, vI 1, vI 6, vI 0, vI c0] []) _
      refine XS.iinc X28.here hx rfl (hb hby d7_38) rfl (l' := #[vR a1, vI 1, vR b, vI 1, vI 6, vI 1, vI c0]) rfl ?_
      show Go _ _ _ _ (mkF m 41 #[vR a1, vI 1, vR b, vI 1, vI 6, vI 1, vI c0] []) _
      refine XS.goto X28.here hx rfl (pc0 := 41) (pc' := 3) rfl (hb hby d7_41) (by decide) (by decide) ?_
      show Go _ _ _ _ (mkF m 3 _ []) _
      refine XS.iload X28.here hx rfl (hb hby d7_3) rfl ?_
      show Go _ _ _ _ (mkF m 5 _ [(.int 1)]) _
      refine XS.iload X28.here hx rfl (hb hby d7_5) rfl ?_
      show Go _ _ _ _ (mkF m 7 _ [(.int 6), (.int 1)]) _
      refine XS.icmpNo X28.here hx rfl (hb hby d7_7) rfl (tlt (by decide : (1 : Int32) < (6 : Int32))).2.1 ?_
      show Go _ _ _ _ (mkF m 10 _ []) _
      refine XS.aloadN X28.here hx rfl (hb hby d7_10) rfl rfl ?_
      show Go _ _ _ _ (mkF m 11 _ [(.ref a1)]) _
      refine XS.iloadN X28.here hx rfl (hb hby d7_11) rfl ?_
      exact kt))
    obtain ⟨c33, Ar33, -, S33, N33, H33, -⟩ := id f32
    have q35 := fun t (kt : Go p e below T28 (mkF m 20 #[vR a1, vI 1, vR b, vI 1, vI 6, vI 1, vI c1] [(.int 255), (.int c1)]) t) => q34 t (by
      show Go _ _ _ _ (mkF m 12 #[vR a1, vI 1, vR b, vI 1, vI 6, vI 1, vI c0] [(.int 1), (.ref a1)]) _
      refine X28.caload hx (j := (1 : Int32)) (v := (.int c1)) (by rw [e28]; exact Ar33.1) (State.isArrayOf_alike hZ.alike Ar33.2.1) Ar33.2.2 (inb_of S33 ⟨by decide, by decide⟩) (Has.at H33 (inb_of S33 ⟨by decide, by decide⟩) rfl) (g := (mkF m 12 #[vR a1, vI 1, vR b, vI 1, vI 6, vI 1, vI c0] [(.int 1), (.ref a1)])) rfl rfl (hb hby d7_12) _ ?_
      show Go _ _ _ _ (mkF m 13 _ [(.int c1)]) _
      refine XS.istore X28.here hx rfl (hb hby d7_13) rfl (l' := #[vR a1, vI 1, vR b, vI 1, vI 6, vI 1, vI c1]) rfl ?_
      show Go _ _ _ _ (mkF m 15 #[vR a1, vI 1, vR b, vI 1, vI 6, vI 1, vI c1] []) _
      refine XS.iload X28.here hx rfl (hb hby d7_15) rfl ?_
      show Go _ _ _ _ (mkF m 17 _ [(.int c1)]) _
      refine XS.sipush X28.here hx rfl (hb hby d7_17) ?_
      exact kt)
    by_cases hc36 : (255 : Int32) < c1
    · have q37 := fun t (kt : Go p e below T28 (mkF m 25 #[vR a1, vI 1, vR b, vI 1, vI 6, vI 1, vI c1] [(.int 1)]) t) => q35 t (by
        show Go _ _ _ _ (mkF m 20 #[vR a1, vI 1, vR b, vI 1, vI 6, vI 1, vI c1] [(.int 255), (.int c1)]) _
        refine XS.icmpNo X28.here hx rfl (hb hby d7_20) rfl (tlt hc36).2.2.2 ?_
        show Go _ _ _ _ (mkF m 23 _ []) _
        refine XS.iload X28.here hx rfl (hb hby d7_23) rfl ?_
        exact kt)
      exact ⟨some (.int 1), T28, _, _, _, _, X28, by decide, by decide, nofun, q37, fun fs hr => retI X28 hx hret (hb hby d7_25) hr, by rw [e28]; exact ⟨(1 : Int32), rfl, N29, K31, (Or.inr (Or.inl ⟨rfl, hc36⟩))⟩⟩
    · have q39 := fun t (kt : Go p e below T28 (mkF m 31 #[vR a1, vI 1, vR b, vI 1, vI 6, vI 1, vI c1] [(.int (c1.toInt8.toInt32)), (.int 1), (.ref b)]) t) => q35 t (by
        show Go _ _ _ _ (mkF m 20 #[vR a1, vI 1, vR b, vI 1, vI 6, vI 1, vI c1] [(.int 255), (.int c1)]) _
        refine XS.icmpYes X28.here hx rfl (pc0 := 20) (pc' := 26) rfl (hb hby d7_20) rfl (flt hc36).2.2.2 (by decide) (by decide) ?_
        show Go _ _ _ _ (mkF m 26 _ []) _
        refine XS.aloadN X28.here hx rfl (hb hby d7_26) rfl rfl ?_
        show Go _ _ _ _ (mkF m 27 _ [(.ref b)]) _
        refine XS.iloadN X28.here hx rfl (hb hby d7_27) rfl ?_
        show Go _ _ _ _ (mkF m 28 _ [(.int 1), (.ref b)]) _
        refine XS.iload X28.here hx rfl (hb hby d7_28) rfl ?_
        show Go _ _ _ _ (mkF m 30 _ [(.int c1), (.int 1), (.ref b)]) _
        refine XS.i2b X28.here hx rfl (hb hby d7_30) rfl ?_
        exact kt)
      obtain ⟨c38, Ar38, q38, S38, N38, H38, G38⟩ := id V28
      have hi38 : ¬ ((1 : Int32) < 0 ∨ c38.slots.size ≤ ((1 : Int32)).toNatClampNeg) := inb_of S38 ⟨by decide, by decide⟩
      obtain ⟨T40, h40, X40, e40, W40, st40⟩ := stB X28 hx hZ e28 Ar38 (j := (1 : Int32)) hi38 (g := (mkF m 31 #[vR a1, vI 1, vR b, vI 1, vI 6, vI 1, vI c1] [(.int (c1.toInt8.toInt32)), (.int 1), (.ref b)])) rfl rfl (hb hby d7_31)
      have V40 : Arv Z h40 b kb .byte (6 : Int32) [(.int (nar .byte (c0.toInt8.toInt32))), (.int (nar .byte (c1.toInt8.toInt32))), (.int 0), (.int 0), (.int 0), (.int 0)] (.int 0) := Arv.set Ar38 q38 S38 N38 H38 G38 (fits_nar_byte _) W40 1 rfl (Nat.le_of_ble_eq_true rfl)
      have N41 := Fr.snoc X40 N29 g_b
      have O42 := O30.wr W40 g_b
      have K43 := K31.wr W40 (Or.inl (List.mem_of_getElem? (i := 0) rfl))
      have f44 := (f32.other W40 hne)
      have q46 := fun t (kt : Go p e below T40 (mkF m 12 #[vR a1, vI 2, vR b, vI 2, vI 6, vI 2, vI c1] [(.int 2), (.ref a1)]) t) => q39 t (st40 t (by
        show Go _ _ _ _ (mkF m 32 #[vR a1, vI 1, vR b, vI 1, vI 6, vI 1, vI c1] []) _
        refine XS.iinc X40.here hx rfl (hb hby d7_32) rfl (l' := #[vR a1, vI 2, vR b, vI 1, vI 6, vI 1, vI c1]) rfl ?_
        show Go _ _ _ _ (mkF m 35 #[vR a1, vI 2, vR b, vI 1, vI 6, vI 1, vI c1] []) _
        refine XS.iinc X40.here hx rfl (hb hby d7_35) rfl (l' := #[vR a1, vI 2, vR b, vI 2, vI 6, vI 1, vI c1]) rfl ?_
        show Go _ _ _ _ (mkF m 38 #[vR a1, vI 2, vR b, vI 2, vI 6, vI 1, vI c1] []) _
        refine XS.iinc X40.here hx rfl (hb hby d7_38) rfl (l' := #[vR a1, vI 2, vR b, vI 2, vI 6, vI 2, vI c1]) rfl ?_
        show Go _ _ _ _ (mkF m 41 #[vR a1, vI 2, vR b, vI 2, vI 6, vI 2, vI c1] []) _
        refine XS.goto X40.here hx rfl (pc0 := 41) (pc' := 3) rfl (hb hby d7_41) (by decide) (by decide) ?_
        show Go _ _ _ _ (mkF m 3 _ []) _
        refine XS.iload X40.here hx rfl (hb hby d7_3) rfl ?_
        show Go _ _ _ _ (mkF m 5 _ [(.int 2)]) _
        refine XS.iload X40.here hx rfl (hb hby d7_5) rfl ?_
        show Go _ _ _ _ (mkF m 7 _ [(.int 6), (.int 2)]) _
        refine XS.icmpNo X40.here hx rfl (hb hby d7_7) rfl (tlt (by decide : (2 : Int32) < (6 : Int32))).2.1 ?_
        show Go _ _ _ _ (mkF m 10 _ []) _
        refine XS.aloadN X40.here hx rfl (hb hby d7_10) rfl rfl ?_
        show Go _ _ _ _ (mkF m 11 _ [(.ref a1)]) _
        refine XS.iloadN X40.here hx rfl (hb hby d7_11) rfl ?_
        exact kt))
      obtain ⟨c45, Ar45, -, S45, N45, H45, -⟩ := id f44
      have q47 := fun t (kt : Go p e below T40 (mkF m 20 #[vR a1, vI 2, vR b, vI 2, vI 6, vI 2, vI c2] [(.int 255), (.int c2)]) t) => q46 t (by
        show Go _ _ _ _ (mkF m 12 #[vR a1, vI 2, vR b, vI 2, vI 6, vI 2, vI c1] [(.int 2), (.ref a1)]) _
        refine X40.caload hx (j := (2 : Int32)) (v := (.int c2)) (by rw [e40]; exact Ar45.1) (State.isArrayOf_alike hZ.alike Ar45.2.1) Ar45.2.2 (inb_of S45 ⟨by decide, by decide⟩) (Has.at H45 (inb_of S45 ⟨by decide, by decide⟩) rfl) (g := (mkF m 12 #[vR a1, vI 2, vR b, vI 2, vI 6, vI 2, vI c1] [(.int 2), (.ref a1)])) rfl rfl (hb hby d7_12) _ ?_
        show Go _ _ _ _ (mkF m 13 _ [(.int c2)]) _
        refine XS.istore X40.here hx rfl (hb hby d7_13) rfl (l' := #[vR a1, vI 2, vR b, vI 2, vI 6, vI 2, vI c2]) rfl ?_
        show Go _ _ _ _ (mkF m 15 #[vR a1, vI 2, vR b, vI 2, vI 6, vI 2, vI c2] []) _
        refine XS.iload X40.here hx rfl (hb hby d7_15) rfl ?_
        show Go _ _ _ _ (mkF m 17 _ [(.int c2)]) _
        refine XS.sipush X40.here hx rfl (hb hby d7_17) ?_
        exact kt)
      by_cases hc48 : (255 : Int32) < c2
      · have q49 := fun t (kt : Go p e below T40 (mkF m 25 #[vR a1, vI 2, vR b, vI 2, vI 6, vI 2, vI c2] [(.int 2)]) t) => q47 t (by
          show Go _ _ _ _ (mkF m 20 #[vR a1, vI 2, vR b, vI 2, vI 6, vI 2, vI c2] [(.int 255), (.int c2)]) _
          refine XS.icmpNo X40.here hx rfl (hb hby d7_20) rfl (tlt hc48).2.2.2 ?_
          show Go _ _ _ _ (mkF m 23 _ []) _
          refine XS.iload X40.here hx rfl (hb hby d7_23) rfl ?_
          exact kt)
        exact ⟨some (.int 2), T40, _, _, _, _, X40, by decide, by decide, nofun, q49, fun fs hr => retI X40 hx hret (hb hby d7_25) hr, by rw [e40]; exact ⟨(2 : Int32), rfl, N41, K43, (Or.inr (Or.inr (Or.inl ⟨rfl, hc48⟩)))⟩⟩
      · have q51 := fun t (kt : Go p e below T40 (mkF m 31 #[vR a1, vI 2, vR b, vI 2, vI 6, vI 2, vI c2] [(.int (c2.toInt8.toInt32)), (.int 2), (.ref b)]) t) => q47 t (by
          show Go _ _ _ _ (mkF m 20 #[vR a1, vI 2, vR b, vI 2, vI 6, vI 2, vI c2] [(.int 255), (.int c2)]) _
          refine XS.icmpYes X40.here hx rfl (pc0 := 20) (pc' := 26) rfl (hb hby d7_20) rfl (flt hc48).2.2.2 (by decide) (by decide) ?_
          show Go _ _ _ _ (mkF m 26 _ []) _
          refine XS.aloadN X40.here hx rfl (hb hby d7_26) rfl rfl ?_
          show Go _ _ _ _ (mkF m 27 _ [(.ref b)]) _
          refine XS.iloadN X40.here hx rfl (hb hby d7_27) rfl ?_
          show Go _ _ _ _ (mkF m 28 _ [(.int 2), (.ref b)]) _
          refine XS.iload X40.here hx rfl (hb hby d7_28) rfl ?_
          show Go _ _ _ _ (mkF m 30 _ [(.int c2), (.int 2), (.ref b)]) _
          refine XS.i2b X40.here hx rfl (hb hby d7_30) rfl ?_
          exact kt)
        obtain ⟨c50, Ar50, q50, S50, N50, H50, G50⟩ := id V40
        have hi50 : ¬ ((2 : Int32) < 0 ∨ c50.slots.size ≤ ((2 : Int32)).toNatClampNeg) := inb_of S50 ⟨by decide, by decide⟩
        obtain ⟨T52, h52, X52, e52, W52, st52⟩ := stB X40 hx hZ e40 Ar50 (j := (2 : Int32)) hi50 (g := (mkF m 31 #[vR a1, vI 2, vR b, vI 2, vI 6, vI 2, vI c2] [(.int (c2.toInt8.toInt32)), (.int 2), (.ref b)])) rfl rfl (hb hby d7_31)
        have V52 : Arv Z h52 b kb .byte (6 : Int32) [(.int (nar .byte (c0.toInt8.toInt32))), (.int (nar .byte (c1.toInt8.toInt32))), (.int (nar .byte (c2.toInt8.toInt32))), (.int 0), (.int 0), (.int 0)] (.int 0) := Arv.set Ar50 q50 S50 N50 H50 G50 (fits_nar_byte _) W52 2 rfl (Nat.le_of_ble_eq_true rfl)
        have N53 := Fr.snoc X52 N41 g_b
        have O54 := O42.wr W52 g_b
        have K55 := K43.wr W52 (Or.inl (List.mem_of_getElem? (i := 0) rfl))
        have f56 := (f44.other W52 hne)
        have q58 := fun t (kt : Go p e below T52 (mkF m 12 #[vR a1, vI 3, vR b, vI 3, vI 6, vI 3, vI c2] [(.int 3), (.ref a1)]) t) => q51 t (st52 t (by
          show Go _ _ _ _ (mkF m 32 #[vR a1, vI 2, vR b, vI 2, vI 6, vI 2, vI c2] []) _
          refine XS.iinc X52.here hx rfl (hb hby d7_32) rfl (l' := #[vR a1, vI 3, vR b, vI 2, vI 6, vI 2, vI c2]) rfl ?_
          show Go _ _ _ _ (mkF m 35 #[vR a1, vI 3, vR b, vI 2, vI 6, vI 2, vI c2] []) _
          refine XS.iinc X52.here hx rfl (hb hby d7_35) rfl (l' := #[vR a1, vI 3, vR b, vI 3, vI 6, vI 2, vI c2]) rfl ?_
          show Go _ _ _ _ (mkF m 38 #[vR a1, vI 3, vR b, vI 3, vI 6, vI 2, vI c2] []) _
          refine XS.iinc X52.here hx rfl (hb hby d7_38) rfl (l' := #[vR a1, vI 3, vR b, vI 3, vI 6, vI 3, vI c2]) rfl ?_
          show Go _ _ _ _ (mkF m 41 #[vR a1, vI 3, vR b, vI 3, vI 6, vI 3, vI c2] []) _
          refine XS.goto X52.here hx rfl (pc0 := 41) (pc' := 3) rfl (hb hby d7_41) (by decide) (by decide) ?_
          show Go _ _ _ _ (mkF m 3 _ []) _
          refine XS.iload X52.here hx rfl (hb hby d7_3) rfl ?_
          show Go _ _ _ _ (mkF m 5 _ [(.int 3)]) _
          refine XS.iload X52.here hx rfl (hb hby d7_5) rfl ?_
          show Go _ _ _ _ (mkF m 7 _ [(.int 6), (.int 3)]) _
          refine XS.icmpNo X52.here hx rfl (hb hby d7_7) rfl (tlt (by decide : (3 : Int32) < (6 : Int32))).2.1 ?_
          show Go _ _ _ _ (mkF m 10 _ []) _
          refine XS.aloadN X52.here hx rfl (hb hby d7_10) rfl rfl ?_
          show Go _ _ _ _ (mkF m 11 _ [(.ref a1)]) _
          refine XS.iloadN X52.here hx rfl (hb hby d7_11) rfl ?_
          exact kt))
        obtain ⟨c57, Ar57, -, S57, N57, H57, -⟩ := id f56
        have q59 := fun t (kt : Go p e below T52 (mkF m 20 #[vR a1, vI 3, vR b, vI 3, vI 6, vI 3, vI c3] [(.int 255), (.int c3)]) t) => q58 t (by
          show Go _ _ _ _ (mkF m 12 #[vR a1, vI 3, vR b, vI 3, vI 6, vI 3, vI c2] [(.int 3), (.ref a1)]) _
          refine X52.caload hx (j := (3 : Int32)) (v := (.int c3)) (by rw [e52]; exact Ar57.1) (State.isArrayOf_alike hZ.alike Ar57.2.1) Ar57.2.2 (inb_of S57 ⟨by decide, by decide⟩) (Has.at H57 (inb_of S57 ⟨by decide, by decide⟩) rfl) (g := (mkF m 12 #[vR a1, vI 3, vR b, vI 3, vI 6, vI 3, vI c2] [(.int 3), (.ref a1)])) rfl rfl (hb hby d7_12) _ ?_
          show Go _ _ _ _ (mkF m 13 _ [(.int c3)]) _
          refine XS.istore X52.here hx rfl (hb hby d7_13) rfl (l' := #[vR a1, vI 3, vR b, vI 3, vI 6, vI 3, vI c3]) rfl ?_
          show Go _ _ _ _ (mkF m 15 #[vR a1, vI 3, vR b, vI 3, vI 6, vI 3, vI c3] []) _
          refine XS.iload X52.here hx rfl (hb hby d7_15) rfl ?_
          show Go _ _ _ _ (mkF m 17 _ [(.int c3)]) _
          refine XS.sipush X52.here hx rfl (hb hby d7_17) ?_
          exact kt)
        by_cases hc60 : (255 : Int32) < c3
        · have q61 := fun t (kt : Go p e below T52 (mkF m 25 #[vR a1, vI 3, vR b, vI 3, vI 6, vI 3, vI c3] [(.int 3)]) t) => q59 t (by
            show Go _ _ _ _ (mkF m 20 #[vR a1, vI 3, vR b, vI 3, vI 6, vI 3, vI c3] [(.int 255), (.int c3)]) _
            refine XS.icmpNo X52.here hx rfl (hb hby d7_20) rfl (tlt hc60).2.2.2 ?_
            show Go _ _ _ _ (mkF m 23 _ []) _
            refine XS.iload X52.here hx rfl (hb hby d7_23) rfl ?_
            exact kt)
          exact ⟨some (.int 3), T52, _, _, _, _, X52, by decide, by decide, nofun, q61, fun fs hr => retI X52 hx hret (hb hby d7_25) hr, by rw [e52]; exact ⟨(3 : Int32), rfl, N53, K55, (Or.inr (Or.inr (Or.inr (Or.inl ⟨rfl, hc60⟩))))⟩⟩
        · have q63 := fun t (kt : Go p e below T52 (mkF m 31 #[vR a1, vI 3, vR b, vI 3, vI 6, vI 3, vI c3] [(.int (c3.toInt8.toInt32)), (.int 3), (.ref b)]) t) => q59 t (by
            show Go _ _ _ _ (mkF m 20 #[vR a1, vI 3, vR b, vI 3, vI 6, vI 3, vI c3] [(.int 255), (.int c3)]) _
            refine XS.icmpYes X52.here hx rfl (pc0 := 20) (pc' := 26) rfl (hb hby d7_20) rfl (flt hc60).2.2.2 (by decide) (by decide) ?_
            show Go _ _ _ _ (mkF m 26 _ []) _
            refine XS.aloadN X52.here hx rfl (hb hby d7_26) rfl rfl ?_
            show Go _ _ _ _ (mkF m 27 _ [(.ref b)]) _
            refine XS.iloadN X52.here hx rfl (hb hby d7_27) rfl ?_
            show Go _ _ _ _ (mkF m 28 _ [(.int 3), (.ref b)]) _
            refine XS.iload X52.here hx rfl (hb hby d7_28) rfl ?_
            show Go _ _ _ _ (mkF m 30 _ [(.int c3), (.int 3), (.ref b)]) _
            refine XS.i2b X52.here hx rfl (hb hby d7_30) rfl ?_
            exact kt)
          obtain ⟨c62, Ar62, q62, S62, N62, H62, G62⟩ := id V52
          have hi62 : ¬ ((3 : Int32) < 0 ∨ c62.slots.size ≤ ((3 : Int32)).toNatClampNeg) := inb_of S62 ⟨by decide, by decide⟩
          obtain ⟨T64, h64, X64, e64, W64, st64⟩ := stB X52 hx hZ e52 Ar62 (j := (3 : Int32)) hi62 (g := (mkF m 31 #[vR a1, vI 3, vR b, vI 3, vI 6, vI 3, vI c3] [(.int (c3.toInt8.toInt32)), (.int 3), (.ref b)])) rfl rfl (hb hby d7_31)
          have V64 : Arv Z h64 b kb .byte (6 : Int32) [(.int (nar .byte (c0.toInt8.toInt32))), (.int (nar .byte (c1.toInt8.toInt32))), (.int (nar .byte (c2.toInt8.toInt32))), (.int (nar .byte (c3.toInt8.toInt32))), (.int 0), (.int 0)] (.int 0) := Arv.set Ar62 q62 S62 N62 H62 G62 (fits_nar_byte _) W64 3 rfl (Nat.le_of_ble_eq_true rfl)
          have N65 := Fr.snoc X64 N53 g_b
          have O66 := O54.wr W64 g_b
          have K67 := K55.wr W64 (Or.inl (List.mem_of_getElem? (i := 0) rfl))
          have f68 := (f56.other W64 hne)
          have q70 := fun t (kt : Go p e below T64 (mkF m 12 #[vR a1, vI 4, vR b, vI 4, vI 6, vI 4, vI c3] [(.int 4), (.ref a1)]) t) => q63 t (st64 t (by
            show Go _ _ _ _ (mkF m 32 #[vR a1, vI 3, vR b, vI 3, vI 6, vI 3, vI c3] []) _
            refine XS.iinc X64.here hx rfl (hb hby d7_32) rfl (l' := #[vR a1, vI 4, vR b, vI 3, vI 6, vI 3, vI c3]) rfl ?_
            show Go _ _ _ _ (mkF m 35 #[vR a1, vI 4, vR b, vI 3, vI 6, vI 3, vI c3] []) _
            refine XS.iinc X64.here hx rfl (hb hby d7_35) rfl (l' := #[vR a1, vI 4, vR b, vI 4, vI 6, vI 3, vI c3]) rfl ?_
            show Go _ _ _ _ (mkF m 38 #[vR a1, vI 4, vR b, vI 4, vI 6, vI 3, vI c3] []) _
            refine XS.iinc X64.here hx rfl (hb hby d7_38) rfl (l' := #[vR a1, vI 4, vR b, vI 4, vI 6, vI 4, vI c3]) rfl ?_
            show Go _ _ _ _ (mkF m 41 #[vR a1, vI 4, vR b, vI 4, vI 6, vI 4, vI c3] []) _
            refine XS.goto X64.here hx rfl (pc0 := 41) (pc' := 3) rfl (hb hby d7_41) (by decide) (by decide) ?_
            show Go _ _ _ _ (mkF m 3 _ []) _
            refine XS.iload X64.here hx rfl (hb hby d7_3) rfl ?_
            show Go _ _ _ _ (mkF m 5 _ [(.int 4)]) _
            refine XS.iload X64.here hx rfl (hb hby d7_5) rfl ?_
            show Go _ _ _ _ (mkF m 7 _ [(.int 6), (.int 4)]) _
            refine XS.icmpNo X64.here hx rfl (hb hby d7_7) rfl (tlt (by decide : (4 : Int32) < (6 : Int32))).2.1 ?_
            show Go _ _ _ _ (mkF m 10 _ []) _
            refine XS.aloadN X64.here hx rfl (hb hby d7_10) rfl rfl ?_
            show Go _ _ _ _ (mkF m 11 _ [(.ref a1)]) _
            refine XS.iloadN X64.here hx rfl (hb hby d7_11) rfl ?_
            exact kt))
          obtain ⟨c69, Ar69, -, S69, N69, H69, -⟩ := id f68
          have q71 := fun t (kt : Go p e below T64 (mkF m 20 #[vR a1, vI 4, vR b, vI 4, vI 6, vI 4, vI c4] [(.int 255), (.int c4)]) t) => q70 t (by
            show Go _ _ _ _ (mkF m 12 #[vR a1, vI 4, vR b, vI 4, vI 6, vI 4, vI c3] [(.int 4), (.ref a1)]) _
            refine X64.caload hx (j := (4 : Int32)) (v := (.int c4)) (by rw [e64]; exact Ar69.1) (State.isArrayOf_alike hZ.alike Ar69.2.1) Ar69.2.2 (inb_of S69 ⟨by decide, by decide⟩) (Has.at H69 (inb_of S69 ⟨by decide, by decide⟩) rfl) (g := (mkF m 12 #[vR a1, vI 4, vR b, vI 4, vI 6, vI 4, vI c3] [(.int 4), (.ref a1)])) rfl rfl (hb hby d7_12) _ ?_
            show Go _ _ _ _ (mkF m 13 _ [(.int c4)]) _
            refine XS.istore X64.here hx rfl (hb hby d7_13) rfl (l' := #[vR a1, vI 4, vR b, vI 4, vI 6, vI 4, vI c4]) rfl ?_
            show Go _ _ _ _ (mkF m 15 #[vR a1, vI 4, vR b, vI 4, vI 6, vI 4, vI c4] []) _
            refine XS.iload X64.here hx rfl (hb hby d7_15) rfl ?_
            show Go _ _ _ _ (mkF m 17 _ [(.int c4)]) _
            refine XS.sipush X64.here hx rfl (hb hby d7_17) ?_
            exact kt)
          by_cases hc72 : (255 : Int32) < c4
          · have q73 := fun t (kt : Go p e below T64 (mkF m 25 #[vR a1, vI 4, vR b, vI 4, vI 6, vI 4, vI c4] [(.int 4)]) t) => q71 t (by
              show Go _ _ _ _ (mkF m 20 #[vR a1, vI 4, vR b, vI 4, vI 6, vI 4, vI c4] [(.int 255), (.int c4)]) _
              refine XS.icmpNo X64.here hx rfl (hb hby d7_20) rfl (tlt hc72).2.2.2 ?_
              show Go _ _ _ _ (mkF m 23 _ []) _
              refine XS.iload X64.here hx rfl (hb hby d7_23) rfl ?_
              exact kt)
            exact ⟨some (.int 4), T64, _, _, _, _, X64, by decide, by decide, nofun, q73, fun fs hr => retI X64 hx hret (hb hby d7_25) hr, by rw [e64]; exact ⟨(4 : Int32), rfl, N65, K67, (Or.inr (Or.inr (Or.inr (Or.inr (Or.inl ⟨rfl, hc72⟩)))))⟩⟩
          · have q75 := fun t (kt : Go p e below T64 (mkF m 31 #[vR a1, vI 4, vR b, vI 4, vI 6, vI 4, vI c4] [(.int (c4.toInt8.toInt32)), (.int 4), (.ref b)]) t) => q71 t (by
              show Go _ _ _ _ (mkF m 20 #[vR a1, vI 4, vR b, vI 4, vI 6, vI 4, vI c4] [(.int 255), (.int c4)]) _
              refine XS.icmpYes X64.here hx rfl (pc0 := 20) (pc' := 26) rfl (hb hby d7_20) rfl (flt hc72).2.2.2 (by decide) (by decide) ?_
              show Go _ _ _ _ (mkF m 26 _ []) _
              refine XS.aloadN X64.here hx rfl (hb hby d7_26) rfl rfl ?_
              show Go _ _ _ _ (mkF m 27 _ [(.ref b)]) _
              refine XS.iloadN X64.here hx rfl (hb hby d7_27) rfl ?_
              show Go _ _ _ _ (mkF m 28 _ [(.int 4), (.ref b)]) _
              refine XS.iload X64.here hx rfl (hb hby d7_28) rfl ?_
              show Go _ _ _ _ (mkF m 30 _ [(.int c4), (.int 4), (.ref b)]) _
              refine XS.i2b X64.here hx rfl (hb hby d7_30) rfl ?_
              exact kt)
            obtain ⟨c74, Ar74, q74, S74, N74, H74, G74⟩ := id V64
            have hi74 : ¬ ((4 : Int32) < 0 ∨ c74.slots.size ≤ ((4 : Int32)).toNatClampNeg) := inb_of S74 ⟨by decide, by decide⟩
            obtain ⟨T76, h76, X76, e76, W76, st76⟩ := stB X64 hx hZ e64 Ar74 (j := (4 : Int32)) hi74 (g := (mkF m 31 #[vR a1, vI 4, vR b, vI 4, vI 6, vI 4, vI c4] [(.int (c4.toInt8.toInt32)), (.int 4), (.ref b)])) rfl rfl (hb hby d7_31)
            have V76 : Arv Z h76 b kb .byte (6 : Int32) [(.int (nar .byte (c0.toInt8.toInt32))), (.int (nar .byte (c1.toInt8.toInt32))), (.int (nar .byte (c2.toInt8.toInt32))), (.int (nar .byte (c3.toInt8.toInt32))), (.int (nar .byte (c4.toInt8.toInt32))), (.int 0)] (.int 0) := Arv.set Ar74 q74 S74 N74 H74 G74 (fits_nar_byte _) W76 4 rfl (Nat.le_of_ble_eq_true rfl)
            have N77 := Fr.snoc X76 N65 g_b
            have O78 := O66.wr W76 g_b
            have K79 := K67.wr W76 (Or.inl (List.mem_of_getElem? (i := 0) rfl))
            have f80 := (f68.other W76 hne)
            have q82 := fun t (kt : Go p e below T76 (mkF m 12 #[vR a1, vI 5, vR b, vI 5, vI 6, vI 5, vI c4] [(.int 5), (.ref a1)]) t) => q75 t (st76 t (by
              show Go _ _ _ _ (mkF m 32 #[vR a1, vI 4, vR b, vI 4, vI 6, vI 4, vI c4] []) _
              refine XS.iinc X76.here hx rfl (hb hby d7_32) rfl (l' := #[vR a1, vI 5, vR b, vI 4, vI 6, vI 4, vI c4]) rfl ?_
              show Go _ _ _ _ (mkF m 35 #[vR a1, vI 5, vR b, vI 4, vI 6, vI 4, vI c4] []) _
              refine XS.iinc X76.here hx rfl (hb hby d7_35) rfl (l' := #[vR a1, vI 5, vR b, vI 5, vI 6, vI 4, vI c4]) rfl ?_
              show Go _ _ _ _ (mkF m 38 #[vR a1, vI 5, vR b, vI 5, vI 6, vI 4, vI c4] []) _
              refine XS.iinc X76.here hx rfl (hb hby d7_38) rfl (l' := #[vR a1, vI 5, vR b, vI 5, vI 6, vI 5, vI c4]) rfl ?_
              show Go _ _ _ _ (mkF m 41 #[vR a1, vI 5, vR b, vI 5, vI 6, vI 5, vI c4] []) _
              refine XS.goto X76.here hx rfl (pc0 := 41) (pc' := 3) rfl (hb hby d7_41) (by decide) (by decide) ?_
              show Go _ _ _ _ (mkF m 3 _ []) _
              refine XS.iload X76.here hx rfl (hb hby d7_3) rfl ?_
              show Go _ _ _ _ (mkF m 5 _ [(.int 5)]) _
              refine XS.iload X76.here hx rfl (hb hby d7_5) rfl ?_
              show Go _ _ _ _ (mkF m 7 _ [(.int 6), (.int 5)]) _
              refine XS.icmpNo X76.here hx rfl (hb hby d7_7) rfl (tlt (by decide : (5 : Int32) < (6 : Int32))).2.1 ?_
              show Go _ _ _ _ (mkF m 10 _ []) _
              refine XS.aloadN X76.here hx rfl (hb hby d7_10) rfl rfl ?_
              show Go _ _ _ _ (mkF m 11 _ [(.ref a1)]) _
              refine XS.iloadN X76.here hx rfl (hb hby d7_11) rfl ?_
              exact kt))
            obtain ⟨c81, Ar81, -, S81, N81, H81, -⟩ := id f80
            have q83 := fun t (kt : Go p e below T76 (mkF m 20 #[vR a1, vI 5, vR b, vI 5, vI 6, vI 5, vI c5] [(.int 255), (.int c5)]) t) => q82 t (by
              show Go _ _ _ _ (mkF m 12 #[vR a1, vI 5, vR b, vI 5, vI 6, vI 5, vI c4] [(.int 5), (.ref a1)]) _
              refine X76.caload hx (j := (5 : Int32)) (v := (.int c5)) (by rw [e76]; exact Ar81.1) (State.isArrayOf_alike hZ.alike Ar81.2.1) Ar81.2.2 (inb_of S81 ⟨by decide, by decide⟩) (Has.at H81 (inb_of S81 ⟨by decide, by decide⟩) rfl) (g := (mkF m 12 #[vR a1, vI 5, vR b, vI 5, vI 6, vI 5, vI c4] [(.int 5), (.ref a1)])) rfl rfl (hb hby d7_12) _ ?_
              show Go _ _ _ _ (mkF m 13 _ [(.int c5)]) _
              refine XS.istore X76.here hx rfl (hb hby d7_13) rfl (l' := #[vR a1, vI 5, vR b, vI 5, vI 6, vI 5, vI c5]) rfl ?_
              show Go _ _ _ _ (mkF m 15 #[vR a1, vI 5, vR b, vI 5, vI 6, vI 5, vI c5] []) _
              refine XS.iload X76.here hx rfl (hb hby d7_15) rfl ?_
              show Go _ _ _ _ (mkF m 17 _ [(.int c5)]) _
              refine XS.sipush X76.here hx rfl (hb hby d7_17) ?_
              exact kt)
            by_cases hc84 : (255 : Int32) < c5
            · have q85 := fun t (kt : Go p e below T76 (mkF m 25 #[vR a1, vI 5, vR b, vI 5, vI 6, vI 5, vI c5] [(.int 5)]) t) => q83 t (by
                show Go _ _ _ _ (mkF m 20 #[vR a1, vI 5, vR b, vI 5, vI 6, vI 5, vI c5] [(.int 255), (.int c5)]) _
                refine XS.icmpNo X76.here hx rfl (hb hby d7_20) rfl (tlt hc84).2.2.2 ?_
                show Go _ _ _ _ (mkF m 23 _ []) _
                refine XS.iload X76.here hx rfl (hb hby d7_23) rfl ?_
                exact kt)
              exact ⟨some (.int 5), T76, _, _, _, _, X76, by decide, by decide, nofun, q85, fun fs hr => retI X76 hx hret (hb hby d7_25) hr, by rw [e76]; exact ⟨(5 : Int32), rfl, N77, K79, (Or.inr (Or.inr (Or.inr (Or.inr (Or.inr ⟨rfl, hc84⟩)))))⟩⟩
            · have q87 := fun t (kt : Go p e below T76 (mkF m 31 #[vR a1, vI 5, vR b, vI 5, vI 6, vI 5, vI c5] [(.int (c5.toInt8.toInt32)), (.int 5), (.ref b)]) t) => q83 t (by
                show Go _ _ _ _ (mkF m 20 #[vR a1, vI 5, vR b, vI 5, vI 6, vI 5, vI c5] [(.int 255), (.int c5)]) _
                refine XS.icmpYes X76.here hx rfl (pc0 := 20) (pc' := 26) rfl (hb hby d7_20) rfl (flt hc84).2.2.2 (by decide) (by decide) ?_
                show Go _ _ _ _ (mkF m 26 _ []) _
                refine XS.aloadN X76.here hx rfl (hb hby d7_26) rfl rfl ?_
                show Go _ _ _ _ (mkF m 27 _ [(.ref b)]) _
                refine XS.iloadN X76.here hx rfl (hb hby d7_27) rfl ?_
                show Go _ _ _ _ (mkF m 28 _ [(.int 5), (.ref b)]) _
                refine XS.iload X76.here hx rfl (hb hby d7_28) rfl ?_
                show Go _ _ _ _ (mkF m 30 _ [(.int c5), (.int 5), (.ref b)]) _
                refine XS.i2b X76.here hx rfl (hb hby d7_30) rfl ?_
                exact kt)
              obtain ⟨c86, Ar86, q86, S86, N86, H86, G86⟩ := id V76
              have hi86 : ¬ ((5 : Int32) < 0 ∨ c86.slots.size ≤ ((5 : Int32)).toNatClampNeg) := inb_of S86 ⟨by decide, by decide⟩
              obtain ⟨T88, h88, X88, e88, W88, st88⟩ := stB X76 hx hZ e76 Ar86 (j := (5 : Int32)) hi86 (g := (mkF m 31 #[vR a1, vI 5, vR b, vI 5, vI 6, vI 5, vI c5] [(.int (c5.toInt8.toInt32)), (.int 5), (.ref b)])) rfl rfl (hb hby d7_31)
              have V88 : Arv Z h88 b kb .byte (6 : Int32) [(.int (nar .byte (c0.toInt8.toInt32))), (.int (nar .byte (c1.toInt8.toInt32))), (.int (nar .byte (c2.toInt8.toInt32))), (.int (nar .byte (c3.toInt8.toInt32))), (.int (nar .byte (c4.toInt8.toInt32))), (.int (nar .byte (c5.toInt8.toInt32)))] (.int 0) := Arv.set Ar86 q86 S86 N86 H86 G86 (fits_nar_byte _) W88 5 rfl (Nat.le_of_ble_eq_true rfl)
              have N89 := Fr.snoc X88 N77 g_b
              have O90 := O78.wr W88 g_b
              have K91 := K79.wr W88 (Or.inl (List.mem_of_getElem? (i := 0) rfl))
              have q92 := fun t (kt : Go p e below T88 (mkF m 44 #[vR a1, vI 6, vR b, vI 6, vI 6, vI 6, vI c5] []) t) => q87 t (st88 t (by
                show Go _ _ _ _ (mkF m 32 #[vR a1, vI 5, vR b, vI 5, vI 6, vI 5, vI c5] []) _
                refine XS.iinc X88.here hx rfl (hb hby d7_32) rfl (l' := #[vR a1, vI 6, vR b, vI 5, vI 6, vI 5, vI c5]) rfl ?_
                show Go _ _ _ _ (mkF m 35 #[vR a1, vI 6, vR b, vI 5, vI 6, vI 5, vI c5] []) _
                refine XS.iinc X88.here hx rfl (hb hby d7_35) rfl (l' := #[vR a1, vI 6, vR b, vI 6, vI 6, vI 5, vI c5]) rfl ?_
                show Go _ _ _ _ (mkF m 38 #[vR a1, vI 6, vR b, vI 6, vI 6, vI 5, vI c5] []) _
                refine XS.iinc X88.here hx rfl (hb hby d7_38) rfl (l' := #[vR a1, vI 6, vR b, vI 6, vI 6, vI 6, vI c5]) rfl ?_
                show Go _ _ _ _ (mkF m 41 #[vR a1, vI 6, vR b, vI 6, vI 6, vI 6, vI c5] []) _
                refine XS.goto X88.here hx rfl (pc0 := 41) (pc' := 3) rfl (hb hby d7_41) (by decide) (by decide) ?_
                show Go _ _ _ _ (mkF m 3 _ []) _
                refine XS.iload X88.here hx rfl (hb hby d7_3) rfl ?_
                show Go _ _ _ _ (mkF m 5 _ [(.int 6)]) _
                refine XS.iload X88.here hx rfl (hb hby d7_5) rfl ?_
                show Go _ _ _ _ (mkF m 7 _ [(.int 6), (.int 6)]) _
                refine XS.icmpYes X88.here hx rfl (pc0 := 7) (pc' := 44) rfl (hb hby d7_7) rfl (flt (by decide : ¬ ((6 : Int32) < (6 : Int32)))).2.1 (by decide) (by decide) ?_
                exact kt))
              exact absurd hB (by simp [hB, hc24, hc36, hc48, hc60, hc72, hc84])
def Q_rm6_6 (Z : State) (a1 : Addr) (ka : ClassId) (c0 : Int32) (c1 : Int32) (c2 : Int32) (c3 : Int32) (c4 : Int32) (c5 : Int32) (z_cs : Int32) (h0 : Heap) (n0 : Nat) (v : Option Value) (h : Heap) (L : List Loc) : Prop := ∃ (b : Addr) (kb : ClassId), v = some (.ref b) ∧ Fr n0 L ∧ Keep h0 h [] ∧ h0.size ≤ b ∧ Arv Z h b kb .byte (12 : Int32) [(.int (own_hb c0)), (.int (own_lb c0)), (.int (own_hb c1)), (.int (own_lb c1)), (.int (own_hb c2)), (.int (own_lb c2)), (.int (own_hb c3)), (.int (own_lb c3)), (.int (own_hb c4)), (.int (own_lb c4)), (.int (own_hb c5)), (.int (own_lb c5))] (.int 0)
theorem rm6_6 (l : Launch) (Z : State) (a0 : Array Value) (hw : ∀ d ∈ tables_1, d.before a0 Z = true) (ws : List Jvm.Cond) {z_cs : Int32} (cx : Cx Z z_cs) (a1 : Addr) (ka : ClassId) (c0 : Int32) (c1 : Int32) (c2 : Int32) (c3 : Int32) (c4 : Int32) (c5 : Int32) (h0 : Heap) (n0 : Nat) (O0 : Old Z n0 h0) (G0 : Arv Z h0 a1 ka .char (6 : Int32) [(.int c0), (.int c1), (.int c2), (.int c3), (.int c4), (.int c5)] (.int 0)) (hB : (255 : Int32) < c0 ∨ (255 : Int32) < c1 ∨ (255 : Int32) < c2 ∨ (255 : Int32) < c3 ∨ (255 : Int32) < c4 ∨ (255 : Int32) < c5) (hc900 : ¬ c0 < 0 ∧ ¬ (65535 : Int32) < c0) (hc901 : ¬ c1 < 0 ∧ ¬ (65535 : Int32) < c1) (hc902 : ¬ c2 < 0 ∧ ¬ (65535 : Int32) < c2) (hc903 : ¬ c3 < 0 ∧ ¬ (65535 : Int32) < c3) (hc904 : ¬ c4 < 0 ∧ ¬ (65535 : Int32) < c4) (hc905 : ¬ c5 < 0 ∧ ¬ (65535 : Int32) < c5) :
    OwnMet l ym7 (Jvm.Cond.code ym7 jdk_52_method_16_code 6 (some (.array .byte)) :: ws) (own_R 3 2 18 40) #[(.ref a1), (.int 0), (.int 6)] Z h0 (Q_rm6_6 Z a1 ka c0 c1 c2 c3 c4 c5 z_cs h0 n0) := by
  refine own_body (plainFor_of_name pn_6) hisR fun p e s m below meth c s₁ hx hby hml hown hnm hret hZ X0 e0 => ?_
  have N0 := Fr.nil n0
  have K0 : Keep h0 h0 [] := Keep.refl _ _
  have pre0 : ∀ t, Go p e below s₁ (mkF m 0 #[vR a1, vI 0, vI 6, vU, vU, vU] []) t → Go p e below s₁ (entryFrame m #[(.ref a1), (.int 0), (.int 6)] 6) t := fun t k => castTop (ef_6_RII m a1 (0 : Int32) (6 : Int32)) k
  have q21 := fun t (kt : Go p e below s₁ (mkF m 1 #[vR a1, vI 0, vI 6, vU, vU, vU] [(.int 6)]) t) => pre0 t (by
    show Go _ _ _ _ (mkF m 0 #[vR a1, vI 0, vI 6, vU, vU, vU] []) _
    refine XS.iloadN X0.here hx rfl (hb hby d6_0) rfl ?_
    exact kt)
  obtain ⟨T22, h22, k22, X22, e22, E22, A22, st22⟩ := newP X0 hx hZ (ov hw 27 rfl) e0 (g := (mkF m 1 #[vR a1, vI 0, vI 6, vU, vU, vU] [(.int 6)])) rfl (hb hby d6_1) rfl (by decide) (cap := 6) (by decide) (by decide) (by decide) (by decide)
  obtain ⟨b22, g22⟩ : ∃ z, z = h0.size := ⟨_, rfl⟩
  rw [← g22] at A22 st22
  have gg23 : n0 ≤ b22 := Nat.le_trans (O0.1 ▸ O0.2.1) (Nat.le_of_eq g22.symm)
  have sz24 : h0.size ≤ b22 := Nat.le_trans K0.1 (Nat.le_of_eq g22.symm)
  have O25 := O0.ext E22
  have K26 := K0.ext E22
  have V22 : Arv Z h22 b22 k22 .byte (6 : Int32) [(.int 0), (.int 0), (.int 0), (.int 0), (.int 0), (.int 0)] (.int 0) := (Arv.new A22 (by decide)).pad (pad_rep [] (.int 0) 6)
  have f27 := (G0.ext E22)
  have ne28 : a1 ≠ b22 := (Nat.ne_of_lt (Nat.lt_of_lt_of_le G0.lt (Nat.le_of_eq g22.symm)))
  have q29 := fun t (kt : Go p e below T22 (mkF m 9 #[vR a1, vI 0, vI 6, vR b22, vU, vU] [(.int 6), (.int 0), (.ref b22), (.int 0), (.ref a1)]) t) => q21 t (st22 t (by
    show Go _ _ _ _ (mkF m 3 #[vR a1, vI 0, vI 6, vU, vU, vU] [(.ref b22)]) _
    refine XS.astoreN X22.here hx rfl (hb hby d6_3) rfl rfl (l' := #[vR a1, vI 0, vI 6, vR b22, vU, vU]) rfl ?_
    show Go _ _ _ _ (mkF m 4 #[vR a1, vI 0, vI 6, vR b22, vU, vU] []) _
    refine XS.aloadN X22.here hx rfl (hb hby d6_4) rfl rfl ?_
    show Go _ _ _ _ (mkF m 5 _ [(.ref a1)]) _
    refine XS.iloadN X22.here hx rfl (hb hby d6_5) rfl ?_
    show Go _ _ _ _ (mkF m 6 _ [(.int 0), (.ref a1)]) _
    refine XS.aloadN X22.here hx rfl (hb hby d6_6) rfl rfl ?_
    show Go _ _ _ _ (mkF m 7 _ [(.ref b22), (.int 0), (.ref a1)]) _
    refine XS.iconst X22.here hx rfl (hb hby d6_7) ?_
    show Go _ _ _ _ (mkF m 8 _ [(.int 0), (.ref b22), (.int 0), (.ref a1)]) _
    refine XS.iloadN X22.here hx rfl (hb hby d6_8) rfl ?_
    exact kt))
  obtain ⟨_, _, ⟨T30, L30, k30, n30⟩, -, X30, ⟨_, hQ30, l30, y30, z30⟩, st30⟩ := Jvm.LawKit.callS X22 hx (y := ym6) hown (ow hZ hw 28 rfl) (ow hZ hw 29 rfl) (ow hZ hw 25 rfl) (ow hZ hw 30 rfl) (by decide) (backOf (W := 0) (rm7_6 l Z a0 hw [] cx a1 b22 ka k22 c0 c1 c2 c3 c4 c5 h22 n0 O25 f27 V22 gg23 hB ne28) hZ (ov hw 30 rfl) (ov hw 25 rfl) (by decide) (by decide)) (g := (mkF m 9 #[vR a1, vI 0, vI 6, vR b22, vU, vU] [(.int 6), (.int 0), (.ref b22), (.int 0), (.ref a1)])) rfl (by rw [hml]; rfl) (argsL := [(.ref a1), (.int 0), (.ref b22), (.int 0), (.int 6)]) (rest := []) (lenOf pd_3 rfl) rfl own_le0 (hb hby d6_9) (fun _ _ => ⟨rfl, e22, (by decide : 1 + 0 ≤ _), (by decide : 6 + 0 ≤ _)⟩)
  dsimp only [Pt.U, Pt.locs, Pt.cells, Pt.slots] at X30 l30 y30 z30 st30 hQ30
  subst l30 y30 z30
  obtain ⟨r_30, rfl, Nq30, Kq30, pq30_0⟩ := hQ30
  have N31 := Fr.app N0 Nq30
  have O32 := O25.keep Kq30 (allS gg23 all0)
  have K33 := K26.trans Kq30 (allS (Or.inr sz24) all0)
  have f34 := (f27.keep Kq30 (ninS ne28 nin0))
  have q35 := fun t (kt : Go p e below T30 (mkF m 23 #[vR a1, vI 0, vI 6, vR b22, vI r_30, vU] [(.int 6), (.int 0), (.ref a1)]) t) => q29 t (st30 t (by
    show Go _ _ _ _ (mkF m 12 #[vR a1, vI 0, vI 6, vR b22, vU, vU] [(.int r_30)]) _
    refine XS.istore X30.here hx rfl (hb hby d6_12) rfl (l' := #[vR a1, vI 0, vI 6, vR b22, vI r_30, vU]) rfl ?_
    show Go _ _ _ _ (mkF m 14 #[vR a1, vI 0, vI 6, vR b22, vI r_30, vU] []) _
    refine XS.iload X30.here hx rfl (hb hby d6_14) rfl ?_
    show Go _ _ _ _ (mkF m 16 _ [(.int r_30)]) _
    refine XS.iloadN X30.here hx rfl (hb hby d6_16) rfl ?_
    show Go _ _ _ _ (mkF m 17 _ [(.int 6), (.int r_30)]) _
    refine XS.icmpNo X30.here hx rfl (hb hby d6_17) rfl (feq (by intro z; rw [z] at pq30_0; rcases pq30_0 with ⟨h, -⟩ | ⟨h, -⟩ | ⟨h, -⟩ | ⟨h, -⟩ | ⟨h, -⟩ | ⟨h, -⟩ <;> exact absurd h (by decide))).1 ?_
    show Go _ _ _ _ (mkF m 20 _ []) _
    refine XS.aloadN X30.here hx rfl (hb hby d6_20) rfl rfl ?_
    show Go _ _ _ _ (mkF m 21 _ [(.ref a1)]) _
    refine XS.iloadN X30.here hx rfl (hb hby d6_21) rfl ?_
    show Go _ _ _ _ (mkF m 22 _ [(.int 0), (.ref a1)]) _
    refine XS.iloadN X30.here hx rfl (hb hby d6_22) rfl ?_
    exact kt))
  obtain ⟨_, _, ⟨T36, L36, k36, n36⟩, -, X36, ⟨_, hQ36, l36, y36, z36⟩, st36⟩ := Jvm.LawKit.callS X30 hx (y := ym5) hown (ow hZ hw 63 rfl) (ow hZ hw 64 rfl) (ow hZ hw 25 rfl) (ow hZ hw 65 rfl) (by decide) (backOf (W := 0) (rm15_6 l Z a0 hw [] cx a1 ka c0 c1 c2 c3 c4 c5 T30.heap n0 O32 f34) hZ (ov hw 65 rfl) (ov hw 25 rfl) (by decide) (by decide)) (g := (mkF m 23 #[vR a1, vI 0, vI 6, vR b22, vI r_30, vU] [(.int 6), (.int 0), (.ref a1)])) rfl (by rw [hml]; rfl) (argsL := [(.ref a1), (.int 0), (.int 6)]) (rest := []) (lenOf pd_4 rfl) rfl own_le0 (hb hby d6_23) (fun _ _ => ⟨rfl, rfl, (by decide : 1 + 1 ≤ _), (by decide : 6 + 12 ≤ _)⟩)
  dsimp only [Pt.U, Pt.locs, Pt.cells, Pt.slots] at X36 l36 y36 z36 st36 hQ36
  subst l36 y36 z36
  obtain ⟨b_36, kb_36, rfl, Nq36, Kq36, fr36_0, fq36_0⟩ := hQ36
  have N37 := Fr.app N31 Nq36
  have gg38 : n0 ≤ b_36 := Nat.le_trans (O32.1 ▸ O32.2.1) fr36_0
  have sz39 : h0.size ≤ b_36 := Nat.le_trans K33.1 fr36_0
  have O40 := O32.keep Kq36 all0
  have K41 := K33.trans Kq36 all0
  have q42 := fun t (kt : Go p e below T36 (mkF m 30 #[vR a1, vI 0, vI 6, vR b22, vI r_30, vR b_36] [(.ref b_36)]) t) => q35 t (st36 t (by
    show Go _ _ _ _ (mkF m 26 #[vR a1, vI 0, vI 6, vR b22, vI r_30, vU] [(.ref b_36)]) _
    refine XS.astore X36.here hx rfl (hb hby d6_26) rfl rfl (l' := #[vR a1, vI 0, vI 6, vR b22, vI r_30, vR b_36]) rfl ?_
    show Go _ _ _ _ (mkF m 28 #[vR a1, vI 0, vI 6, vR b22, vI r_30, vR b_36] []) _
    refine XS.aload X36.here hx rfl (hb hby d6_28) rfl rfl ?_
    exact kt))
  rcases pq30_0 with ⟨hj, hj'⟩ | ⟨hj, hj'⟩ | ⟨hj, hj'⟩ | ⟨hj, hj'⟩ | ⟨hj, hj'⟩ | ⟨hj, hj'⟩
  · skip
    have q43 := fun t (kt : Go p e below T36 (mkF m 30 #[vR a1, vI 0, vI 6, vR b22, vI 0, vR b_36] [(.ref b_36)]) t) => q42 t (by rw [hj]; exact kt)
    have q44 := fun t (kt : Go p e below T36 (mkF m 32 #[vR a1, vI 0, vI 6, vR b22, vI 0, vR b_36] [(.int 0), (.ref b_36)]) t) => q43 t (by
      show Go _ _ _ _ (mkF m 30 #[vR a1, vI 0, vI 6, vR b22, vI 0, vR b_36] [(.ref b_36)]) _
      refine XS.iload X36.here hx rfl (hb hby d6_30) rfl ?_
      exact kt)
    obtain ⟨_, _, ⟨T45, L45, k45, n45⟩, -, X45, ⟨_, hQ45, l45, y45, z45⟩, st45⟩ := Jvm.LawKit.callS X36 hx (y := ym2) hown (ow hZ hw 79 rfl) (ow hZ hw 80 rfl) (ow hZ hw 25 rfl) (ow hZ hw 81 rfl) (by decide) (backOf (W := 0) (rm19 l Z a0 hw [] cx b_36 kb_36 (0 : Int32) c0 (12 : Int32) [(.int (own_hb c0)), (.int (own_lb c0)), (.int (own_hb c1)), (.int (own_lb c1)), (.int (own_hb c2)), (.int (own_lb c2)), (.int (own_hb c3)), (.int (own_lb c3)), (.int (own_hb c4)), (.int (own_lb c4)), (.int (own_hb c5)), (.int (own_lb c5))] 0 T36.heap n0 O40 fq36_0 (by decide) (by decide) (by decide) (by decide) (by decide) rfl rfl hc900) hZ (ov hw 81 rfl) (ov hw 25 rfl) (by decide) (by decide)) (g := (mkF m 32 #[vR a1, vI 0, vI 6, vR b22, vI 0, vR b_36] [(.int 0), (.ref b_36)])) rfl (by rw [hml]; rfl) (argsL := [(.ref b_36), (.int 0)]) (rest := []) (lenOf pd_5 rfl) rfl own_le0 (hb hby d6_32) (fun _ _ => ⟨rfl, rfl, (by decide : 2 + 0 ≤ _), (by decide : 18 + 0 ≤ _)⟩)
    dsimp only [Pt.U, Pt.locs, Pt.cells, Pt.slots] at X45 l45 y45 z45 st45 hQ45
    subst l45 y45 z45
    obtain ⟨rfl, Nq45, eq45⟩ := hQ45
    have N46 := Fr.app N37 Nq45
    have q47 := fun t (kt : Go p e below T45 (mkF m 56 #[vR a1, vI 0, vI 6, vR b22, vI 0, vR b_36] [(.ref b_36)]) t) => q44 t (st45 t (by
      show Go _ _ _ _ (mkF m 35 #[vR a1, vI 0, vI 6, vR b22, vI 0, vR b_36] [(.int c0)]) _
      refine XS.sipush X45.here hx rfl (hb hby d6_35) ?_
      show Go _ _ _ _ (mkF m 38 _ [(.int 255), (.int c0)]) _
      refine XS.icmpYes X45.here hx rfl (pc0 := 38) (pc' := 54) rfl (hb hby d6_38) rfl (tlt hj').2.2.1 (by decide) (by decide) ?_
      show Go _ _ _ _ (mkF m 54 _ []) _
      refine XS.aload X45.here hx rfl (hb hby d6_54) rfl rfl ?_
      exact kt))
    exact ⟨some (.ref b_36), T45, _, _, _, _, X45, by decide, by decide, nofun, q47, fun fs hr => retOut X45 hx hret rfl (o4 ⟨rfl, rfl, rfl⟩) (hb hby d6_56) hr, by rw [eq45]; exact ⟨b_36, kb_36, rfl, N46, K41, sz39, fq36_0⟩⟩
  · skip
    have q48 := fun t (kt : Go p e below T36 (mkF m 30 #[vR a1, vI 0, vI 6, vR b22, vI 1, vR b_36] [(.ref b_36)]) t) => q42 t (by rw [hj]; exact kt)
    have q49 := fun t (kt : Go p e below T36 (mkF m 32 #[vR a1, vI 0, vI 6, vR b22, vI 1, vR b_36] [(.int 1), (.ref b_36)]) t) => q48 t (by
      show Go _ _ _ _ (mkF m 30 #[vR a1, vI 0, vI 6, vR b22, vI 1, vR b_36] [(.ref b_36)]) _
      refine XS.iload X36.here hx rfl (hb hby d6_30) rfl ?_
      exact kt)
    obtain ⟨_, _, ⟨T50, L50, k50, n50⟩, -, X50, ⟨_, hQ50, l50, y50, z50⟩, st50⟩ := Jvm.LawKit.callS X36 hx (y := ym2) hown (ow hZ hw 79 rfl) (ow hZ hw 80 rfl) (ow hZ hw 25 rfl) (ow hZ hw 81 rfl) (by decide) (backOf (W := 0) (rm19 l Z a0 hw [] cx b_36 kb_36 (1 : Int32) c1 (12 : Int32) [(.int (own_hb c0)), (.int (own_lb c0)), (.int (own_hb c1)), (.int (own_lb c1)), (.int (own_hb c2)), (.int (own_lb c2)), (.int (own_hb c3)), (.int (own_lb c3)), (.int (own_hb c4)), (.int (own_lb c4)), (.int (own_hb c5)), (.int (own_lb c5))] 2 T36.heap n0 O40 fq36_0 (by decide) (by decide) (by decide) (by decide) (by decide) rfl rfl hc901) hZ (ov hw 81 rfl) (ov hw 25 rfl) (by decide) (by decide)) (g := (mkF m 32 #[vR a1, vI 0, vI 6, vR b22, vI 1, vR b_36] [(.int 1), (.ref b_36)])) rfl (by rw [hml]; rfl) (argsL := [(.ref b_36), (.int 1)]) (rest := []) (lenOf pd_5 rfl) rfl own_le0 (hb hby d6_32) (fun _ _ => ⟨rfl, rfl, (by decide : 2 + 0 ≤ _), (by decide : 18 + 0 ≤ _)⟩)
    dsimp only [Pt.U, Pt.locs, Pt.cells, Pt.slots] at X50 l50 y50 z50 st50 hQ50
    subst l50 y50 z50
    obtain ⟨rfl, Nq50, eq50⟩ := hQ50
    have N51 := Fr.app N37 Nq50
    have q52 := fun t (kt : Go p e below T50 (mkF m 56 #[vR a1, vI 0, vI 6, vR b22, vI 1, vR b_36] [(.ref b_36)]) t) => q49 t (st50 t (by
      show Go _ _ _ _ (mkF m 35 #[vR a1, vI 0, vI 6, vR b22, vI 1, vR b_36] [(.int c1)]) _
      refine XS.sipush X50.here hx rfl (hb hby d6_35) ?_
      show Go _ _ _ _ (mkF m 38 _ [(.int 255), (.int c1)]) _
      refine XS.icmpYes X50.here hx rfl (pc0 := 38) (pc' := 54) rfl (hb hby d6_38) rfl (tlt hj').2.2.1 (by decide) (by decide) ?_
      show Go _ _ _ _ (mkF m 54 _ []) _
      refine XS.aload X50.here hx rfl (hb hby d6_54) rfl rfl ?_
      exact kt))
    exact ⟨some (.ref b_36), T50, _, _, _, _, X50, by decide, by decide, nofun, q52, fun fs hr => retOut X50 hx hret rfl (o4 ⟨rfl, rfl, rfl⟩) (hb hby d6_56) hr, by rw [eq50]; exact ⟨b_36, kb_36, rfl, N51, K41, sz39, fq36_0⟩⟩
  · skip
    have q53 := fun t (kt : Go p e below T36 (mkF m 30 #[vR a1, vI 0, vI 6, vR b22, vI 2, vR b_36] [(.ref b_36)]) t) => q42 t (by rw [hj]; exact kt)
    have q54 := fun t (kt : Go p e below T36 (mkF m 32 #[vR a1, vI 0, vI 6, vR b22, vI 2, vR b_36] [(.int 2), (.ref b_36)]) t) => q53 t (by
      show Go _ _ _ _ (mkF m 30 #[vR a1, vI 0, vI 6, vR b22, vI 2, vR b_36] [(.ref b_36)]) _
      refine XS.iload X36.here hx rfl (hb hby d6_30) rfl ?_
      exact kt)
    obtain ⟨_, _, ⟨T55, L55, k55, n55⟩, -, X55, ⟨_, hQ55, l55, y55, z55⟩, st55⟩ := Jvm.LawKit.callS X36 hx (y := ym2) hown (ow hZ hw 79 rfl) (ow hZ hw 80 rfl) (ow hZ hw 25 rfl) (ow hZ hw 81 rfl) (by decide) (backOf (W := 0) (rm19 l Z a0 hw [] cx b_36 kb_36 (2 : Int32) c2 (12 : Int32) [(.int (own_hb c0)), (.int (own_lb c0)), (.int (own_hb c1)), (.int (own_lb c1)), (.int (own_hb c2)), (.int (own_lb c2)), (.int (own_hb c3)), (.int (own_lb c3)), (.int (own_hb c4)), (.int (own_lb c4)), (.int (own_hb c5)), (.int (own_lb c5))] 4 T36.heap n0 O40 fq36_0 (by decide) (by decide) (by decide) (by decide) (by decide) rfl rfl hc902) hZ (ov hw 81 rfl) (ov hw 25 rfl) (by decide) (by decide)) (g := (mkF m 32 #[vR a1, vI 0, vI 6, vR b22, vI 2, vR b_36] [(.int 2), (.ref b_36)])) rfl (by rw [hml]; rfl) (argsL := [(.ref b_36), (.int 2)]) (rest := []) (lenOf pd_5 rfl) rfl own_le0 (hb hby d6_32) (fun _ _ => ⟨rfl, rfl, (by decide : 2 + 0 ≤ _), (by decide : 18 + 0 ≤ _)⟩)
    dsimp only [Pt.U, Pt.locs, Pt.cells, Pt.slots] at X55 l55 y55 z55 st55 hQ55
    subst l55 y55 z55
    obtain ⟨rfl, Nq55, eq55⟩ := hQ55
    have N56 := Fr.app N37 Nq55
    have q57 := fun t (kt : Go p e below T55 (mkF m 56 #[vR a1, vI 0, vI 6, vR b22, vI 2, vR b_36] [(.ref b_36)]) t) => q54 t (st55 t (by
      show Go _ _ _ _ (mkF m 35 #[vR a1, vI 0, vI 6, vR b22, vI 2, vR b_36] [(.int c2)]) _
      refine XS.sipush X55.here hx rfl (hb hby d6_35) ?_
      show Go _ _ _ _ (mkF m 38 _ [(.int 255), (.int c2)]) _
      refine XS.icmpYes X55.here hx rfl (pc0 := 38) (pc' := 54) rfl (hb hby d6_38) rfl (tlt hj').2.2.1 (by decide) (by decide) ?_
      show Go _ _ _ _ (mkF m 54 _ []) _
      refine XS.aload X55.here hx rfl (hb hby d6_54) rfl rfl ?_
      exact kt))
    exact ⟨some (.ref b_36), T55, _, _, _, _, X55, by decide, by decide, nofun, q57, fun fs hr => retOut X55 hx hret rfl (o4 ⟨rfl, rfl, rfl⟩) (hb hby d6_56) hr, by rw [eq55]; exact ⟨b_36, kb_36, rfl, N56, K41, sz39, fq36_0⟩⟩
  · skip
    have q58 := fun t (kt : Go p e below T36 (mkF m 30 #[vR a1, vI 0, vI 6, vR b22, vI 3, vR b_36] [(.ref b_36)]) t) => q42 t (by rw [hj]; exact kt)
    have q59 := fun t (kt : Go p e below T36 (mkF m 32 #[vR a1, vI 0, vI 6, vR b22, vI 3, vR b_36] [(.int 3), (.ref b_36)]) t) => q58 t (by
      show Go _ _ _ _ (mkF m 30 #[vR a1, vI 0, vI 6, vR b22, vI 3, vR b_36] [(.ref b_36)]) _
      refine XS.iload X36.here hx rfl (hb hby d6_30) rfl ?_
      exact kt)
    obtain ⟨_, _, ⟨T60, L60, k60, n60⟩, -, X60, ⟨_, hQ60, l60, y60, z60⟩, st60⟩ := Jvm.LawKit.callS X36 hx (y := ym2) hown (ow hZ hw 79 rfl) (ow hZ hw 80 rfl) (ow hZ hw 25 rfl) (ow hZ hw 81 rfl) (by decide) (backOf (W := 0) (rm19 l Z a0 hw [] cx b_36 kb_36 (3 : Int32) c3 (12 : Int32) [(.int (own_hb c0)), (.int (own_lb c0)), (.int (own_hb c1)), (.int (own_lb c1)), (.int (own_hb c2)), (.int (own_lb c2)), (.int (own_hb c3)), (.int (own_lb c3)), (.int (own_hb c4)), (.int (own_lb c4)), (.int (own_hb c5)), (.int (own_lb c5))] 6 T36.heap n0 O40 fq36_0 (by decide) (by decide) (by decide) (by decide) (by decide) rfl rfl hc903) hZ (ov hw 81 rfl) (ov hw 25 rfl) (by decide) (by decide)) (g := (mkF m 32 #[vR a1, vI 0, vI 6, vR b22, vI 3, vR b_36] [(.int 3), (.ref b_36)])) rfl (by rw [hml]; rfl) (argsL := [(.ref b_36), (.int 3)]) (rest := []) (lenOf pd_5 rfl) rfl own_le0 (hb hby d6_32) (fun _ _ => ⟨rfl, rfl, (by decide : 2 + 0 ≤ _), (by decide : 18 + 0 ≤ _)⟩)
    dsimp only [Pt.U, Pt.locs, Pt.cells, Pt.slots] at X60 l60 y60 z60 st60 hQ60
    subst l60 y60 z60
    obtain ⟨rfl, Nq60, eq60⟩ := hQ60
    have N61 := Fr.app N37 Nq60
    have q62 := fun t (kt : Go p e below T60 (mkF m 56 #[vR a1, vI 0, vI 6, vR b22, vI 3, vR b_36] [(.ref b_36)]) t) => q59 t (st60 t (by
      show Go _ _ _ _ (mkF m 35 #[vR a1, vI 0, vI 6, vR b22, vI 3, vR b_36] [(.int c3)]) _
      refine XS.sipush X60.here hx rfl (hb hby d6_35) ?_
      show Go _ _ _ _ (mkF m 38 _ [(.int 255), (.int c3)]) _
      refine XS.icmpYes X60.here hx rfl (pc0 := 38) (pc' := 54) rfl (hb hby d6_38) rfl (tlt hj').2.2.1 (by decide) (by decide) ?_
      show Go _ _ _ _ (mkF m 54 _ []) _
      refine XS.aload X60.here hx rfl (hb hby d6_54) rfl rfl ?_
      exact kt))
    exact ⟨some (.ref b_36), T60, _, _, _, _, X60, by decide, by decide, nofun, q62, fun fs hr => retOut X60 hx hret rfl (o4 ⟨rfl, rfl, rfl⟩) (hb hby d6_56) hr, by rw [eq60]; exact ⟨b_36, kb_36, rfl, N61, K41, sz39, fq36_0⟩⟩
  · skip
    have q63 := fun t (kt : Go p e below T36 (mkF m 30 #[vR a1, vI 0, vI 6, vR b22, vI 4, vR b_36] [(.ref b_36)]) t) => q42 t (by rw [hj]; exact kt)
    have q64 := fun t (kt : Go p e below T36 (mkF m 32 #[vR a1, vI 0, vI 6, vR b22, vI 4, vR b_36] [(.int 4), (.ref b_36)]) t) => q63 t (by
      show Go _ _ _ _ (mkF m 30 #[vR a1, vI 0, vI 6, vR b22, vI 4, vR b_36] [(.ref b_36)]) _
      refine XS.iload X36.here hx rfl (hb hby d6_30) rfl ?_
      exact kt)
    obtain ⟨_, _, ⟨T65, L65, k65, n65⟩, -, X65, ⟨_, hQ65, l65, y65, z65⟩, st65⟩ := Jvm.LawKit.callS X36 hx (y := ym2) hown (ow hZ hw 79 rfl) (ow hZ hw 80 rfl) (ow hZ hw 25 rfl) (ow hZ hw 81 rfl) (by decide) (backOf (W := 0) (rm19 l Z a0 hw [] cx b_36 kb_36 (4 : Int32) c4 (12 : Int32) [(.int (own_hb c0)), (.int (own_lb c0)), (.int (own_hb c1)), (.int (own_lb c1)), (.int (own_hb c2)), (.int (own_lb c2)), (.int (own_hb c3)), (.int (own_lb c3)), (.int (own_hb c4)), (.int (own_lb c4)), (.int (own_hb c5)), (.int (own_lb c5))] 8 T36.heap n0 O40 fq36_0 (by decide) (by decide) (by decide) (by decide) (by decide) rfl rfl hc904) hZ (ov hw 81 rfl) (ov hw 25 rfl) (by decide) (by decide)) (g := (mkF m 32 #[vR a1, vI 0, vI 6, vR b22, vI 4, vR b_36] [(.int 4), (.ref b_36)])) rfl (by rw [hml]; rfl) (argsL := [(.ref b_36), (.int 4)]) (rest := []) (lenOf pd_5 rfl) rfl own_le0 (hb hby d6_32) (fun _ _ => ⟨rfl, rfl, (by decide : 2 + 0 ≤ _), (by decide : 18 + 0 ≤ _)⟩)
    dsimp only [Pt.U, Pt.locs, Pt.cells, Pt.slots] at X65 l65 y65 z65 st65 hQ65
    subst l65 y65 z65
    obtain ⟨rfl, Nq65, eq65⟩ := hQ65
    have N66 := Fr.app N37 Nq65
    have q67 := fun t (kt : Go p e below T65 (mkF m 56 #[vR a1, vI 0, vI 6, vR b22, vI 4, vR b_36] [(.ref b_36)]) t) => q64 t (st65 t (by
      show Go _ _ _ _ (mkF m 35 #[vR a1, vI 0, vI 6, vR b22, vI 4, vR b_36] [(.int c4)]) _
      refine XS.sipush X65.here hx rfl (hb hby d6_35) ?_
      show Go _ _ _ _ (mkF m 38 _ [(.int 255), (.int c4)]) _
      refine XS.icmpYes X65.here hx rfl (pc0 := 38) (pc' := 54) rfl (hb hby d6_38) rfl (tlt hj').2.2.1 (by decide) (by decide) ?_
      show Go _ _ _ _ (mkF m 54 _ []) _
      refine XS.aload X65.here hx rfl (hb hby d6_54) rfl rfl ?_
      exact kt))
    exact ⟨some (.ref b_36), T65, _, _, _, _, X65, by decide, by decide, nofun, q67, fun fs hr => retOut X65 hx hret rfl (o4 ⟨rfl, rfl, rfl⟩) (hb hby d6_56) hr, by rw [eq65]; exact ⟨b_36, kb_36, rfl, N66, K41, sz39, fq36_0⟩⟩
  · skip
    have q68 := fun t (kt : Go p e below T36 (mkF m 30 #[vR a1, vI 0, vI 6, vR b22, vI 5, vR b_36] [(.ref b_36)]) t) => q42 t (by rw [hj]; exact kt)
    have q69 := fun t (kt : Go p e below T36 (mkF m 32 #[vR a1, vI 0, vI 6, vR b22, vI 5, vR b_36] [(.int 5), (.ref b_36)]) t) => q68 t (by
      show Go _ _ _ _ (mkF m 30 #[vR a1, vI 0, vI 6, vR b22, vI 5, vR b_36] [(.ref b_36)]) _
      refine XS.iload X36.here hx rfl (hb hby d6_30) rfl ?_
      exact kt)
    obtain ⟨_, _, ⟨T70, L70, k70, n70⟩, -, X70, ⟨_, hQ70, l70, y70, z70⟩, st70⟩ := Jvm.LawKit.callS X36 hx (y := ym2) hown (ow hZ hw 79 rfl) (ow hZ hw 80 rfl) (ow hZ hw 25 rfl) (ow hZ hw 81 rfl) (by decide) (backOf (W := 0) (rm19 l Z a0 hw [] cx b_36 kb_36 (5 : Int32) c5 (12 : Int32) [(.int (own_hb c0)), (.int (own_lb c0)), (.int (own_hb c1)), (.int (own_lb c1)), (.int (own_hb c2)), (.int (own_lb c2)), (.int (own_hb c3)), (.int (own_lb c3)), (.int (own_hb c4)), (.int (own_lb c4)), (.int (own_hb c5)), (.int (own_lb c5))] 10 T36.heap n0 O40 fq36_0 (by decide) (by decide) (by decide) (by decide) (by decide) rfl rfl hc905) hZ (ov hw 81 rfl) (ov hw 25 rfl) (by decide) (by decide)) (g := (mkF m 32 #[vR a1, vI 0, vI 6, vR b22, vI 5, vR b_36] [(.int 5), (.ref b_36)])) rfl (by rw [hml]; rfl) (argsL := [(.ref b_36), (.int 5)]) (rest := []) (lenOf pd_5 rfl) rfl own_le0 (hb hby d6_32) (fun _ _ => ⟨rfl, rfl, (by decide : 2 + 0 ≤ _), (by decide : 18 + 0 ≤ _)⟩)
    dsimp only [Pt.U, Pt.locs, Pt.cells, Pt.slots] at X70 l70 y70 z70 st70 hQ70
    subst l70 y70 z70
    obtain ⟨rfl, Nq70, eq70⟩ := hQ70
    have N71 := Fr.app N37 Nq70
    have q72 := fun t (kt : Go p e below T70 (mkF m 56 #[vR a1, vI 0, vI 6, vR b22, vI 5, vR b_36] [(.ref b_36)]) t) => q69 t (st70 t (by
      show Go _ _ _ _ (mkF m 35 #[vR a1, vI 0, vI 6, vR b22, vI 5, vR b_36] [(.int c5)]) _
      refine XS.sipush X70.here hx rfl (hb hby d6_35) ?_
      show Go _ _ _ _ (mkF m 38 _ [(.int 255), (.int c5)]) _
      refine XS.icmpYes X70.here hx rfl (pc0 := 38) (pc' := 54) rfl (hb hby d6_38) rfl (tlt hj').2.2.1 (by decide) (by decide) ?_
      show Go _ _ _ _ (mkF m 54 _ []) _
      refine XS.aload X70.here hx rfl (hb hby d6_54) rfl rfl ?_
      exact kt))
    exact ⟨some (.ref b_36), T70, _, _, _, _, X70, by decide, by decide, nofun, q72, fun fs hr => retOut X70 hx hret rfl (o4 ⟨rfl, rfl, rfl⟩) (hb hby d6_56) hr, by rw [eq70]; exact ⟨b_36, kb_36, rfl, N71, K41, sz39, fq36_0⟩⟩
def Q_rm8_6 (Z : State) (b : Addr) (kb : ClassId) (e0 : Value) (e1 : Value) (e2 : Value) (e3 : Value) (e4 : Value) (e5 : Value) (e6 : Value) (e7 : Value) (e8 : Value) (e9 : Value) (e10 : Value) (e11 : Value) (z_cs : Int32) (h0 : Heap) (n0 : Nat) (v : Option Value) (h : Heap) (L : List Loc) : Prop := v = some (.int 1) ∧ Fr n0 L ∧ h = h0
theorem rm8_6 (l : Launch) (Z : State) (a0 : Array Value) (hw : ∀ d ∈ tables_1, d.before a0 Z = true) (ws : List Jvm.Cond) {z_cs : Int32} (cx : Cx Z z_cs) (b : Addr) (kb : ClassId) (e0 : Value) (e1 : Value) (e2 : Value) (e3 : Value) (e4 : Value) (e5 : Value) (e6 : Value) (e7 : Value) (e8 : Value) (e9 : Value) (e10 : Value) (e11 : Value) (h0 : Heap) (n0 : Nat) (O0 : Old Z n0 h0) (G0 : Arv Z h0 b kb .byte (12 : Int32) [e0, e1, e2, e3, e4, e5, e6, e7, e8, e9, e10, e11] (.int 0)) :
    OwnMet l ym8 (Jvm.Cond.code ym8 jdk_52_method_15_code 2 (some .byte) :: ws) (own_R 0 0 0 0) #[(.ref b), (.int 6)] Z h0 (Q_rm8_6 Z b kb e0 e1 e2 e3 e4 e5 e6 e7 e8 e9 e10 e11 z_cs h0 n0) := by
  refine own_body (plainFor_of_name pn_8) hisR fun p e s m below meth c s₁ hx hby hml hown hnm hret hZ X0 e0 => ?_
  have N0 := Fr.nil n0
  have pre0 : ∀ t, Go p e below s₁ (mkF m 0 #[vR b, vI 6] []) t → Go p e below s₁ (entryFrame m #[(.ref b), (.int 6)] 2) t := fun t k => castTop (ef_8_RI m b (6 : Int32)) k
  have q22 := fun t (kt : Go p e below s₁ (mkF m 2 #[vR b, vI 6] [(.ref b), (.int 6)]) t) => pre0 t (by
    show Go _ _ _ _ (mkF m 0 #[vR b, vI 6] []) _
    refine XS.iloadN X0.here hx rfl (hb hby d8_0) rfl ?_
    show Go _ _ _ _ (mkF m 1 _ [(.int 6)]) _
    refine XS.aloadN X0.here hx rfl (hb hby d8_1) rfl rfl ?_
    exact kt)
  obtain ⟨c21, Ar21, -, S21, N21, -, -⟩ := id G0
  have q23 := fun t (kt : Go p e below s₁ (mkF m 8 #[vR b, vI 6] [(.int ((((-6 : Int32).toUInt32 >>> ((31 : Int32) &&& 31).toUInt32).toInt32).toInt8.toInt32))]) t) => q22 t (by
    show Go _ _ _ _ (mkF m 2 #[vR b, vI 6] [(.ref b), (.int 6)]) _
    refine X0.arraylength hx (by rw [e0]; exact Ar21.1) (State.isArrayOf_alike hZ.alike Ar21.2.1) (g := (mkF m 2 #[vR b, vI 6] [(.ref b), (.int 6)])) rfl rfl (hb hby d8_2) _ ?_
    rw [len_of S21 N21]
    show Go _ _ _ _ (mkF m 3 _ [(.int 12), (.int 6)]) _
    refine XS.isub X0.here hx rfl (hb hby d8_3) rfl ?_
    show Go _ _ _ _ (mkF m 4 _ [(.int (-6 : Int32))]) _
    refine XS.bipush X0.here hx rfl (hb hby d8_4) ?_
    show Go _ _ _ _ (mkF m 6 _ [(.int 31), (.int (-6 : Int32))]) _
    refine XS.iushr X0.here hx rfl (hb hby d8_6) rfl ?_
    show Go _ _ _ _ (mkF m 7 _ [(.int (((-6 : Int32).toUInt32 >>> ((31 : Int32) &&& 31).toUInt32).toInt32))]) _
    refine XS.i2b X0.here hx rfl (hb hby d8_7) rfl ?_
    exact kt)
  exact ⟨some (.int (nar .byte ((((-6 : Int32).toUInt32 >>> ((31 : Int32) &&& 31).toUInt32).toInt32).toInt8.toInt32))), s₁, _, _, _, _, X0, by decide, by decide, nofun, q23, fun fs hr => retN X0 hx (t := .byte) hret (by simp) (hb hby d8_8) hr, by rw [e0]; exact ⟨(by decide), N0, rfl⟩⟩
def Q_rm4_6 (Z : State) (a1 : Addr) (a2 : Addr) (ka : ClassId) (c0 : Int32) (c1 : Int32) (c2 : Int32) (c3 : Int32) (c4 : Int32) (c5 : Int32) (z_cs : Int32) (h0 : Heap) (n0 : Nat) (v : Option Value) (h : Heap) (L : List Loc) : Prop := ∃ (t : Addr), v = none ∧ Fr n0 L ∧ Keep h0 h [a1] ∧ Fld Z h a1 sk1 "value" "[B" (.ref t) ∧ Fld Z h a1 sk1 "coder" "B" (.int 1)
theorem rm4_6 (l : Launch) (Z : State) (a0 : Array Value) (hw : ∀ d ∈ tables_1, d.before a0 Z = true) (ws : List Jvm.Cond) {z_cs : Int32} (cx : Cx Z z_cs) (a1 : Addr) (a2 : Addr) (ka : ClassId) (c0 : Int32) (c1 : Int32) (c2 : Int32) (c3 : Int32) (c4 : Int32) (c5 : Int32) (h0 : Heap) (n0 : Nat) (O0 : Old Z n0 h0) (G0 : Exa Z h0 a1 sk1) (G1 : Fld Z h0 a1 sk1 "value" "[B" .null) (G2 : Fld Z h0 a1 sk1 "coder" "B" (.int 0)) (G3 : Arv Z h0 a2 ka .char (6 : Int32) [(.int c0), (.int c1), (.int c2), (.int c3), (.int c4), (.int c5)] (.int 0)) (g_a1 : n0 ≤ a1) (hB : (255 : Int32) < c0 ∨ (255 : Int32) < c1 ∨ (255 : Int32) < c2 ∨ (255 : Int32) < c3 ∨ (255 : Int32) < c4 ∨ (255 : Int32) < c5) (hc900 : ¬ c0 < 0 ∧ ¬ (65535 : Int32) < c0) (hc901 : ¬ c1 < 0 ∧ ¬ (65535 : Int32) < c1) (hc902 : ¬ c2 < 0 ∧ ¬ (65535 : Int32) < c2) (hc903 : ¬ c3 < 0 ∧ ¬ (65535 : Int32) < c3) (hc904 : ¬ c4 < 0 ∧ ¬ (65535 : Int32) < c4) (hc905 : ¬ c5 < 0 ∧ ¬ (65535 : Int32) < c5) :
    OwnMet l ym9 (Jvm.Cond.code ym9 jdk_42_method_149_code 6 none :: ws) (own_R 4 2 18 57) #[(.ref a1), (.ref a2), (.int 0), (.int 6), .null] Z h0 (Q_rm4_6 Z a1 a2 ka c0 c1 c2 c3 c4 c5 z_cs h0 n0) := by
  refine own_body (plainFor_of_name pn_4) hisR fun p e s m below meth c s₁ hx hby hml hown hnm hret hZ X0 e0 => ?_
  have N0 := Fr.nil n0
  have K0 : Keep h0 h0 [a1] := Keep.refl _ _
  have pre0 : ∀ t, Go p e below s₁ (mkF m 0 #[vR a1, vR a2, vI 0, vI 6, vN, vU] []) t → Go p e below s₁ (entryFrame m #[(.ref a1), (.ref a2), (.int 0), (.int 6), .null] 6) t := fun t k => castTop (ef_4_RRIIN m a1 a2 (0 : Int32) (6 : Int32)) k
  have q21 := fun t (kt : Go p e below s₁ (mkF m 1 #[vR a1, vR a2, vI 0, vI 6, vN, vU] [(.ref a1)]) t) => pre0 t (by
    show Go _ _ _ _ (mkF m 0 #[vR a1, vR a2, vI 0, vI 6, vN, vU] []) _
    refine XS.aloadN X0.here hx rfl (hb hby d4_0) rfl rfl ?_
    exact kt)
  obtain ⟨T22, X22, e22, st22⟩ := initO X0 hx hZ hown (ov hw 19 rfl) (ov hw 20 rfl) (ov hw 21 rfl) e0 (g := (mkF m 1 #[vR a1, vR a2, vI 0, vI 6, vN, vU] [(.ref a1)])) rfl (by rw [hml]; rfl) rfl (hb hby d4_1) (by decide) (W := 0) own_le0 (by decide)
  have q23 := fun t (kt : Go p e below T22 (mkF m 27 #[vR a1, vR a2, vI 0, vI 6, vN, vU] []) t) => q21 t (st22 t (by
    show Go _ _ _ _ (mkF m 4 #[vR a1, vR a2, vI 0, vI 6, vN, vU] []) _
    refine XS.iloadN X22.here hx rfl (hb hby d4_4) rfl ?_
    show Go _ _ _ _ (mkF m 5 _ [(.int 6)]) _
    refine XS.ifYes X22.here hx rfl (pc0 := 5) (pc' := 27) rfl (hb hby d4_5) rfl ((if0 _ _).trans (feq (by decide : ¬ ((6 : Int32) = (0 : Int32)))).2) (by decide) (by decide) ?_
    exact kt))
  obtain ⟨T24, X24, e24, st24⟩ := getS2 X22 hx hZ hown (host := "") (Or.inl (ov hw 22 rfl)) Via.refl e22 (cx.1.ext O0.2) (g := (mkF m 27 #[vR a1, vR a2, vI 0, vI 6, vN, vU] [])) rfl (hb hby d4_27)
  have q25 := fun t (kt : Go p e below T24 (mkF m 36 #[vR a1, vR a2, vI 0, vI 6, vN, vU] [(.int 6), (.int 0), (.ref a2)]) t) => q23 t (st24 t (by
    show Go _ _ _ _ (mkF m 30 #[vR a1, vR a2, vI 0, vI 6, vN, vU] [(.int z_cs)]) _
    refine XS.ifNo X24.here hx rfl (hb hby d4_30) rfl ((if0 _ _).trans (feq cx.2.1).1) ?_
    show Go _ _ _ _ (mkF m 33 _ []) _
    refine XS.aloadN X24.here hx rfl (hb hby d4_33) rfl rfl ?_
    show Go _ _ _ _ (mkF m 34 _ [(.ref a2)]) _
    refine XS.iloadN X24.here hx rfl (hb hby d4_34) rfl ?_
    show Go _ _ _ _ (mkF m 35 _ [(.int 0), (.ref a2)]) _
    refine XS.iloadN X24.here hx rfl (hb hby d4_35) rfl ?_
    exact kt))
  obtain ⟨_, _, ⟨T26, L26, k26, n26⟩, -, X26, ⟨_, hQ26, l26, y26, z26⟩, st26⟩ := Jvm.LawKit.callS X24 hx (y := ym7) hown (ow hZ hw 23 rfl) (ow hZ hw 24 rfl) (ow hZ hw 25 rfl) (ow hZ hw 26 rfl) (by decide) (backOf (W := 0) (rm6_6 l Z a0 hw [] cx a2 ka c0 c1 c2 c3 c4 c5 h0 n0 O0 G3 hB hc900 hc901 hc902 hc903 hc904 hc905) hZ (ov hw 26 rfl) (ov hw 25 rfl) (by decide) (by decide)) (g := (mkF m 36 #[vR a1, vR a2, vI 0, vI 6, vN, vU] [(.int 6), (.int 0), (.ref a2)])) rfl (by rw [hml]; rfl) (argsL := [(.ref a2), (.int 0), (.int 6)]) (rest := []) (lenOf pd_4 rfl) rfl own_le0 (hb hby d4_36) (fun _ _ => ⟨rfl, e24, (by decide : 0 + 2 ≤ _), (by decide : 0 + 18 ≤ _)⟩)
  dsimp only [Pt.U, Pt.locs, Pt.cells, Pt.slots] at X26 l26 y26 z26 st26 hQ26
  subst l26 y26 z26
  obtain ⟨b_26, kb_26, rfl, Nq26, Kq26, fr26_0, fq26_0⟩ := hQ26
  have N27 := Fr.app N0 Nq26
  have gg28 : n0 ≤ b_26 := Nat.le_trans (O0.1 ▸ O0.2.1) fr26_0
  have sz29 : h0.size ≤ b_26 := Nat.le_trans K0.1 fr26_0
  have O30 := O0.keep Kq26 all0
  have K31 := K0.trans Kq26 all0
  have q32 := fun t (kt : Go p e below T26 (mkF m 45 #[vR a1, vR a2, vI 0, vI 6, vN, vR b_26] [(.int 6), (.ref b_26), (.ref a1)]) t) => q25 t (st26 t (by
    show Go _ _ _ _ (mkF m 39 #[vR a1, vR a2, vI 0, vI 6, vN, vU] [(.ref b_26)]) _
    refine XS.astore X26.here hx rfl (hb hby d4_39) rfl rfl (l' := #[vR a1, vR a2, vI 0, vI 6, vN, vR b_26]) rfl ?_
    show Go _ _ _ _ (mkF m 41 #[vR a1, vR a2, vI 0, vI 6, vN, vR b_26] []) _
    refine XS.aloadN X26.here hx rfl (hb hby d4_41) rfl rfl ?_
    show Go _ _ _ _ (mkF m 42 _ [(.ref a1)]) _
    refine XS.aload X26.here hx rfl (hb hby d4_42) rfl rfl ?_
    show Go _ _ _ _ (mkF m 44 _ [(.ref b_26), (.ref a1)]) _
    refine XS.iloadN X26.here hx rfl (hb hby d4_44) rfl ?_
    exact kt))
  obtain ⟨_, _, ⟨T33, L33, k33, n33⟩, -, X33, ⟨_, hQ33, l33, y33, z33⟩, st33⟩ := Jvm.LawKit.callS X26 hx (y := ym8) hown (ow hZ hw 31 rfl) (ow hZ hw 32 rfl) (ow hZ hw 25 rfl) (ow hZ hw 33 rfl) (by decide) (backOf (W := 1) (rm8_6 l Z a0 hw [] cx b_26 kb_26 (.int (own_hb c0)) (.int (own_lb c0)) (.int (own_hb c1)) (.int (own_lb c1)) (.int (own_hb c2)) (.int (own_lb c2)) (.int (own_hb c3)) (.int (own_lb c3)) (.int (own_hb c4)) (.int (own_lb c4)) (.int (own_hb c5)) (.int (own_lb c5)) T26.heap n0 O30 fq26_0) hZ (ov hw 33 rfl) (ov hw 25 rfl) (by decide) (by decide)) (g := (mkF m 45 #[vR a1, vR a2, vI 0, vI 6, vN, vR b_26] [(.int 6), (.ref b_26), (.ref a1)])) rfl (by rw [hml]; rfl) (argsL := [(.ref b_26), (.int 6)]) (rest := [(.ref a1)]) (lenOf pd_6 rfl) rfl own_le0 (hb hby d4_45) (fun _ _ => ⟨rfl, rfl, (by decide : 2 + 0 ≤ _), (by decide : 18 + 0 ≤ _)⟩)
  dsimp only [Pt.U, Pt.locs, Pt.cells, Pt.slots] at X33 l33 y33 z33 st33 hQ33
  subst l33 y33 z33
  obtain ⟨rfl, Nq33, eq33⟩ := hQ33
  have N34 := Fr.app N27 Nq33
  have f35 := (G0.keep Kq26)
  have f36 := (G2.keep Kq26 nin0)
  obtain ⟨T37, h37, X37, e37, W37, st37⟩ := putFN X33 hx hZ hown (ov hw 34 rfl) Via.refl eq33 f36 f35 (Or.inr ⟨(ov hw 35 rfl), rfl, hnm⟩) (ov hw 9 rfl) (ty := .byte) (v' := (.int 1)) (by decide) rfl rfl (g := (mkF m 48 #[vR a1, vR a2, vI 0, vI 6, vN, vR b_26] [(.int 1), (.ref a1)])) rfl rfl (hb hby d4_48)
  have f38 : Fld Z h37 a1 sk1 "coder" "B" (.int 1) := f36.same W37
  have N39 := Fr.snoc X37 N34 g_a1
  have O40 := O30.wr W37 g_a1
  have K41 := K31.wr W37 (Or.inl (List.mem_of_getElem? (i := 0) rfl))
  have f42 := (f35.wr W37)
  have f43 := ((G1.keep Kq26 nin0).other W37 (Or.inr (slot_ne (Or.inr (ov hw 37 rfl)) (Or.inr (ov hw 35 rfl)) (by decide) (t := (.array .byte)) (t' := .byte) (by decide) (by decide))))
  have q44 := fun t (kt : Go p e below T37 (mkF m 54 #[vR a1, vR a2, vI 0, vI 6, vN, vR b_26] [(.ref b_26), (.ref a1)]) t) => q32 t (st33 t (st37 t (by
    show Go _ _ _ _ (mkF m 51 #[vR a1, vR a2, vI 0, vI 6, vN, vR b_26] []) _
    refine XS.aloadN X37.here hx rfl (hb hby d4_51) rfl rfl ?_
    show Go _ _ _ _ (mkF m 52 _ [(.ref a1)]) _
    refine XS.aload X37.here hx rfl (hb hby d4_52) rfl rfl ?_
    exact kt)))
  obtain ⟨T45, h45, X45, e45, W45, st45⟩ := putF X37 hx hZ hown (host := "") (Or.inl (ov hw 36 rfl)) Via.refl e37 f43 f42 (Or.inr ⟨(ov hw 37 rfl), rfl, hnm⟩) (ov hw 9 rfl) (ty := (.array .byte)) (by decide) rfl rfl (g := (mkF m 54 #[vR a1, vR a2, vI 0, vI 6, vN, vR b_26] [(.ref b_26), (.ref a1)])) rfl rfl (hb hby d4_54)
  have f46 : Fld Z h45 a1 sk1 "value" "[B" (.ref b_26) := f43.same W45
  have N47 := Fr.snoc X45 N39 g_a1
  have O48 := O40.wr W45 g_a1
  have K49 := K41.wr W45 (Or.inl (List.mem_of_getElem? (i := 0) rfl))
  have q50 := fun t (kt : Go p e below T45 (mkF m 57 #[vR a1, vR a2, vI 0, vI 6, vN, vR b_26] []) t) => q44 t (st45 t kt)
  have f51 := (f38.other W45 (Or.inr (slot_ne (Or.inr (ov hw 35 rfl)) (Or.inr (ov hw 37 rfl)) (by decide) (t := .byte) (t' := (.array .byte)) (by decide) (by decide))))
  exact ⟨none, T45, _, _, _, _, X45, by decide, by decide, fun _ => rfl, q50, fun fs hr => X45.returnOut hx hret (hb hby d4_57) hr, by rw [e45]; exact ⟨b_26, rfl, N47, K49, f46, f51⟩⟩
def Q_rm3_6 (Z : State) (a1 : Addr) (a2 : Addr) (ka : ClassId) (c0 : Int32) (c1 : Int32) (c2 : Int32) (c3 : Int32) (c4 : Int32) (c5 : Int32) (z_cs : Int32) (h0 : Heap) (n0 : Nat) (v : Option Value) (h : Heap) (L : List Loc) : Prop := ∃ (t : Addr), v = none ∧ Fr n0 L ∧ Keep h0 h [a1] ∧ Fld Z h a1 sk1 "value" "[B" (.ref t) ∧ Fld Z h a1 sk1 "coder" "B" (.int 1)
theorem rm3_6 (l : Launch) (Z : State) (a0 : Array Value) (hw : ∀ d ∈ tables_1, d.before a0 Z = true) (ws : List Jvm.Cond) {z_cs : Int32} (cx : Cx Z z_cs) (a1 : Addr) (a2 : Addr) (ka : ClassId) (c0 : Int32) (c1 : Int32) (c2 : Int32) (c3 : Int32) (c4 : Int32) (c5 : Int32) (h0 : Heap) (n0 : Nat) (O0 : Old Z n0 h0) (G0 : Exa Z h0 a1 sk1) (G1 : Fld Z h0 a1 sk1 "value" "[B" .null) (G2 : Fld Z h0 a1 sk1 "coder" "B" (.int 0)) (G3 : Arv Z h0 a2 ka .char (6 : Int32) [(.int c0), (.int c1), (.int c2), (.int c3), (.int c4), (.int c5)] (.int 0)) (g_a1 : n0 ≤ a1) (hB : (255 : Int32) < c0 ∨ (255 : Int32) < c1 ∨ (255 : Int32) < c2 ∨ (255 : Int32) < c3 ∨ (255 : Int32) < c4 ∨ (255 : Int32) < c5) (hc900 : ¬ c0 < 0 ∧ ¬ (65535 : Int32) < c0) (hc901 : ¬ c1 < 0 ∧ ¬ (65535 : Int32) < c1) (hc902 : ¬ c2 < 0 ∧ ¬ (65535 : Int32) < c2) (hc903 : ¬ c3 < 0 ∧ ¬ (65535 : Int32) < c3) (hc904 : ¬ c4 < 0 ∧ ¬ (65535 : Int32) < c4) (hc905 : ¬ c5 < 0 ∧ ¬ (65535 : Int32) < c5) :
    OwnMet l ym10 (Jvm.Cond.code ym10 jdk_42_method_3_code 2 none :: ws) (own_R 5 2 18 74) #[(.ref a1), (.ref a2)] Z h0 (Q_rm3_6 Z a1 a2 ka c0 c1 c2 c3 c4 c5 z_cs h0 n0) := by
  refine own_body (plainFor_of_name pn_3) hisR fun p e s m below meth c s₁ hx hby hml hown hnm hret hZ X0 e0 => ?_
  have N0 := Fr.nil n0
  have K0 : Keep h0 h0 [a1] := Keep.refl _ _
  have pre0 : ∀ t, Go p e below s₁ (mkF m 0 #[vR a1, vR a2] []) t → Go p e below s₁ (entryFrame m #[(.ref a1), (.ref a2)] 2) t := fun t k => castTop (ef_3_RR m a1 a2) k
  have q22 := fun t (kt : Go p e below s₁ (mkF m 4 #[vR a1, vR a2] [(.ref a2), (.int 0), (.ref a2), (.ref a1)]) t) => pre0 t (by
    show Go _ _ _ _ (mkF m 0 #[vR a1, vR a2] []) _
    refine XS.aloadN X0.here hx rfl (hb hby d3_0) rfl rfl ?_
    show Go _ _ _ _ (mkF m 1 _ [(.ref a1)]) _
    refine XS.aloadN X0.here hx rfl (hb hby d3_1) rfl rfl ?_
    show Go _ _ _ _ (mkF m 2 _ [(.ref a2), (.ref a1)]) _
    refine XS.iconst X0.here hx rfl (hb hby d3_2) ?_
    show Go _ _ _ _ (mkF m 3 _ [(.int 0), (.ref a2), (.ref a1)]) _
    refine XS.aloadN X0.here hx rfl (hb hby d3_3) rfl rfl ?_
    exact kt)
  obtain ⟨c21, Ar21, -, S21, N21, -, -⟩ := id G3
  have q23 := fun t (kt : Go p e below s₁ (mkF m 6 #[vR a1, vR a2] [.null, (.int 6), (.int 0), (.ref a2), (.ref a1)]) t) => q22 t (by
    show Go _ _ _ _ (mkF m 4 #[vR a1, vR a2] [(.ref a2), (.int 0), (.ref a2), (.ref a1)]) _
    refine X0.arraylength hx (by rw [e0]; exact Ar21.1) (State.isArrayOf_alike hZ.alike Ar21.2.1) (g := (mkF m 4 #[vR a1, vR a2] [(.ref a2), (.int 0), (.ref a2), (.ref a1)])) rfl rfl (hb hby d3_4) _ ?_
    rw [len_of S21 N21]
    show Go _ _ _ _ (mkF m 5 _ [(.int 6), (.int 0), (.ref a2), (.ref a1)]) _
    refine XS.aconstNull X0.here hx rfl (hb hby d3_5) ?_
    exact kt)
  obtain ⟨_, _, ⟨T24, L24, k24, n24⟩, -, X24, ⟨_, hQ24, l24, y24, z24⟩, st24⟩ := X0.specialBack hx (y := ym9) rfl hown (ow hZ hw 15 rfl) (ow hZ hw 16 rfl) (ow hZ hw 18 rfl) (by decide) (backOf (W := 0) (rm4_6 l Z a0 hw [] cx a1 a2 ka c0 c1 c2 c3 c4 c5 h0 n0 O0 G0 G1 G2 G3 g_a1 hB hc900 hc901 hc902 hc903 hc904 hc905) hZ (ov hw 18 rfl) (ov hw 10 rfl) (by decide) (by decide)) (g := (mkF m 6 #[vR a1, vR a2] [.null, (.int 6), (.int 0), (.ref a2), (.ref a1)])) rfl (by rw [hml]; rfl) (Steps.refl _) (a := a1) (argsL := [(.ref a2), (.int 0), (.int 6), .null]) (rest := []) (lenOf pd_7 rfl) rfl own_le0 (hb hby d3_6) (fun _ _ => ⟨rfl, e0, (by decide : 0 + 2 ≤ _), (by decide : 0 + 18 ≤ _)⟩)
  dsimp only [Pt.U, Pt.locs, Pt.cells, Pt.slots] at X24 l24 y24 z24 st24 hQ24
  subst l24 y24 z24
  obtain ⟨t_24, rfl, Nq24, Kq24, fq24_0, fq24_1⟩ := hQ24
  have N25 := Fr.app N0 Nq24
  have O26 := O0.keep Kq24 (allS g_a1 all0)
  have K27 := K0.trans Kq24 (allS (Or.inl (List.mem_of_getElem? (i := 0) rfl)) all0)
  have q28 := fun t (kt : Go p e below T24 (mkF m 9 #[vR a1, vR a2] []) t) => q23 t (st24.trans kt)
  exact ⟨none, T24, _, _, _, _, X24, by decide, by decide, fun _ => rfl, q28, fun fs hr => X24.returnOut hx hret (hb hby d3_9) hr, ⟨t_24, rfl, N25, K27, fq24_0, fq24_1⟩⟩
def Q_rm16_7 (Z : State) (z_cs : Int32) (h0 : Heap) (n0 : Nat) (v : Option Value) (h : Heap) (L : List Loc) : Prop := ∃ (b : Addr) (kb : ClassId), v = some (.ref b) ∧ Fr n0 L ∧ Keep h0 h [] ∧ h0.size ≤ b ∧ Arv Z h b kb .byte (14 : Int32) [(.int 0), (.int 0), (.int 0), (.int 0), (.int 0), (.int 0), (.int 0), (.int 0), (.int 0), (.int 0), (.int 0), (.int 0), (.int 0), (.int 0)] (.int 0)
theorem rm16_7 (l : Launch) (Z : State) (a0 : Array Value) (hw : ∀ d ∈ tables_1, d.before a0 Z = true) (ws : List Jvm.Cond) {z_cs : Int32} (cx : Cx Z z_cs) (h0 : Heap) (n0 : Nat) (O0 : Old Z n0 h0) :
    OwnMet l ym4 (Jvm.Cond.code ym4 jdk_52_method_2_code 1 (some (.array .byte)) :: ws) (own_R 1 1 14 12) #[(.int 7)] Z h0 (Q_rm16_7 Z  z_cs h0 n0) := by
  refine own_body (plainFor_of_name pn_16) hisR fun p e s m below meth c s₁ hx hby hml hown hnm hret hZ X0 e0 => ?_
  have N0 := Fr.nil n0
  have K0 : Keep h0 h0 [] := Keep.refl _ _
  have pre0 : ∀ t, Go p e below s₁ (mkF m 0 #[vI 7] []) t → Go p e below s₁ (entryFrame m #[(.int 7)] 1) t := fun t k => castTop (ef_16_I m (7 : Int32)) k
  have q21 := fun t (kt : Go p e below s₁ (mkF m 1 #[vI 7] [(.int 7)]) t) => pre0 t (by
    show Go _ _ _ _ (mkF m 0 #[vI 7] []) _
    refine XS.iloadN X0.here hx rfl (hb hby d16_0) rfl ?_
    exact kt)
  obtain ⟨_, _, ⟨T22, L22, k22, n22⟩, -, X22, ⟨_, hQ22, l22, y22, z22⟩, st22⟩ := Jvm.LawKit.callS X0 hx (y := ym3) hown (ow hZ hw 69 rfl) (ow hZ hw 70 rfl) (ow hZ hw 25 rfl) (ow hZ hw 71 rfl) (by decide) (backOf (W := 0) (rm17 l Z a0 hw [] cx (7 : Int32) h0 n0 O0 (by decide : ¬ ((7 : Int32) < (0 : Int32))) (by decide : (7 : Int32) < (1073741823 : Int32))) hZ (ov hw 71 rfl) (ov hw 25 rfl) (by decide) (by decide)) (g := (mkF m 1 #[vI 7] [(.int 7)])) rfl (by rw [hml]; rfl) (argsL := [(.int 7)]) (rest := []) (lenOf pd_0 rfl) rfl own_le0 (hb hby d16_1) (fun _ _ => ⟨rfl, e0, (by decide : 0 + 0 ≤ _), (by decide : 0 + 0 ≤ _)⟩)
  dsimp only [Pt.U, Pt.locs, Pt.cells, Pt.slots] at X22 l22 y22 z22 st22 hQ22
  subst l22 y22 z22
  obtain ⟨rfl, Nq22, eq22⟩ := hQ22
  have N23 := Fr.app N0 Nq22
  have q24 := fun t (kt : Go p e below T22 (mkF m 4 #[vI 7] [(.int ((7 : Int32) <<< ((1 : Int32) &&& 31)))]) t) => q21 t (st22 t kt)
  have q25 := fun t (kt : Go p e below T22 (mkF m 4 #[vI 7] [(.int 14)]) t) => q24 t (by rw [(by decide : ((7 : Int32) <<< ((1 : Int32) &&& 31)) = (14 : Int32))]; exact kt)
  obtain ⟨T26, h26, k26, X26, e26, E26, A26, st26⟩ := newP X22 hx hZ (ov hw 27 rfl) eq22 (g := (mkF m 4 #[vI 7] [(.int 14)])) rfl (hb hby d16_4) rfl (by decide) (cap := 14) (by decide) (by decide) (by decide) (by decide)
  obtain ⟨b26, g26⟩ : ∃ z, z = h0.size := ⟨_, rfl⟩
  rw [← g26] at A26 st26
  have gg27 : n0 ≤ b26 := Nat.le_trans (O0.1 ▸ O0.2.1) (Nat.le_of_eq g26.symm)
  have sz28 : h0.size ≤ b26 := Nat.le_trans K0.1 (Nat.le_of_eq g26.symm)
  have O29 := O0.ext E26
  have K30 := K0.ext E26
  have V26 : Arv Z h26 b26 k26 .byte (14 : Int32) [(.int 0), (.int 0), (.int 0), (.int 0), (.int 0), (.int 0), (.int 0), (.int 0), (.int 0), (.int 0), (.int 0), (.int 0), (.int 0), (.int 0)] (.int 0) := (Arv.new A26 (by decide)).pad (pad_rep [] (.int 0) 14)
  have q31 := fun t (kt : Go p e below T26 (mkF m 6 #[vI 7] [(.ref b26)]) t) => q25 t (st26 t kt)
  exact ⟨some (.ref b26), T26, _, _, _, _, X26, by decide, by decide, nofun, q31, fun fs hr => retOut X26 hx hret rfl (o4 ⟨rfl, rfl, rfl⟩) (hb hby d16_6) hr, by rw [e26]; exact ⟨b26, k26, rfl, N23, K30, sz28, V26⟩⟩
def Q_rm15_7 (Z : State) (a1 : Addr) (ka : ClassId) (c0 : Int32) (c1 : Int32) (c2 : Int32) (c3 : Int32) (c4 : Int32) (c5 : Int32) (c6 : Int32) (z_cs : Int32) (h0 : Heap) (n0 : Nat) (v : Option Value) (h : Heap) (L : List Loc) : Prop := ∃ (b : Addr) (kb : ClassId), v = some (.ref b) ∧ Fr n0 L ∧ Keep h0 h [] ∧ h0.size ≤ b ∧ Arv Z h b kb .byte (14 : Int32) [(.int (own_hb c0)), (.int (own_lb c0)), (.int (own_hb c1)), (.int (own_lb c1)), (.int (own_hb c2)), (.int (own_lb c2)), (.int (own_hb c3)), (.int (own_lb c3)), (.int (own_hb c4)), (.int (own_lb c4)), (.int (own_hb c5)), (.int (own_lb c5)), (.int (own_hb c6)), (.int (own_lb c6))] (.int 0)
theorem rm15_7 (l : Launch) (Z : State) (a0 : Array Value) (hw : ∀ d ∈ tables_1, d.before a0 Z = true) (ws : List Jvm.Cond) {z_cs : Int32} (cx : Cx Z z_cs) (a1 : Addr) (ka : ClassId) (c0 : Int32) (c1 : Int32) (c2 : Int32) (c3 : Int32) (c4 : Int32) (c5 : Int32) (c6 : Int32) (h0 : Heap) (n0 : Nat) (O0 : Old Z n0 h0) (G0 : Arv Z h0 a1 ka .char (7 : Int32) [(.int c0), (.int c1), (.int c2), (.int c3), (.int c4), (.int c5), (.int c6)] (.int 0)) :
    OwnMet l ym5 (Jvm.Cond.code ym5 jdk_52_method_14_code 5 (some (.array .byte)) :: ws) (own_R 2 1 14 24) #[(.ref a1), (.int 0), (.int 7)] Z h0 (Q_rm15_7 Z a1 ka c0 c1 c2 c3 c4 c5 c6 z_cs h0 n0) := by
  refine own_body (plainFor_of_name pn_15) hisR fun p e s m below meth c s₁ hx hby hml hown hnm hret hZ X0 e0 => ?_
  have N0 := Fr.nil n0
  have K0 : Keep h0 h0 [] := Keep.refl _ _
  have pre0 : ∀ t, Go p e below s₁ (mkF m 0 #[vR a1, vI 0, vI 7, vU, vU] []) t → Go p e below s₁ (entryFrame m #[(.ref a1), (.int 0), (.int 7)] 5) t := fun t k => castTop (ef_15_RII m a1 (0 : Int32) (7 : Int32)) k
  have q21 := fun t (kt : Go p e below s₁ (mkF m 1 #[vR a1, vI 0, vI 7, vU, vU] [(.int 7)]) t) => pre0 t (by
    show Go _ _ _ _ (mkF m 0 #[vR a1, vI 0, vI 7, vU, vU] []) _
    refine XS.iloadN X0.here hx rfl (hb hby d15_0) rfl ?_
    exact kt)
  obtain ⟨_, _, ⟨T22, L22, k22, n22⟩, -, X22, ⟨_, hQ22, l22, y22, z22⟩, st22⟩ := Jvm.LawKit.callS X0 hx (y := ym4) hown (ow hZ hw 66 rfl) (ow hZ hw 67 rfl) (ow hZ hw 25 rfl) (ow hZ hw 68 rfl) (by decide) (backOf (W := 0) (rm16_7 l Z a0 hw [] cx  h0 n0 O0 ) hZ (ov hw 68 rfl) (ov hw 25 rfl) (by decide) (by decide)) (g := (mkF m 1 #[vR a1, vI 0, vI 7, vU, vU] [(.int 7)])) rfl (by rw [hml]; rfl) (argsL := [(.int 7)]) (rest := []) (lenOf pd_1 rfl) rfl own_le0 (hb hby d15_1) (fun _ _ => ⟨rfl, e0, (by decide : 0 + 1 ≤ _), (by decide : 0 + 14 ≤ _)⟩)
  dsimp only [Pt.U, Pt.locs, Pt.cells, Pt.slots] at X22 l22 y22 z22 st22 hQ22
  subst l22 y22 z22
  obtain ⟨b_22, kb_22, rfl, Nq22, Kq22, fr22_0, fq22_0⟩ := hQ22
  have N23 := Fr.app N0 Nq22
  have gg24 : n0 ≤ b_22 := Nat.le_trans (O0.1 ▸ O0.2.1) fr22_0
  have sz25 : h0.size ≤ b_22 := Nat.le_trans K0.1 fr22_0
  have O26 := O0.keep Kq22 all0
  have K27 := K0.trans Kq22 all0
  have f28 := (G0.keep Kq22 nin0)
  have q30 := fun t (kt : Go p e below T22 (mkF m 19 #[vR a1, vI 0, vI 7, vR b_22, vI 0] [(.int 0), (.ref a1), (.int 0), (.ref b_22)]) t) => q21 t (st22 t (by
    show Go _ _ _ _ (mkF m 4 #[vR a1, vI 0, vI 7, vU, vU] [(.ref b_22)]) _
    refine XS.astoreN X22.here hx rfl (hb hby d15_4) rfl rfl (l' := #[vR a1, vI 0, vI 7, vR b_22, vU]) rfl ?_
    show Go _ _ _ _ (mkF m 5 #[vR a1, vI 0, vI 7, vR b_22, vU] []) _
    refine XS.iconst X22.here hx rfl (hb hby d15_5) ?_
    show Go _ _ _ _ (mkF m 6 _ [(.int 0)]) _
    refine XS.istore X22.here hx rfl (hb hby d15_6) rfl (l' := #[vR a1, vI 0, vI 7, vR b_22, vI 0]) rfl ?_
    show Go _ _ _ _ (mkF m 8 #[vR a1, vI 0, vI 7, vR b_22, vI 0] []) _
    refine XS.iload X22.here hx rfl (hb hby d15_8) rfl ?_
    show Go _ _ _ _ (mkF m 10 _ [(.int 0)]) _
    refine XS.iloadN X22.here hx rfl (hb hby d15_10) rfl ?_
    show Go _ _ _ _ (mkF m 11 _ [(.int 7), (.int 0)]) _
    refine XS.icmpNo X22.here hx rfl (hb hby d15_11) rfl (tlt (by decide : (0 : Int32) < (7 : Int32))).2.1 ?_
    show Go _ _ _ _ (mkF m 14 _ []) _
    refine XS.aloadN X22.here hx rfl (hb hby d15_14) rfl rfl ?_
    show Go _ _ _ _ (mkF m 15 _ [(.ref b_22)]) _
    refine XS.iload X22.here hx rfl (hb hby d15_15) rfl ?_
    show Go _ _ _ _ (mkF m 17 _ [(.int 0), (.ref b_22)]) _
    refine XS.aloadN X22.here hx rfl (hb hby d15_17) rfl rfl ?_
    show Go _ _ _ _ (mkF m 18 _ [(.ref a1), (.int 0), (.ref b_22)]) _
    refine XS.iloadN X22.here hx rfl (hb hby d15_18) rfl ?_
    exact kt))
  obtain ⟨c29, Ar29, -, S29, N29, H29, -⟩ := id f28
  have q31 := fun t (kt : Go p e below T22 (mkF m 20 #[vR a1, vI 0, vI 7, vR b_22, vI 0] [(.int c0), (.int 0), (.ref b_22)]) t) => q30 t (by
    show Go _ _ _ _ (mkF m 19 #[vR a1, vI 0, vI 7, vR b_22, vI 0] [(.int 0), (.ref a1), (.int 0), (.ref b_22)]) _
    refine X22.caload hx (j := (0 : Int32)) (v := (.int c0)) Ar29.1 (State.isArrayOf_alike hZ.alike Ar29.2.1) Ar29.2.2 (inb_of S29 ⟨by decide, by decide⟩) (Has.at H29 (inb_of S29 ⟨by decide, by decide⟩) rfl) (g := (mkF m 19 #[vR a1, vI 0, vI 7, vR b_22, vI 0] [(.int 0), (.ref a1), (.int 0), (.ref b_22)])) rfl rfl (hb hby d15_19) _ ?_
    exact kt)
  obtain ⟨_, _, ⟨T32, L32, k32, n32⟩, -, X32, ⟨_, hQ32, l32, y32, z32⟩, st32⟩ := Jvm.LawKit.callS X22 hx (y := ym1) hown (ow hZ hw 73 rfl) (ow hZ hw 74 rfl) (ow hZ hw 25 rfl) (ow hZ hw 75 rfl) (by decide) (backOf (W := 0) (rm18 l Z a0 hw [] cx b_22 kb_22 (0 : Int32) c0 (14 : Int32) [(.int 0), (.int 0), (.int 0), (.int 0), (.int 0), (.int 0), (.int 0), (.int 0), (.int 0), (.int 0), (.int 0), (.int 0), (.int 0), (.int 0)] 0 T22.heap n0 O26 fq22_0 gg24 (by decide) (by decide) (by decide) (by decide) (by decide) rfl) hZ (ov hw 75 rfl) (ov hw 25 rfl) (by decide) (by decide)) (g := (mkF m 20 #[vR a1, vI 0, vI 7, vR b_22, vI 0] [(.int c0), (.int 0), (.ref b_22)])) rfl (by rw [hml]; rfl) (argsL := [(.ref b_22), (.int 0), (.int c0)]) (rest := []) (lenOf pd_2 rfl) rfl own_le0 (hb hby d15_20) (fun _ _ => ⟨rfl, rfl, (by decide : 1 + 0 ≤ _), (by decide : 14 + 0 ≤ _)⟩)
  dsimp only [Pt.U, Pt.locs, Pt.cells, Pt.slots] at X32 l32 y32 z32 st32 hQ32
  subst l32 y32 z32
  obtain ⟨rfl, Nq32, Kq32, fq32_0⟩ := hQ32
  have N33 := Fr.app N23 Nq32
  have O34 := O26.keep Kq32 (allS gg24 all0)
  have K35 := K27.trans Kq32 (allS (Or.inr sz25) all0)
  have Vp36 : Arv Z T32.heap b_22 kb_22 .byte (14 : Int32) [(.int (own_hb c0)), (.int (own_lb c0)), (.int 0), (.int 0), (.int 0), (.int 0), (.int 0), (.int 0), (.int 0), (.int 0), (.int 0), (.int 0), (.int 0), (.int 0)] (.int 0) := fq32_0
  have ne37 : a1 ≠ b_22 := (Nat.ne_of_lt (Nat.lt_of_lt_of_le G0.lt fr22_0))
  have f38 := (f28.keep Kq32 (ninS ne37 nin0))
  have q40 := fun t (kt : Go p e below T32 (mkF m 19 #[vR a1, vI 1, vI 7, vR b_22, vI 1] [(.int 1), (.ref a1), (.int 1), (.ref b_22)]) t) => q31 t (st32 t (by
    show Go _ _ _ _ (mkF m 23 #[vR a1, vI 0, vI 7, vR b_22, vI 0] []) _
    refine XS.iinc X32.here hx rfl (hb hby d15_23) rfl (l' := #[vR a1, vI 1, vI 7, vR b_22, vI 0]) rfl ?_
    show Go _ _ _ _ (mkF m 26 #[vR a1, vI 1, vI 7, vR b_22, vI 0] []) _
    refine XS.iinc X32.here hx rfl (hb hby d15_26) rfl (l' := #[vR a1, vI 1, vI 7, vR b_22, vI 1]) rfl ?_
    show Go _ _ _ _ (mkF m 29 #[vR a1, vI 1, vI 7, vR b_22, vI 1] []) _
    refine XS.goto X32.here hx rfl (pc0 := 29) (pc' := 8) rfl (hb hby d15_29) (by decide) (by decide) ?_
    show Go _ _ _ _ (mkF m 8 _ []) _
    refine XS.iload X32.here hx rfl (hb hby d15_8) rfl ?_
    show Go _ _ _ _ (mkF m 10 _ [(.int 1)]) _
    refine XS.iloadN X32.here hx rfl (hb hby d15_10) rfl ?_
    show Go _ _ _ _ (mkF m 11 _ [(.int 7), (.int 1)]) _
    refine XS.icmpNo X32.here hx rfl (hb hby d15_11) rfl (tlt (by decide : (1 : Int32) < (7 : Int32))).2.1 ?_
    show Go _ _ _ _ (mkF m 14 _ []) _
    refine XS.aloadN X32.here hx rfl (hb hby d15_14) rfl rfl ?_
    show Go _ _ _ _ (mkF m 15 _ [(.ref b_22)]) _
    refine XS.iload X32.here hx rfl (hb hby d15_15) rfl ?_
    show Go _ _ _ _ (mkF m 17 _ [(.int 1), (.ref b_22)]) _
    refine XS.aloadN X32.here hx rfl (hb hby d15_17) rfl rfl ?_
    show Go _ _ _ _ (mkF m 18 _ [(.ref a1), (.int 1), (.ref b_22)]) _
    refine XS.iloadN X32.here hx rfl (hb hby d15_18) rfl ?_
    exact kt))
  obtain ⟨c39, Ar39, -, S39, N39, H39, -⟩ := id f38
  have q41 := fun t (kt : Go p e below T32 (mkF m 20 #[vR a1, vI 1, vI 7, vR b_22, vI 1] [(.int c1), (.int 1), (.ref b_22)]) t) => q40 t (by
    show Go _ _ _ _ (mkF m 19 #[vR a1, vI 1, vI 7, vR b_22, vI 1] [(.int 1), (.ref a1), (.int 1), (.ref b_22)]) _
    refine X32.caload hx (j := (1 : Int32)) (v := (.int c1)) Ar39.1 (State.isArrayOf_alike hZ.alike Ar39.2.1) Ar39.2.2 (inb_of S39 ⟨by decide, by decide⟩) (Has.at H39 (inb_of S39 ⟨by decide, by decide⟩) rfl) (g := (mkF m 19 #[vR a1, vI 1, vI 7, vR b_22, vI 1] [(.int 1), (.ref a1), (.int 1), (.ref b_22)])) rfl rfl (hb hby d15_19) _ ?_
    exact kt)
  obtain ⟨_, _, ⟨T42, L42, k42, n42⟩, -, X42, ⟨_, hQ42, l42, y42, z42⟩, st42⟩ := Jvm.LawKit.callS X32 hx (y := ym1) hown (ow hZ hw 73 rfl) (ow hZ hw 74 rfl) (ow hZ hw 25 rfl) (ow hZ hw 75 rfl) (by decide) (backOf (W := 0) (rm18 l Z a0 hw [] cx b_22 kb_22 (1 : Int32) c1 (14 : Int32) [(.int (own_hb c0)), (.int (own_lb c0)), (.int 0), (.int 0), (.int 0), (.int 0), (.int 0), (.int 0), (.int 0), (.int 0), (.int 0), (.int 0), (.int 0), (.int 0)] 2 T32.heap n0 O34 Vp36 gg24 (by decide) (by decide) (by decide) (by decide) (by decide) rfl) hZ (ov hw 75 rfl) (ov hw 25 rfl) (by decide) (by decide)) (g := (mkF m 20 #[vR a1, vI 1, vI 7, vR b_22, vI 1] [(.int c1), (.int 1), (.ref b_22)])) rfl (by rw [hml]; rfl) (argsL := [(.ref b_22), (.int 1), (.int c1)]) (rest := []) (lenOf pd_2 rfl) rfl own_le0 (hb hby d15_20) (fun _ _ => ⟨rfl, rfl, (by decide : 1 + 0 ≤ _), (by decide : 14 + 0 ≤ _)⟩)
  dsimp only [Pt.U, Pt.locs, Pt.cells, Pt.slots] at X42 l42 y42 z42 st42 hQ42
  subst l42 y42 z42
  obtain ⟨rfl, Nq42, Kq42, fq42_0⟩ := hQ42
  have N43 := Fr.app N33 Nq42
  have O44 := O34.keep Kq42 (allS gg24 all0)
  have K45 := K35.trans Kq42 (allS (Or.inr sz25) all0)
  have Vp46 : Arv Z T42.heap b_22 kb_22 .byte (14 : Int32) [(.int (own_hb c0)), (.int (own_lb c0)), (.int (own_hb c1)), (.int (own_lb c1)), (.int 0), (.int 0), (.int 0), (.int 0), (.int 0), (.int 0), (.int 0), (.int 0), (.int 0), (.int 0)] (.int 0) := fq42_0
  have f47 := (f38.keep Kq42 (ninS ne37 nin0))
  have q49 := fun t (kt : Go p e below T42 (mkF m 19 #[vR a1, vI 2, vI 7, vR b_22, vI 2] [(.int 2), (.ref a1), (.int 2), (.ref b_22)]) t) => q41 t (st42 t (by
    show Go _ _ _ _ (mkF m 23 #[vR a1, vI 1, vI 7, vR b_22, vI 1] []) _
    refine XS.iinc X42.here hx rfl (hb hby d15_23) rfl (l' := #[vR a1, vI 2, vI 7, vR b_22, vI 1]) rfl ?_
    show Go _ _ _ _ (mkF m 26 #[vR a1, vI 2, vI 7, vR b_22, vI 1] []) _
    refine XS.iinc X42.here hx rfl (hb hby d15_26) rfl (l' := #[vR a1, vI 2, vI 7, vR b_22, vI 2]) rfl ?_
    show Go _ _ _ _ (mkF m 29 #[vR a1, vI 2, vI 7, vR b_22, vI 2] []) _
    refine XS.goto X42.here hx rfl (pc0 := 29) (pc' := 8) rfl (hb hby d15_29) (by decide) (by decide) ?_
    show Go _ _ _ _ (mkF m 8 _ []) _
    refine XS.iload X42.here hx rfl (hb hby d15_8) rfl ?_
    show Go _ _ _ _ (mkF m 10 _ [(.int 2)]) _
    refine XS.iloadN X42.here hx rfl (hb hby d15_10) rfl ?_
    show Go _ _ _ _ (mkF m 11 _ [(.int 7), (.int 2)]) _
    refine XS.icmpNo X42.here hx rfl (hb hby d15_11) rfl (tlt (by decide : (2 : Int32) < (7 : Int32))).2.1 ?_
    show Go _ _ _ _ (mkF m 14 _ []) _
    refine XS.aloadN X42.here hx rfl (hb hby d15_14) rfl rfl ?_
    show Go _ _ _ _ (mkF m 15 _ [(.ref b_22)]) _
    refine XS.iload X42.here hx rfl (hb hby d15_15) rfl ?_
    show Go _ _ _ _ (mkF m 17 _ [(.int 2), (.ref b_22)]) _
    refine XS.aloadN X42.here hx rfl (hb hby d15_17) rfl rfl ?_
    show Go _ _ _ _ (mkF m 18 _ [(.ref a1), (.int 2), (.ref b_22)]) _
    refine XS.iloadN X42.here hx rfl (hb hby d15_18) rfl ?_
    exact kt))
  obtain ⟨c48, Ar48, -, S48, N48, H48, -⟩ := id f47
  have q50 := fun t (kt : Go p e below T42 (mkF m 20 #[vR a1, vI 2, vI 7, vR b_22, vI 2] [(.int c2), (.int 2), (.ref b_22)]) t) => q49 t (by
    show Go _ _ _ _ (mkF m 19 #[vR a1, vI 2, vI 7, vR b_22, vI 2] [(.int 2), (.ref a1), (.int 2), (.ref b_22)]) _
    refine X42.caload hx (j := (2 : Int32)) (v := (.int c2)) Ar48.1 (State.isArrayOf_alike hZ.alike Ar48.2.1) Ar48.2.2 (inb_of S48 ⟨by decide, by decide⟩) (Has.at H48 (inb_of S48 ⟨by decide, by decide⟩) rfl) (g := (mkF m 19 #[vR a1, vI 2, vI 7, vR b_22, vI 2] [(.int 2), (.ref a1), (.int 2), (.ref b_22)])) rfl rfl (hb hby d15_19) _ ?_
    exact kt)
  obtain ⟨_, _, ⟨T51, L51, k51, n51⟩, -, X51, ⟨_, hQ51, l51, y51, z51⟩, st51⟩ := Jvm.LawKit.callS X42 hx (y := ym1) hown (ow hZ hw 73 rfl) (ow hZ hw 74 rfl) (ow hZ hw 25 rfl) (ow hZ hw 75 rfl) (by decide) (backOf (W := 0) (rm18 l Z a0 hw [] cx b_22 kb_22 (2 : Int32) c2 (14 : Int32) [(.int (own_hb c0)), (.int (own_lb c0)), (.int (own_hb c1)), (.int (own_lb c1)), (.int 0), (.int 0), (.int 0), (.int 0), (.int 0), (.int 0), (.int 0), (.int 0), (.int 0), (.int 0)] 4 T42.heap n0 O44 Vp46 gg24 (by decide) (by decide) (by decide) (by decide) (by decide) rfl) hZ (ov hw 75 rfl) (ov hw 25 rfl) (by decide) (by decide)) (g := (mkF m 20 #[vR a1, vI 2, vI 7, vR b_22, vI 2] [(.int c2), (.int 2), (.ref b_22)])) rfl (by rw [hml]; rfl) (argsL := [(.ref b_22), (.int 2), (.int c2)]) (rest := []) (lenOf pd_2 rfl) rfl own_le0 (hb hby d15_20) (fun _ _ => ⟨rfl, rfl, (by decide : 1 + 0 ≤ _), (by decide : 14 + 0 ≤ _)⟩)
  dsimp only [Pt.U, Pt.locs, Pt.cells, Pt.slots] at X51 l51 y51 z51 st51 hQ51
  subst l51 y51 z51
  obtain ⟨rfl, Nq51, Kq51, fq51_0⟩ := hQ51
  have N52 := Fr.app N43 Nq51
  have O53 := O44.keep Kq51 (allS gg24 all0)
  have K54 := K45.trans Kq51 (allS (Or.inr sz25) all0)
  have Vp55 : Arv Z T51.heap b_22 kb_22 .byte (14 : Int32) [(.int (own_hb c0)), (.int (own_lb c0)), (.int (own_hb c1)), (.int (own_lb c1)), (.int (own_hb c2)), (.int (own_lb c2)), (.int 0), (.int 0), (.int 0), (.int 0), (.int 0), (.int 0), (.int 0), (.int 0)] (.int 0) := fq51_0
  have f56 := (f47.keep Kq51 (ninS ne37 nin0))
  have q58 := fun t (kt : Go p e below T51 (mkF m 19 #[vR a1, vI 3, vI 7, vR b_22, vI 3] [(.int 3), (.ref a1), (.int 3), (.ref b_22)]) t) => q50 t (st51 t (by
    show Go _ _ _ _ (mkF m 23 #[vR a1, vI 2, vI 7, vR b_22, vI 2] []) _
    refine XS.iinc X51.here hx rfl (hb hby d15_23) rfl (l' := #[vR a1, vI 3, vI 7, vR b_22, vI 2]) rfl ?_
    show Go _ _ _ _ (mkF m 26 #[vR a1, vI 3, vI 7, vR b_22, vI 2] []) _
    refine XS.iinc X51.here hx rfl (hb hby d15_26) rfl (l' := #[vR a1, vI 3, vI 7, vR b_22, vI 3]) rfl ?_
    show Go _ _ _ _ (mkF m 29 #[vR a1, vI 3, vI 7, vR b_22, vI 3] []) _
    refine XS.goto X51.here hx rfl (pc0 := 29) (pc' := 8) rfl (hb hby d15_29) (by decide) (by decide) ?_
    show Go _ _ _ _ (mkF m 8 _ []) _
    refine XS.iload X51.here hx rfl (hb hby d15_8) rfl ?_
    show Go _ _ _ _ (mkF m 10 _ [(.int 3)]) _
    refine XS.iloadN X51.here hx rfl (hb hby d15_10) rfl ?_
    show Go _ _ _ _ (mkF m 11 _ [(.int 7), (.int 3)]) _
    refine XS.icmpNo X51.here hx rfl (hb hby d15_11) rfl (tlt (by decide : (3 : Int32) < (7 : Int32))).2.1 ?_
    show Go _ _ _ _ (mkF m 14 _ []) _
    refine XS.aloadN X51.here hx rfl (hb hby d15_14) rfl rfl ?_
    show Go _ _ _ _ (mkF m 15 _ [(.ref b_22)]) _
    refine XS.iload X51.here hx rfl (hb hby d15_15) rfl ?_
    show Go _ _ _ _ (mkF m 17 _ [(.int 3), (.ref b_22)]) _
    refine XS.aloadN X51.here hx rfl (hb hby d15_17) rfl rfl ?_
    show Go _ _ _ _ (mkF m 18 _ [(.ref a1), (.int 3), (.ref b_22)]) _
    refine XS.iloadN X51.here hx rfl (hb hby d15_18) rfl ?_
    exact kt))
  obtain ⟨c57, Ar57, -, S57, N57, H57, -⟩ := id f56
  have q59 := fun t (kt : Go p e below T51 (mkF m 20 #[vR a1, vI 3, vI 7, vR b_22, vI 3] [(.int c3), (.int 3), (.ref b_22)]) t) => q58 t (by
    show Go _ _ _ _ (mkF m 19 #[vR a1, vI 3, vI 7, vR b_22, vI 3] [(.int 3), (.ref a1), (.int 3), (.ref b_22)]) _
    refine X51.caload hx (j := (3 : Int32)) (v := (.int c3)) Ar57.1 (State.isArrayOf_alike hZ.alike Ar57.2.1) Ar57.2.2 (inb_of S57 ⟨by decide, by decide⟩) (Has.at H57 (inb_of S57 ⟨by decide, by decide⟩) rfl) (g := (mkF m 19 #[vR a1, vI 3, vI 7, vR b_22, vI 3] [(.int 3), (.ref a1), (.int 3), (.ref b_22)])) rfl rfl (hb hby d15_19) _ ?_
    exact kt)
  obtain ⟨_, _, ⟨T60, L60, k60, n60⟩, -, X60, ⟨_, hQ60, l60, y60, z60⟩, st60⟩ := Jvm.LawKit.callS X51 hx (y := ym1) hown (ow hZ hw 73 rfl) (ow hZ hw 74 rfl) (ow hZ hw 25 rfl) (ow hZ hw 75 rfl) (by decide) (backOf (W := 0) (rm18 l Z a0 hw [] cx b_22 kb_22 (3 : Int32) c3 (14 : Int32) [(.int (own_hb c0)), (.int (own_lb c0)), (.int (own_hb c1)), (.int (own_lb c1)), (.int (own_hb c2)), (.int (own_lb c2)), (.int 0), (.int 0), (.int 0), (.int 0), (.int 0), (.int 0), (.int 0), (.int 0)] 6 T51.heap n0 O53 Vp55 gg24 (by decide) (by decide) (by decide) (by decide) (by decide) rfl) hZ (ov hw 75 rfl) (ov hw 25 rfl) (by decide) (by decide)) (g := (mkF m 20 #[vR a1, vI 3, vI 7, vR b_22, vI 3] [(.int c3), (.int 3), (.ref b_22)])) rfl (by rw [hml]; rfl) (argsL := [(.ref b_22), (.int 3), (.int c3)]) (rest := []) (lenOf pd_2 rfl) rfl own_le0 (hb hby d15_20) (fun _ _ => ⟨rfl, rfl, (by decide : 1 + 0 ≤ _), (by decide : 14 + 0 ≤ _)⟩)
  dsimp only [Pt.U, Pt.locs, Pt.cells, Pt.slots] at X60 l60 y60 z60 st60 hQ60
  subst l60 y60 z60
  obtain ⟨rfl, Nq60, Kq60, fq60_0⟩ := hQ60
  have N61 := Fr.app N52 Nq60
  have O62 := O53.keep Kq60 (allS gg24 all0)
  have K63 := K54.trans Kq60 (allS (Or.inr sz25) all0)
  have Vp64 : Arv Z T60.heap b_22 kb_22 .byte (14 : Int32) [(.int (own_hb c0)), (.int (own_lb c0)), (.int (own_hb c1)), (.int (own_lb c1)), (.int (own_hb c2)), (.int (own_lb c2)), (.int (own_hb c3)), (.int (own_lb c3)), (.int 0), (.int 0), (.int 0), (.int 0), (.int 0), (.int 0)] (.int 0) := fq60_0
  have f65 := (f56.keep Kq60 (ninS ne37 nin0))
  have q67 := fun t (kt : Go p e below T60 (mkF m 19 #[vR a1, vI 4, vI 7, vR b_22, vI 4] [(.int 4), (.ref a1), (.int 4), (.ref b_22)]) t) => q59 t (st60 t (by
    show Go _ _ _ _ (mkF m 23 #[vR a1, vI 3, vI 7, vR b_22, vI 3] []) _
    refine XS.iinc X60.here hx rfl (hb hby d15_23) rfl (l' := #[vR a1, vI 4, vI 7, vR b_22, vI 3]) rfl ?_
    show Go _ _ _ _ (mkF m 26 #[vR a1, vI 4, vI 7, vR b_22, vI 3] []) _
    refine XS.iinc X60.here hx rfl (hb hby d15_26) rfl (l' := #[vR a1, vI 4, vI 7, vR b_22, vI 4]) rfl ?_
    show Go _ _ _ _ (mkF m 29 #[vR a1, vI 4, vI 7, vR b_22, vI 4] []) _
    refine XS.goto X60.here hx rfl (pc0 := 29) (pc' := 8) rfl (hb hby d15_29) (by decide) (by decide) ?_
    show Go _ _ _ _ (mkF m 8 _ []) _
    refine XS.iload X60.here hx rfl (hb hby d15_8) rfl ?_
    show Go _ _ _ _ (mkF m 10 _ [(.int 4)]) _
    refine XS.iloadN X60.here hx rfl (hb hby d15_10) rfl ?_
    show Go _ _ _ _ (mkF m 11 _ [(.int 7), (.int 4)]) _
    refine XS.icmpNo X60.here hx rfl (hb hby d15_11) rfl (tlt (by decide : (4 : Int32) < (7 : Int32))).2.1 ?_
    show Go _ _ _ _ (mkF m 14 _ []) _
    refine XS.aloadN X60.here hx rfl (hb hby d15_14) rfl rfl ?_
    show Go _ _ _ _ (mkF m 15 _ [(.ref b_22)]) _
    refine XS.iload X60.here hx rfl (hb hby d15_15) rfl ?_
    show Go _ _ _ _ (mkF m 17 _ [(.int 4), (.ref b_22)]) _
    refine XS.aloadN X60.here hx rfl (hb hby d15_17) rfl rfl ?_
    show Go _ _ _ _ (mkF m 18 _ [(.ref a1), (.int 4), (.ref b_22)]) _
    refine XS.iloadN X60.here hx rfl (hb hby d15_18) rfl ?_
    exact kt))
  obtain ⟨c66, Ar66, -, S66, N66, H66, -⟩ := id f65
  have q68 := fun t (kt : Go p e below T60 (mkF m 20 #[vR a1, vI 4, vI 7, vR b_22, vI 4] [(.int c4), (.int 4), (.ref b_22)]) t) => q67 t (by
    show Go _ _ _ _ (mkF m 19 #[vR a1, vI 4, vI 7, vR b_22, vI 4] [(.int 4), (.ref a1), (.int 4), (.ref b_22)]) _
    refine X60.caload hx (j := (4 : Int32)) (v := (.int c4)) Ar66.1 (State.isArrayOf_alike hZ.alike Ar66.2.1) Ar66.2.2 (inb_of S66 ⟨by decide, by decide⟩) (Has.at H66 (inb_of S66 ⟨by decide, by decide⟩) rfl) (g := (mkF m 19 #[vR a1, vI 4, vI 7, vR b_22, vI 4] [(.int 4), (.ref a1), (.int 4), (.ref b_22)])) rfl rfl (hb hby d15_19) _ ?_
    exact kt)
  obtain ⟨_, _, ⟨T69, L69, k69, n69⟩, -, X69, ⟨_, hQ69, l69, y69, z69⟩, st69⟩ := Jvm.LawKit.callS X60 hx (y := ym1) hown (ow hZ hw 73 rfl) (ow hZ hw 74 rfl) (ow hZ hw 25 rfl) (ow hZ hw 75 rfl) (by decide) (backOf (W := 0) (rm18 l Z a0 hw [] cx b_22 kb_22 (4 : Int32) c4 (14 : Int32) [(.int (own_hb c0)), (.int (own_lb c0)), (.int (own_hb c1)), (.int (own_lb c1)), (.int (own_hb c2)), (.int (own_lb c2)), (.int (own_hb c3)), (.int (own_lb c3)), (.int 0), (.int 0), (.int 0), (.int 0), (.int 0), (.int 0)] 8 T60.heap n0 O62 Vp64 gg24 (by decide) (by decide) (by decide) (by decide) (by decide) rfl) hZ (ov hw 75 rfl) (ov hw 25 rfl) (by decide) (by decide)) (g := (mkF m 20 #[vR a1, vI 4, vI 7, vR b_22, vI 4] [(.int c4), (.int 4), (.ref b_22)])) rfl (by rw [hml]; rfl) (argsL := [(.ref b_22), (.int 4), (.int c4)]) (rest := []) (lenOf pd_2 rfl) rfl own_le0 (hb hby d15_20) (fun _ _ => ⟨rfl, rfl, (by decide : 1 + 0 ≤ _), (by decide : 14 + 0 ≤ _)⟩)
  dsimp only [Pt.U, Pt.locs, Pt.cells, Pt.slots] at X69 l69 y69 z69 st69 hQ69
  subst l69 y69 z69
  obtain ⟨rfl, Nq69, Kq69, fq69_0⟩ := hQ69
  have N70 := Fr.app N61 Nq69
  have O71 := O62.keep Kq69 (allS gg24 all0)
  have K72 := K63.trans Kq69 (allS (Or.inr sz25) all0)
  have Vp73 : Arv Z T69.heap b_22 kb_22 .byte (14 : Int32) [(.int (own_hb c0)), (.int (own_lb c0)), (.int (own_hb c1)), (.int (own_lb c1)), (.int (own_hb c2)), (.int (own_lb c2)), (.int (own_hb c3)), (.int (own_lb c3)), (.int (own_hb c4)), (.int (own_lb c4)), (.int 0), (.int 0), (.int 0), (.int 0)] (.int 0) := fq69_0
  have f74 := (f65.keep Kq69 (ninS ne37 nin0))
  have q76 := fun t (kt : Go p e below T69 (mkF m 19 #[vR a1, vI 5, vI 7, vR b_22, vI 5] [(.int 5), (.ref a1), (.int 5), (.ref b_22)]) t) => q68 t (st69 t (by
    show Go _ _ _ _ (mkF m 23 #[vR a1, vI 4, vI 7, vR b_22, vI 4] []) _
    refine XS.iinc X69.here hx rfl (hb hby d15_23) rfl (l' := #[vR a1, vI 5, vI 7, vR b_22, vI 4]) rfl ?_
    show Go _ _ _ _ (mkF m 26 #[vR a1, vI 5, vI 7, vR b_22, vI 4] []) _
    refine XS.iinc X69.here hx rfl (hb hby d15_26) rfl (l' := #[vR a1, vI 5, vI 7, vR b_22, vI 5]) rfl ?_
    show Go _ _ _ _ (mkF m 29 #[vR a1, vI 5, vI 7, vR b_22, vI 5] []) _
    refine XS.goto X69.here hx rfl (pc0 := 29) (pc' := 8) rfl (hb hby d15_29) (by decide) (by decide) ?_
    show Go _ _ _ _ (mkF m 8 _ []) _
    refine XS.iload X69.here hx rfl (hb hby d15_8) rfl ?_
    show Go _ _ _ _ (mkF m 10 _ [(.int 5)]) _
    refine XS.iloadN X69.here hx rfl (hb hby d15_10) rfl ?_
    show Go _ _ _ _ (mkF m 11 _ [(.int 7), (.int 5)]) _
    refine XS.icmpNo X69.here hx rfl (hb hby d15_11) rfl (tlt (by decide : (5 : Int32) < (7 : Int32))).2.1 ?_
    show Go _ _ _ _ (mkF m 14 _ []) _
    refine XS.aloadN X69.here hx rfl (hb hby d15_14) rfl rfl ?_
    show Go _ _ _ _ (mkF m 15 _ [(.ref b_22)]) _
    refine XS.iload X69.here hx rfl (hb hby d15_15) rfl ?_
    show Go _ _ _ _ (mkF m 17 _ [(.int 5), (.ref b_22)]) _
    refine XS.aloadN X69.here hx rfl (hb hby d15_17) rfl rfl ?_
    show Go _ _ _ _ (mkF m 18 _ [(.ref a1), (.int 5), (.ref b_22)]) _
    refine XS.iloadN X69.here hx rfl (hb hby d15_18) rfl ?_
    exact kt))
  obtain ⟨c75, Ar75, -, S75, N75, H75, -⟩ := id f74
  have q77 := fun t (kt : Go p e below T69 (mkF m 20 #[vR a1, vI 5, vI 7, vR b_22, vI 5] [(.int c5), (.int 5), (.ref b_22)]) t) => q76 t (by
    show Go _ _ _ _ (mkF m 19 #[vR a1, vI 5, vI 7, vR b_22, vI 5] [(.int 5), (.ref a1), (.int 5), (.ref b_22)]) _
    refine X69.caload hx (j := (5 : Int32)) (v := (.int c5)) Ar75.1 (State.isArrayOf_alike hZ.alike Ar75.2.1) Ar75.2.2 (inb_of S75 ⟨by decide, by decide⟩) (Has.at H75 (inb_of S75 ⟨by decide, by decide⟩) rfl) (g := (mkF m 19 #[vR a1, vI 5, vI 7, vR b_22, vI 5] [(.int 5), (.ref a1), (.int 5), (.ref b_22)])) rfl rfl (hb hby d15_19) _ ?_
    exact kt)
  obtain ⟨_, _, ⟨T78, L78, k78, n78⟩, -, X78, ⟨_, hQ78, l78, y78, z78⟩, st78⟩ := Jvm.LawKit.callS X69 hx (y := ym1) hown (ow hZ hw 73 rfl) (ow hZ hw 74 rfl) (ow hZ hw 25 rfl) (ow hZ hw 75 rfl) (by decide) (backOf (W := 0) (rm18 l Z a0 hw [] cx b_22 kb_22 (5 : Int32) c5 (14 : Int32) [(.int (own_hb c0)), (.int (own_lb c0)), (.int (own_hb c1)), (.int (own_lb c1)), (.int (own_hb c2)), (.int (own_lb c2)), (.int (own_hb c3)), (.int (own_lb c3)), (.int (own_hb c4)), (.int (own_lb c4)), (.int 0), (.int 0), (.int 0), (.int 0)] 10 T69.heap n0 O71 Vp73 gg24 (by decide) (by decide) (by decide) (by decide) (by decide) rfl) hZ (ov hw 75 rfl) (ov hw 25 rfl) (by decide) (by decide)) (g := (mkF m 20 #[vR a1, vI 5, vI 7, vR b_22, vI 5] [(.int c5), (.int 5), (.ref b_22)])) rfl (by rw [hml]; rfl) (argsL := [(.ref b_22), (.int 5), (.int c5)]) (rest := []) (lenOf pd_2 rfl) rfl own_le0 (hb hby d15_20) (fun _ _ => ⟨rfl, rfl, (by decide : 1 + 0 ≤ _), (by decide : 14 + 0 ≤ _)⟩)
  dsimp only [Pt.U, Pt.locs, Pt.cells, Pt.slots] at X78 l78 y78 z78 st78 hQ78
  subst l78 y78 z78
  obtain ⟨rfl, Nq78, Kq78, fq78_0⟩ := hQ78
  have N79 := Fr.app N70 Nq78
  have O80 := O71.keep Kq78 (allS gg24 all0)
  have K81 := K72.trans Kq78 (allS (Or.inr sz25) all0)
  have Vp82 : Arv Z T78.heap b_22 kb_22 .byte (14 : Int32) [(.int (own_hb c0)), (.int (own_lb c0)), (.int (own_hb c1)), (.int (own_lb c1)), (.int (own_hb c2)), (.int (own_lb c2)), (.int (own_hb c3)), (.int (own_lb c3)), (.int (own_hb c4)), (.int (own_lb c4)), (.int (own_hb c5)), (.int (own_lb c5)), (.int 0), (.int 0)] (.int 0) := fq78_0
  have f83 := (f74.keep Kq78 (ninS ne37 nin0))
  have q85 := fun t (kt : Go p e below T78 (mkF m 19 #[vR a1, vI 6, vI 7, vR b_22, vI 6] [(.int 6), (.ref a1), (.int 6), (.ref b_22)]) t) => q77 t (st78 t (by
    show Go _ _ _ _ (mkF m 23 #[vR a1, vI 5, vI 7, vR b_22, vI 5] []) _
    refine XS.iinc X78.here hx rfl (hb hby d15_23) rfl (l' := #[vR a1, vI 6, vI 7, vR b_22, vI 5]) rfl ?_
    show Go _ _ _ _ (mkF m 26 #[vR a1, vI 6, vI 7, vR b_22, vI 5] []) _
    refine XS.iinc X78.here hx rfl (hb hby d15_26) rfl (l' := #[vR a1, vI 6, vI 7, vR b_22, vI 6]) rfl ?_
    show Go _ _ _ _ (mkF m 29 #[vR a1, vI 6, vI 7, vR b_22, vI 6] []) _
    refine XS.goto X78.here hx rfl (pc0 := 29) (pc' := 8) rfl (hb hby d15_29) (by decide) (by decide) ?_
    show Go _ _ _ _ (mkF m 8 _ []) _
    refine XS.iload X78.here hx rfl (hb hby d15_8) rfl ?_
    show Go _ _ _ _ (mkF m 10 _ [(.int 6)]) _
    refine XS.iloadN X78.here hx rfl (hb hby d15_10) rfl ?_
    show Go _ _ _ _ (mkF m 11 _ [(.int 7), (.int 6)]) _
    refine XS.icmpNo X78.here hx rfl (hb hby d15_11) rfl (tlt (by decide : (6 : Int32) < (7 : Int32))).2.1 ?_
    show Go _ _ _ _ (mkF m 14 _ []) _
    refine XS.aloadN X78.here hx rfl (hb hby d15_14) rfl rfl ?_
    show Go _ _ _ _ (mkF m 15 _ [(.ref b_22)]) _
    refine XS.iload X78.here hx rfl (hb hby d15_15) rfl ?_
    show Go _ _ _ _ (mkF m 17 _ [(.int 6), (.ref b_22)]) _
    refine XS.aloadN X78.here hx rfl (hb hby d15_17) rfl rfl ?_
    show Go _ _ _ _ (mkF m 18 _ [(.ref a1), (.int 6), (.ref b_22)]) _
    refine XS.iloadN X78.here hx rfl (hb hby d15_18) rfl ?_
    exact kt))
  obtain ⟨c84, Ar84, -, S84, N84, H84, -⟩ := id f83
  have q86 := fun t (kt : Go p e below T78 (mkF m 20 #[vR a1, vI 6, vI 7, vR b_22, vI 6] [(.int c6), (.int 6), (.ref b_22)]) t) => q85 t (by
    show Go _ _ _ _ (mkF m 19 #[vR a1, vI 6, vI 7, vR b_22, vI 6] [(.int 6), (.ref a1), (.int 6), (.ref b_22)]) _
    refine X78.caload hx (j := (6 : Int32)) (v := (.int c6)) Ar84.1 (State.isArrayOf_alike hZ.alike Ar84.2.1) Ar84.2.2 (inb_of S84 ⟨by decide, by decide⟩) (Has.at H84 (inb_of S84 ⟨by decide, by decide⟩) rfl) (g := (mkF m 19 #[vR a1, vI 6, vI 7, vR b_22, vI 6] [(.int 6), (.ref a1), (.int 6), (.ref b_22)])) rfl rfl (hb hby d15_19) _ ?_
    exact kt)
  obtain ⟨_, _, ⟨T87, L87, k87, n87⟩, -, X87, ⟨_, hQ87, l87, y87, z87⟩, st87⟩ := Jvm.LawKit.callS X78 hx (y := ym1) hown (ow hZ hw 73 rfl) (ow hZ hw 74 rfl) (ow hZ hw 25 rfl) (ow hZ hw 75 rfl) (by decide) (backOf (W := 0) (rm18 l Z a0 hw [] cx b_22 kb_22 (6 : Int32) c6 (14 : Int32) [(.int (own_hb c0)), (.int (own_lb c0)), (.int (own_hb c1)), (.int (own_lb c1)), (.int (own_hb c2)), (.int (own_lb c2)), (.int (own_hb c3)), (.int (own_lb c3)), (.int (own_hb c4)), (.int (own_lb c4)), (.int (own_hb c5)), (.int (own_lb c5)), (.int 0), (.int 0)] 12 T78.heap n0 O80 Vp82 gg24 (by decide) (by decide) (by decide) (by decide) (by decide) rfl) hZ (ov hw 75 rfl) (ov hw 25 rfl) (by decide) (by decide)) (g := (mkF m 20 #[vR a1, vI 6, vI 7, vR b_22, vI 6] [(.int c6), (.int 6), (.ref b_22)])) rfl (by rw [hml]; rfl) (argsL := [(.ref b_22), (.int 6), (.int c6)]) (rest := []) (lenOf pd_2 rfl) rfl own_le0 (hb hby d15_20) (fun _ _ => ⟨rfl, rfl, (by decide : 1 + 0 ≤ _), (by decide : 14 + 0 ≤ _)⟩)
  dsimp only [Pt.U, Pt.locs, Pt.cells, Pt.slots] at X87 l87 y87 z87 st87 hQ87
  subst l87 y87 z87
  obtain ⟨rfl, Nq87, Kq87, fq87_0⟩ := hQ87
  have N88 := Fr.app N79 Nq87
  have O89 := O80.keep Kq87 (allS gg24 all0)
  have K90 := K81.trans Kq87 (allS (Or.inr sz25) all0)
  have Vp91 : Arv Z T87.heap b_22 kb_22 .byte (14 : Int32) [(.int (own_hb c0)), (.int (own_lb c0)), (.int (own_hb c1)), (.int (own_lb c1)), (.int (own_hb c2)), (.int (own_lb c2)), (.int (own_hb c3)), (.int (own_lb c3)), (.int (own_hb c4)), (.int (own_lb c4)), (.int (own_hb c5)), (.int (own_lb c5)), (.int (own_hb c6)), (.int (own_lb c6))] (.int 0) := fq87_0
  have q92 := fun t (kt : Go p e below T87 (mkF m 33 #[vR a1, vI 7, vI 7, vR b_22, vI 7] [(.ref b_22)]) t) => q86 t (st87 t (by
    show Go _ _ _ _ (mkF m 23 #[vR a1, vI 6, vI 7, vR b_22, vI 6] []) _
    refine XS.iinc X87.here hx rfl (hb hby d15_23) rfl (l' := #[vR a1, vI 7, vI 7, vR b_22, vI 6]) rfl ?_
    show Go _ _ _ _ (mkF m 26 #[vR a1, vI 7, vI 7, vR b_22, vI 6] []) _
    refine XS.iinc X87.here hx rfl (hb hby d15_26) rfl (l' := #[vR a1, vI 7, vI 7, vR b_22, vI 7]) rfl ?_
    show Go _ _ _ _ (mkF m 29 #[vR a1, vI 7, vI 7, vR b_22, vI 7] []) _
    refine XS.goto X87.here hx rfl (pc0 := 29) (pc' := 8) rfl (hb hby d15_29) (by decide) (by decide) ?_
    show Go _ _ _ _ (mkF m 8 _ []) _
    refine XS.iload X87.here hx rfl (hb hby d15_8) rfl ?_
    show Go _ _ _ _ (mkF m 10 _ [(.int 7)]) _
    refine XS.iloadN X87.here hx rfl (hb hby d15_10) rfl ?_
    show Go _ _ _ _ (mkF m 11 _ [(.int 7), (.int 7)]) _
    refine XS.icmpYes X87.here hx rfl (pc0 := 11) (pc' := 32) rfl (hb hby d15_11) rfl (flt (by decide : ¬ ((7 : Int32) < (7 : Int32)))).2.1 (by decide) (by decide) ?_
    show Go _ _ _ _ (mkF m 32 _ []) _
    refine XS.aloadN X87.here hx rfl (hb hby d15_32) rfl rfl ?_
    exact kt))
  exact ⟨some (.ref b_22), T87, _, _, _, _, X87, by decide, by decide, nofun, q92, fun fs hr => retOut X87 hx hret rfl (o4 ⟨rfl, rfl, rfl⟩) (hb hby d15_33) hr, ⟨b_22, kb_22, rfl, N88, K90, sz25, Vp91⟩⟩
def Q_rm7_7 (Z : State) (a1 : Addr) (b : Addr) (ka : ClassId) (kb : ClassId) (c0 : Int32) (c1 : Int32) (c2 : Int32) (c3 : Int32) (c4 : Int32) (c5 : Int32) (c6 : Int32) (z_cs : Int32) (h0 : Heap) (n0 : Nat) (v : Option Value) (h : Heap) (L : List Loc) : Prop := ∃ (r : Int32), v = some (.int r) ∧ Fr n0 L ∧ Keep h0 h [b] ∧ ((r = (0 : Int32) ∧ (255 : Int32) < c0) ∨ (r = (1 : Int32) ∧ (255 : Int32) < c1) ∨ (r = (2 : Int32) ∧ (255 : Int32) < c2) ∨ (r = (3 : Int32) ∧ (255 : Int32) < c3) ∨ (r = (4 : Int32) ∧ (255 : Int32) < c4) ∨ (r = (5 : Int32) ∧ (255 : Int32) < c5) ∨ (r = (6 : Int32) ∧ (255 : Int32) < c6))
theorem rm7_7 (l : Launch) (Z : State) (a0 : Array Value) (hw : ∀ d ∈ tables_1, d.before a0 Z = true) (ws : List Jvm.Cond) {z_cs : Int32} (cx : Cx Z z_cs) (a1 : Addr) (b : Addr) (ka : ClassId) (kb : ClassId) (c0 : Int32) (c1 : Int32) (c2 : Int32) (c3 : Int32) (c4 : Int32) (c5 : Int32) (c6 : Int32) (h0 : Heap) (n0 : Nat) (O0 : Old Z n0 h0) (G0 : Arv Z h0 a1 ka .char (7 : Int32) [(.int c0), (.int c1), (.int c2), (.int c3), (.int c4), (.int c5), (.int c6)] (.int 0)) (G1 : Arv Z h0 b kb .byte (7 : Int32) [(.int 0), (.int 0), (.int 0), (.int 0), (.int 0), (.int 0), (.int 0)] (.int 0)) (g_b : n0 ≤ b) (hB : (255 : Int32) < c0 ∨ (255 : Int32) < c1 ∨ (255 : Int32) < c2 ∨ (255 : Int32) < c3 ∨ (255 : Int32) < c4 ∨ (255 : Int32) < c5 ∨ (255 : Int32) < c6) (hne : a1 ≠ b) :
    OwnMet l ym6 (Jvm.Cond.code ym6 jdk_52_method_21_code 7 (some .int) :: ws) (own_R 0 0 0 0) #[(.ref a1), (.int 0), (.ref b), (.int 0), (.int 7)] Z h0 (Q_rm7_7 Z a1 b ka kb c0 c1 c2 c3 c4 c5 c6 z_cs h0 n0) := by
  refine own_body (plainFor_of_name pn_7) hisR fun p e s m below meth c s₁ hx hby hml hown hnm hret hZ X0 e0 => ?_
  have N0 := Fr.nil n0
  have K0 : Keep h0 h0 [b] := Keep.refl _ _
  have pre0 : ∀ t, Go p e below s₁ (mkF m 0 #[vR a1, vI 0, vR b, vI 0, vI 7, vU, vU] []) t → Go p e below s₁ (entryFrame m #[(.ref a1), (.int 0), (.ref b), (.int 0), (.int 7)] 7) t := fun t k => castTop (ef_7_RIRII m a1 (0 : Int32) b (0 : Int32) (7 : Int32)) k
  have q22 := fun t (kt : Go p e below s₁ (mkF m 12 #[vR a1, vI 0, vR b, vI 0, vI 7, vI 0, vU] [(.int 0), (.ref a1)]) t) => pre0 t (by
    show Go _ _ _ _ (mkF m 0 #[vR a1, vI 0, vR b, vI 0, vI 7, vU, vU] []) _
    refine XS.iconst X0.here hx rfl (hb hby d7_0) ?_
    show Go _ _ _ _ (mkF m 1 _ [(.int 0)]) _
    refine XS.istore X0.here hx rfl (hb hby d7_1) rfl (l' := #[vR a1, vI 0, vR b, vI 0, vI 7, vI 0, vU]) rfl ?_
    show Go _ _ _ _ (mkF m 3 #[vR a1, vI 0, vR b, vI 0, vI 7, vI 0, vU] []) _
    refine XS.iload X0.here hx rfl (hb hby d7_3) rfl ?_
    show Go _ _ _ _ (mkF m 5 _ [(.int 0)]) _
    refine XS.iload X0.here hx rfl (hb hby d7_5) rfl ?_
    show Go _ _ _ _ (mkF m 7 _ [(.int 7), (.int 0)]) _
    refine XS.icmpNo X0.here hx rfl (hb hby d7_7) rfl (tlt (by decide : (0 : Int32) < (7 : Int32))).2.1 ?_
    show Go _ _ _ _ (mkF m 10 _ []) _
    refine XS.aloadN X0.here hx rfl (hb hby d7_10) rfl rfl ?_
    show Go _ _ _ _ (mkF m 11 _ [(.ref a1)]) _
    refine XS.iloadN X0.here hx rfl (hb hby d7_11) rfl ?_
    exact kt)
  obtain ⟨c21, Ar21, -, S21, N21, H21, -⟩ := id G0
  have q23 := fun t (kt : Go p e below s₁ (mkF m 20 #[vR a1, vI 0, vR b, vI 0, vI 7, vI 0, vI c0] [(.int 255), (.int c0)]) t) => q22 t (by
    show Go _ _ _ _ (mkF m 12 #[vR a1, vI 0, vR b, vI 0, vI 7, vI 0, vU] [(.int 0), (.ref a1)]) _
    refine X0.caload hx (j := (0 : Int32)) (v := (.int c0)) (by rw [e0]; exact Ar21.1) (State.isArrayOf_alike hZ.alike Ar21.2.1) Ar21.2.2 (inb_of S21 ⟨by decide, by decide⟩) (Has.at H21 (inb_of S21 ⟨by decide, by decide⟩) rfl) (g := (mkF m 12 #[vR a1, vI 0, vR b, vI 0, vI 7, vI 0, vU] [(.int 0), (.ref a1)])) rfl rfl (hb hby d7_12) _ ?_
    show Go _ _ _ _ (mkF m 13 _ [(.int c0)]) _
    refine XS.istore X0.here hx rfl (hb hby d7_13) rfl (l' := #[vR a1, vI 0, vR b, vI 0, vI 7, vI 0, vI c0]) rfl ?_
    show Go _ _ _ _ (mkF m 15 #[vR a1, vI 0, vR b, vI 0, vI 7, vI 0, vI c0] []) _
    refine XS.iload X0.here hx rfl (hb hby d7_15) rfl ?_
    show Go _ _ _ _ (mkF m 17 _ [(.int c0)]) _
    refine XS.sipush X0.here hx rfl (hb hby d7_17) ?_
    exact kt)
  by_cases hc24 : (255 : Int32) < c0
  · have q25 := fun t (kt : Go p e below s₁ (mkF m 25 #[vR a1, vI 0, vR b, vI 0, vI 7, vI 0, vI c0] [(.int 0)]) t) => q23 t (by
      show Go _ _ _ _ (mkF m 20 #[vR a1, vI 0, vR b, vI 0, vI 7, vI 0, vI c0] [(.int 255), (.int c0)]) _
      refine XS.icmpNo X0.here hx rfl (hb hby d7_20) rfl (tlt hc24).2.2.2 ?_
      show Go _ _ _ _ (mkF m 23 _ []) _
      refine XS.iload X0.here hx rfl (hb hby d7_23) rfl ?_
      exact kt)
    exact ⟨some (.int 0), s₁, _, _, _, _, X0, by decide, by decide, nofun, q25, fun fs hr => retI X0 hx hret (hb hby d7_25) hr, by rw [e0]; exact ⟨(0 : Int32), rfl, N0, K0, (Or.inl ⟨rfl, hc24⟩)⟩⟩
  · have q27 := fun t (kt : Go p e below s₁ (mkF m 31 #[vR a1, vI 0, vR b, vI 0, vI 7, vI 0, vI c0] [(.int (c0.toInt8.toInt32)), (.int 0), (.ref b)]) t) => q23 t (by
      show Go _ _ _ _ (mkF m 20 #[vR a1, vI 0, vR b, vI 0, vI 7, vI 0, vI c0] [(.int 255), (.int c0)]) _
      refine XS.icmpYes X0.here hx rfl (pc0 := 20) (pc' := 26) rfl (hb hby d7_20) rfl (flt hc24).2.2.2 (by decide) (by decide) ?_
      show Go _ _ _ _ (mkF m 26 _ []) _
      refine XS.aloadN X0.here hx rfl (hb hby d7_26) rfl rfl ?_
      show Go _ _ _ _ (mkF m 27 _ [(.ref b)]) _
      refine XS.iloadN X0.here hx rfl (hb hby d7_27) rfl ?_
      show Go _ _ _ _ (mkF m 28 _ [(.int 0), (.ref b)]) _
      refine XS.iload X0.here hx rfl (hb hby d7_28) rfl ?_
      show Go _ _ _ _ (mkF m 30 _ [(.int c0), (.int 0), (.ref b)]) _
      refine XS.i2b X0.here hx rfl (hb hby d7_30) rfl ?_
      exact kt)
    obtain ⟨c26, Ar26, q26, S26, N26, H26, G26⟩ := id G1
    have hi26 : ¬ ((0 : Int32) < 0 ∨ c26.slots.size ≤ ((0 : Int32)).toNatClampNeg) := inb_of S26 ⟨by decide, by decide⟩
    obtain ⟨T28, h28, X28, e28, W28, st28⟩ := stB X0 hx hZ e0 Ar26 (j := (0 : Int32)) hi26 (g := (mkF m 31 #[vR a1, vI 0, vR b, vI 0, vI 7, vI 0, vI c0] [(.int (c0.toInt8.toInt32)), (.int 0), (.ref b)])) rfl rfl (hb hby d7_31)
    have V28 : Arv Z h28 b kb .byte (7 : Int32) [(.int (nar .byte (c0.toInt8.toInt32))), (.int 0), (.int 0), (.int 0), (.int 0), (.int 0), (.int 0)] (.int 0) := Arv.set Ar26 q26 S26 N26 H26 G26 (fits_nar_byte _) W28 0 rfl (Nat.le_of_ble_eq_true rfl)
    have N29 := Fr.snoc X28 N0 g_b
    have O30 := O0.wr W28 g_b
    have K31 := K0.wr W28 (Or.inl (List.mem_of_getElem? (i := 0) rfl))
    have f32 := (G0.other W28 hne)
    have q34 := fun t (kt : Go p e below T28 (mkF m 12 #[vR a1, vI 1, vR b, vI 1, vI 7, vI 1, vI c0] [(.int 1), (.ref a1)]) t) => q27 t (st28 t (by
      show Go _ _ _ _ (mkF m 32 #[vR a1, vI 0, vR b, vI 0, vI 7, vI 0, vI c0] []) _
      refine XS.iinc X28.here hx rfl (hb hby d7_32) rfl (l' := #[vR a1, vI 1, vR b, vI 0, vI 7, vI 0, vI c0]) rfl ?_
      show Go _ _ _ _ (mkF m 35 #[vR a1, vI 1, vR b, vI 0, vI 7, vI 0, vI c0] []) _
      refine XS.iinc X28.here hx rfl (hb hby d7_35) rfl (l' := #[vR a1, vI 1, vR b, vI 1, vI 7, vI 0, vI c0]) rfl ?_
      show Go _ _ _ _ (mkF m 38 #[vR a1, vI 1, vR b, vI 1, vI 7, vI 0, vI c0] []) _
      refine XS.iinc X28.here hx rfl (hb hby d7_38) rfl (l' := #[vR a1, vI 1, vR b, vI 1, vI 7, vI 1, vI c0]) rfl ?_
      show Go _ _ _ _ (mkF m 41 #[vR a1, vI 1, vR b, vI 1, vI 7, vI 1, vI c0] []) _
      refine XS.goto X28.here hx rfl (pc0 := 41) (pc' := 3) rfl (hb hby d7_41) (by decide) (by decide) ?_
      show Go _ _ _ _ (mkF m 3 _ []) _
      refine XS.iload X28.here hx rfl (hb hby d7_3) rfl ?_
      show Go _ _ _ _ (mkF m 5 _ [(.int 1)]) _
      refine XS.iload X28.here hx rfl (hb hby d7_5) rfl ?_
      show Go _ _ _ _ (mkF m 7 _ [(.int 7), (.int 1)]) _
      refine XS.icmpNo X28.here hx rfl (hb hby d7_7) rfl (tlt (by decide : (1 : Int32) < (7 : Int32))).2.1 ?_
      show Go _ _ _ _ (mkF m 10 _ []) _
      refine XS.aloadN X28.here hx rfl (hb hby d7_10) rfl rfl ?_
      show Go _ _ _ _ (mkF m 11 _ [(.ref a1)]) _
      refine XS.iloadN X28.here hx rfl (hb hby d7_11) rfl ?_
      exact kt))
    obtain ⟨c33, Ar33, -, S33, N33, H33, -⟩ := id f32
    have q35 := fun t (kt : Go p e below T28 (mkF m 20 #[vR a1, vI 1, vR b, vI 1, vI 7, vI 1, vI c1] [(.int 255), (.int c1)]) t) => q34 t (by
      show Go _ _ _ _ (mkF m 12 #[vR a1, vI 1, vR b, vI 1, vI 7, vI 1, vI c0] [(.int 1), (.ref a1)]) _
      refine X28.caload hx (j := (1 : Int32)) (v := (.int c1)) (by rw [e28]; exact Ar33.1) (State.isArrayOf_alike hZ.alike Ar33.2.1) Ar33.2.2 (inb_of S33 ⟨by decide, by decide⟩) (Has.at H33 (inb_of S33 ⟨by decide, by decide⟩) rfl) (g := (mkF m 12 #[vR a1, vI 1, vR b, vI 1, vI 7, vI 1, vI c0] [(.int 1), (.ref a1)])) rfl rfl (hb hby d7_12) _ ?_
      show Go _ _ _ _ (mkF m 13 _ [(.int c1)]) _
      refine XS.istore X28.here hx rfl (hb hby d7_13) rfl (l' := #[vR a1, vI 1, vR b, vI 1, vI 7, vI 1, vI c1]) rfl ?_
      show Go _ _ _ _ (mkF m 15 #[vR a1, vI 1, vR b, vI 1, vI 7, vI 1, vI c1] []) _
      refine XS.iload X28.here hx rfl (hb hby d7_15) rfl ?_
      show Go _ _ _ _ (mkF m 17 _ [(.int c1)]) _
      refine XS.sipush X28.here hx rfl (hb hby d7_17) ?_
      exact kt)
    by_cases hc36 : (255 : Int32) < c1
    · have q37 := fun t (kt : Go p e below T28 (mkF m 25 #[vR a1, vI 1, vR b, vI 1, vI 7, vI 1, vI c1] [(.int 1)]) t) => q35 t (by
        show Go _ _ _ _ (mkF m 20 #[vR a1, vI 1, vR b, vI 1, vI 7, vI 1, vI c1] [(.int 255), (.int c1)]) _
        refine XS.icmpNo X28.here hx rfl (hb hby d7_20) rfl (tlt hc36).2.2.2 ?_
        show Go _ _ _ _ (mkF m 23 _ []) _
        refine XS.iload X28.here hx rfl (hb hby d7_23) rfl ?_
        exact kt)
      exact ⟨some (.int 1), T28, _, _, _, _, X28, by decide, by decide, nofun, q37, fun fs hr => retI X28 hx hret (hb hby d7_25) hr, by rw [e28]; exact ⟨(1 : Int32), rfl, N29, K31, (Or.inr (Or.inl ⟨rfl, hc36⟩))⟩⟩
    · have q39 := fun t (kt : Go p e below T28 (mkF m 31 #[vR a1, vI 1, vR b, vI 1, vI 7, vI 1, vI c1] [(.int (c1.toInt8.toInt32)), (.int 1), (.ref b)]) t) => q35 t (by
        show Go _ _ _ _ (mkF m 20 #[vR a1, vI 1, vR b, vI 1, vI 7, vI 1, vI c1] [(.int 255), (.int c1)]) _
        refine XS.icmpYes X28.here hx rfl (pc0 := 20) (pc' := 26) rfl (hb hby d7_20) rfl (flt hc36).2.2.2 (by decide) (by decide) ?_
        show Go _ _ _ _ (mkF m 26 _ []) _
        refine XS.aloadN X28.here hx rfl (hb hby d7_26) rfl rfl ?_
        show Go _ _ _ _ (mkF m 27 _ [(.ref b)]) _
        refine XS.iloadN X28.here hx rfl (hb hby d7_27) rfl ?_
        show Go _ _ _ _ (mkF m 28 _ [(.int 1), (.ref b)]) _
        refine XS.iload X28.here hx rfl (hb hby d7_28) rfl ?_
        show Go _ _ _ _ (mkF m 30 _ [(.int c1), (.int 1), (.ref b)]) _
        refine XS.i2b X28.here hx rfl (hb hby d7_30) rfl ?_
        exact kt)
      obtain ⟨c38, Ar38, q38, S38, N38, H38, G38⟩ := id V28
      have hi38 : ¬ ((1 : Int32) < 0 ∨ c38.slots.size ≤ ((1 : Int32)).toNatClampNeg) := inb_of S38 ⟨by decide, by decide⟩
      obtain ⟨T40, h40, X40, e40, W40, st40⟩ := stB X28 hx hZ e28 Ar38 (j := (1 : Int32)) hi38 (g := (mkF m 31 #[vR a1, vI 1, vR b, vI 1, vI 7, vI 1, vI c1] [(.int (c1.toInt8.toInt32)), (.int 1), (.ref b)])) rfl rfl (hb hby d7_31)
      have V40 : Arv Z h40 b kb .byte (7 : Int32) [(.int (nar .byte (c0.toInt8.toInt32))), (.int (nar .byte (c1.toInt8.toInt32))), (.int 0), (.int 0), (.int 0), (.int 0), (.int 0)] (.int 0) := Arv.set Ar38 q38 S38 N38 H38 G38 (fits_nar_byte _) W40 1 rfl (Nat.le_of_ble_eq_true rfl)
      have N41 := Fr.snoc X40 N29 g_b
      have O42 := O30.wr W40 g_b
      have K43 := K31.wr W40 (Or.inl (List.mem_of_getElem? (i := 0) rfl))
      have f44 := (f32.other W40 hne)
      have q46 := fun t (kt : Go p e below T40 (mkF m 12 #[vR a1, vI 2, vR b, vI 2, vI 7, vI 2, vI c1] [(.int 2), (.ref a1)]) t) => q39 t (st40 t (by
        show Go _ _ _ _ (mkF m 32 #[vR a1, vI 1, vR b, vI 1, vI 7, vI 1, vI c1] []) _
        refine XS.iinc X40.here hx rfl (hb hby d7_32) rfl (l' := #[vR a1, vI 2, vR b, vI 1, vI 7, vI 1, vI c1]) rfl ?_
        show Go _ _ _ _ (mkF m 35 #[vR a1, vI 2, vR b, vI 1, vI 7, vI 1, vI c1] []) _
        refine XS.iinc X40.here hx rfl (hb hby d7_35) rfl (l' := #[vR a1, vI 2, vR b, vI 2, vI 7, vI 1, vI c1]) rfl ?_
        show Go _ _ _ _ (mkF m 38 #[vR a1, vI 2, vR b, vI 2, vI 7, vI 1, vI c1] []) _
        refine XS.iinc X40.here hx rfl (hb hby d7_38) rfl (l' := #[vR a1, vI 2, vR b, vI 2, vI 7, vI 2, vI c1]) rfl ?_
        show Go _ _ _ _ (mkF m 41 #[vR a1, vI 2, vR b, vI 2, vI 7, vI 2, vI c1] []) _
        refine XS.goto X40.here hx rfl (pc0 := 41) (pc' := 3) rfl (hb hby d7_41) (by decide) (by decide) ?_
        show Go _ _ _ _ (mkF m 3 _ []) _
        refine XS.iload X40.here hx rfl (hb hby d7_3) rfl ?_
        show Go _ _ _ _ (mkF m 5 _ [(.int 2)]) _
        refine XS.iload X40.here hx rfl (hb hby d7_5) rfl ?_
        show Go _ _ _ _ (mkF m 7 _ [(.int 7), (.int 2)]) _
        refine XS.icmpNo X40.here hx rfl (hb hby d7_7) rfl (tlt (by decide : (2 : Int32) < (7 : Int32))).2.1 ?_
        show Go _ _ _ _ (mkF m 10 _ []) _
        refine XS.aloadN X40.here hx rfl (hb hby d7_10) rfl rfl ?_
        show Go _ _ _ _ (mkF m 11 _ [(.ref a1)]) _
        refine XS.iloadN X40.here hx rfl (hb hby d7_11) rfl ?_
        exact kt))
      obtain ⟨c45, Ar45, -, S45, N45, H45, -⟩ := id f44
      have q47 := fun t (kt : Go p e below T40 (mkF m 20 #[vR a1, vI 2, vR b, vI 2, vI 7, vI 2, vI c2] [(.int 255), (.int c2)]) t) => q46 t (by
        show Go _ _ _ _ (mkF m 12 #[vR a1, vI 2, vR b, vI 2, vI 7, vI 2, vI c1] [(.int 2), (.ref a1)]) _
        refine X40.caload hx (j := (2 : Int32)) (v := (.int c2)) (by rw [e40]; exact Ar45.1) (State.isArrayOf_alike hZ.alike Ar45.2.1) Ar45.2.2 (inb_of S45 ⟨by decide, by decide⟩) (Has.at H45 (inb_of S45 ⟨by decide, by decide⟩) rfl) (g := (mkF m 12 #[vR a1, vI 2, vR b, vI 2, vI 7, vI 2, vI c1] [(.int 2), (.ref a1)])) rfl rfl (hb hby d7_12) _ ?_
        show Go _ _ _ _ (mkF m 13 _ [(.int c2)]) _
        refine XS.istore X40.here hx rfl (hb hby d7_13) rfl (l' := #[vR a1, vI 2, vR b, vI 2, vI 7, vI 2, vI c2]) rfl ?_
        show Go _ _ _ _ (mkF m 15 #[vR a1, vI 2, vR b, vI 2, vI 7, vI 2, vI c2] []) _
        refine XS.iload X40.here hx rfl (hb hby d7_15) rfl ?_
        show Go _ _ _ _ (mkF m 17 _ [(.int c2)]) _
        refine XS.sipush X40.here hx rfl (hb hby d7_17) ?_
        exact kt)
      by_cases hc48 : (255 : Int32) < c2
      · have q49 := fun t (kt : Go p e below T40 (mkF m 25 #[vR a1, vI 2, vR b, vI 2, vI 7, vI 2, vI c2] [(.int 2)]) t) => q47 t (by
          show Go _ _ _ _ (mkF m 20 #[vR a1, vI 2, vR b, vI 2, vI 7, vI 2, vI c2] [(.int 255), (.int c2)]) _
          refine XS.icmpNo X40.here hx rfl (hb hby d7_20) rfl (tlt hc48).2.2.2 ?_
          show Go _ _ _ _ (mkF m 23 _ []) _
          refine XS.iload X40.here hx rfl (hb hby d7_23) rfl ?_
          exact kt)
        exact ⟨some (.int 2), T40, _, _, _, _, X40, by decide, by decide, nofun, q49, fun fs hr => retI X40 hx hret (hb hby d7_25) hr, by rw [e40]; exact ⟨(2 : Int32), rfl, N41, K43, (Or.inr (Or.inr (Or.inl ⟨rfl, hc48⟩)))⟩⟩
      · have q51 := fun t (kt : Go p e below T40 (mkF m 31 #[vR a1, vI 2, vR b, vI 2, vI 7, vI 2, vI c2] [(.int (c2.toInt8.toInt32)), (.int 2), (.ref b)]) t) => q47 t (by
          show Go _ _ _ _ (mkF m 20 #[vR a1, vI 2, vR b, vI 2, vI 7, vI 2, vI c2] [(.int 255), (.int c2)]) _
          refine XS.icmpYes X40.here hx rfl (pc0 := 20) (pc' := 26) rfl (hb hby d7_20) rfl (flt hc48).2.2.2 (by decide) (by decide) ?_
          show Go _ _ _ _ (mkF m 26 _ []) _
          refine XS.aloadN X40.here hx rfl (hb hby d7_26) rfl rfl ?_
          show Go _ _ _ _ (mkF m 27 _ [(.ref b)]) _
          refine XS.iloadN X40.here hx rfl (hb hby d7_27) rfl ?_
          show Go _ _ _ _ (mkF m 28 _ [(.int 2), (.ref b)]) _
          refine XS.iload X40.here hx rfl (hb hby d7_28) rfl ?_
          show Go _ _ _ _ (mkF m 30 _ [(.int c2), (.int 2), (.ref b)]) _
          refine XS.i2b X40.here hx rfl (hb hby d7_30) rfl ?_
          exact kt)
        obtain ⟨c50, Ar50, q50, S50, N50, H50, G50⟩ := id V40
        have hi50 : ¬ ((2 : Int32) < 0 ∨ c50.slots.size ≤ ((2 : Int32)).toNatClampNeg) := inb_of S50 ⟨by decide, by decide⟩
        obtain ⟨T52, h52, X52, e52, W52, st52⟩ := stB X40 hx hZ e40 Ar50 (j := (2 : Int32)) hi50 (g := (mkF m 31 #[vR a1, vI 2, vR b, vI 2, vI 7, vI 2, vI c2] [(.int (c2.toInt8.toInt32)), (.int 2), (.ref b)])) rfl rfl (hb hby d7_31)
        have V52 : Arv Z h52 b kb .byte (7 : Int32) [(.int (nar .byte (c0.toInt8.toInt32))), (.int (nar .byte (c1.toInt8.toInt32))), (.int (nar .byte (c2.toInt8.toInt32))), (.int 0), (.int 0), (.int 0), (.int 0)] (.int 0) := Arv.set Ar50 q50 S50 N50 H50 G50 (fits_nar_byte _) W52 2 rfl (Nat.le_of_ble_eq_true rfl)
        have N53 := Fr.snoc X52 N41 g_b
        have O54 := O42.wr W52 g_b
        have K55 := K43.wr W52 (Or.inl (List.mem_of_getElem? (i := 0) rfl))
        have f56 := (f44.other W52 hne)
        have q58 := fun t (kt : Go p e below T52 (mkF m 12 #[vR a1, vI 3, vR b, vI 3, vI 7, vI 3, vI c2] [(.int 3), (.ref a1)]) t) => q51 t (st52 t (by
          show Go _ _ _ _ (mkF m 32 #[vR a1, vI 2, vR b, vI 2, vI 7, vI 2, vI c2] []) _
          refine XS.iinc X52.here hx rfl (hb hby d7_32) rfl (l' := #[vR a1, vI 3, vR b, vI 2, vI 7, vI 2, vI c2]) rfl ?_
          show Go _ _ _ _ (mkF m 35 #[vR a1, vI 3, vR b, vI 2, vI 7, vI 2, vI c2] []) _
          refine XS.iinc X52.here hx rfl (hb hby d7_35) rfl (l' := #[vR a1, vI 3, vR b, vI 3, vI 7, vI 2, vI c2]) rfl ?_
          show Go _ _ _ _ (mkF m 38 #[vR a1, vI 3, vR b, vI 3, vI 7, vI 2, vI c2] []) _
          refine XS.iinc X52.here hx rfl (hb hby d7_38) rfl (l' := #[vR a1, vI 3, vR b, vI 3, vI 7, vI 3, vI c2]) rfl ?_
          show Go _ _ _ _ (mkF m 41 #[vR a1, vI 3, vR b, vI 3, vI 7, vI 3, vI c2] []) _
          refine XS.goto X52.here hx rfl (pc0 := 41) (pc' := 3) rfl (hb hby d7_41) (by decide) (by decide) ?_
          show Go _ _ _ _ (mkF m 3 _ []) _
          refine XS.iload X52.here hx rfl (hb hby d7_3) rfl ?_
          show Go _ _ _ _ (mkF m 5 _ [(.int 3)]) _
          refine XS.iload X52.here hx rfl (hb hby d7_5) rfl ?_
          show Go _ _ _ _ (mkF m 7 _ [(.int 7), (.int 3)]) _
          refine XS.icmpNo X52.here hx rfl (hb hby d7_7) rfl (tlt (by decide : (3 : Int32) < (7 : Int32))).2.1 ?_
          show Go _ _ _ _ (mkF m 10 _ []) _
          refine XS.aloadN X52.here hx rfl (hb hby d7_10) rfl rfl ?_
          show Go _ _ _ _ (mkF m 11 _ [(.ref a1)]) _
          refine XS.iloadN X52.here hx rfl (hb hby d7_11) rfl ?_
          exact kt))
        obtain ⟨c57, Ar57, -, S57, N57, H57, -⟩ := id f56
        have q59 := fun t (kt : Go p e below T52 (mkF m 20 #[vR a1, vI 3, vR b, vI 3, vI 7, vI 3, vI c3] [(.int 255), (.int c3)]) t) => q58 t (by
          show Go _ _ _ _ (mkF m 12 #[vR a1, vI 3, vR b, vI 3, vI 7, vI 3, vI c2] [(.int 3), (.ref a1)]) _
          refine X52.caload hx (j := (3 : Int32)) (v := (.int c3)) (by rw [e52]; exact Ar57.1) (State.isArrayOf_alike hZ.alike Ar57.2.1) Ar57.2.2 (inb_of S57 ⟨by decide, by decide⟩) (Has.at H57 (inb_of S57 ⟨by decide, by decide⟩) rfl) (g := (mkF m 12 #[vR a1, vI 3, vR b, vI 3, vI 7, vI 3, vI c2] [(.int 3), (.ref a1)])) rfl rfl (hb hby d7_12) _ ?_
          show Go _ _ _ _ (mkF m 13 _ [(.int c3)]) _
          refine XS.istore X52.here hx rfl (hb hby d7_13) rfl (l' := #[vR a1, vI 3, vR b, vI 3, vI 7, vI 3, vI c3]) rfl ?_
          show Go _ _ _ _ (mkF m 15 #[vR a1, vI 3, vR b, vI 3, vI 7, vI 3, vI c3] []) _
          refine XS.iload X52.here hx rfl (hb hby d7_15) rfl ?_
          show Go _ _ _ _ (mkF m 17 _ [(.int c3)]) _
          refine XS.sipush X52.here hx rfl (hb hby d7_17) ?_
          exact kt)
        by_cases hc60 : (255 : Int32) < c3
        · have q61 := fun t (kt : Go p e below T52 (mkF m 25 #[vR a1, vI 3, vR b, vI 3, vI 7, vI 3, vI c3] [(.int 3)]) t) => q59 t (by
            show Go _ _ _ _ (mkF m 20 #[vR a1, vI 3, vR b, vI 3, vI 7, vI 3, vI c3] [(.int 255), (.int c3)]) _
            refine XS.icmpNo X52.here hx rfl (hb hby d7_20) rfl (tlt hc60).2.2.2 ?_
            show Go _ _ _ _ (mkF m 23 _ []) _
            refine XS.iload X52.here hx rfl (hb hby d7_23) rfl ?_
            exact kt)
          exact ⟨some (.int 3), T52, _, _, _, _, X52, by decide, by decide, nofun, q61, fun fs hr => retI X52 hx hret (hb hby d7_25) hr, by rw [e52]; exact ⟨(3 : Int32), rfl, N53, K55, (Or.inr (Or.inr (Or.inr (Or.inl ⟨rfl, hc60⟩))))⟩⟩
        · have q63 := fun t (kt : Go p e below T52 (mkF m 31 #[vR a1, vI 3, vR b, vI 3, vI 7, vI 3, vI c3] [(.int (c3.toInt8.toInt32)), (.int 3), (.ref b)]) t) => q59 t (by
            show Go _ _ _ _ (mkF m 20 #[vR a1, vI 3, vR b, vI 3, vI 7, vI 3, vI c3] [(.int 255), (.int c3)]) _
            refine XS.icmpYes X52.here hx rfl (pc0 := 20) (pc' := 26) rfl (hb hby d7_20) rfl (flt hc60).2.2.2 (by decide) (by decide) ?_
            show Go _ _ _ _ (mkF m 26 _ []) _
            refine XS.aloadN X52.here hx rfl (hb hby d7_26) rfl rfl ?_
            show Go _ _ _ _ (mkF m 27 _ [(.ref b)]) _
            refine XS.iloadN X52.here hx rfl (hb hby d7_27) rfl ?_
            show Go _ _ _ _ (mkF m 28 _ [(.int 3), (.ref b)]) _
            refine XS.iload X52.here hx rfl (hb hby d7_28) rfl ?_
            show Go _ _ _ _ (mkF m 30 _ [(.int c3), (.int 3), (.ref b)]) _
            refine XS.i2b X52.here hx rfl (hb hby d7_30) rfl ?_
            exact kt)
          obtain ⟨c62, Ar62, q62, S62, N62, H62, G62⟩ := id V52
          have hi62 : ¬ ((3 : Int32) < 0 ∨ c62.slots.size ≤ ((3 : Int32)).toNatClampNeg) := inb_of S62 ⟨by decide, by decide⟩
          obtain ⟨T64, h64, X64, e64, W64, st64⟩ := stB X52 hx hZ e52 Ar62 (j := (3 : Int32)) hi62 (g := (mkF m 31 #[vR a1, vI 3, vR b, vI 3, vI 7, vI 3, vI c3] [(.int (c3.toInt8.toInt32)), (.int 3), (.ref b)])) rfl rfl (hb hby d7_31)
          have V64 : Arv Z h64 b kb .byte (7 : Int32) [(.int (nar .byte (c0.toInt8.toInt32))), (.int (nar .byte (c1.toInt8.toInt32))), (.int (nar .byte (c2.toInt8.toInt32))), (.int (nar .byte (c3.toInt8.toInt32))), (.int 0), (.int 0), (.int 0)] (.int 0) := Arv.set Ar62 q62 S62 N62 H62 G62 (fits_nar_byte _) W64 3 rfl (Nat.le_of_ble_eq_true rfl)
          have N65 := Fr.snoc X64 N53 g_b
          have O66 := O54.wr W64 g_b
          have K67 := K55.wr W64 (Or.inl (List.mem_of_getElem? (i := 0) rfl))
          have f68 := (f56.other W64 hne)
          have q70 := fun t (kt : Go p e below T64 (mkF m 12 #[vR a1, vI 4, vR b, vI 4, vI 7, vI 4, vI c3] [(.int 4), (.ref a1)]) t) => q63 t (st64 t (by
            show Go _ _ _ _ (mkF m 32 #[vR a1, vI 3, vR b, vI 3, vI 7, vI 3, vI c3] []) _
            refine XS.iinc X64.here hx rfl (hb hby d7_32) rfl (l' := #[vR a1, vI 4, vR b, vI 3, vI 7, vI 3, vI c3]) rfl ?_
            show Go _ _ _ _ (mkF m 35 #[vR a1, vI 4, vR b, vI 3, vI 7, vI 3, vI c3] []) _
            refine XS.iinc X64.here hx rfl (hb hby d7_35) rfl (l' := #[vR a1, vI 4, vR b, vI 4, vI 7, vI 3, vI c3]) rfl ?_
            show Go _ _ _ _ (mkF m 38 #[vR a1, vI 4, vR b, vI 4, vI 7, vI 3, vI c3] []) _
            refine XS.iinc X64.here hx rfl (hb hby d7_38) rfl (l' := #[vR a1, vI 4, vR b, vI 4, vI 7, vI 4, vI c3]) rfl ?_
            show Go _ _ _ _ (mkF m 41 #[vR a1, vI 4, vR b, vI 4, vI 7, vI 4, vI c3] []) _
            refine XS.goto X64.here hx rfl (pc0 := 41) (pc' := 3) rfl (hb hby d7_41) (by decide) (by decide) ?_
            show Go _ _ _ _ (mkF m 3 _ []) _
            refine XS.iload X64.here hx rfl (hb hby d7_3) rfl ?_
            show Go _ _ _ _ (mkF m 5 _ [(.int 4)]) _
            refine XS.iload X64.here hx rfl (hb hby d7_5) rfl ?_
            show Go _ _ _ _ (mkF m 7 _ [(.int 7), (.int 4)]) _
            refine XS.icmpNo X64.here hx rfl (hb hby d7_7) rfl (tlt (by decide : (4 : Int32) < (7 : Int32))).2.1 ?_
            show Go _ _ _ _ (mkF m 10 _ []) _
            refine XS.aloadN X64.here hx rfl (hb hby d7_10) rfl rfl ?_
            show Go _ _ _ _ (mkF m 11 _ [(.ref a1)]) _
            refine XS.iloadN X64.here hx rfl (hb hby d7_11) rfl ?_
            exact kt))
          obtain ⟨c69, Ar69, -, S69, N69, H69, -⟩ := id f68
          have q71 := fun t (kt : Go p e below T64 (mkF m 20 #[vR a1, vI 4, vR b, vI 4, vI 7, vI 4, vI c4] [(.int 255), (.int c4)]) t) => q70 t (by
            show Go _ _ _ _ (mkF m 12 #[vR a1, vI 4, vR b, vI 4, vI 7, vI 4, vI c3] [(.int 4), (.ref a1)]) _
            refine X64.caload hx (j := (4 : Int32)) (v := (.int c4)) (by rw [e64]; exact Ar69.1) (State.isArrayOf_alike hZ.alike Ar69.2.1) Ar69.2.2 (inb_of S69 ⟨by decide, by decide⟩) (Has.at H69 (inb_of S69 ⟨by decide, by decide⟩) rfl) (g := (mkF m 12 #[vR a1, vI 4, vR b, vI 4, vI 7, vI 4, vI c3] [(.int 4), (.ref a1)])) rfl rfl (hb hby d7_12) _ ?_
            show Go _ _ _ _ (mkF m 13 _ [(.int c4)]) _
            refine XS.istore X64.here hx rfl (hb hby d7_13) rfl (l' := #[vR a1, vI 4, vR b, vI 4, vI 7, vI 4, vI c4]) rfl ?_
            show Go _ _ _ _ (mkF m 15 #[vR a1, vI 4, vR b, vI 4, vI 7, vI 4, vI c4] []) _
            refine XS.iload X64.here hx rfl (hb hby d7_15) rfl ?_
            show Go _ _ _ _ (mkF m 17 _ [(.int c4)]) _
            refine XS.sipush X64.here hx rfl (hb hby d7_17) ?_
            exact kt)
          by_cases hc72 : (255 : Int32) < c4
          · have q73 := fun t (kt : Go p e below T64 (mkF m 25 #[vR a1, vI 4, vR b, vI 4, vI 7, vI 4, vI c4] [(.int 4)]) t) => q71 t (by
              show Go _ _ _ _ (mkF m 20 #[vR a1, vI 4, vR b, vI 4, vI 7, vI 4, vI c4] [(.int 255), (.int c4)]) _
              refine XS.icmpNo X64.here hx rfl (hb hby d7_20) rfl (tlt hc72).2.2.2 ?_
              show Go _ _ _ _ (mkF m 23 _ []) _
              refine XS.iload X64.here hx rfl (hb hby d7_23) rfl ?_
              exact kt)
            exact ⟨some (.int 4), T64, _, _, _, _, X64, by decide, by decide, nofun, q73, fun fs hr => retI X64 hx hret (hb hby d7_25) hr, by rw [e64]; exact ⟨(4 : Int32), rfl, N65, K67, (Or.inr (Or.inr (Or.inr (Or.inr (Or.inl ⟨rfl, hc72⟩)))))⟩⟩
          · have q75 := fun t (kt : Go p e below T64 (mkF m 31 #[vR a1, vI 4, vR b, vI 4, vI 7, vI 4, vI c4] [(.int (c4.toInt8.toInt32)), (.int 4), (.ref b)]) t) => q71 t (by
              show Go _ _ _ _ (mkF m 20 #[vR a1, vI 4, vR b, vI 4, vI 7, vI 4, vI c4] [(.int 255), (.int c4)]) _
              refine XS.icmpYes X64.here hx rfl (pc0 := 20) (pc' := 26) rfl (hb hby d7_20) rfl (flt hc72).2.2.2 (by decide) (by decide) ?_
              show Go _ _ _ _ (mkF m 26 _ []) _
              refine XS.aloadN X64.here hx rfl (hb hby d7_26) rfl rfl ?_
              show Go _ _ _ _ (mkF m 27 _ [(.ref b)]) _
              refine XS.iloadN X64.here hx rfl (hb hby d7_27) rfl ?_
              show Go _ _ _ _ (mkF m 28 _ [(.int 4), (.ref b)]) _
              refine XS.iload X64.here hx rfl (hb hby d7_28) rfl ?_
              show Go _ _ _ _ (mkF m 30 _ [(.int c4), (.int 4), (.ref b)]) _
              refine XS.i2b X64.here hx rfl (hb hby d7_30) rfl ?_
              exact kt)
            obtain ⟨c74, Ar74, q74, S74, N74, H74, G74⟩ := id V64
            have hi74 : ¬ ((4 : Int32) < 0 ∨ c74.slots.size ≤ ((4 : Int32)).toNatClampNeg) := inb_of S74 ⟨by decide, by decide⟩
            obtain ⟨T76, h76, X76, e76, W76, st76⟩ := stB X64 hx hZ e64 Ar74 (j := (4 : Int32)) hi74 (g := (mkF m 31 #[vR a1, vI 4, vR b, vI 4, vI 7, vI 4, vI c4] [(.int (c4.toInt8.toInt32)), (.int 4), (.ref b)])) rfl rfl (hb hby d7_31)
            have V76 : Arv Z h76 b kb .byte (7 : Int32) [(.int (nar .byte (c0.toInt8.toInt32))), (.int (nar .byte (c1.toInt8.toInt32))), (.int (nar .byte (c2.toInt8.toInt32))), (.int (nar .byte (c3.toInt8.toInt32))), (.int (nar .byte (c4.toInt8.toInt32))), (.int 0), (.int 0)] (.int 0) := Arv.set Ar74 q74 S74 N74 H74 G74 (fits_nar_byte _) W76 4 rfl (Nat.le_of_ble_eq_true rfl)
            have N77 := Fr.snoc X76 N65 g_b
            have O78 := O66.wr W76 g_b
            have K79 := K67.wr W76 (Or.inl (List.mem_of_getElem? (i := 0) rfl))
            have f80 := (f68.other W76 hne)
            have q82 := fun t (kt : Go p e below T76 (mkF m 12 #[vR a1, vI 5, vR b, vI 5, vI 7, vI 5, vI c4] [(.int 5), (.ref a1)]) t) => q75 t (st76 t (by
              show Go _ _ _ _ (mkF m 32 #[vR a1, vI 4, vR b, vI 4, vI 7, vI 4, vI c4] []) _
              refine XS.iinc X76.here hx rfl (hb hby d7_32) rfl (l' := #[vR a1, vI 5, vR b, vI 4, vI 7, vI 4, vI c4]) rfl ?_
              show Go _ _ _ _ (mkF m 35 #[vR a1, vI 5, vR b, vI 4, vI 7, vI 4, vI c4] []) _
              refine XS.iinc X76.here hx rfl (hb hby d7_35) rfl (l' := #[vR a1, vI 5, vR b, vI 5, vI 7, vI 4, vI c4]) rfl ?_
              show Go _ _ _ _ (mkF m 38 #[vR a1, vI 5, vR b, vI 5, vI 7, vI 4, vI c4] []) _
              refine XS.iinc X76.here hx rfl (hb hby d7_38) rfl (l' := #[vR a1, vI 5, vR b, vI 5, vI 7, vI 5, vI c4]) rfl ?_
              show Go _ _ _ _ (mkF m 41 #[vR a1, vI 5, vR b, vI 5, vI 7, vI 5, vI c4] []) _
              refine XS.goto X76.here hx rfl (pc0 := 41) (pc' := 3) rfl (hb hby d7_41) (by decide) (by decide) ?_
              show Go _ _ _ _ (mkF m 3 _ []) _
              refine XS.iload X76.here hx rfl (hb hby d7_3) rfl ?_
              show Go _ _ _ _ (mkF m 5 _ [(.int 5)]) _
              refine XS.iload X76.here hx rfl (hb hby d7_5) rfl ?_
              show Go _ _ _ _ (mkF m 7 _ [(.int 7), (.int 5)]) _
              refine XS.icmpNo X76.here hx rfl (hb hby d7_7) rfl (tlt (by decide : (5 : Int32) < (7 : Int32))).2.1 ?_
              show Go _ _ _ _ (mkF m 10 _ []) _
              refine XS.aloadN X76.here hx rfl (hb hby d7_10) rfl rfl ?_
              show Go _ _ _ _ (mkF m 11 _ [(.ref a1)]) _
              refine XS.iloadN X76.here hx rfl (hb hby d7_11) rfl ?_
              exact kt))
            obtain ⟨c81, Ar81, -, S81, N81, H81, -⟩ := id f80
            have q83 := fun t (kt : Go p e below T76 (mkF m 20 #[vR a1, vI 5, vR b, vI 5, vI 7, vI 5, vI c5] [(.int 255), (.int c5)]) t) => q82 t (by
              show Go _ _ _ _ (mkF m 12 #[vR a1, vI 5, vR b, vI 5, vI 7, vI 5, vI c4] [(.int 5), (.ref a1)]) _
              refine X76.caload hx (j := (5 : Int32)) (v := (.int c5)) (by rw [e76]; exact Ar81.1) (State.isArrayOf_alike hZ.alike Ar81.2.1) Ar81.2.2 (inb_of S81 ⟨by decide, by decide⟩) (Has.at H81 (inb_of S81 ⟨by decide, by decide⟩) rfl) (g := (mkF m 12 #[vR a1, vI 5, vR b, vI 5, vI 7, vI 5, vI c4] [(.int 5), (.ref a1)])) rfl rfl (hb hby d7_12) _ ?_
              show Go _ _ _ _ (mkF m 13 _ [(.int c5)]) _
              refine XS.istore X76.here hx rfl (hb hby d7_13) rfl (l' := #[vR a1, vI 5, vR b, vI 5, vI 7, vI 5, vI c5]) rfl ?_
              show Go _ _ _ _ (mkF m 15 #[vR a1, vI 5, vR b, vI 5, vI 7, vI 5, vI c5] []) _
              refine XS.iload X76.here hx rfl (hb hby d7_15) rfl ?_
              show Go _ _ _ _ (mkF m 17 _ [(.int c5)]) _
              refine XS.sipush X76.here hx rfl (hb hby d7_17) ?_
              exact kt)
            by_cases hc84 : (255 : Int32) < c5
            · have q85 := fun t (kt : Go p e below T76 (mkF m 25 #[vR a1, vI 5, vR b, vI 5, vI 7, vI 5, vI c5] [(.int 5)]) t) => q83 t (by
                show Go _ _ _ _ (mkF m 20 #[vR a1, vI 5, vR b, vI 5, vI 7, vI 5, vI c5] [(.int 255), (.int c5)]) _
                refine XS.icmpNo X76.here hx rfl (hb hby d7_20) rfl (tlt hc84).2.2.2 ?_
                show Go _ _ _ _ (mkF m 23 _ []) _
                refine XS.iload X76.here hx rfl (hb hby d7_23) rfl ?_
                exact kt)
              exact ⟨some (.int 5), T76, _, _, _, _, X76, by decide, by decide, nofun, q85, fun fs hr => retI X76 hx hret (hb hby d7_25) hr, by rw [e76]; exact ⟨(5 : Int32), rfl, N77, K79, (Or.inr (Or.inr (Or.inr (Or.inr (Or.inr (Or.inl ⟨rfl, hc84⟩))))))⟩⟩
            · have q87 := fun t (kt : Go p e below T76 (mkF m 31 #[vR a1, vI 5, vR b, vI 5, vI 7, vI 5, vI c5] [(.int (c5.toInt8.toInt32)), (.int 5), (.ref b)]) t) => q83 t (by
                show Go _ _ _ _ (mkF m 20 #[vR a1, vI 5, vR b, vI 5, vI 7, vI 5, vI c5] [(.int 255), (.int c5)]) _
                refine XS.icmpYes X76.here hx rfl (pc0 := 20) (pc' := 26) rfl (hb hby d7_20) rfl (flt hc84).2.2.2 (by decide) (by decide) ?_
                show Go _ _ _ _ (mkF m 26 _ []) _
                refine XS.aloadN X76.here hx rfl (hb hby d7_26) rfl rfl ?_
                show Go _ _ _ _ (mkF m 27 _ [(.ref b)]) _
                refine XS.iloadN X76.here hx rfl (hb hby d7_27) rfl ?_
                show Go _ _ _ _ (mkF m 28 _ [(.int 5), (.ref b)]) _
                refine XS.iload X76.here hx rfl (hb hby d7_28) rfl ?_
                show Go _ _ _ _ (mkF m 30 _ [(.int c5), (.int 5), (.ref b)]) _
                refine XS.i2b X76.here hx rfl (hb hby d7_30) rfl ?_
                exact kt)
              obtain ⟨c86, Ar86, q86, S86, N86, H86, G86⟩ := id V76
              have hi86 : ¬ ((5 : Int32) < 0 ∨ c86.slots.size ≤ ((5 : Int32)).toNatClampNeg) := inb_of S86 ⟨by decide, by decide⟩
              obtain ⟨T88, h88, X88, e88, W88, st88⟩ := stB X76 hx hZ e76 Ar86 (j := (5 : Int32)) hi86 (g := (mkF m 31 #[vR a1, vI 5, vR b, vI 5, vI 7, vI 5, vI c5] [(.int (c5.toInt8.toInt32)), (.int 5), (.ref b)])) rfl rfl (hb hby d7_31)
              have V88 : Arv Z h88 b kb .byte (7 : Int32) [(.int (nar .byte (c0.toInt8.toInt32))), (.int (nar .byte (c1.toInt8.toInt32))), (.int (nar .byte (c2.toInt8.toInt32))), (.int (nar .byte (c3.toInt8.toInt32))), (.int (nar .byte (c4.toInt8.toInt32))), (.int (nar .byte (c5.toInt8.toInt32))), (.int 0)] (.int 0) := Arv.set Ar86 q86 S86 N86 H86 G86 (fits_nar_byte _) W88 5 rfl (Nat.le_of_ble_eq_true rfl)
              have N89 := Fr.snoc X88 N77 g_b
              have O90 := O78.wr W88 g_b
              have K91 := K79.wr W88 (Or.inl (List.mem_of_getElem? (i := 0) rfl))
              have f92 := (f80.other W88 hne)
              have q94 := fun t (kt : Go p e below T88 (mkF m 12 #[vR a1, vI 6, vR b, vI 6, vI 7, vI 6, vI c5] [(.int 6), (.ref a1)]) t) => q87 t (st88 t (by
                show Go _ _ _ _ (mkF m 32 #[vR a1, vI 5, vR b, vI 5, vI 7, vI 5, vI c5] []) _
                refine XS.iinc X88.here hx rfl (hb hby d7_32) rfl (l' := #[vR a1, vI 6, vR b, vI 5, vI 7, vI 5, vI c5]) rfl ?_
                show Go _ _ _ _ (mkF m 35 #[vR a1, vI 6, vR b, vI 5, vI 7, vI 5, vI c5] []) _
                refine XS.iinc X88.here hx rfl (hb hby d7_35) rfl (l' := #[vR a1, vI 6, vR b, vI 6, vI 7, vI 5, vI c5]) rfl ?_
                show Go _ _ _ _ (mkF m 38 #[vR a1, vI 6, vR b, vI 6, vI 7, vI 5, vI c5] []) _
                refine XS.iinc X88.here hx rfl (hb hby d7_38) rfl (l' := #[vR a1, vI 6, vR b, vI 6, vI 7, vI 6, vI c5]) rfl ?_
                show Go _ _ _ _ (mkF m 41 #[vR a1, vI 6, vR b, vI 6, vI 7, vI 6, vI c5] []) _
                refine XS.goto X88.here hx rfl (pc0 := 41) (pc' := 3) rfl (hb hby d7_41) (by decide) (by decide) ?_
                show Go _ _ _ _ (mkF m 3 _ []) _
                refine XS.iload X88.here hx rfl (hb hby d7_3) rfl ?_
                show Go _ _ _ _ (mkF m 5 _ [(.int 6)]) _
                refine XS.iload X88.here hx rfl (hb hby d7_5) rfl ?_
                show Go _ _ _ _ (mkF m 7 _ [(.int 7), (.int 6)]) _
                refine XS.icmpNo X88.here hx rfl (hb hby d7_7) rfl (tlt (by decide : (6 : Int32) < (7 : Int32))).2.1 ?_
                show Go _ _ _ _ (mkF m 10 _ []) _
                refine XS.aloadN X88.here hx rfl (hb hby d7_10) rfl rfl ?_
                show Go _ _ _ _ (mkF m 11 _ [(.ref a1)]) _
                refine XS.iloadN X88.here hx rfl (hb hby d7_11) rfl ?_
                exact kt))
              obtain ⟨c93, Ar93, -, S93, N93, H93, -⟩ := id f92
              have q95 := fun t (kt : Go p e below T88 (mkF m 20 #[vR a1, vI 6, vR b, vI 6, vI 7, vI 6, vI c6] [(.int 255), (.int c6)]) t) => q94 t (by
                show Go _ _ _ _ (mkF m 12 #[vR a1, vI 6, vR b, vI 6, vI 7, vI 6, vI c5] [(.int 6), (.ref a1)]) _
                refine X88.caload hx (j := (6 : Int32)) (v := (.int c6)) (by rw [e88]; exact Ar93.1) (State.isArrayOf_alike hZ.alike Ar93.2.1) Ar93.2.2 (inb_of S93 ⟨by decide, by decide⟩) (Has.at H93 (inb_of S93 ⟨by decide, by decide⟩) rfl) (g := (mkF m 12 #[vR a1, vI 6, vR b, vI 6, vI 7, vI 6, vI c5] [(.int 6), (.ref a1)])) rfl rfl (hb hby d7_12) _ ?_
                show Go _ _ _ _ (mkF m 13 _ [(.int c6)]) _
                refine XS.istore X88.here hx rfl (hb hby d7_13) rfl (l' := #[vR a1, vI 6, vR b, vI 6, vI 7, vI 6, vI c6]) rfl ?_
                show Go _ _ _ _ (mkF m 15 #[vR a1, vI 6, vR b, vI 6, vI 7, vI 6, vI c6] []) _
                refine XS.iload X88.here hx rfl (hb hby d7_15) rfl ?_
                show Go _ _ _ _ (mkF m 17 _ [(.int c6)]) _
                refine XS.sipush X88.here hx rfl (hb hby d7_17) ?_
                exact kt)
              by_cases hc96 : (255 : Int32) < c6
              · have q97 := fun t (kt : Go p e below T88 (mkF m 25 #[vR a1, vI 6, vR b, vI 6, vI 7, vI 6, vI c6] [(.int 6)]) t) => q95 t (by
                  show Go _ _ _ _ (mkF m 20 #[vR a1, vI 6, vR b, vI 6, vI 7, vI 6, vI c6] [(.int 255), (.int c6)]) _
                  refine XS.icmpNo X88.here hx rfl (hb hby d7_20) rfl (tlt hc96).2.2.2 ?_
                  show Go _ _ _ _ (mkF m 23 _ []) _
                  refine XS.iload X88.here hx rfl (hb hby d7_23) rfl ?_
                  exact kt)
                exact ⟨some (.int 6), T88, _, _, _, _, X88, by decide, by decide, nofun, q97, fun fs hr => retI X88 hx hret (hb hby d7_25) hr, by rw [e88]; exact ⟨(6 : Int32), rfl, N89, K91, (Or.inr (Or.inr (Or.inr (Or.inr (Or.inr (Or.inr ⟨rfl, hc96⟩))))))⟩⟩
              · have q99 := fun t (kt : Go p e below T88 (mkF m 31 #[vR a1, vI 6, vR b, vI 6, vI 7, vI 6, vI c6] [(.int (c6.toInt8.toInt32)), (.int 6), (.ref b)]) t) => q95 t (by
                  show Go _ _ _ _ (mkF m 20 #[vR a1, vI 6, vR b, vI 6, vI 7, vI 6, vI c6] [(.int 255), (.int c6)]) _
                  refine XS.icmpYes X88.here hx rfl (pc0 := 20) (pc' := 26) rfl (hb hby d7_20) rfl (flt hc96).2.2.2 (by decide) (by decide) ?_
                  show Go _ _ _ _ (mkF m 26 _ []) _
                  refine XS.aloadN X88.here hx rfl (hb hby d7_26) rfl rfl ?_
                  show Go _ _ _ _ (mkF m 27 _ [(.ref b)]) _
                  refine XS.iloadN X88.here hx rfl (hb hby d7_27) rfl ?_
                  show Go _ _ _ _ (mkF m 28 _ [(.int 6), (.ref b)]) _
                  refine XS.iload X88.here hx rfl (hb hby d7_28) rfl ?_
                  show Go _ _ _ _ (mkF m 30 _ [(.int c6), (.int 6), (.ref b)]) _
                  refine XS.i2b X88.here hx rfl (hb hby d7_30) rfl ?_
                  exact kt)
                obtain ⟨c98, Ar98, q98, S98, N98, H98, G98⟩ := id V88
                have hi98 : ¬ ((6 : Int32) < 0 ∨ c98.slots.size ≤ ((6 : Int32)).toNatClampNeg) := inb_of S98 ⟨by decide, by decide⟩
                obtain ⟨T100, h100, X100, e100, W100, st100⟩ := stB X88 hx hZ e88 Ar98 (j := (6 : Int32)) hi98 (g := (mkF m 31 #[vR a1, vI 6, vR b, vI 6, vI 7, vI 6, vI c6] [(.int (c6.toInt8.toInt32)), (.int 6), (.ref b)])) rfl rfl (hb hby d7_31)
                have V100 : Arv Z h100 b kb .byte (7 : Int32) [(.int (nar .byte (c0.toInt8.toInt32))), (.int (nar .byte (c1.toInt8.toInt32))), (.int (nar .byte (c2.toInt8.toInt32))), (.int (nar .byte (c3.toInt8.toInt32))), (.int (nar .byte (c4.toInt8.toInt32))), (.int (nar .byte (c5.toInt8.toInt32))), (.int (nar .byte (c6.toInt8.toInt32)))] (.int 0) := Arv.set Ar98 q98 S98 N98 H98 G98 (fits_nar_byte _) W100 6 rfl (Nat.le_of_ble_eq_true rfl)
                have N101 := Fr.snoc X100 N89 g_b
                have O102 := O90.wr W100 g_b
                have K103 := K91.wr W100 (Or.inl (List.mem_of_getElem? (i := 0) rfl))
                have q104 := fun t (kt : Go p e below T100 (mkF m 44 #[vR a1, vI 7, vR b, vI 7, vI 7, vI 7, vI c6] []) t) => q99 t (st100 t (by
                  show Go _ _ _ _ (mkF m 32 #[vR a1, vI 6, vR b, vI 6, vI 7, vI 6, vI c6] []) _
                  refine XS.iinc X100.here hx rfl (hb hby d7_32) rfl (l' := #[vR a1, vI 7, vR b, vI 6, vI 7, vI 6, vI c6]) rfl ?_
                  show Go _ _ _ _ (mkF m 35 #[vR a1, vI 7, vR b, vI 6, vI 7, vI 6, vI c6] []) _
                  refine XS.iinc X100.here hx rfl (hb hby d7_35) rfl (l' := #[vR a1, vI 7, vR b, vI 7, vI 7, vI 6, vI c6]) rfl ?_
                  show Go _ _ _ _ (mkF m 38 #[vR a1, vI 7, vR b, vI 7, vI 7, vI 6, vI c6] []) _
                  refine XS.iinc X100.here hx rfl (hb hby d7_38) rfl (l' := #[vR a1, vI 7, vR b, vI 7, vI 7, vI 7, vI c6]) rfl ?_
                  show Go _ _ _ _ (mkF m 41 #[vR a1, vI 7, vR b, vI 7, vI 7, vI 7, vI c6] []) _
                  refine XS.goto X100.here hx rfl (pc0 := 41) (pc' := 3) rfl (hb hby d7_41) (by decide) (by decide) ?_
                  show Go _ _ _ _ (mkF m 3 _ []) _
                  refine XS.iload X100.here hx rfl (hb hby d7_3) rfl ?_
                  show Go _ _ _ _ (mkF m 5 _ [(.int 7)]) _
                  refine XS.iload X100.here hx rfl (hb hby d7_5) rfl ?_
                  show Go _ _ _ _ (mkF m 7 _ [(.int 7), (.int 7)]) _
                  refine XS.icmpYes X100.here hx rfl (pc0 := 7) (pc' := 44) rfl (hb hby d7_7) rfl (flt (by decide : ¬ ((7 : Int32) < (7 : Int32)))).2.1 (by decide) (by decide) ?_
                  exact kt))
                exact absurd hB (by simp [hB, hc24, hc36, hc48, hc60, hc72, hc84, hc96])
def Q_rm6_7 (Z : State) (a1 : Addr) (ka : ClassId) (c0 : Int32) (c1 : Int32) (c2 : Int32) (c3 : Int32) (c4 : Int32) (c5 : Int32) (c6 : Int32) (z_cs : Int32) (h0 : Heap) (n0 : Nat) (v : Option Value) (h : Heap) (L : List Loc) : Prop := ∃ (b : Addr) (kb : ClassId), v = some (.ref b) ∧ Fr n0 L ∧ Keep h0 h [] ∧ h0.size ≤ b ∧ Arv Z h b kb .byte (14 : Int32) [(.int (own_hb c0)), (.int (own_lb c0)), (.int (own_hb c1)), (.int (own_lb c1)), (.int (own_hb c2)), (.int (own_lb c2)), (.int (own_hb c3)), (.int (own_lb c3)), (.int (own_hb c4)), (.int (own_lb c4)), (.int (own_hb c5)), (.int (own_lb c5)), (.int (own_hb c6)), (.int (own_lb c6))] (.int 0)
theorem rm6_7 (l : Launch) (Z : State) (a0 : Array Value) (hw : ∀ d ∈ tables_1, d.before a0 Z = true) (ws : List Jvm.Cond) {z_cs : Int32} (cx : Cx Z z_cs) (a1 : Addr) (ka : ClassId) (c0 : Int32) (c1 : Int32) (c2 : Int32) (c3 : Int32) (c4 : Int32) (c5 : Int32) (c6 : Int32) (h0 : Heap) (n0 : Nat) (O0 : Old Z n0 h0) (G0 : Arv Z h0 a1 ka .char (7 : Int32) [(.int c0), (.int c1), (.int c2), (.int c3), (.int c4), (.int c5), (.int c6)] (.int 0)) (hB : (255 : Int32) < c0 ∨ (255 : Int32) < c1 ∨ (255 : Int32) < c2 ∨ (255 : Int32) < c3 ∨ (255 : Int32) < c4 ∨ (255 : Int32) < c5 ∨ (255 : Int32) < c6) (hc900 : ¬ c0 < 0 ∧ ¬ (65535 : Int32) < c0) (hc901 : ¬ c1 < 0 ∧ ¬ (65535 : Int32) < c1) (hc902 : ¬ c2 < 0 ∧ ¬ (65535 : Int32) < c2) (hc903 : ¬ c3 < 0 ∧ ¬ (65535 : Int32) < c3) (hc904 : ¬ c4 < 0 ∧ ¬ (65535 : Int32) < c4) (hc905 : ¬ c5 < 0 ∧ ¬ (65535 : Int32) < c5) (hc906 : ¬ c6 < 0 ∧ ¬ (65535 : Int32) < c6) :
    OwnMet l ym7 (Jvm.Cond.code ym7 jdk_52_method_16_code 6 (some (.array .byte)) :: ws) (own_R 3 2 21 40) #[(.ref a1), (.int 0), (.int 7)] Z h0 (Q_rm6_7 Z a1 ka c0 c1 c2 c3 c4 c5 c6 z_cs h0 n0) := by
  refine own_body (plainFor_of_name pn_6) hisR fun p e s m below meth c s₁ hx hby hml hown hnm hret hZ X0 e0 => ?_
  have N0 := Fr.nil n0
  have K0 : Keep h0 h0 [] := Keep.refl _ _
  have pre0 : ∀ t, Go p e below s₁ (mkF m 0 #[vR a1, vI 0, vI 7, vU, vU, vU] []) t → Go p e below s₁ (entryFrame m #[(.ref a1), (.int 0), (.int 7)] 6) t := fun t k => castTop (ef_6_RII m a1 (0 : Int32) (7 : Int32)) k
  have q21 := fun t (kt : Go p e below s₁ (mkF m 1 #[vR a1, vI 0, vI 7, vU, vU, vU] [(.int 7)]) t) => pre0 t (by
    show Go _ _ _ _ (mkF m 0 #[vR a1, vI 0, vI 7, vU, vU, vU] []) _
    refine XS.iloadN X0.here hx rfl (hb hby d6_0) rfl ?_
    exact kt)
  obtain ⟨T22, h22, k22, X22, e22, E22, A22, st22⟩ := newP X0 hx hZ (ov hw 27 rfl) e0 (g := (mkF m 1 #[vR a1, vI 0, vI 7, vU, vU, vU] [(.int 7)])) rfl (hb hby d6_1) rfl (by decide) (cap := 7) (by decide) (by decide) (by decide) (by decide)
  obtain ⟨b22, g22⟩ : ∃ z, z = h0.size := ⟨_, rfl⟩
  rw [← g22] at A22 st22
  have gg23 : n0 ≤ b22 := Nat.le_trans (O0.1 ▸ O0.2.1) (Nat.le_of_eq g22.symm)
  have sz24 : h0.size ≤ b22 := Nat.le_trans K0.1 (Nat.le_of_eq g22.symm)
  have O25 := O0.ext E22
  have K26 := K0.ext E22
  have V22 : Arv Z h22 b22 k22 .byte (7 : Int32) [(.int 0), (.int 0), (.int 0), (.int 0), (.int 0), (.int 0), (.int 0)] (.int 0) := (Arv.new A22 (by decide)).pad (pad_rep [] (.int 0) 7)
  have f27 := (G0.ext E22)
  have ne28 : a1 ≠ b22 := (Nat.ne_of_lt (Nat.lt_of_lt_of_le G0.lt (Nat.le_of_eq g22.symm)))
  have q29 := fun t (kt : Go p e below T22 (mkF m 9 #[vR a1, vI 0, vI 7, vR b22, vU, vU] [(.int 7), (.int 0), (.ref b22), (.int 0), (.ref a1)]) t) => q21 t (st22 t (by
    show Go _ _ _ _ (mkF m 3 #[vR a1, vI 0, vI 7, vU, vU, vU] [(.ref b22)]) _
    refine XS.astoreN X22.here hx rfl (hb hby d6_3) rfl rfl (l' := #[vR a1, vI 0, vI 7, vR b22, vU, vU]) rfl ?_
    show Go _ _ _ _ (mkF m 4 #[vR a1, vI 0, vI 7, vR b22, vU, vU] []) _
    refine XS.aloadN X22.here hx rfl (hb hby d6_4) rfl rfl ?_
    show Go _ _ _ _ (mkF m 5 _ [(.ref a1)]) _
    refine XS.iloadN X22.here hx rfl (hb hby d6_5) rfl ?_
    show Go _ _ _ _ (mkF m 6 _ [(.int 0), (.ref a1)]) _
    refine XS.aloadN X22.here hx rfl (hb hby d6_6) rfl rfl ?_
    show Go _ _ _ _ (mkF m 7 _ [(.ref b22), (.int 0), (.ref a1)]) _
    refine XS.iconst X22.here hx rfl (hb hby d6_7) ?_
    show Go _ _ _ _ (mkF m 8 _ [(.int 0), (.ref b22), (.int 0), (.ref a1)]) _
    refine XS.iloadN X22.here hx rfl (hb hby d6_8) rfl ?_
    exact kt))
  obtain ⟨_, _, ⟨T30, L30, k30, n30⟩, -, X30, ⟨_, hQ30, l30, y30, z30⟩, st30⟩ := Jvm.LawKit.callS X22 hx (y := ym6) hown (ow hZ hw 28 rfl) (ow hZ hw 29 rfl) (ow hZ hw 25 rfl) (ow hZ hw 30 rfl) (by decide) (backOf (W := 0) (rm7_7 l Z a0 hw [] cx a1 b22 ka k22 c0 c1 c2 c3 c4 c5 c6 h22 n0 O25 f27 V22 gg23 hB ne28) hZ (ov hw 30 rfl) (ov hw 25 rfl) (by decide) (by decide)) (g := (mkF m 9 #[vR a1, vI 0, vI 7, vR b22, vU, vU] [(.int 7), (.int 0), (.ref b22), (.int 0), (.ref a1)])) rfl (by rw [hml]; rfl) (argsL := [(.ref a1), (.int 0), (.ref b22), (.int 0), (.int 7)]) (rest := []) (lenOf pd_3 rfl) rfl own_le0 (hb hby d6_9) (fun _ _ => ⟨rfl, e22, (by decide : 1 + 0 ≤ _), (by decide : 7 + 0 ≤ _)⟩)
  dsimp only [Pt.U, Pt.locs, Pt.cells, Pt.slots] at X30 l30 y30 z30 st30 hQ30
  subst l30 y30 z30
  obtain ⟨r_30, rfl, Nq30, Kq30, pq30_0⟩ := hQ30
  have N31 := Fr.app N0 Nq30
  have O32 := O25.keep Kq30 (allS gg23 all0)
  have K33 := K26.trans Kq30 (allS (Or.inr sz24) all0)
  have f34 := (f27.keep Kq30 (ninS ne28 nin0))
  have q35 := fun t (kt : Go p e below T30 (mkF m 23 #[vR a1, vI 0, vI 7, vR b22, vI r_30, vU] [(.int 7), (.int 0), (.ref a1)]) t) => q29 t (st30 t (by
    show Go _ _ _ _ (mkF m 12 #[vR a1, vI 0, vI 7, vR b22, vU, vU] [(.int r_30)]) _
    refine XS.istore X30.here hx rfl (hb hby d6_12) rfl (l' := #[vR a1, vI 0, vI 7, vR b22, vI r_30, vU]) rfl ?_
    show Go _ _ _ _ (mkF m 14 #[vR a1, vI 0, vI 7, vR b22, vI r_30, vU] []) _
    refine XS.iload X30.here hx rfl (hb hby d6_14) rfl ?_
    show Go _ _ _ _ (mkF m 16 _ [(.int r_30)]) _
    refine XS.iloadN X30.here hx rfl (hb hby d6_16) rfl ?_
    show Go _ _ _ _ (mkF m 17 _ [(.int 7), (.int r_30)]) _
    refine XS.icmpNo X30.here hx rfl (hb hby d6_17) rfl (feq (by intro z; rw [z] at pq30_0; rcases pq30_0 with ⟨h, -⟩ | ⟨h, -⟩ | ⟨h, -⟩ | ⟨h, -⟩ | ⟨h, -⟩ | ⟨h, -⟩ | ⟨h, -⟩ <;> exact absurd h (by decide))).1 ?_
    show Go _ _ _ _ (mkF m 20 _ []) _
    refine XS.aloadN X30.here hx rfl (hb hby d6_20) rfl rfl ?_
    show Go _ _ _ _ (mkF m 21 _ [(.ref a1)]) _
    refine XS.iloadN X30.here hx rfl (hb hby d6_21) rfl ?_
    show Go _ _ _ _ (mkF m 22 _ [(.int 0), (.ref a1)]) _
    refine XS.iloadN X30.here hx rfl (hb hby d6_22) rfl ?_
    exact kt))
  obtain ⟨_, _, ⟨T36, L36, k36, n36⟩, -, X36, ⟨_, hQ36, l36, y36, z36⟩, st36⟩ := Jvm.LawKit.callS X30 hx (y := ym5) hown (ow hZ hw 63 rfl) (ow hZ hw 64 rfl) (ow hZ hw 25 rfl) (ow hZ hw 65 rfl) (by decide) (backOf (W := 0) (rm15_7 l Z a0 hw [] cx a1 ka c0 c1 c2 c3 c4 c5 c6 T30.heap n0 O32 f34) hZ (ov hw 65 rfl) (ov hw 25 rfl) (by decide) (by decide)) (g := (mkF m 23 #[vR a1, vI 0, vI 7, vR b22, vI r_30, vU] [(.int 7), (.int 0), (.ref a1)])) rfl (by rw [hml]; rfl) (argsL := [(.ref a1), (.int 0), (.int 7)]) (rest := []) (lenOf pd_4 rfl) rfl own_le0 (hb hby d6_23) (fun _ _ => ⟨rfl, rfl, (by decide : 1 + 1 ≤ _), (by decide : 7 + 14 ≤ _)⟩)
  dsimp only [Pt.U, Pt.locs, Pt.cells, Pt.slots] at X36 l36 y36 z36 st36 hQ36
  subst l36 y36 z36
  obtain ⟨b_36, kb_36, rfl, Nq36, Kq36, fr36_0, fq36_0⟩ := hQ36
  have N37 := Fr.app N31 Nq36
  have gg38 : n0 ≤ b_36 := Nat.le_trans (O32.1 ▸ O32.2.1) fr36_0
  have sz39 : h0.size ≤ b_36 := Nat.le_trans K33.1 fr36_0
  have O40 := O32.keep Kq36 all0
  have K41 := K33.trans Kq36 all0
  have q42 := fun t (kt : Go p e below T36 (mkF m 30 #[vR a1, vI 0, vI 7, vR b22, vI r_30, vR b_36] [(.ref b_36)]) t) => q35 t (st36 t (by
    show Go _ _ _ _ (mkF m 26 #[vR a1, vI 0, vI 7, vR b22, vI r_30, vU] [(.ref b_36)]) _
    refine XS.astore X36.here hx rfl (hb hby d6_26) rfl rfl (l' := #[vR a1, vI 0, vI 7, vR b22, vI r_30, vR b_36]) rfl ?_
    show Go _ _ _ _ (mkF m 28 #[vR a1, vI 0, vI 7, vR b22, vI r_30, vR b_36] []) _
    refine XS.aload X36.here hx rfl (hb hby d6_28) rfl rfl ?_
    exact kt))
  rcases pq30_0 with ⟨hj, hj'⟩ | ⟨hj, hj'⟩ | ⟨hj, hj'⟩ | ⟨hj, hj'⟩ | ⟨hj, hj'⟩ | ⟨hj, hj'⟩ | ⟨hj, hj'⟩
  · skip
    have q43 := fun t (kt : Go p e below T36 (mkF m 30 #[vR a1, vI 0, vI 7, vR b22, vI 0, vR b_36] [(.ref b_36)]) t) => q42 t (by rw [hj]; exact kt)
    have q44 := fun t (kt : Go p e below T36 (mkF m 32 #[vR a1, vI 0, vI 7, vR b22, vI 0, vR b_36] [(.int 0), (.ref b_36)]) t) => q43 t (by
      show Go _ _ _ _ (mkF m 30 #[vR a1, vI 0, vI 7, vR b22, vI 0, vR b_36] [(.ref b_36)]) _
      refine XS.iload X36.here hx rfl (hb hby d6_30) rfl ?_
      exact kt)
    obtain ⟨_, _, ⟨T45, L45, k45, n45⟩, -, X45, ⟨_, hQ45, l45, y45, z45⟩, st45⟩ := Jvm.LawKit.callS X36 hx (y := ym2) hown (ow hZ hw 79 rfl) (ow hZ hw 80 rfl) (ow hZ hw 25 rfl) (ow hZ hw 81 rfl) (by decide) (backOf (W := 0) (rm19 l Z a0 hw [] cx b_36 kb_36 (0 : Int32) c0 (14 : Int32) [(.int (own_hb c0)), (.int (own_lb c0)), (.int (own_hb c1)), (.int (own_lb c1)), (.int (own_hb c2)), (.int (own_lb c2)), (.int (own_hb c3)), (.int (own_lb c3)), (.int (own_hb c4)), (.int (own_lb c4)), (.int (own_hb c5)), (.int (own_lb c5)), (.int (own_hb c6)), (.int (own_lb c6))] 0 T36.heap n0 O40 fq36_0 (by decide) (by decide) (by decide) (by decide) (by decide) rfl rfl hc900) hZ (ov hw 81 rfl) (ov hw 25 rfl) (by decide) (by decide)) (g := (mkF m 32 #[vR a1, vI 0, vI 7, vR b22, vI 0, vR b_36] [(.int 0), (.ref b_36)])) rfl (by rw [hml]; rfl) (argsL := [(.ref b_36), (.int 0)]) (rest := []) (lenOf pd_5 rfl) rfl own_le0 (hb hby d6_32) (fun _ _ => ⟨rfl, rfl, (by decide : 2 + 0 ≤ _), (by decide : 21 + 0 ≤ _)⟩)
    dsimp only [Pt.U, Pt.locs, Pt.cells, Pt.slots] at X45 l45 y45 z45 st45 hQ45
    subst l45 y45 z45
    obtain ⟨rfl, Nq45, eq45⟩ := hQ45
    have N46 := Fr.app N37 Nq45
    have q47 := fun t (kt : Go p e below T45 (mkF m 56 #[vR a1, vI 0, vI 7, vR b22, vI 0, vR b_36] [(.ref b_36)]) t) => q44 t (st45 t (by
      show Go _ _ _ _ (mkF m 35 #[vR a1, vI 0, vI 7, vR b22, vI 0, vR b_36] [(.int c0)]) _
      refine XS.sipush X45.here hx rfl (hb hby d6_35) ?_
      show Go _ _ _ _ (mkF m 38 _ [(.int 255), (.int c0)]) _
      refine XS.icmpYes X45.here hx rfl (pc0 := 38) (pc' := 54) rfl (hb hby d6_38) rfl (tlt hj').2.2.1 (by decide) (by decide) ?_
      show Go _ _ _ _ (mkF m 54 _ []) _
      refine XS.aload X45.here hx rfl (hb hby d6_54) rfl rfl ?_
      exact kt))
    exact ⟨some (.ref b_36), T45, _, _, _, _, X45, by decide, by decide, nofun, q47, fun fs hr => retOut X45 hx hret rfl (o4 ⟨rfl, rfl, rfl⟩) (hb hby d6_56) hr, by rw [eq45]; exact ⟨b_36, kb_36, rfl, N46, K41, sz39, fq36_0⟩⟩
  · skip
    have q48 := fun t (kt : Go p e below T36 (mkF m 30 #[vR a1, vI 0, vI 7, vR b22, vI 1, vR b_36] [(.ref b_36)]) t) => q42 t (by rw [hj]; exact kt)
    have q49 := fun t (kt : Go p e below T36 (mkF m 32 #[vR a1, vI 0, vI 7, vR b22, vI 1, vR b_36] [(.int 1), (.ref b_36)]) t) => q48 t (by
      show Go _ _ _ _ (mkF m 30 #[vR a1, vI 0, vI 7, vR b22, vI 1, vR b_36] [(.ref b_36)]) _
      refine XS.iload X36.here hx rfl (hb hby d6_30) rfl ?_
      exact kt)
    obtain ⟨_, _, ⟨T50, L50, k50, n50⟩, -, X50, ⟨_, hQ50, l50, y50, z50⟩, st50⟩ := Jvm.LawKit.callS X36 hx (y := ym2) hown (ow hZ hw 79 rfl) (ow hZ hw 80 rfl) (ow hZ hw 25 rfl) (ow hZ hw 81 rfl) (by decide) (backOf (W := 0) (rm19 l Z a0 hw [] cx b_36 kb_36 (1 : Int32) c1 (14 : Int32) [(.int (own_hb c0)), (.int (own_lb c0)), (.int (own_hb c1)), (.int (own_lb c1)), (.int (own_hb c2)), (.int (own_lb c2)), (.int (own_hb c3)), (.int (own_lb c3)), (.int (own_hb c4)), (.int (own_lb c4)), (.int (own_hb c5)), (.int (own_lb c5)), (.int (own_hb c6)), (.int (own_lb c6))] 2 T36.heap n0 O40 fq36_0 (by decide) (by decide) (by decide) (by decide) (by decide) rfl rfl hc901) hZ (ov hw 81 rfl) (ov hw 25 rfl) (by decide) (by decide)) (g := (mkF m 32 #[vR a1, vI 0, vI 7, vR b22, vI 1, vR b_36] [(.int 1), (.ref b_36)])) rfl (by rw [hml]; rfl) (argsL := [(.ref b_36), (.int 1)]) (rest := []) (lenOf pd_5 rfl) rfl own_le0 (hb hby d6_32) (fun _ _ => ⟨rfl, rfl, (by decide : 2 + 0 ≤ _), (by decide : 21 + 0 ≤ _)⟩)
    dsimp only [Pt.U, Pt.locs, Pt.cells, Pt.slots] at X50 l50 y50 z50 st50 hQ50
    subst l50 y50 z50
    obtain ⟨rfl, Nq50, eq50⟩ := hQ50
    have N51 := Fr.app N37 Nq50
    have q52 := fun t (kt : Go p e below T50 (mkF m 56 #[vR a1, vI 0, vI 7, vR b22, vI 1, vR b_36] [(.ref b_36)]) t) => q49 t (st50 t (by
      show Go _ _ _ _ (mkF m 35 #[vR a1, vI 0, vI 7, vR b22, vI 1, vR b_36] [(.int c1)]) _
      refine XS.sipush X50.here hx rfl (hb hby d6_35) ?_
      show Go _ _ _ _ (mkF m 38 _ [(.int 255), (.int c1)]) _
      refine XS.icmpYes X50.here hx rfl (pc0 := 38) (pc' := 54) rfl (hb hby d6_38) rfl (tlt hj').2.2.1 (by decide) (by decide) ?_
      show Go _ _ _ _ (mkF m 54 _ []) _
      refine XS.aload X50.here hx rfl (hb hby d6_54) rfl rfl ?_
      exact kt))
    exact ⟨some (.ref b_36), T50, _, _, _, _, X50, by decide, by decide, nofun, q52, fun fs hr => retOut X50 hx hret rfl (o4 ⟨rfl, rfl, rfl⟩) (hb hby d6_56) hr, by rw [eq50]; exact ⟨b_36, kb_36, rfl, N51, K41, sz39, fq36_0⟩⟩
  · skip
    have q53 := fun t (kt : Go p e below T36 (mkF m 30 #[vR a1, vI 0, vI 7, vR b22, vI 2, vR b_36] [(.ref b_36)]) t) => q42 t (by rw [hj]; exact kt)
    have q54 := fun t (kt : Go p e below T36 (mkF m 32 #[vR a1, vI 0, vI 7, vR b22, vI 2, vR b_36] [(.int 2), (.ref b_36)]) t) => q53 t (by
      show Go _ _ _ _ (mkF m 30 #[vR a1, vI 0, vI 7, vR b22, vI 2, vR b_36] [(.ref b_36)]) _
      refine XS.iload X36.here hx rfl (hb hby d6_30) rfl ?_
      exact kt)
    obtain ⟨_, _, ⟨T55, L55, k55, n55⟩, -, X55, ⟨_, hQ55, l55, y55, z55⟩, st55⟩ := Jvm.LawKit.callS X36 hx (y := ym2) hown (ow hZ hw 79 rfl) (ow hZ hw 80 rfl) (ow hZ hw 25 rfl) (ow hZ hw 81 rfl) (by decide) (backOf (W := 0) (rm19 l Z a0 hw [] cx b_36 kb_36 (2 : Int32) c2 (14 : Int32) [(.int (own_hb c0)), (.int (own_lb c0)), (.int (own_hb c1)), (.int (own_lb c1)), (.int (own_hb c2)), (.int (own_lb c2)), (.int (own_hb c3)), (.int (own_lb c3)), (.int (own_hb c4)), (.int (own_lb c4)), (.int (own_hb c5)), (.int (own_lb c5)), (.int (own_hb c6)), (.int (own_lb c6))] 4 T36.heap n0 O40 fq36_0 (by decide) (by decide) (by decide) (by decide) (by decide) rfl rfl hc902) hZ (ov hw 81 rfl) (ov hw 25 rfl) (by decide) (by decide)) (g := (mkF m 32 #[vR a1, vI 0, vI 7, vR b22, vI 2, vR b_36] [(.int 2), (.ref b_36)])) rfl (by rw [hml]; rfl) (argsL := [(.ref b_36), (.int 2)]) (rest := []) (lenOf pd_5 rfl) rfl own_le0 (hb hby d6_32) (fun _ _ => ⟨rfl, rfl, (by decide : 2 + 0 ≤ _), (by decide : 21 + 0 ≤ _)⟩)
    dsimp only [Pt.U, Pt.locs, Pt.cells, Pt.slots] at X55 l55 y55 z55 st55 hQ55
    subst l55 y55 z55
    obtain ⟨rfl, Nq55, eq55⟩ := hQ55
    have N56 := Fr.app N37 Nq55
    have q57 := fun t (kt : Go p e below T55 (mkF m 56 #[vR a1, vI 0, vI 7, vR b22, vI 2, vR b_36] [(.ref b_36)]) t) => q54 t (st55 t (by
      show Go _ _ _ _ (mkF m 35 #[vR a1, vI 0, vI 7, vR b22, vI 2, vR b_36] [(.int c2)]) _
      refine XS.sipush X55.here hx rfl (hb hby d6_35) ?_
      show Go _ _ _ _ (mkF m 38 _ [(.int 255), (.int c2)]) _
      refine XS.icmpYes X55.here hx rfl (pc0 := 38) (pc' := 54) rfl (hb hby d6_38) rfl (tlt hj').2.2.1 (by decide) (by decide) ?_
      show Go _ _ _ _ (mkF m 54 _ []) _
      refine XS.aload X55.here hx rfl (hb hby d6_54) rfl rfl ?_
      exact kt))
    exact ⟨some (.ref b_36), T55, _, _, _, _, X55, by decide, by decide, nofun, q57, fun fs hr => retOut X55 hx hret rfl (o4 ⟨rfl, rfl, rfl⟩) (hb hby d6_56) hr, by rw [eq55]; exact ⟨b_36, kb_36, rfl, N56, K41, sz39, fq36_0⟩⟩
  · skip
    have q58 := fun t (kt : Go p e below T36 (mkF m 30 #[vR a1, vI 0, vI 7, vR b22, vI 3, vR b_36] [(.ref b_36)]) t) => q42 t (by rw [hj]; exact kt)
    have q59 := fun t (kt : Go p e below T36 (mkF m 32 #[vR a1, vI 0, vI 7, vR b22, vI 3, vR b_36] [(.int 3), (.ref b_36)]) t) => q58 t (by
      show Go _ _ _ _ (mkF m 30 #[vR a1, vI 0, vI 7, vR b22, vI 3, vR b_36] [(.ref b_36)]) _
      refine XS.iload X36.here hx rfl (hb hby d6_30) rfl ?_
      exact kt)
    obtain ⟨_, _, ⟨T60, L60, k60, n60⟩, -, X60, ⟨_, hQ60, l60, y60, z60⟩, st60⟩ := Jvm.LawKit.callS X36 hx (y := ym2) hown (ow hZ hw 79 rfl) (ow hZ hw 80 rfl) (ow hZ hw 25 rfl) (ow hZ hw 81 rfl) (by decide) (backOf (W := 0) (rm19 l Z a0 hw [] cx b_36 kb_36 (3 : Int32) c3 (14 : Int32) [(.int (own_hb c0)), (.int (own_lb c0)), (.int (own_hb c1)), (.int (own_lb c1)), (.int (own_hb c2)), (.int (own_lb c2)), (.int (own_hb c3)), (.int (own_lb c3)), (.int (own_hb c4)), (.int (own_lb c4)), (.int (own_hb c5)), (.int (own_lb c5)), (.int (own_hb c6)), (.int (own_lb c6))] 6 T36.heap n0 O40 fq36_0 (by decide) (by decide) (by decide) (by decide) (by decide) rfl rfl hc903) hZ (ov hw 81 rfl) (ov hw 25 rfl) (by decide) (by decide)) (g := (mkF m 32 #[vR a1, vI 0, vI 7, vR b22, vI 3, vR b_36] [(.int 3), (.ref b_36)])) rfl (by rw [hml]; rfl) (argsL := [(.ref b_36), (.int 3)]) (rest := []) (lenOf pd_5 rfl) rfl own_le0 (hb hby d6_32) (fun _ _ => ⟨rfl, rfl, (by decide : 2 + 0 ≤ _), (by decide : 21 + 0 ≤ _)⟩)
    dsimp only [Pt.U, Pt.locs, Pt.cells, Pt.slots] at X60 l60 y60 z60 st60 hQ60
    subst l60 y60 z60
    obtain ⟨rfl, Nq60, eq60⟩ := hQ60
    have N61 := Fr.app N37 Nq60
    have q62 := fun t (kt : Go p e below T60 (mkF m 56 #[vR a1, vI 0, vI 7, vR b22, vI 3, vR b_36] [(.ref b_36)]) t) => q59 t (st60 t (by
      show Go _ _ _ _ (mkF m 35 #[vR a1, vI 0, vI 7, vR b22, vI 3, vR b_36] [(.int c3)]) _
      refine XS.sipush X60.here hx rfl (hb hby d6_35) ?_
      show Go _ _ _ _ (mkF m 38 _ [(.int 255), (.int c3)]) _
      refine XS.icmpYes X60.here hx rfl (pc0 := 38) (pc' := 54) rfl (hb hby d6_38) rfl (tlt hj').2.2.1 (by decide) (by decide) ?_
      show Go _ _ _ _ (mkF m 54 _ []) _
      refine XS.aload X60.here hx rfl (hb hby d6_54) rfl rfl ?_
      exact kt))
    exact ⟨some (.ref b_36), T60, _, _, _, _, X60, by decide, by decide, nofun, q62, fun fs hr => retOut X60 hx hret rfl (o4 ⟨rfl, rfl, rfl⟩) (hb hby d6_56) hr, by rw [eq60]; exact ⟨b_36, kb_36, rfl, N61, K41, sz39, fq36_0⟩⟩
  · skip
    have q63 := fun t (kt : Go p e below T36 (mkF m 30 #[vR a1, vI 0, vI 7, vR b22, vI 4, vR b_36] [(.ref b_36)]) t) => q42 t (by rw [hj]; exact kt)
    have q64 := fun t (kt : Go p e below T36 (mkF m 32 #[vR a1, vI 0, vI 7, vR b22, vI 4, vR b_36] [(.int 4), (.ref b_36)]) t) => q63 t (by
      show Go _ _ _ _ (mkF m 30 #[vR a1, vI 0, vI 7, vR b22, vI 4, vR b_36] [(.ref b_36)]) _
      refine XS.iload X36.here hx rfl (hb hby d6_30) rfl ?_
      exact kt)
    obtain ⟨_, _, ⟨T65, L65, k65, n65⟩, -, X65, ⟨_, hQ65, l65, y65, z65⟩, st65⟩ := Jvm.LawKit.callS X36 hx (y := ym2) hown (ow hZ hw 79 rfl) (ow hZ hw 80 rfl) (ow hZ hw 25 rfl) (ow hZ hw 81 rfl) (by decide) (backOf (W := 0) (rm19 l Z a0 hw [] cx b_36 kb_36 (4 : Int32) c4 (14 : Int32) [(.int (own_hb c0)), (.int (own_lb c0)), (.int (own_hb c1)), (.int (own_lb c1)), (.int (own_hb c2)), (.int (own_lb c2)), (.int (own_hb c3)), (.int (own_lb c3)), (.int (own_hb c4)), (.int (own_lb c4)), (.int (own_hb c5)), (.int (own_lb c5)), (.int (own_hb c6)), (.int (own_lb c6))] 8 T36.heap n0 O40 fq36_0 (by decide) (by decide) (by decide) (by decide) (by decide) rfl rfl hc904) hZ (ov hw 81 rfl) (ov hw 25 rfl) (by decide) (by decide)) (g := (mkF m 32 #[vR a1, vI 0, vI 7, vR b22, vI 4, vR b_36] [(.int 4), (.ref b_36)])) rfl (by rw [hml]; rfl) (argsL := [(.ref b_36), (.int 4)]) (rest := []) (lenOf pd_5 rfl) rfl own_le0 (hb hby d6_32) (fun _ _ => ⟨rfl, rfl, (by decide : 2 + 0 ≤ _), (by decide : 21 + 0 ≤ _)⟩)
    dsimp only [Pt.U, Pt.locs, Pt.cells, Pt.slots] at X65 l65 y65 z65 st65 hQ65
    subst l65 y65 z65
    obtain ⟨rfl, Nq65, eq65⟩ := hQ65
    have N66 := Fr.app N37 Nq65
    have q67 := fun t (kt : Go p e below T65 (mkF m 56 #[vR a1, vI 0, vI 7, vR b22, vI 4, vR b_36] [(.ref b_36)]) t) => q64 t (st65 t (by
      show Go _ _ _ _ (mkF m 35 #[vR a1, vI 0, vI 7, vR b22, vI 4, vR b_36] [(.int c4)]) _
      refine XS.sipush X65.here hx rfl (hb hby d6_35) ?_
      show Go _ _ _ _ (mkF m 38 _ [(.int 255), (.int c4)]) _
      refine XS.icmpYes X65.here hx rfl (pc0 := 38) (pc' := 54) rfl (hb hby d6_38) rfl (tlt hj').2.2.1 (by decide) (by decide) ?_
      show Go _ _ _ _ (mkF m 54 _ []) _
      refine XS.aload X65.here hx rfl (hb hby d6_54) rfl rfl ?_
      exact kt))
    exact ⟨some (.ref b_36), T65, _, _, _, _, X65, by decide, by decide, nofun, q67, fun fs hr => retOut X65 hx hret rfl (o4 ⟨rfl, rfl, rfl⟩) (hb hby d6_56) hr, by rw [eq65]; exact ⟨b_36, kb_36, rfl, N66, K41, sz39, fq36_0⟩⟩
  · skip
    have q68 := fun t (kt : Go p e below T36 (mkF m 30 #[vR a1, vI 0, vI 7, vR b22, vI 5, vR b_36] [(.ref b_36)]) t) => q42 t (by rw [hj]; exact kt)
    have q69 := fun t (kt : Go p e below T36 (mkF m 32 #[vR a1, vI 0, vI 7, vR b22, vI 5, vR b_36] [(.int 5), (.ref b_36)]) t) => q68 t (by
      show Go _ _ _ _ (mkF m 30 #[vR a1, vI 0, vI 7, vR b22, vI 5, vR b_36] [(.ref b_36)]) _
      refine XS.iload X36.here hx rfl (hb hby d6_30) rfl ?_
      exact kt)
    obtain ⟨_, _, ⟨T70, L70, k70, n70⟩, -, X70, ⟨_, hQ70, l70, y70, z70⟩, st70⟩ := Jvm.LawKit.callS X36 hx (y := ym2) hown (ow hZ hw 79 rfl) (ow hZ hw 80 rfl) (ow hZ hw 25 rfl) (ow hZ hw 81 rfl) (by decide) (backOf (W := 0) (rm19 l Z a0 hw [] cx b_36 kb_36 (5 : Int32) c5 (14 : Int32) [(.int (own_hb c0)), (.int (own_lb c0)), (.int (own_hb c1)), (.int (own_lb c1)), (.int (own_hb c2)), (.int (own_lb c2)), (.int (own_hb c3)), (.int (own_lb c3)), (.int (own_hb c4)), (.int (own_lb c4)), (.int (own_hb c5)), (.int (own_lb c5)), (.int (own_hb c6)), (.int (own_lb c6))] 10 T36.heap n0 O40 fq36_0 (by decide) (by decide) (by decide) (by decide) (by decide) rfl rfl hc905) hZ (ov hw 81 rfl) (ov hw 25 rfl) (by decide) (by decide)) (g := (mkF m 32 #[vR a1, vI 0, vI 7, vR b22, vI 5, vR b_36] [(.int 5), (.ref b_36)])) rfl (by rw [hml]; rfl) (argsL := [(.ref b_36), (.int 5)]) (rest := []) (lenOf pd_5 rfl) rfl own_le0 (hb hby d6_32) (fun _ _ => ⟨rfl, rfl, (by decide : 2 + 0 ≤ _), (by decide : 21 + 0 ≤ _)⟩)
    dsimp only [Pt.U, Pt.locs, Pt.cells, Pt.slots] at X70 l70 y70 z70 st70 hQ70
    subst l70 y70 z70
    obtain ⟨rfl, Nq70, eq70⟩ := hQ70
    have N71 := Fr.app N37 Nq70
    have q72 := fun t (kt : Go p e below T70 (mkF m 56 #[vR a1, vI 0, vI 7, vR b22, vI 5, vR b_36] [(.ref b_36)]) t) => q69 t (st70 t (by
      show Go _ _ _ _ (mkF m 35 #[vR a1, vI 0, vI 7, vR b22, vI 5, vR b_36] [(.int c5)]) _
      refine XS.sipush X70.here hx rfl (hb hby d6_35) ?_
      show Go _ _ _ _ (mkF m 38 _ [(.int 255), (.int c5)]) _
      refine XS.icmpYes X70.here hx rfl (pc0 := 38) (pc' := 54) rfl (hb hby d6_38) rfl (tlt hj').2.2.1 (by decide) (by decide) ?_
      show Go _ _ _ _ (mkF m 54 _ []) _
      refine XS.aload X70.here hx rfl (hb hby d6_54) rfl rfl ?_
      exact kt))
    exact ⟨some (.ref b_36), T70, _, _, _, _, X70, by decide, by decide, nofun, q72, fun fs hr => retOut X70 hx hret rfl (o4 ⟨rfl, rfl, rfl⟩) (hb hby d6_56) hr, by rw [eq70]; exact ⟨b_36, kb_36, rfl, N71, K41, sz39, fq36_0⟩⟩
  · skip
    have q73 := fun t (kt : Go p e below T36 (mkF m 30 #[vR a1, vI 0, vI 7, vR b22, vI 6, vR b_36] [(.ref b_36)]) t) => q42 t (by rw [hj]; exact kt)
    have q74 := fun t (kt : Go p e below T36 (mkF m 32 #[vR a1, vI 0, vI 7, vR b22, vI 6, vR b_36] [(.int 6), (.ref b_36)]) t) => q73 t (by
      show Go _ _ _ _ (mkF m 30 #[vR a1, vI 0, vI 7, vR b22, vI 6, vR b_36] [(.ref b_36)]) _
      refine XS.iload X36.here hx rfl (hb hby d6_30) rfl ?_
      exact kt)
    obtain ⟨_, _, ⟨T75, L75, k75, n75⟩, -, X75, ⟨_, hQ75, l75, y75, z75⟩, st75⟩ := Jvm.LawKit.callS X36 hx (y := ym2) hown (ow hZ hw 79 rfl) (ow hZ hw 80 rfl) (ow hZ hw 25 rfl) (ow hZ hw 81 rfl) (by decide) (backOf (W := 0) (rm19 l Z a0 hw [] cx b_36 kb_36 (6 : Int32) c6 (14 : Int32) [(.int (own_hb c0)), (.int (own_lb c0)), (.int (own_hb c1)), (.int (own_lb c1)), (.int (own_hb c2)), (.int (own_lb c2)), (.int (own_hb c3)), (.int (own_lb c3)), (.int (own_hb c4)), (.int (own_lb c4)), (.int (own_hb c5)), (.int (own_lb c5)), (.int (own_hb c6)), (.int (own_lb c6))] 12 T36.heap n0 O40 fq36_0 (by decide) (by decide) (by decide) (by decide) (by decide) rfl rfl hc906) hZ (ov hw 81 rfl) (ov hw 25 rfl) (by decide) (by decide)) (g := (mkF m 32 #[vR a1, vI 0, vI 7, vR b22, vI 6, vR b_36] [(.int 6), (.ref b_36)])) rfl (by rw [hml]; rfl) (argsL := [(.ref b_36), (.int 6)]) (rest := []) (lenOf pd_5 rfl) rfl own_le0 (hb hby d6_32) (fun _ _ => ⟨rfl, rfl, (by decide : 2 + 0 ≤ _), (by decide : 21 + 0 ≤ _)⟩)
    dsimp only [Pt.U, Pt.locs, Pt.cells, Pt.slots] at X75 l75 y75 z75 st75 hQ75
    subst l75 y75 z75
    obtain ⟨rfl, Nq75, eq75⟩ := hQ75
    have N76 := Fr.app N37 Nq75
    have q77 := fun t (kt : Go p e below T75 (mkF m 56 #[vR a1, vI 0, vI 7, vR b22, vI 6, vR b_36] [(.ref b_36)]) t) => q74 t (st75 t (by
      show Go _ _ _ _ (mkF m 35 #[vR a1, vI 0, vI 7, vR b22, vI 6, vR b_36] [(.int c6)]) _
      refine XS.sipush X75.here hx rfl (hb hby d6_35) ?_
      show Go _ _ _ _ (mkF m 38 _ [(.int 255), (.int c6)]) _
      refine XS.icmpYes X75.here hx rfl (pc0 := 38) (pc' := 54) rfl (hb hby d6_38) rfl (tlt hj').2.2.1 (by decide) (by decide) ?_
      show Go _ _ _ _ (mkF m 54 _ []) _
      refine XS.aload X75.here hx rfl (hb hby d6_54) rfl rfl ?_
      exact kt))
    exact ⟨some (.ref b_36), T75, _, _, _, _, X75, by decide, by decide, nofun, q77, fun fs hr => retOut X75 hx hret rfl (o4 ⟨rfl, rfl, rfl⟩) (hb hby d6_56) hr, by rw [eq75]; exact ⟨b_36, kb_36, rfl, N76, K41, sz39, fq36_0⟩⟩
def Q_rm8_7 (Z : State) (b : Addr) (kb : ClassId) (e0 : Value) (e1 : Value) (e2 : Value) (e3 : Value) (e4 : Value) (e5 : Value) (e6 : Value) (e7 : Value) (e8 : Value) (e9 : Value) (e10 : Value) (e11 : Value) (e12 : Value) (e13 : Value) (z_cs : Int32) (h0 : Heap) (n0 : Nat) (v : Option Value) (h : Heap) (L : List Loc) : Prop := v = some (.int 1) ∧ Fr n0 L ∧ h = h0
theorem rm8_7 (l : Launch) (Z : State) (a0 : Array Value) (hw : ∀ d ∈ tables_1, d.before a0 Z = true) (ws : List Jvm.Cond) {z_cs : Int32} (cx : Cx Z z_cs) (b : Addr) (kb : ClassId) (e0 : Value) (e1 : Value) (e2 : Value) (e3 : Value) (e4 : Value) (e5 : Value) (e6 : Value) (e7 : Value) (e8 : Value) (e9 : Value) (e10 : Value) (e11 : Value) (e12 : Value) (e13 : Value) (h0 : Heap) (n0 : Nat) (O0 : Old Z n0 h0) (G0 : Arv Z h0 b kb .byte (14 : Int32) [e0, e1, e2, e3, e4, e5, e6, e7, e8, e9, e10, e11, e12, e13] (.int 0)) :
    OwnMet l ym8 (Jvm.Cond.code ym8 jdk_52_method_15_code 2 (some .byte) :: ws) (own_R 0 0 0 0) #[(.ref b), (.int 7)] Z h0 (Q_rm8_7 Z b kb e0 e1 e2 e3 e4 e5 e6 e7 e8 e9 e10 e11 e12 e13 z_cs h0 n0) := by
  refine own_body (plainFor_of_name pn_8) hisR fun p e s m below meth c s₁ hx hby hml hown hnm hret hZ X0 e0 => ?_
  have N0 := Fr.nil n0
  have pre0 : ∀ t, Go p e below s₁ (mkF m 0 #[vR b, vI 7] []) t → Go p e below s₁ (entryFrame m #[(.ref b), (.int 7)] 2) t := fun t k => castTop (ef_8_RI m b (7 : Int32)) k
  have q22 := fun t (kt : Go p e below s₁ (mkF m 2 #[vR b, vI 7] [(.ref b), (.int 7)]) t) => pre0 t (by
    show Go _ _ _ _ (mkF m 0 #[vR b, vI 7] []) _
    refine XS.iloadN X0.here hx rfl (hb hby d8_0) rfl ?_
    show Go _ _ _ _ (mkF m 1 _ [(.int 7)]) _
    refine XS.aloadN X0.here hx rfl (hb hby d8_1) rfl rfl ?_
    exact kt)
  obtain ⟨c21, Ar21, -, S21, N21, -, -⟩ := id G0
  have q23 := fun t (kt : Go p e below s₁ (mkF m 8 #[vR b, vI 7] [(.int ((((-7 : Int32).toUInt32 >>> ((31 : Int32) &&& 31).toUInt32).toInt32).toInt8.toInt32))]) t) => q22 t (by
    show Go _ _ _ _ (mkF m 2 #[vR b, vI 7] [(.ref b), (.int 7)]) _
    refine X0.arraylength hx (by rw [e0]; exact Ar21.1) (State.isArrayOf_alike hZ.alike Ar21.2.1) (g := (mkF m 2 #[vR b, vI 7] [(.ref b), (.int 7)])) rfl rfl (hb hby d8_2) _ ?_
    rw [len_of S21 N21]
    show Go _ _ _ _ (mkF m 3 _ [(.int 14), (.int 7)]) _
    refine XS.isub X0.here hx rfl (hb hby d8_3) rfl ?_
    show Go _ _ _ _ (mkF m 4 _ [(.int (-7 : Int32))]) _
    refine XS.bipush X0.here hx rfl (hb hby d8_4) ?_
    show Go _ _ _ _ (mkF m 6 _ [(.int 31), (.int (-7 : Int32))]) _
    refine XS.iushr X0.here hx rfl (hb hby d8_6) rfl ?_
    show Go _ _ _ _ (mkF m 7 _ [(.int (((-7 : Int32).toUInt32 >>> ((31 : Int32) &&& 31).toUInt32).toInt32))]) _
    refine XS.i2b X0.here hx rfl (hb hby d8_7) rfl ?_
    exact kt)
  exact ⟨some (.int (nar .byte ((((-7 : Int32).toUInt32 >>> ((31 : Int32) &&& 31).toUInt32).toInt32).toInt8.toInt32))), s₁, _, _, _, _, X0, by decide, by decide, nofun, q23, fun fs hr => retN X0 hx (t := .byte) hret (by simp) (hb hby d8_8) hr, by rw [e0]; exact ⟨(by decide), N0, rfl⟩⟩
def Q_rm4_7 (Z : State) (a1 : Addr) (a2 : Addr) (ka : ClassId) (c0 : Int32) (c1 : Int32) (c2 : Int32) (c3 : Int32) (c4 : Int32) (c5 : Int32) (c6 : Int32) (z_cs : Int32) (h0 : Heap) (n0 : Nat) (v : Option Value) (h : Heap) (L : List Loc) : Prop := ∃ (t : Addr), v = none ∧ Fr n0 L ∧ Keep h0 h [a1] ∧ Fld Z h a1 sk1 "value" "[B" (.ref t) ∧ Fld Z h a1 sk1 "coder" "B" (.int 1)
theorem rm4_7 (l : Launch) (Z : State) (a0 : Array Value) (hw : ∀ d ∈ tables_1, d.before a0 Z = true) (ws : List Jvm.Cond) {z_cs : Int32} (cx : Cx Z z_cs) (a1 : Addr) (a2 : Addr) (ka : ClassId) (c0 : Int32) (c1 : Int32) (c2 : Int32) (c3 : Int32) (c4 : Int32) (c5 : Int32) (c6 : Int32) (h0 : Heap) (n0 : Nat) (O0 : Old Z n0 h0) (G0 : Exa Z h0 a1 sk1) (G1 : Fld Z h0 a1 sk1 "value" "[B" .null) (G2 : Fld Z h0 a1 sk1 "coder" "B" (.int 0)) (G3 : Arv Z h0 a2 ka .char (7 : Int32) [(.int c0), (.int c1), (.int c2), (.int c3), (.int c4), (.int c5), (.int c6)] (.int 0)) (g_a1 : n0 ≤ a1) (hB : (255 : Int32) < c0 ∨ (255 : Int32) < c1 ∨ (255 : Int32) < c2 ∨ (255 : Int32) < c3 ∨ (255 : Int32) < c4 ∨ (255 : Int32) < c5 ∨ (255 : Int32) < c6) (hc900 : ¬ c0 < 0 ∧ ¬ (65535 : Int32) < c0) (hc901 : ¬ c1 < 0 ∧ ¬ (65535 : Int32) < c1) (hc902 : ¬ c2 < 0 ∧ ¬ (65535 : Int32) < c2) (hc903 : ¬ c3 < 0 ∧ ¬ (65535 : Int32) < c3) (hc904 : ¬ c4 < 0 ∧ ¬ (65535 : Int32) < c4) (hc905 : ¬ c5 < 0 ∧ ¬ (65535 : Int32) < c5) (hc906 : ¬ c6 < 0 ∧ ¬ (65535 : Int32) < c6) :
    OwnMet l ym9 (Jvm.Cond.code ym9 jdk_42_method_149_code 6 none :: ws) (own_R 4 2 21 57) #[(.ref a1), (.ref a2), (.int 0), (.int 7), .null] Z h0 (Q_rm4_7 Z a1 a2 ka c0 c1 c2 c3 c4 c5 c6 z_cs h0 n0) := by
  refine own_body (plainFor_of_name pn_4) hisR fun p e s m below meth c s₁ hx hby hml hown hnm hret hZ X0 e0 => ?_
  have N0 := Fr.nil n0
  have K0 : Keep h0 h0 [a1] := Keep.refl _ _
  have pre0 : ∀ t, Go p e below s₁ (mkF m 0 #[vR a1, vR a2, vI 0, vI 7, vN, vU] []) t → Go p e below s₁ (entryFrame m #[(.ref a1), (.ref a2), (.int 0), (.int 7), .null] 6) t := fun t k => castTop (ef_4_RRIIN m a1 a2 (0 : Int32) (7 : Int32)) k
  have q21 := fun t (kt : Go p e below s₁ (mkF m 1 #[vR a1, vR a2, vI 0, vI 7, vN, vU] [(.ref a1)]) t) => pre0 t (by
    show Go _ _ _ _ (mkF m 0 #[vR a1, vR a2, vI 0, vI 7, vN, vU] []) _
    refine XS.aloadN X0.here hx rfl (hb hby d4_0) rfl rfl ?_
    exact kt)
  obtain ⟨T22, X22, e22, st22⟩ := initO X0 hx hZ hown (ov hw 19 rfl) (ov hw 20 rfl) (ov hw 21 rfl) e0 (g := (mkF m 1 #[vR a1, vR a2, vI 0, vI 7, vN, vU] [(.ref a1)])) rfl (by rw [hml]; rfl) rfl (hb hby d4_1) (by decide) (W := 0) own_le0 (by decide)
  have q23 := fun t (kt : Go p e below T22 (mkF m 27 #[vR a1, vR a2, vI 0, vI 7, vN, vU] []) t) => q21 t (st22 t (by
    show Go _ _ _ _ (mkF m 4 #[vR a1, vR a2, vI 0, vI 7, vN, vU] []) _
    refine XS.iloadN X22.here hx rfl (hb hby d4_4) rfl ?_
    show Go _ _ _ _ (mkF m 5 _ [(.int 7)]) _
    refine XS.ifYes X22.here hx rfl (pc0 := 5) (pc' := 27) rfl (hb hby d4_5) rfl ((if0 _ _).trans (feq (by decide : ¬ ((7 : Int32) = (0 : Int32)))).2) (by decide) (by decide) ?_
    exact kt))
  obtain ⟨T24, X24, e24, st24⟩ := getS2 X22 hx hZ hown (host := "") (Or.inl (ov hw 22 rfl)) Via.refl e22 (cx.1.ext O0.2) (g := (mkF m 27 #[vR a1, vR a2, vI 0, vI 7, vN, vU] [])) rfl (hb hby d4_27)
  have q25 := fun t (kt : Go p e below T24 (mkF m 36 #[vR a1, vR a2, vI 0, vI 7, vN, vU] [(.int 7), (.int 0), (.ref a2)]) t) => q23 t (st24 t (by
    show Go _ _ _ _ (mkF m 30 #[vR a1, vR a2, vI 0, vI 7, vN, vU] [(.int z_cs)]) _
    refine XS.ifNo X24.here hx rfl (hb hby d4_30) rfl ((if0 _ _).trans (feq cx.2.1).1) ?_
    show Go _ _ _ _ (mkF m 33 _ []) _
    refine XS.aloadN X24.here hx rfl (hb hby d4_33) rfl rfl ?_
    show Go _ _ _ _ (mkF m 34 _ [(.ref a2)]) _
    refine XS.iloadN X24.here hx rfl (hb hby d4_34) rfl ?_
    show Go _ _ _ _ (mkF m 35 _ [(.int 0), (.ref a2)]) _
    refine XS.iloadN X24.here hx rfl (hb hby d4_35) rfl ?_
    exact kt))
  obtain ⟨_, _, ⟨T26, L26, k26, n26⟩, -, X26, ⟨_, hQ26, l26, y26, z26⟩, st26⟩ := Jvm.LawKit.callS X24 hx (y := ym7) hown (ow hZ hw 23 rfl) (ow hZ hw 24 rfl) (ow hZ hw 25 rfl) (ow hZ hw 26 rfl) (by decide) (backOf (W := 0) (rm6_7 l Z a0 hw [] cx a2 ka c0 c1 c2 c3 c4 c5 c6 h0 n0 O0 G3 hB hc900 hc901 hc902 hc903 hc904 hc905 hc906) hZ (ov hw 26 rfl) (ov hw 25 rfl) (by decide) (by decide)) (g := (mkF m 36 #[vR a1, vR a2, vI 0, vI 7, vN, vU] [(.int 7), (.int 0), (.ref a2)])) rfl (by rw [hml]; rfl) (argsL := [(.ref a2), (.int 0), (.int 7)]) (rest := []) (lenOf pd_4 rfl) rfl own_le0 (hb hby d4_36) (fun _ _ => ⟨rfl, e24, (by decide : 0 + 2 ≤ _), (by decide : 0 + 21 ≤ _)⟩)
  dsimp only [Pt.U, Pt.locs, Pt.cells, Pt.slots] at X26 l26 y26 z26 st26 hQ26
  subst l26 y26 z26
  obtain ⟨b_26, kb_26, rfl, Nq26, Kq26, fr26_0, fq26_0⟩ := hQ26
  have N27 := Fr.app N0 Nq26
  have gg28 : n0 ≤ b_26 := Nat.le_trans (O0.1 ▸ O0.2.1) fr26_0
  have sz29 : h0.size ≤ b_26 := Nat.le_trans K0.1 fr26_0
  have O30 := O0.keep Kq26 all0
  have K31 := K0.trans Kq26 all0
  have q32 := fun t (kt : Go p e below T26 (mkF m 45 #[vR a1, vR a2, vI 0, vI 7, vN, vR b_26] [(.int 7), (.ref b_26), (.ref a1)]) t) => q25 t (st26 t (by
    show Go _ _ _ _ (mkF m 39 #[vR a1, vR a2, vI 0, vI 7, vN, vU] [(.ref b_26)]) _
    refine XS.astore X26.here hx rfl (hb hby d4_39) rfl rfl (l' := #[vR a1, vR a2, vI 0, vI 7, vN, vR b_26]) rfl ?_
    show Go _ _ _ _ (mkF m 41 #[vR a1, vR a2, vI 0, vI 7, vN, vR b_26] []) _
    refine XS.aloadN X26.here hx rfl (hb hby d4_41) rfl rfl ?_
    show Go _ _ _ _ (mkF m 42 _ [(.ref a1)]) _
    refine XS.aload X26.here hx rfl (hb hby d4_42) rfl rfl ?_
    show Go _ _ _ _ (mkF m 44 _ [(.ref b_26), (.ref a1)]) _
    refine XS.iloadN X26.here hx rfl (hb hby d4_44) rfl ?_
    exact kt))
  obtain ⟨_, _, ⟨T33, L33, k33, n33⟩, -, X33, ⟨_, hQ33, l33, y33, z33⟩, st33⟩ := Jvm.LawKit.callS X26 hx (y := ym8) hown (ow hZ hw 31 rfl) (ow hZ hw 32 rfl) (ow hZ hw 25 rfl) (ow hZ hw 33 rfl) (by decide) (backOf (W := 1) (rm8_7 l Z a0 hw [] cx b_26 kb_26 (.int (own_hb c0)) (.int (own_lb c0)) (.int (own_hb c1)) (.int (own_lb c1)) (.int (own_hb c2)) (.int (own_lb c2)) (.int (own_hb c3)) (.int (own_lb c3)) (.int (own_hb c4)) (.int (own_lb c4)) (.int (own_hb c5)) (.int (own_lb c5)) (.int (own_hb c6)) (.int (own_lb c6)) T26.heap n0 O30 fq26_0) hZ (ov hw 33 rfl) (ov hw 25 rfl) (by decide) (by decide)) (g := (mkF m 45 #[vR a1, vR a2, vI 0, vI 7, vN, vR b_26] [(.int 7), (.ref b_26), (.ref a1)])) rfl (by rw [hml]; rfl) (argsL := [(.ref b_26), (.int 7)]) (rest := [(.ref a1)]) (lenOf pd_6 rfl) rfl own_le0 (hb hby d4_45) (fun _ _ => ⟨rfl, rfl, (by decide : 2 + 0 ≤ _), (by decide : 21 + 0 ≤ _)⟩)
  dsimp only [Pt.U, Pt.locs, Pt.cells, Pt.slots] at X33 l33 y33 z33 st33 hQ33
  subst l33 y33 z33
  obtain ⟨rfl, Nq33, eq33⟩ := hQ33
  have N34 := Fr.app N27 Nq33
  have f35 := (G0.keep Kq26)
  have f36 := (G2.keep Kq26 nin0)
  obtain ⟨T37, h37, X37, e37, W37, st37⟩ := putFN X33 hx hZ hown (ov hw 34 rfl) Via.refl eq33 f36 f35 (Or.inr ⟨(ov hw 35 rfl), rfl, hnm⟩) (ov hw 9 rfl) (ty := .byte) (v' := (.int 1)) (by decide) rfl rfl (g := (mkF m 48 #[vR a1, vR a2, vI 0, vI 7, vN, vR b_26] [(.int 1), (.ref a1)])) rfl rfl (hb hby d4_48)
  have f38 : Fld Z h37 a1 sk1 "coder" "B" (.int 1) := f36.same W37
  have N39 := Fr.snoc X37 N34 g_a1
  have O40 := O30.wr W37 g_a1
  have K41 := K31.wr W37 (Or.inl (List.mem_of_getElem? (i := 0) rfl))
  have f42 := (f35.wr W37)
  have f43 := ((G1.keep Kq26 nin0).other W37 (Or.inr (slot_ne (Or.inr (ov hw 37 rfl)) (Or.inr (ov hw 35 rfl)) (by decide) (t := (.array .byte)) (t' := .byte) (by decide) (by decide))))
  have q44 := fun t (kt : Go p e below T37 (mkF m 54 #[vR a1, vR a2, vI 0, vI 7, vN, vR b_26] [(.ref b_26), (.ref a1)]) t) => q32 t (st33 t (st37 t (by
    show Go _ _ _ _ (mkF m 51 #[vR a1, vR a2, vI 0, vI 7, vN, vR b_26] []) _
    refine XS.aloadN X37.here hx rfl (hb hby d4_51) rfl rfl ?_
    show Go _ _ _ _ (mkF m 52 _ [(.ref a1)]) _
    refine XS.aload X37.here hx rfl (hb hby d4_52) rfl rfl ?_
    exact kt)))
  obtain ⟨T45, h45, X45, e45, W45, st45⟩ := putF X37 hx hZ hown (host := "") (Or.inl (ov hw 36 rfl)) Via.refl e37 f43 f42 (Or.inr ⟨(ov hw 37 rfl), rfl, hnm⟩) (ov hw 9 rfl) (ty := (.array .byte)) (by decide) rfl rfl (g := (mkF m 54 #[vR a1, vR a2, vI 0, vI 7, vN, vR b_26] [(.ref b_26), (.ref a1)])) rfl rfl (hb hby d4_54)
  have f46 : Fld Z h45 a1 sk1 "value" "[B" (.ref b_26) := f43.same W45
  have N47 := Fr.snoc X45 N39 g_a1
  have O48 := O40.wr W45 g_a1
  have K49 := K41.wr W45 (Or.inl (List.mem_of_getElem? (i := 0) rfl))
  have q50 := fun t (kt : Go p e below T45 (mkF m 57 #[vR a1, vR a2, vI 0, vI 7, vN, vR b_26] []) t) => q44 t (st45 t kt)
  have f51 := (f38.other W45 (Or.inr (slot_ne (Or.inr (ov hw 35 rfl)) (Or.inr (ov hw 37 rfl)) (by decide) (t := .byte) (t' := (.array .byte)) (by decide) (by decide))))
  exact ⟨none, T45, _, _, _, _, X45, by decide, by decide, fun _ => rfl, q50, fun fs hr => X45.returnOut hx hret (hb hby d4_57) hr, by rw [e45]; exact ⟨b_26, rfl, N47, K49, f46, f51⟩⟩
def Q_rm3_7 (Z : State) (a1 : Addr) (a2 : Addr) (ka : ClassId) (c0 : Int32) (c1 : Int32) (c2 : Int32) (c3 : Int32) (c4 : Int32) (c5 : Int32) (c6 : Int32) (z_cs : Int32) (h0 : Heap) (n0 : Nat) (v : Option Value) (h : Heap) (L : List Loc) : Prop := ∃ (t : Addr), v = none ∧ Fr n0 L ∧ Keep h0 h [a1] ∧ Fld Z h a1 sk1 "value" "[B" (.ref t) ∧ Fld Z h a1 sk1 "coder" "B" (.int 1)
theorem rm3_7 (l : Launch) (Z : State) (a0 : Array Value) (hw : ∀ d ∈ tables_1, d.before a0 Z = true) (ws : List Jvm.Cond) {z_cs : Int32} (cx : Cx Z z_cs) (a1 : Addr) (a2 : Addr) (ka : ClassId) (c0 : Int32) (c1 : Int32) (c2 : Int32) (c3 : Int32) (c4 : Int32) (c5 : Int32) (c6 : Int32) (h0 : Heap) (n0 : Nat) (O0 : Old Z n0 h0) (G0 : Exa Z h0 a1 sk1) (G1 : Fld Z h0 a1 sk1 "value" "[B" .null) (G2 : Fld Z h0 a1 sk1 "coder" "B" (.int 0)) (G3 : Arv Z h0 a2 ka .char (7 : Int32) [(.int c0), (.int c1), (.int c2), (.int c3), (.int c4), (.int c5), (.int c6)] (.int 0)) (g_a1 : n0 ≤ a1) (hB : (255 : Int32) < c0 ∨ (255 : Int32) < c1 ∨ (255 : Int32) < c2 ∨ (255 : Int32) < c3 ∨ (255 : Int32) < c4 ∨ (255 : Int32) < c5 ∨ (255 : Int32) < c6) (hc900 : ¬ c0 < 0 ∧ ¬ (65535 : Int32) < c0) (hc901 : ¬ c1 < 0 ∧ ¬ (65535 : Int32) < c1) (hc902 : ¬ c2 < 0 ∧ ¬ (65535 : Int32) < c2) (hc903 : ¬ c3 < 0 ∧ ¬ (65535 : Int32) < c3) (hc904 : ¬ c4 < 0 ∧ ¬ (65535 : Int32) < c4) (hc905 : ¬ c5 < 0 ∧ ¬ (65535 : Int32) < c5) (hc906 : ¬ c6 < 0 ∧ ¬ (65535 : Int32) < c6) :
    OwnMet l ym10 (Jvm.Cond.code ym10 jdk_42_method_3_code 2 none :: ws) (own_R 5 2 21 74) #[(.ref a1), (.ref a2)] Z h0 (Q_rm3_7 Z a1 a2 ka c0 c1 c2 c3 c4 c5 c6 z_cs h0 n0) := by
  refine own_body (plainFor_of_name pn_3) hisR fun p e s m below meth c s₁ hx hby hml hown hnm hret hZ X0 e0 => ?_
  have N0 := Fr.nil n0
  have K0 : Keep h0 h0 [a1] := Keep.refl _ _
  have pre0 : ∀ t, Go p e below s₁ (mkF m 0 #[vR a1, vR a2] []) t → Go p e below s₁ (entryFrame m #[(.ref a1), (.ref a2)] 2) t := fun t k => castTop (ef_3_RR m a1 a2) k
  have q22 := fun t (kt : Go p e below s₁ (mkF m 4 #[vR a1, vR a2] [(.ref a2), (.int 0), (.ref a2), (.ref a1)]) t) => pre0 t (by
    show Go _ _ _ _ (mkF m 0 #[vR a1, vR a2] []) _
    refine XS.aloadN X0.here hx rfl (hb hby d3_0) rfl rfl ?_
    show Go _ _ _ _ (mkF m 1 _ [(.ref a1)]) _
    refine XS.aloadN X0.here hx rfl (hb hby d3_1) rfl rfl ?_
    show Go _ _ _ _ (mkF m 2 _ [(.ref a2), (.ref a1)]) _
    refine XS.iconst X0.here hx rfl (hb hby d3_2) ?_
    show Go _ _ _ _ (mkF m 3 _ [(.int 0), (.ref a2), (.ref a1)]) _
    refine XS.aloadN X0.here hx rfl (hb hby d3_3) rfl rfl ?_
    exact kt)
  obtain ⟨c21, Ar21, -, S21, N21, -, -⟩ := id G3
  have q23 := fun t (kt : Go p e below s₁ (mkF m 6 #[vR a1, vR a2] [.null, (.int 7), (.int 0), (.ref a2), (.ref a1)]) t) => q22 t (by
    show Go _ _ _ _ (mkF m 4 #[vR a1, vR a2] [(.ref a2), (.int 0), (.ref a2), (.ref a1)]) _
    refine X0.arraylength hx (by rw [e0]; exact Ar21.1) (State.isArrayOf_alike hZ.alike Ar21.2.1) (g := (mkF m 4 #[vR a1, vR a2] [(.ref a2), (.int 0), (.ref a2), (.ref a1)])) rfl rfl (hb hby d3_4) _ ?_
    rw [len_of S21 N21]
    show Go _ _ _ _ (mkF m 5 _ [(.int 7), (.int 0), (.ref a2), (.ref a1)]) _
    refine XS.aconstNull X0.here hx rfl (hb hby d3_5) ?_
    exact kt)
  obtain ⟨_, _, ⟨T24, L24, k24, n24⟩, -, X24, ⟨_, hQ24, l24, y24, z24⟩, st24⟩ := X0.specialBack hx (y := ym9) rfl hown (ow hZ hw 15 rfl) (ow hZ hw 16 rfl) (ow hZ hw 18 rfl) (by decide) (backOf (W := 0) (rm4_7 l Z a0 hw [] cx a1 a2 ka c0 c1 c2 c3 c4 c5 c6 h0 n0 O0 G0 G1 G2 G3 g_a1 hB hc900 hc901 hc902 hc903 hc904 hc905 hc906) hZ (ov hw 18 rfl) (ov hw 10 rfl) (by decide) (by decide)) (g := (mkF m 6 #[vR a1, vR a2] [.null, (.int 7), (.int 0), (.ref a2), (.ref a1)])) rfl (by rw [hml]; rfl) (Steps.refl _) (a := a1) (argsL := [(.ref a2), (.int 0), (.int 7), .null]) (rest := []) (lenOf pd_7 rfl) rfl own_le0 (hb hby d3_6) (fun _ _ => ⟨rfl, e0, (by decide : 0 + 2 ≤ _), (by decide : 0 + 21 ≤ _)⟩)
  dsimp only [Pt.U, Pt.locs, Pt.cells, Pt.slots] at X24 l24 y24 z24 st24 hQ24
  subst l24 y24 z24
  obtain ⟨t_24, rfl, Nq24, Kq24, fq24_0, fq24_1⟩ := hQ24
  have N25 := Fr.app N0 Nq24
  have O26 := O0.keep Kq24 (allS g_a1 all0)
  have K27 := K0.trans Kq24 (allS (Or.inl (List.mem_of_getElem? (i := 0) rfl)) all0)
  have q28 := fun t (kt : Go p e below T24 (mkF m 9 #[vR a1, vR a2] []) t) => q23 t (st24.trans kt)
  exact ⟨none, T24, _, _, _, _, X24, by decide, by decide, fun _ => rfl, q28, fun fs hr => X24.returnOut hx hret (hb hby d3_9) hr, ⟨t_24, rfl, N25, K27, fq24_0, fq24_1⟩⟩
theorem own_lo8 (c : Int32) : nar .byte (c.toInt8.toInt32) = StrChars.lo8 c := by
  have b1 := c_i2b c
  have b2 := c_i2b (c.toInt8.toInt32)
  show c.toInt8.toInt32.toInt8.toInt32 = c.toInt8.toInt32
  exact Int32.toInt_inj.mp (by omega)
theorem ef_12_I (m : MethodId) (x0 : Int32) : entryFrame m #[(.int x0)] 1 = mkF m 0 #[.val (.int x0)] [] := by first | (simp [entryFrame, mkF, argsToLocals, Value.category]; done) | rfl
theorem pn_12 : plainName "java/lang/StringLatin1" = true := by first | (simp [plainName, overriddenIn]; done) | decide +kernel
theorem d12_0 : decode jdk_43_method_3_code 0 = .ok (.iload_n 0, 1) := by decide +kernel
theorem d12_1 : decode jdk_43_method_3_code 1 = .ok (.sipush 255, 3) := by decide +kernel
theorem d12_4 : decode jdk_43_method_3_code 4 = .ok (.if_icmp .gt 7, 3) := by decide +kernel
theorem d12_7 : decode jdk_43_method_3_code 7 = .ok (.iconst 1, 1) := by decide +kernel
theorem d12_8 : decode jdk_43_method_3_code 8 = .ok (.goto 4, 3) := by decide +kernel
theorem d12_12 : decode jdk_43_method_3_code 12 = .ok (.ireturn, 1) := by decide +kernel
def Q_rm12A (Z : State) (p1 : Int32) (z_cs : Int32) (h0 : Heap) (n0 : Nat) (v : Option Value) (h : Heap) (L : List Loc) : Prop := v = some (.int 1) ∧ Fr n0 L ∧ h = h0
theorem rm12A (l : Launch) (Z : State) (a0 : Array Value) (hw : ∀ d ∈ tables_1, d.before a0 Z = true) (ws : List Jvm.Cond) {z_cs : Int32} (cx : Cx Z z_cs) (p1 : Int32) (h0 : Heap) (n0 : Nat) (O0 : Old Z n0 h0) (hp : ¬ ((255 : Int32) < p1)) :
    OwnMet l ym11 (Jvm.Cond.code ym11 jdk_43_method_3_code 1 (some .boolean) :: ws) (own_R 0 0 0 0) #[(.int p1)] Z h0 (Q_rm12A Z p1 z_cs h0 n0) := by
  refine own_body (plainFor_of_name pn_12) hisR fun p e s m below meth c s₁ hx hby hml hown hnm hret hZ X0 e0 => ?_
  have N0 := Fr.nil n0
  have pre0 : ∀ t, Go p e below s₁ (mkF m 0 #[vI p1] []) t → Go p e below s₁ (entryFrame m #[(.int p1)] 1) t := fun t k => castTop (ef_12_I m p1) k
  have q21 := fun t (kt : Go p e below s₁ (mkF m 12 #[vI p1] [(.int 1)]) t) => pre0 t (by
    show Go _ _ _ _ (mkF m 0 #[vI p1] []) _
    refine XS.iloadN X0.here hx rfl (hb hby d12_0) rfl ?_
    show Go _ _ _ _ (mkF m 1 _ [(.int p1)]) _
    refine XS.sipush X0.here hx rfl (hb hby d12_1) ?_
    show Go _ _ _ _ (mkF m 4 _ [(.int 255), (.int p1)]) _
    refine XS.icmpNo X0.here hx rfl (hb hby d12_4) rfl (flt hp).2.2.1 ?_
    show Go _ _ _ _ (mkF m 7 _ []) _
    refine XS.iconst X0.here hx rfl (hb hby d12_7) ?_
    show Go _ _ _ _ (mkF m 8 _ [(.int 1)]) _
    refine XS.goto X0.here hx rfl (pc0 := 8) (pc' := 12) rfl (hb hby d12_8) (by decide) (by decide) ?_
    exact kt)
  exact ⟨some (.int 1), s₁, _, _, _, _, X0, by decide, by decide, nofun, q21, fun fs hr => retN X0 hx (t := .boolean) hret (by simp) (hb hby d12_12) hr, by rw [e0]; exact ⟨rfl, N0, rfl⟩⟩
theorem d12_11 : decode jdk_43_method_3_code 11 = .ok (.iconst 0, 1) := by decide +kernel
def Q_rm12B (Z : State) (p1 : Int32) (z_cs : Int32) (h0 : Heap) (n0 : Nat) (v : Option Value) (h : Heap) (L : List Loc) : Prop := v = some (.int 0) ∧ Fr n0 L ∧ h = h0
theorem rm12B (l : Launch) (Z : State) (a0 : Array Value) (hw : ∀ d ∈ tables_1, d.before a0 Z = true) (ws : List Jvm.Cond) {z_cs : Int32} (cx : Cx Z z_cs) (p1 : Int32) (h0 : Heap) (n0 : Nat) (O0 : Old Z n0 h0) (hp : (255 : Int32) < p1) :
    OwnMet l ym11 (Jvm.Cond.code ym11 jdk_43_method_3_code 1 (some .boolean) :: ws) (own_R 0 0 0 0) #[(.int p1)] Z h0 (Q_rm12B Z p1 z_cs h0 n0) := by
  refine own_body (plainFor_of_name pn_12) hisR fun p e s m below meth c s₁ hx hby hml hown hnm hret hZ X0 e0 => ?_
  have N0 := Fr.nil n0
  have pre0 : ∀ t, Go p e below s₁ (mkF m 0 #[vI p1] []) t → Go p e below s₁ (entryFrame m #[(.int p1)] 1) t := fun t k => castTop (ef_12_I m p1) k
  have q21 := fun t (kt : Go p e below s₁ (mkF m 12 #[vI p1] [(.int 0)]) t) => pre0 t (by
    show Go _ _ _ _ (mkF m 0 #[vI p1] []) _
    refine XS.iloadN X0.here hx rfl (hb hby d12_0) rfl ?_
    show Go _ _ _ _ (mkF m 1 _ [(.int p1)]) _
    refine XS.sipush X0.here hx rfl (hb hby d12_1) ?_
    show Go _ _ _ _ (mkF m 4 _ [(.int 255), (.int p1)]) _
    refine XS.icmpYes X0.here hx rfl (pc0 := 4) (pc' := 11) rfl (hb hby d12_4) rfl (tlt hp).2.2.1 (by decide) (by decide) ?_
    show Go _ _ _ _ (mkF m 11 _ []) _
    refine XS.iconst X0.here hx rfl (hb hby d12_11) ?_
    exact kt)
  exact ⟨some (.int 0), s₁, _, _, _, _, X0, by decide, by decide, nofun, q21, fun fs hr => retN X0 hx (t := .boolean) hret (by simp) (hb hby d12_12) hr, by rw [e0]; exact ⟨rfl, N0, rfl⟩⟩
theorem ef_13_I (m : MethodId) (x0 : Int32) : entryFrame m #[(.int x0)] 1 = mkF m 0 #[.val (.int x0)] [] := by first | (simp [entryFrame, mkF, argsToLocals, Value.category]; done) | rfl
theorem pn_13 : plainName "java/lang/StringLatin1" = true := by first | (simp [plainName, overriddenIn]; done) | decide +kernel
theorem d13_0 : decode jdk_43_method_46_code 0 = .ok (.iconst 1, 1) := by decide +kernel
theorem d13_1 : decode jdk_43_method_46_code 1 = .ok (.newarray .byte, 2) := by decide +kernel
theorem d13_3 : decode jdk_43_method_46_code 3 = .ok (.dup, 1) := by decide +kernel
theorem d13_4 : decode jdk_43_method_46_code 4 = .ok (.iconst 0, 1) := by decide +kernel
theorem d13_5 : decode jdk_43_method_46_code 5 = .ok (.iload_n 0, 1) := by decide +kernel
theorem d13_6 : decode jdk_43_method_46_code 6 = .ok (.i2b, 1) := by decide +kernel
theorem d13_7 : decode jdk_43_method_46_code 7 = .ok (.bastore, 1) := by decide +kernel
theorem d13_8 : decode jdk_43_method_46_code 8 = .ok (.areturn, 1) := by decide +kernel
def Q_rm13 (Z : State) (p1 : Int32) (z_cs : Int32) (h0 : Heap) (n0 : Nat) (v : Option Value) (h : Heap) (L : List Loc) : Prop := ∃ (b : Addr) (kb : ClassId), v = some (.ref b) ∧ Fr n0 L ∧ Keep h0 h [] ∧ h0.size ≤ b ∧ Arv Z h b kb .byte (1 : Int32) [(.int (nar .byte (p1.toInt8.toInt32)))] (.int 0)
theorem rm13 (l : Launch) (Z : State) (a0 : Array Value) (hw : ∀ d ∈ tables_1, d.before a0 Z = true) (ws : List Jvm.Cond) {z_cs : Int32} (cx : Cx Z z_cs) (p1 : Int32) (h0 : Heap) (n0 : Nat) (O0 : Old Z n0 h0) :
    OwnMet l ym12 (Jvm.Cond.code ym12 jdk_43_method_46_code 1 (some (.array .byte)) :: ws) (own_R 0 1 1 0) #[(.int p1)] Z h0 (Q_rm13 Z p1 z_cs h0 n0) := by
  refine own_body (plainFor_of_name pn_13) hisR fun p e s m below meth c s₁ hx hby hml hown hnm hret hZ X0 e0 => ?_
  have N0 := Fr.nil n0
  have K0 : Keep h0 h0 [] := Keep.refl _ _
  have pre0 : ∀ t, Go p e below s₁ (mkF m 0 #[vI p1] []) t → Go p e below s₁ (entryFrame m #[(.int p1)] 1) t := fun t k => castTop (ef_13_I m p1) k
  have q21 := fun t (kt : Go p e below s₁ (mkF m 1 #[vI p1] [(.int 1)]) t) => pre0 t (by
    show Go _ _ _ _ (mkF m 0 #[vI p1] []) _
    refine XS.iconst X0.here hx rfl (hb hby d13_0) ?_
    exact kt)
  obtain ⟨T22, h22, k22, X22, e22, E22, A22, st22⟩ := newP X0 hx hZ (ov hw 27 rfl) e0 (g := (mkF m 1 #[vI p1] [(.int 1)])) rfl (hb hby d13_1) rfl (by decide) (cap := 1) (by decide) (by decide) (by decide) (by decide)
  obtain ⟨b22, g22⟩ : ∃ z, z = h0.size := ⟨_, rfl⟩
  rw [← g22] at A22 st22
  have gg23 : n0 ≤ b22 := Nat.le_trans (O0.1 ▸ O0.2.1) (Nat.le_of_eq g22.symm)
  have sz24 : h0.size ≤ b22 := Nat.le_trans K0.1 (Nat.le_of_eq g22.symm)
  have O25 := O0.ext E22
  have K26 := K0.ext E22
  have V22 : Arv Z h22 b22 k22 .byte (1 : Int32) [(.int 0)] (.int 0) := (Arv.new A22 (by decide)).pad (pad_rep [] (.int 0) 1)
  have q28 := fun t (kt : Go p e below T22 (mkF m 7 #[vI p1] [(.int (p1.toInt8.toInt32)), (.int 0), (.ref b22), (.ref b22)]) t) => q21 t (st22 t (by
    show Go _ _ _ _ (mkF m 3 #[vI p1] [(.ref b22)]) _
    refine XS.dup X22.here hx rfl (hb hby d13_3) rfl rfl ?_
    show Go _ _ _ _ (mkF m 4 _ [(.ref b22), (.ref b22)]) _
    refine XS.iconst X22.here hx rfl (hb hby d13_4) ?_
    show Go _ _ _ _ (mkF m 5 _ [(.int 0), (.ref b22), (.ref b22)]) _
    refine XS.iloadN X22.here hx rfl (hb hby d13_5) rfl ?_
    show Go _ _ _ _ (mkF m 6 _ [(.int p1), (.int 0), (.ref b22), (.ref b22)]) _
    refine XS.i2b X22.here hx rfl (hb hby d13_6) rfl ?_
    exact kt))
  obtain ⟨c27, Ar27, q27, S27, N27, H27, G27⟩ := id V22
  have hi27 : ¬ ((0 : Int32) < 0 ∨ c27.slots.size ≤ ((0 : Int32)).toNatClampNeg) := inb_of S27 ⟨by decide, by decide⟩
  obtain ⟨T29, h29, X29, e29, W29, st29⟩ := stB X22 hx hZ e22 Ar27 (j := (0 : Int32)) hi27 (g := (mkF m 7 #[vI p1] [(.int (p1.toInt8.toInt32)), (.int 0), (.ref b22), (.ref b22)])) rfl rfl (hb hby d13_7)
  have V29 : Arv Z h29 b22 k22 .byte (1 : Int32) [(.int (nar .byte (p1.toInt8.toInt32)))] (.int 0) := Arv.set Ar27 q27 S27 N27 H27 G27 (fits_nar_byte _) W29 0 rfl (Nat.le_of_ble_eq_true rfl)
  have N30 := Fr.snoc X29 N0 gg23
  have O31 := O25.wr W29 gg23
  have K32 := K26.wr W29 (Or.inr sz24)
  have q33 := fun t (kt : Go p e below T29 (mkF m 8 #[vI p1] [(.ref b22)]) t) => q28 t (st29 t kt)
  exact ⟨some (.ref b22), T29, _, _, _, _, X29, by decide, by decide, nofun, q33, fun fs hr => retOut X29 hx hret rfl (o4 ⟨rfl, rfl, rfl⟩) (hb hby d13_8) hr, by rw [e29]; exact ⟨b22, k22, rfl, N30, K32, sz24, V29⟩⟩
theorem ef_20_I (m : MethodId) (x0 : Int32) : entryFrame m #[(.int x0)] 2 = mkF m 0 #[.val (.int x0), .unset] [] := by first | (simp [entryFrame, mkF, argsToLocals, Value.category]; done) | rfl
theorem pn_20 : plainName "java/lang/StringUTF16" = true := by first | (simp [plainName, overriddenIn]; done) | decide +kernel
theorem d20_0 : decode jdk_52_method_24_code 0 = .ok (.iconst 2, 1) := by decide +kernel
theorem d20_1 : decode jdk_52_method_24_code 1 = .ok (.newarray .byte, 2) := by decide +kernel
theorem d20_3 : decode jdk_52_method_24_code 3 = .ok (.astore_n 1, 1) := by decide +kernel
theorem d20_4 : decode jdk_52_method_24_code 4 = .ok (.aload_n 1, 1) := by decide +kernel
theorem d20_5 : decode jdk_52_method_24_code 5 = .ok (.iconst 0, 1) := by decide +kernel
theorem d20_6 : decode jdk_52_method_24_code 6 = .ok (.iload_n 0, 1) := by decide +kernel
theorem d20_7 : decode jdk_52_method_24_code 7 = .ok (.invokestatic 111, 3) := by decide +kernel
theorem d20_10 : decode jdk_52_method_24_code 10 = .ok (.aload_n 1, 1) := by decide +kernel
theorem d20_11 : decode jdk_52_method_24_code 11 = .ok (.areturn, 1) := by decide +kernel
def Q_rm20 (Z : State) (p1 : Int32) (z_cs : Int32) (h0 : Heap) (n0 : Nat) (v : Option Value) (h : Heap) (L : List Loc) : Prop := ∃ (b : Addr) (kb : ClassId), v = some (.ref b) ∧ Fr n0 L ∧ Keep h0 h [] ∧ h0.size ≤ b ∧ Arv Z h b kb .byte (2 : Int32) [(.int (own_hb p1)), (.int (own_lb p1))] (.int 0)
theorem rm20 (l : Launch) (Z : State) (a0 : Array Value) (hw : ∀ d ∈ tables_1, d.before a0 Z = true) (ws : List Jvm.Cond) {z_cs : Int32} (cx : Cx Z z_cs) (p1 : Int32) (h0 : Heap) (n0 : Nat) (O0 : Old Z n0 h0) :
    OwnMet l ym13 (Jvm.Cond.code ym13 jdk_52_method_24_code 2 (some (.array .byte)) :: ws) (own_R 1 1 2 14) #[(.int p1)] Z h0 (Q_rm20 Z p1 z_cs h0 n0) := by
  refine own_body (plainFor_of_name pn_20) hisR fun p e s m below meth c s₁ hx hby hml hown hnm hret hZ X0 e0 => ?_
  have N0 := Fr.nil n0
  have K0 : Keep h0 h0 [] := Keep.refl _ _
  have pre0 : ∀ t, Go p e below s₁ (mkF m 0 #[vI p1, vU] []) t → Go p e below s₁ (entryFrame m #[(.int p1)] 2) t := fun t k => castTop (ef_20_I m p1) k
  have q21 := fun t (kt : Go p e below s₁ (mkF m 1 #[vI p1, vU] [(.int 2)]) t) => pre0 t (by
    show Go _ _ _ _ (mkF m 0 #[vI p1, vU] []) _
    refine XS.iconst X0.here hx rfl (hb hby d20_0) ?_
    exact kt)
  obtain ⟨T22, h22, k22, X22, e22, E22, A22, st22⟩ := newP X0 hx hZ (ov hw 27 rfl) e0 (g := (mkF m 1 #[vI p1, vU] [(.int 2)])) rfl (hb hby d20_1) rfl (by decide) (cap := 2) (by decide) (by decide) (by decide) (by decide)
  obtain ⟨b22, g22⟩ : ∃ z, z = h0.size := ⟨_, rfl⟩
  rw [← g22] at A22 st22
  have gg23 : n0 ≤ b22 := Nat.le_trans (O0.1 ▸ O0.2.1) (Nat.le_of_eq g22.symm)
  have sz24 : h0.size ≤ b22 := Nat.le_trans K0.1 (Nat.le_of_eq g22.symm)
  have O25 := O0.ext E22
  have K26 := K0.ext E22
  have V22 : Arv Z h22 b22 k22 .byte (2 : Int32) [(.int 0), (.int 0)] (.int 0) := (Arv.new A22 (by decide)).pad (pad_rep [] (.int 0) 2)
  have q27 := fun t (kt : Go p e below T22 (mkF m 7 #[vI p1, vR b22] [(.int p1), (.int 0), (.ref b22)]) t) => q21 t (st22 t (by
    show Go _ _ _ _ (mkF m 3 #[vI p1, vU] [(.ref b22)]) _
    refine XS.astoreN X22.here hx rfl (hb hby d20_3) rfl rfl (l' := #[vI p1, vR b22]) rfl ?_
    show Go _ _ _ _ (mkF m 4 #[vI p1, vR b22] []) _
    refine XS.aloadN X22.here hx rfl (hb hby d20_4) rfl rfl ?_
    show Go _ _ _ _ (mkF m 5 _ [(.ref b22)]) _
    refine XS.iconst X22.here hx rfl (hb hby d20_5) ?_
    show Go _ _ _ _ (mkF m 6 _ [(.int 0), (.ref b22)]) _
    refine XS.iloadN X22.here hx rfl (hb hby d20_6) rfl ?_
    exact kt))
  obtain ⟨_, _, ⟨T28, L28, k28, n28⟩, -, X28, ⟨_, hQ28, l28, y28, z28⟩, st28⟩ := Jvm.LawKit.callS X22 hx (y := ym1) hown (ow hZ hw 73 rfl) (ow hZ hw 74 rfl) (ow hZ hw 25 rfl) (ow hZ hw 75 rfl) (by decide) (backOf (W := 0) (rm18 l Z a0 hw [] cx b22 k22 (0 : Int32) p1 (2 : Int32) [(.int 0), (.int 0)] 0 h22 n0 O25 V22 gg23 (by decide) (by decide) (by decide) (by decide) (by decide) rfl) hZ (ov hw 75 rfl) (ov hw 25 rfl) (by decide) (by decide)) (g := (mkF m 7 #[vI p1, vR b22] [(.int p1), (.int 0), (.ref b22)])) rfl (by rw [hml]; rfl) (argsL := [(.ref b22), (.int 0), (.int p1)]) (rest := []) (lenOf pd_2 rfl) rfl own_le0 (hb hby d20_7) (fun _ _ => ⟨rfl, e22, (by decide : 1 + 0 ≤ _), (by decide : 2 + 0 ≤ _)⟩)
  dsimp only [Pt.U, Pt.locs, Pt.cells, Pt.slots] at X28 l28 y28 z28 st28 hQ28
  subst l28 y28 z28
  obtain ⟨rfl, Nq28, Kq28, fq28_0⟩ := hQ28
  have N29 := Fr.app N0 Nq28
  have O30 := O25.keep Kq28 (allS gg23 all0)
  have K31 := K26.trans Kq28 (allS (Or.inr sz24) all0)
  have Vp32 : Arv Z T28.heap b22 k22 .byte (2 : Int32) [(.int (own_hb p1)), (.int (own_lb p1))] (.int 0) := fq28_0
  have q33 := fun t (kt : Go p e below T28 (mkF m 11 #[vI p1, vR b22] [(.ref b22)]) t) => q27 t (st28 t (by
    show Go _ _ _ _ (mkF m 10 #[vI p1, vR b22] []) _
    refine XS.aloadN X28.here hx rfl (hb hby d20_10) rfl rfl ?_
    exact kt))
  exact ⟨some (.ref b22), T28, _, _, _, _, X28, by decide, by decide, nofun, q33, fun fs hr => retOut X28 hx hret rfl (o4 ⟨rfl, rfl, rfl⟩) (hb hby d20_11) hr, ⟨b22, k22, rfl, N29, K31, sz24, Vp32⟩⟩
theorem ef_14_RRI (m : MethodId) (x0 : Addr) (x1 : Addr) (x2 : Int32) : entryFrame m #[(.ref x0), (.ref x1), (.int x2)] 3 = mkF m 0 #[.val (.ref x0), .val (.ref x1), .val (.int x2)] [] := by first | (simp [entryFrame, mkF, argsToLocals, Value.category]; done) | rfl
theorem pn_14 : plainName "java/lang/String" = true := by first | (simp [plainName, overriddenIn]; done) | decide +kernel
theorem d14_0 : decode jdk_42_method_151_code 0 = .ok (.aload_n 0, 1) := by decide +kernel
theorem d14_1 : decode jdk_42_method_151_code 1 = .ok (.invokespecial 1, 3) := by decide +kernel
theorem d14_4 : decode jdk_42_method_151_code 4 = .ok (.aload_n 0, 1) := by decide +kernel
theorem d14_5 : decode jdk_42_method_151_code 5 = .ok (.aload_n 1, 1) := by decide +kernel
theorem d14_6 : decode jdk_42_method_151_code 6 = .ok (.putfield 9, 3) := by decide +kernel
theorem d14_9 : decode jdk_42_method_151_code 9 = .ok (.aload_n 0, 1) := by decide +kernel
theorem d14_10 : decode jdk_42_method_151_code 10 = .ok (.iload_n 2, 1) := by decide +kernel
theorem d14_11 : decode jdk_42_method_151_code 11 = .ok (.putfield 15, 3) := by decide +kernel
theorem d14_14 : decode jdk_42_method_151_code 14 = .ok (.return_, 1) := by decide +kernel
def Q_rm14_0 (Z : State) (a1 : Addr) (a2 : Addr) (z_cs : Int32) (h0 : Heap) (n0 : Nat) (v : Option Value) (h : Heap) (L : List Loc) : Prop := v = none ∧ Fr n0 L ∧ Keep h0 h [a1] ∧ Fld Z h a1 sk1 "value" "[B" (.ref a2) ∧ Fld Z h a1 sk1 "coder" "B" (.int 0)
theorem rm14_0 (l : Launch) (Z : State) (a0 : Array Value) (hw : ∀ d ∈ tables_1, d.before a0 Z = true) (ws : List Jvm.Cond) {z_cs : Int32} (cx : Cx Z z_cs) (a1 : Addr) (a2 : Addr) (h0 : Heap) (n0 : Nat) (O0 : Old Z n0 h0) (G0 : Exa Z h0 a1 sk1) (G1 : Fld Z h0 a1 sk1 "value" "[B" .null) (G2 : Fld Z h0 a1 sk1 "coder" "B" (.int 0)) (g_a1 : n0 ≤ a1) :
    OwnMet l ym14 (Jvm.Cond.code ym14 jdk_42_method_151_code 3 none :: ws) (own_R 1 0 0 12) #[(.ref a1), (.ref a2), (.int 0)] Z h0 (Q_rm14_0 Z a1 a2 z_cs h0 n0) := by
  refine own_body (plainFor_of_name pn_14) hisR fun p e s m below meth c s₁ hx hby hml hown hnm hret hZ X0 e0 => ?_
  have N0 := Fr.nil n0
  have K0 : Keep h0 h0 [a1] := Keep.refl _ _
  have pre0 : ∀ t, Go p e below s₁ (mkF m 0 #[vR a1, vR a2, vI 0] []) t → Go p e below s₁ (entryFrame m #[(.ref a1), (.ref a2), (.int 0)] 3) t := fun t k => castTop (ef_14_RRI m a1 a2 (0 : Int32)) k
  have q21 := fun t (kt : Go p e below s₁ (mkF m 1 #[vR a1, vR a2, vI 0] [(.ref a1)]) t) => pre0 t (by
    show Go _ _ _ _ (mkF m 0 #[vR a1, vR a2, vI 0] []) _
    refine XS.aloadN X0.here hx rfl (hb hby d14_0) rfl rfl ?_
    exact kt)
  obtain ⟨T22, X22, e22, st22⟩ := initO X0 hx hZ hown (ov hw 19 rfl) (ov hw 20 rfl) (ov hw 21 rfl) e0 (g := (mkF m 1 #[vR a1, vR a2, vI 0] [(.ref a1)])) rfl (by rw [hml]; rfl) rfl (hb hby d14_1) (by decide) (W := 0) own_le0 (by decide)
  have q23 := fun t (kt : Go p e below T22 (mkF m 6 #[vR a1, vR a2, vI 0] [(.ref a2), (.ref a1)]) t) => q21 t (st22 t (by
    show Go _ _ _ _ (mkF m 4 #[vR a1, vR a2, vI 0] []) _
    refine XS.aloadN X22.here hx rfl (hb hby d14_4) rfl rfl ?_
    show Go _ _ _ _ (mkF m 5 _ [(.ref a1)]) _
    refine XS.aloadN X22.here hx rfl (hb hby d14_5) rfl rfl ?_
    exact kt))
  obtain ⟨T24, h24, X24, e24, W24, st24⟩ := putF X22 hx hZ hown (host := "") (Or.inl (ov hw 36 rfl)) Via.refl e22 G1 G0 (Or.inr ⟨(ov hw 37 rfl), rfl, hnm⟩) (ov hw 9 rfl) (ty := (.array .byte)) (by decide) rfl rfl (g := (mkF m 6 #[vR a1, vR a2, vI 0] [(.ref a2), (.ref a1)])) rfl rfl (hb hby d14_6)
  have f25 : Fld Z h24 a1 sk1 "value" "[B" (.ref a2) := G1.same W24
  have N26 := Fr.snoc X24 N0 g_a1
  have O27 := O0.wr W24 g_a1
  have K28 := K0.wr W24 (Or.inl (List.mem_of_getElem? (i := 0) rfl))
  have f29 := (G0.wr W24)
  have f30 := (G2.other W24 (Or.inr (slot_ne (Or.inr (ov hw 35 rfl)) (Or.inr (ov hw 37 rfl)) (by decide) (t := .byte) (t' := (.array .byte)) (by decide) (by decide))))
  have q31 := fun t (kt : Go p e below T24 (mkF m 11 #[vR a1, vR a2, vI 0] [(.int 0), (.ref a1)]) t) => q23 t (st24 t (by
    show Go _ _ _ _ (mkF m 9 #[vR a1, vR a2, vI 0] []) _
    refine XS.aloadN X24.here hx rfl (hb hby d14_9) rfl rfl ?_
    show Go _ _ _ _ (mkF m 10 _ [(.ref a1)]) _
    refine XS.iloadN X24.here hx rfl (hb hby d14_10) rfl ?_
    exact kt))
  obtain ⟨T32, h32, X32, e32, W32, st32⟩ := putFN X24 hx hZ hown (ov hw 34 rfl) Via.refl e24 f30 f29 (Or.inr ⟨(ov hw 35 rfl), rfl, hnm⟩) (ov hw 9 rfl) (ty := .byte) (v' := (.int 0)) (by decide) rfl rfl (g := (mkF m 11 #[vR a1, vR a2, vI 0] [(.int 0), (.ref a1)])) rfl rfl (hb hby d14_11)
  have f33 : Fld Z h32 a1 sk1 "coder" "B" (.int 0) := f30.same W32
  have N34 := Fr.snoc X32 N26 g_a1
  have O35 := O27.wr W32 g_a1
  have K36 := K28.wr W32 (Or.inl (List.mem_of_getElem? (i := 0) rfl))
  have q37 := fun t (kt : Go p e below T32 (mkF m 14 #[vR a1, vR a2, vI 0] []) t) => q31 t (st32 t kt)
  have f38 := (f25.other W32 (Or.inr (slot_ne (Or.inr (ov hw 37 rfl)) (Or.inr (ov hw 35 rfl)) (by decide) (t := (.array .byte)) (t' := .byte) (by decide) (by decide))))
  exact ⟨none, T32, _, _, _, _, X32, by decide, by decide, fun _ => rfl, q37, fun fs hr => X32.returnOut hx hret (hb hby d14_14) hr, by rw [e32]; exact ⟨rfl, N34, K36, f38, f33⟩⟩
def Q_rm14_1 (Z : State) (a1 : Addr) (a2 : Addr) (z_cs : Int32) (h0 : Heap) (n0 : Nat) (v : Option Value) (h : Heap) (L : List Loc) : Prop := v = none ∧ Fr n0 L ∧ Keep h0 h [a1] ∧ Fld Z h a1 sk1 "value" "[B" (.ref a2) ∧ Fld Z h a1 sk1 "coder" "B" (.int 1)
theorem rm14_1 (l : Launch) (Z : State) (a0 : Array Value) (hw : ∀ d ∈ tables_1, d.before a0 Z = true) (ws : List Jvm.Cond) {z_cs : Int32} (cx : Cx Z z_cs) (a1 : Addr) (a2 : Addr) (h0 : Heap) (n0 : Nat) (O0 : Old Z n0 h0) (G0 : Exa Z h0 a1 sk1) (G1 : Fld Z h0 a1 sk1 "value" "[B" .null) (G2 : Fld Z h0 a1 sk1 "coder" "B" (.int 0)) (g_a1 : n0 ≤ a1) :
    OwnMet l ym14 (Jvm.Cond.code ym14 jdk_42_method_151_code 3 none :: ws) (own_R 1 0 0 12) #[(.ref a1), (.ref a2), (.int 1)] Z h0 (Q_rm14_1 Z a1 a2 z_cs h0 n0) := by
  refine own_body (plainFor_of_name pn_14) hisR fun p e s m below meth c s₁ hx hby hml hown hnm hret hZ X0 e0 => ?_
  have N0 := Fr.nil n0
  have K0 : Keep h0 h0 [a1] := Keep.refl _ _
  have pre0 : ∀ t, Go p e below s₁ (mkF m 0 #[vR a1, vR a2, vI 1] []) t → Go p e below s₁ (entryFrame m #[(.ref a1), (.ref a2), (.int 1)] 3) t := fun t k => castTop (ef_14_RRI m a1 a2 (1 : Int32)) k
  have q21 := fun t (kt : Go p e below s₁ (mkF m 1 #[vR a1, vR a2, vI 1] [(.ref a1)]) t) => pre0 t (by
    show Go _ _ _ _ (mkF m 0 #[vR a1, vR a2, vI 1] []) _
    refine XS.aloadN X0.here hx rfl (hb hby d14_0) rfl rfl ?_
    exact kt)
  obtain ⟨T22, X22, e22, st22⟩ := initO X0 hx hZ hown (ov hw 19 rfl) (ov hw 20 rfl) (ov hw 21 rfl) e0 (g := (mkF m 1 #[vR a1, vR a2, vI 1] [(.ref a1)])) rfl (by rw [hml]; rfl) rfl (hb hby d14_1) (by decide) (W := 0) own_le0 (by decide)
  have q23 := fun t (kt : Go p e below T22 (mkF m 6 #[vR a1, vR a2, vI 1] [(.ref a2), (.ref a1)]) t) => q21 t (st22 t (by
    show Go _ _ _ _ (mkF m 4 #[vR a1, vR a2, vI 1] []) _
    refine XS.aloadN X22.here hx rfl (hb hby d14_4) rfl rfl ?_
    show Go _ _ _ _ (mkF m 5 _ [(.ref a1)]) _
    refine XS.aloadN X22.here hx rfl (hb hby d14_5) rfl rfl ?_
    exact kt))
  obtain ⟨T24, h24, X24, e24, W24, st24⟩ := putF X22 hx hZ hown (host := "") (Or.inl (ov hw 36 rfl)) Via.refl e22 G1 G0 (Or.inr ⟨(ov hw 37 rfl), rfl, hnm⟩) (ov hw 9 rfl) (ty := (.array .byte)) (by decide) rfl rfl (g := (mkF m 6 #[vR a1, vR a2, vI 1] [(.ref a2), (.ref a1)])) rfl rfl (hb hby d14_6)
  have f25 : Fld Z h24 a1 sk1 "value" "[B" (.ref a2) := G1.same W24
  have N26 := Fr.snoc X24 N0 g_a1
  have O27 := O0.wr W24 g_a1
  have K28 := K0.wr W24 (Or.inl (List.mem_of_getElem? (i := 0) rfl))
  have f29 := (G0.wr W24)
  have f30 := (G2.other W24 (Or.inr (slot_ne (Or.inr (ov hw 35 rfl)) (Or.inr (ov hw 37 rfl)) (by decide) (t := .byte) (t' := (.array .byte)) (by decide) (by decide))))
  have q31 := fun t (kt : Go p e below T24 (mkF m 11 #[vR a1, vR a2, vI 1] [(.int 1), (.ref a1)]) t) => q23 t (st24 t (by
    show Go _ _ _ _ (mkF m 9 #[vR a1, vR a2, vI 1] []) _
    refine XS.aloadN X24.here hx rfl (hb hby d14_9) rfl rfl ?_
    show Go _ _ _ _ (mkF m 10 _ [(.ref a1)]) _
    refine XS.iloadN X24.here hx rfl (hb hby d14_10) rfl ?_
    exact kt))
  obtain ⟨T32, h32, X32, e32, W32, st32⟩ := putFN X24 hx hZ hown (ov hw 34 rfl) Via.refl e24 f30 f29 (Or.inr ⟨(ov hw 35 rfl), rfl, hnm⟩) (ov hw 9 rfl) (ty := .byte) (v' := (.int 1)) (by decide) rfl rfl (g := (mkF m 11 #[vR a1, vR a2, vI 1] [(.int 1), (.ref a1)])) rfl rfl (hb hby d14_11)
  have f33 : Fld Z h32 a1 sk1 "coder" "B" (.int 1) := f30.same W32
  have N34 := Fr.snoc X32 N26 g_a1
  have O35 := O27.wr W32 g_a1
  have K36 := K28.wr W32 (Or.inl (List.mem_of_getElem? (i := 0) rfl))
  have q37 := fun t (kt : Go p e below T32 (mkF m 14 #[vR a1, vR a2, vI 1] []) t) => q31 t (st32 t kt)
  have f38 := (f25.other W32 (Or.inr (slot_ne (Or.inr (ov hw 37 rfl)) (Or.inr (ov hw 35 rfl)) (by decide) (t := (.array .byte)) (t' := .byte) (by decide) (by decide))))
  exact ⟨none, T32, _, _, _, _, X32, by decide, by decide, fun _ => rfl, q37, fun fs hr => X32.returnOut hx hret (hb hby d14_14) hr, by rw [e32]; exact ⟨rfl, N34, K36, f38, f33⟩⟩
theorem ef_11_I (m : MethodId) (x0 : Int32) : entryFrame m #[(.int x0)] 1 = mkF m 0 #[.val (.int x0)] [] := by first | (simp [entryFrame, mkF, argsToLocals, Value.category]; done) | rfl
theorem pn_11 : plainName "java/lang/String" = true := by first | (simp [plainName, overriddenIn]; done) | decide +kernel
theorem d11_0 : decode jdk_42_method_139_code 0 = .ok (.getstatic 38, 3) := by decide +kernel
theorem d11_3 : decode jdk_42_method_139_code 3 = .ok (.ifCond .eq 23, 3) := by decide +kernel
theorem d11_6 : decode jdk_42_method_139_code 6 = .ok (.iload_n 0, 1) := by decide +kernel
theorem d11_7 : decode jdk_42_method_139_code 7 = .ok (.invokestatic 1015, 3) := by decide +kernel
theorem pd_8 : parseMethodDescriptor "(C)Z" = some ⟨[.char], some .boolean⟩ := by decide +kernel
theorem d11_10 : decode jdk_42_method_139_code 10 = .ok (.ifCond .eq 16, 3) := by decide +kernel
theorem d11_13 : decode jdk_42_method_139_code 13 = .ok (.new 10, 3) := by decide +kernel
theorem d11_16 : decode jdk_42_method_139_code 16 = .ok (.dup, 1) := by decide +kernel
theorem d11_17 : decode jdk_42_method_139_code 17 = .ok (.iload_n 0, 1) := by decide +kernel
theorem d11_18 : decode jdk_42_method_139_code 18 = .ok (.invokestatic 1018, 3) := by decide +kernel
theorem pd_9 : parseMethodDescriptor "(C)[B" = some ⟨[.char], some (.array .byte)⟩ := by decide +kernel
theorem d11_21 : decode jdk_42_method_139_code 21 = .ok (.iconst 0, 1) := by decide +kernel
theorem d11_22 : decode jdk_42_method_139_code 22 = .ok (.invokespecial 209, 3) := by decide +kernel
theorem pd_10 : parseMethodDescriptor "([BB)V" = some ⟨[(.array .byte), .byte], none⟩ := by decide +kernel
theorem d11_25 : decode jdk_42_method_139_code 25 = .ok (.areturn, 1) := by decide +kernel
def Q_rm11A (Z : State) (p1 : Int32) (z_cs : Int32) (h0 : Heap) (n0 : Nat) (v : Option Value) (h : Heap) (L : List Loc) : Prop := ∃ (b : Addr) (t : Addr), v = some (.ref b) ∧ Fr n0 L ∧ Keep h0 h [] ∧ h0.size ≤ b ∧ h0.size ≤ t ∧ Str Z h b t [p1]
theorem rm11A (l : Launch) (Z : State) (a0 : Array Value) (hw : ∀ d ∈ tables_1, d.before a0 Z = true) (ws : List Jvm.Cond) {z_cs : Int32} (cx : Cx Z z_cs) (p1 : Int32) (h0 : Heap) (n0 : Nat) (O0 : Old Z n0 h0) (hp : ¬ ((255 : Int32) < p1)) (hch : ¬ p1 < 0 ∧ ¬ (65535 : Int32) < p1) :
    OwnMet l ym15 (Jvm.Cond.code ym15 jdk_42_method_139_code 1 (some (.object sk1)) :: ws) (own_R 2 2 5 27) #[(.int p1)] Z h0 (Q_rm11A Z p1 z_cs h0 n0) := by
  refine own_body (plainFor_of_name pn_11) hisR fun p e s m below meth c s₁ hx hby hml hown hnm hret hZ X0 e0 => ?_
  have N0 := Fr.nil n0
  have K0 : Keep h0 h0 [] := Keep.refl _ _
  have pre0 : ∀ t, Go p e below s₁ (mkF m 0 #[vI p1] []) t → Go p e below s₁ (entryFrame m #[(.int p1)] 1) t := fun t k => castTop (ef_11_I m p1) k
  obtain ⟨T21, X21, e21, st21⟩ := getS2 X0 hx hZ hown (host := "") (Or.inl (ov hw 22 rfl)) Via.refl e0 (cx.1.ext O0.2) (g := (mkF m 0 #[vI p1] [])) rfl (hb hby d11_0)
  have q22 := fun t (kt : Go p e below T21 (mkF m 7 #[vI p1] [(.int p1)]) t) => pre0 t (st21 t (by
    show Go _ _ _ _ (mkF m 3 #[vI p1] [(.int z_cs)]) _
    refine XS.ifNo X21.here hx rfl (hb hby d11_3) rfl ((if0 _ _).trans (feq cx.2.1).1) ?_
    show Go _ _ _ _ (mkF m 6 _ []) _
    refine XS.iloadN X21.here hx rfl (hb hby d11_6) rfl ?_
    exact kt))
  obtain ⟨_, _, ⟨T23, L23, k23, n23⟩, -, X23, ⟨_, hQ23, l23, y23, z23⟩, st23⟩ := Jvm.LawKit.callS X21 hx (y := ym11) hown (ow hZ hw 54 rfl) (ow hZ hw 55 rfl) (ow hZ hw 49 rfl) (ow hZ hw 56 rfl) (by decide) (backOf (W := 0) (rm12A l Z a0 hw [] cx p1 h0 n0 O0 hp) hZ (ov hw 56 rfl) (ov hw 49 rfl) (by decide) (by decide)) (g := (mkF m 7 #[vI p1] [(.int p1)])) rfl (by rw [hml]; rfl) (argsL := [(.int p1)]) (rest := []) (lenOf pd_8 rfl) rfl own_le0 (hb hby d11_7) (fun _ _ => ⟨rfl, e21, (by decide : 0 + 0 ≤ _), (by decide : 0 + 0 ≤ _)⟩)
  dsimp only [Pt.U, Pt.locs, Pt.cells, Pt.slots] at X23 l23 y23 z23 st23 hQ23
  subst l23 y23 z23
  obtain ⟨rfl, Nq23, eq23⟩ := hQ23
  have N24 := Fr.app N0 Nq23
  have q25 := fun t (kt : Go p e below T23 (mkF m 13 #[vI p1] []) t) => q22 t (st23 t (by
    show Go _ _ _ _ (mkF m 10 #[vI p1] [(.int 1)]) _
    refine XS.ifNo X23.here hx rfl (hb hby d11_10) rfl ((if0 _ _).trans (feq (by decide : ¬ ((1 : Int32) = (0 : Int32)))).1) ?_
    exact kt))
  obtain ⟨T26, h26, X26, e26, E26, A26, D26, U26, st26⟩ := newO X23 hx hZ hown (ov hw 46 rfl) (ov hw 9 rfl) (ov hw 10 rfl) eq23 (g := (mkF m 13 #[vI p1] [])) rfl (hb hby d11_13) (by decide) (by decide)
  obtain ⟨b26, g26⟩ : ∃ z, z = h0.size := ⟨_, rfl⟩
  rw [← g26] at A26 D26 st26
  have gg27 : n0 ≤ b26 := Nat.le_trans (O0.1 ▸ O0.2.1) (Nat.le_of_eq g26.symm)
  have sz28 : h0.size ≤ b26 := Nat.le_trans K0.1 (Nat.le_of_eq g26.symm)
  have O29 := O0.ext E26
  have K30 := K0.ext E26
  have F26_coder : Fld Z h26 b26 sk1 "coder" "B" (.int 0) := D26 (Or.inr (ov hw 35 rfl)) (ty := .byte) (by decide)
  have F26_value : Fld Z h26 b26 sk1 "value" "[B" .null := D26 (Or.inr (ov hw 37 rfl)) (ty := (.array .byte)) (by decide)
  have q31 := fun t (kt : Go p e below T26 (mkF m 18 #[vI p1] [(.int p1), (.ref b26), (.ref b26)]) t) => q25 t (st26 t (by
    show Go _ _ _ _ (mkF m 16 #[vI p1] [(.ref b26)]) _
    refine XS.dup X26.here hx rfl (hb hby d11_16) rfl rfl ?_
    show Go _ _ _ _ (mkF m 17 _ [(.ref b26), (.ref b26)]) _
    refine XS.iloadN X26.here hx rfl (hb hby d11_17) rfl ?_
    exact kt))
  obtain ⟨_, _, ⟨T32, L32, k32, n32⟩, -, X32, ⟨_, hQ32, l32, y32, z32⟩, st32⟩ := Jvm.LawKit.callS X26 hx (y := ym12) hown (ow hZ hw 57 rfl) (ow hZ hw 58 rfl) (ow hZ hw 49 rfl) (ow hZ hw 59 rfl) (by decide) (backOf (W := 2) (rm13 l Z a0 hw [] cx p1 h26 n0 O29 ) hZ (ov hw 59 rfl) (ov hw 49 rfl) (by decide) (by decide)) (g := (mkF m 18 #[vI p1] [(.int p1), (.ref b26), (.ref b26)])) rfl (by rw [hml]; rfl) (argsL := [(.int p1)]) (rest := [(.ref b26), (.ref b26)]) (lenOf pd_9 rfl) rfl own_le0 (hb hby d11_18) (fun _ _ => ⟨rfl, e26, (by decide : 1 + 1 ≤ _), (by decide : 4 + 1 ≤ _)⟩)
  dsimp only [Pt.U, Pt.locs, Pt.cells, Pt.slots] at X32 l32 y32 z32 st32 hQ32
  subst l32 y32 z32
  obtain ⟨b_32, kb_32, rfl, Nq32, Kq32, fr32_0, fq32_0⟩ := hQ32
  have N33 := Fr.app N24 Nq32
  have gg34 : n0 ≤ b_32 := Nat.le_trans (O29.1 ▸ O29.2.1) fr32_0
  have sz35 : h0.size ≤ b_32 := Nat.le_trans K30.1 fr32_0
  have O36 := O29.keep Kq32 all0
  have K37 := K30.trans Kq32 all0
  have f38 := (A26.keep Kq32)
  have f39 := (F26_value.keep Kq32 nin0)
  have f40 := (F26_coder.keep Kq32 nin0)
  have q41 := fun t (kt : Go p e below T32 (mkF m 22 #[vI p1] [(.int 0), (.ref b_32), (.ref b26), (.ref b26)]) t) => q31 t (st32 t (by
    show Go _ _ _ _ (mkF m 21 #[vI p1] [(.ref b_32), (.ref b26), (.ref b26)]) _
    refine XS.iconst X32.here hx rfl (hb hby d11_21) ?_
    exact kt))
  obtain ⟨_, _, ⟨T42, L42, k42, n42⟩, -, X42, ⟨_, hQ42, l42, y42, z42⟩, st42⟩ := X32.specialBack hx (y := ym14) rfl hown (ow hZ hw 60 rfl) (ow hZ hw 61 rfl) (ow hZ hw 62 rfl) (by decide) (backOf (W := 1) (rm14_0 l Z a0 hw [] cx b26 b_32 T32.heap n0 O36 f38 f39 f40 gg27) hZ (ov hw 62 rfl) (ov hw 10 rfl) (by decide) (by decide)) (g := (mkF m 22 #[vI p1] [(.int 0), (.ref b_32), (.ref b26), (.ref b26)])) rfl (by rw [hml]; rfl) (Steps.refl _) (a := b26) (argsL := [(.ref b_32), (.int 0)]) (rest := [(.ref b26)]) (lenOf pd_10 rfl) rfl own_le0 (hb hby d11_22) (fun _ _ => ⟨rfl, rfl, (by decide : 2 + 0 ≤ _), (by decide : 5 + 0 ≤ _)⟩)
  dsimp only [Pt.U, Pt.locs, Pt.cells, Pt.slots] at X42 l42 y42 z42 st42 hQ42
  subst l42 y42 z42
  obtain ⟨rfl, Nq42, Kq42, fq42_0, fq42_1⟩ := hQ42
  have N43 := Fr.app N33 Nq42
  have O44 := O36.keep Kq42 (allS gg27 all0)
  have K45 := K37.trans Kq42 (allS (Or.inr sz28) all0)
  have q46 := fun t (kt : Go p e below T42 (mkF m 25 #[vI p1] [(.ref b26)]) t) => q41 t (st42.trans kt)
  have f47 := (f38.keep Kq42)
  have ne48 : b26 ≠ b_32 := (Nat.ne_of_lt (Nat.lt_of_lt_of_le A26.lt fr32_0))
  have f49 := (fq32_0.keep Kq42 (ninS (Ne.symm ne48) nin0))
  exact ⟨some (.ref b26), T42, _, _, _, _, X42, by decide, by decide, nofun, q46, fun fs hr => retOut X42 hx hret rfl (o4 ⟨rfl, rfl, rfl⟩) (hb hby d11_25) hr, ⟨b26, b_32, rfl, N43, K45, sz28, sz35, ⟨_, _, _, _, f47, fq42_0, fq42_1, f49, own_cod ⟨rfl, by rw [own_lo8]; rfl⟩ (by intro c hc; cases List.mem_singleton.mp hc; exact hp), (by intro c hc; cases List.mem_singleton.mp hc; exact hch), by simp⟩⟩⟩
theorem d11_26 : decode jdk_42_method_139_code 26 = .ok (.new 10, 3) := by decide +kernel
theorem d11_29 : decode jdk_42_method_139_code 29 = .ok (.dup, 1) := by decide +kernel
theorem d11_30 : decode jdk_42_method_139_code 30 = .ok (.iload_n 0, 1) := by decide +kernel
theorem d11_31 : decode jdk_42_method_139_code 31 = .ok (.invokestatic 1021, 3) := by decide +kernel
theorem d11_34 : decode jdk_42_method_139_code 34 = .ok (.iconst 1, 1) := by decide +kernel
theorem d11_35 : decode jdk_42_method_139_code 35 = .ok (.invokespecial 209, 3) := by decide +kernel
theorem d11_38 : decode jdk_42_method_139_code 38 = .ok (.areturn, 1) := by decide +kernel
def Q_rm11B (Z : State) (p1 : Int32) (z_cs : Int32) (h0 : Heap) (n0 : Nat) (v : Option Value) (h : Heap) (L : List Loc) : Prop := ∃ (b : Addr), v = some (.ref b) ∧ Fr n0 L ∧ Keep h0 h [] ∧ h0.size ≤ b ∧ Exa Z h b sk1 ∧ Fld Z h b sk1 "coder" "B" (.int 1)
theorem rm11B (l : Launch) (Z : State) (a0 : Array Value) (hw : ∀ d ∈ tables_1, d.before a0 Z = true) (ws : List Jvm.Cond) {z_cs : Int32} (cx : Cx Z z_cs) (p1 : Int32) (h0 : Heap) (n0 : Nat) (O0 : Old Z n0 h0) (hp : (255 : Int32) < p1) :
    OwnMet l ym15 (Jvm.Cond.code ym15 jdk_42_method_139_code 1 (some (.object sk1)) :: ws) (own_R 2 2 6 29) #[(.int p1)] Z h0 (Q_rm11B Z p1 z_cs h0 n0) := by
  refine own_body (plainFor_of_name pn_11) hisR fun p e s m below meth c s₁ hx hby hml hown hnm hret hZ X0 e0 => ?_
  have N0 := Fr.nil n0
  have K0 : Keep h0 h0 [] := Keep.refl _ _
  have pre0 : ∀ t, Go p e below s₁ (mkF m 0 #[vI p1] []) t → Go p e below s₁ (entryFrame m #[(.int p1)] 1) t := fun t k => castTop (ef_11_I m p1) k
  obtain ⟨T21, X21, e21, st21⟩ := getS2 X0 hx hZ hown (host := "") (Or.inl (ov hw 22 rfl)) Via.refl e0 (cx.1.ext O0.2) (g := (mkF m 0 #[vI p1] [])) rfl (hb hby d11_0)
  have q22 := fun t (kt : Go p e below T21 (mkF m 7 #[vI p1] [(.int p1)]) t) => pre0 t (st21 t (by
    show Go _ _ _ _ (mkF m 3 #[vI p1] [(.int z_cs)]) _
    refine XS.ifNo X21.here hx rfl (hb hby d11_3) rfl ((if0 _ _).trans (feq cx.2.1).1) ?_
    show Go _ _ _ _ (mkF m 6 _ []) _
    refine XS.iloadN X21.here hx rfl (hb hby d11_6) rfl ?_
    exact kt))
  obtain ⟨_, _, ⟨T23, L23, k23, n23⟩, -, X23, ⟨_, hQ23, l23, y23, z23⟩, st23⟩ := Jvm.LawKit.callS X21 hx (y := ym11) hown (ow hZ hw 54 rfl) (ow hZ hw 55 rfl) (ow hZ hw 49 rfl) (ow hZ hw 56 rfl) (by decide) (backOf (W := 0) (rm12B l Z a0 hw [] cx p1 h0 n0 O0 hp) hZ (ov hw 56 rfl) (ov hw 49 rfl) (by decide) (by decide)) (g := (mkF m 7 #[vI p1] [(.int p1)])) rfl (by rw [hml]; rfl) (argsL := [(.int p1)]) (rest := []) (lenOf pd_8 rfl) rfl own_le0 (hb hby d11_7) (fun _ _ => ⟨rfl, e21, (by decide : 0 + 0 ≤ _), (by decide : 0 + 0 ≤ _)⟩)
  dsimp only [Pt.U, Pt.locs, Pt.cells, Pt.slots] at X23 l23 y23 z23 st23 hQ23
  subst l23 y23 z23
  obtain ⟨rfl, Nq23, eq23⟩ := hQ23
  have N24 := Fr.app N0 Nq23
  have q25 := fun t (kt : Go p e below T23 (mkF m 26 #[vI p1] []) t) => q22 t (st23 t (by
    show Go _ _ _ _ (mkF m 10 #[vI p1] [(.int 0)]) _
    refine XS.ifYes X23.here hx rfl (pc0 := 10) (pc' := 26) rfl (hb hby d11_10) rfl ((if0 _ _).trans (teq (rfl : (0 : Int32) = (0 : Int32))).1) (by decide) (by decide) ?_
    exact kt))
  obtain ⟨T26, h26, X26, e26, E26, A26, D26, U26, st26⟩ := newO X23 hx hZ hown (ov hw 46 rfl) (ov hw 9 rfl) (ov hw 10 rfl) eq23 (g := (mkF m 26 #[vI p1] [])) rfl (hb hby d11_26) (by decide) (by decide)
  obtain ⟨b26, g26⟩ : ∃ z, z = h0.size := ⟨_, rfl⟩
  rw [← g26] at A26 D26 st26
  have gg27 : n0 ≤ b26 := Nat.le_trans (O0.1 ▸ O0.2.1) (Nat.le_of_eq g26.symm)
  have sz28 : h0.size ≤ b26 := Nat.le_trans K0.1 (Nat.le_of_eq g26.symm)
  have O29 := O0.ext E26
  have K30 := K0.ext E26
  have F26_coder : Fld Z h26 b26 sk1 "coder" "B" (.int 0) := D26 (Or.inr (ov hw 35 rfl)) (ty := .byte) (by decide)
  have F26_value : Fld Z h26 b26 sk1 "value" "[B" .null := D26 (Or.inr (ov hw 37 rfl)) (ty := (.array .byte)) (by decide)
  have q31 := fun t (kt : Go p e below T26 (mkF m 31 #[vI p1] [(.int p1), (.ref b26), (.ref b26)]) t) => q25 t (st26 t (by
    show Go _ _ _ _ (mkF m 29 #[vI p1] [(.ref b26)]) _
    refine XS.dup X26.here hx rfl (hb hby d11_29) rfl rfl ?_
    show Go _ _ _ _ (mkF m 30 _ [(.ref b26), (.ref b26)]) _
    refine XS.iloadN X26.here hx rfl (hb hby d11_30) rfl ?_
    exact kt))
  obtain ⟨_, _, ⟨T32, L32, k32, n32⟩, -, X32, ⟨_, hQ32, l32, y32, z32⟩, st32⟩ := Jvm.LawKit.callS X26 hx (y := ym13) hown (ow hZ hw 82 rfl) (ow hZ hw 83 rfl) (ow hZ hw 25 rfl) (ow hZ hw 84 rfl) (by decide) (backOf (W := 2) (rm20 l Z a0 hw [] cx p1 h26 n0 O29 ) hZ (ov hw 84 rfl) (ov hw 25 rfl) (by decide) (by decide)) (g := (mkF m 31 #[vI p1] [(.int p1), (.ref b26), (.ref b26)])) rfl (by rw [hml]; rfl) (argsL := [(.int p1)]) (rest := [(.ref b26), (.ref b26)]) (lenOf pd_9 rfl) rfl own_le0 (hb hby d11_31) (fun _ _ => ⟨rfl, e26, (by decide : 1 + 1 ≤ _), (by decide : 4 + 2 ≤ _)⟩)
  dsimp only [Pt.U, Pt.locs, Pt.cells, Pt.slots] at X32 l32 y32 z32 st32 hQ32
  subst l32 y32 z32
  obtain ⟨b_32, kb_32, rfl, Nq32, Kq32, fr32_0, fq32_0⟩ := hQ32
  have N33 := Fr.app N24 Nq32
  have gg34 : n0 ≤ b_32 := Nat.le_trans (O29.1 ▸ O29.2.1) fr32_0
  have sz35 : h0.size ≤ b_32 := Nat.le_trans K30.1 fr32_0
  have O36 := O29.keep Kq32 all0
  have K37 := K30.trans Kq32 all0
  have f38 := (A26.keep Kq32)
  have f39 := (F26_value.keep Kq32 nin0)
  have f40 := (F26_coder.keep Kq32 nin0)
  have q41 := fun t (kt : Go p e below T32 (mkF m 35 #[vI p1] [(.int 1), (.ref b_32), (.ref b26), (.ref b26)]) t) => q31 t (st32 t (by
    show Go _ _ _ _ (mkF m 34 #[vI p1] [(.ref b_32), (.ref b26), (.ref b26)]) _
    refine XS.iconst X32.here hx rfl (hb hby d11_34) ?_
    exact kt))
  obtain ⟨_, _, ⟨T42, L42, k42, n42⟩, -, X42, ⟨_, hQ42, l42, y42, z42⟩, st42⟩ := X32.specialBack hx (y := ym14) rfl hown (ow hZ hw 60 rfl) (ow hZ hw 61 rfl) (ow hZ hw 62 rfl) (by decide) (backOf (W := 1) (rm14_1 l Z a0 hw [] cx b26 b_32 T32.heap n0 O36 f38 f39 f40 gg27) hZ (ov hw 62 rfl) (ov hw 10 rfl) (by decide) (by decide)) (g := (mkF m 35 #[vI p1] [(.int 1), (.ref b_32), (.ref b26), (.ref b26)])) rfl (by rw [hml]; rfl) (Steps.refl _) (a := b26) (argsL := [(.ref b_32), (.int 1)]) (rest := [(.ref b26)]) (lenOf pd_10 rfl) rfl own_le0 (hb hby d11_35) (fun _ _ => ⟨rfl, rfl, (by decide : 2 + 0 ≤ _), (by decide : 6 + 0 ≤ _)⟩)
  dsimp only [Pt.U, Pt.locs, Pt.cells, Pt.slots] at X42 l42 y42 z42 st42 hQ42
  subst l42 y42 z42
  obtain ⟨rfl, Nq42, Kq42, fq42_0, fq42_1⟩ := hQ42
  have N43 := Fr.app N33 Nq42
  have O44 := O36.keep Kq42 (allS gg27 all0)
  have K45 := K37.trans Kq42 (allS (Or.inr sz28) all0)
  have q46 := fun t (kt : Go p e below T42 (mkF m 38 #[vI p1] [(.ref b26)]) t) => q41 t (st42.trans kt)
  have f47 := (f38.keep Kq42)
  exact ⟨some (.ref b26), T42, _, _, _, _, X42, by decide, by decide, nofun, q46, fun fs hr => retOut X42 hx hret rfl (o4 ⟨rfl, rfl, rfl⟩) (hb hby d11_38) hr, ⟨b26, rfl, N43, K45, sz28, f47, fq42_1⟩⟩
theorem ef_9_RR (m : MethodId) (x0 : Addr) (x1 : Addr) : entryFrame m #[(.ref x0), (.ref x1)] 3 = mkF m 0 #[.val (.ref x0), .val (.ref x1), .unset] [] := by first | (simp [entryFrame, mkF, argsToLocals, Value.category]; done) | rfl
theorem pn_9 : plainName "java/lang/String" = true := by first | (simp [plainName, overriddenIn]; done) | decide +kernel
theorem d9_0 : decode jdk_42_method_66_code 0 = .ok (.aload_n 0, 1) := by decide +kernel
theorem d9_1 : decode jdk_42_method_66_code 1 = .ok (.aload_n 1, 1) := by decide +kernel
theorem d9_2 : decode jdk_42_method_66_code 2 = .ok (.if_acmp .ne 5, 3) := by decide +kernel
theorem d9_7 : decode jdk_42_method_66_code 7 = .ok (.aload_n 1, 1) := by decide +kernel
theorem d9_8 : decode jdk_42_method_66_code 8 = .ok (.instanceof 10, 3) := by decide +kernel
theorem d9_11 : decode jdk_42_method_66_code 11 = .ok (.ifCond .eq 43, 3) := by decide +kernel
theorem d9_14 : decode jdk_42_method_66_code 14 = .ok (.aload_n 1, 1) := by decide +kernel
theorem d9_15 : decode jdk_42_method_66_code 15 = .ok (.checkcast 10, 3) := by decide +kernel
theorem d9_18 : decode jdk_42_method_66_code 18 = .ok (.astore_n 2, 1) := by decide +kernel
theorem d9_19 : decode jdk_42_method_66_code 19 = .ok (.getstatic 38, 3) := by decide +kernel
theorem d9_22 : decode jdk_42_method_66_code 22 = .ok (.ifCond .eq 14, 3) := by decide +kernel
theorem d9_25 : decode jdk_42_method_66_code 25 = .ok (.aload_n 0, 1) := by decide +kernel
theorem d9_26 : decode jdk_42_method_66_code 26 = .ok (.getfield 15, 3) := by decide +kernel
theorem d9_29 : decode jdk_42_method_66_code 29 = .ok (.aload_n 2, 1) := by decide +kernel
theorem d9_30 : decode jdk_42_method_66_code 30 = .ok (.getfield 15, 3) := by decide +kernel
theorem d9_33 : decode jdk_42_method_66_code 33 = .ok (.if_icmp .ne 21, 3) := by decide +kernel
theorem d9_54 : decode jdk_42_method_66_code 54 = .ok (.iconst 0, 1) := by decide +kernel
theorem d9_55 : decode jdk_42_method_66_code 55 = .ok (.ireturn, 1) := by decide +kernel
def Q_rm9 (Z : State) (a1 : Addr) (a2 : Addr) (z_cs : Int32) (h0 : Heap) (n0 : Nat) (v : Option Value) (h : Heap) (L : List Loc) : Prop := v = some (.int 0) ∧ Fr n0 L ∧ h = h0
theorem rm9 (l : Launch) (Z : State) (a0 : Array Value) (hw : ∀ d ∈ tables_1, d.before a0 Z = true) (ws : List Jvm.Cond) {z_cs : Int32} (cx : Cx Z z_cs) (a1 : Addr) (a2 : Addr) (h0 : Heap) (n0 : Nat) (O0 : Old Z n0 h0) (G0 : Exa Z h0 a2 sk1) (G1 : Fld Z h0 a1 sk1 "coder" "B" (.int 1)) (G2 : Fld Z h0 a2 sk1 "coder" "B" (.int 0)) (hne : a1 ≠ a2) :
    OwnMet l ym16 (Jvm.Cond.code ym16 jdk_42_method_66_code 3 (some .boolean) :: ws) (own_R 0 0 0 0) #[(.ref a1), (.ref a2)] Z h0 (Q_rm9 Z a1 a2 z_cs h0 n0) := by
  refine own_body (plainFor_of_name pn_9) hisR fun p e s m below meth c s₁ hx hby hml hown hnm hret hZ X0 e0 => ?_
  have N0 := Fr.nil n0
  have pre0 : ∀ t, Go p e below s₁ (mkF m 0 #[vR a1, vR a2, vU] []) t → Go p e below s₁ (entryFrame m #[(.ref a1), (.ref a2)] 3) t := fun t k => castTop (ef_9_RR m a1 a2) k
  have q21 := fun t (kt : Go p e below s₁ (mkF m 8 #[vR a1, vR a2, vU] [(.ref a2)]) t) => pre0 t (by
    show Go _ _ _ _ (mkF m 0 #[vR a1, vR a2, vU] []) _
    refine XS.aloadN X0.here hx rfl (hb hby d9_0) rfl rfl ?_
    show Go _ _ _ _ (mkF m 1 _ [(.ref a1)]) _
    refine XS.aloadN X0.here hx rfl (hb hby d9_1) rfl rfl ?_
    show Go _ _ _ _ (mkF m 2 _ [(.ref a2), (.ref a1)]) _
    refine Jvm.RoadKit.acmp (g := (mkF m 2 #[vR a1, vR a2, vU] [(.ref a2), (.ref a1)])) X0 hx rfl rfl rfl (pc0 := 2) (pc' := 7) (same := false) rfl (hb hby d9_2) rfl (decide_eq_false (fun q => hne (Value.ref.inj q))) (by decide) (by decide) ?_
    show Go _ _ _ _ (mkF m 7 _ []) _
    refine XS.aloadN X0.here hx rfl (hb hby d9_7) rfl rfl ?_
    exact kt)
  obtain ⟨T22, X22, e22, st22⟩ := instY X0 hx hZ hown (ov hw 46 rfl) e0 (Ins.self G0) (g := (mkF m 8 #[vR a1, vR a2, vU] [(.ref a2)])) rfl rfl (hb hby d9_8)
  have q23 := fun t (kt : Go p e below T22 (mkF m 15 #[vR a1, vR a2, vU] [(.ref a2)]) t) => q21 t (st22 t (by
    show Go _ _ _ _ (mkF m 11 #[vR a1, vR a2, vU] [(.int 1)]) _
    refine XS.ifNo X22.here hx rfl (hb hby d9_11) rfl ((if0 _ _).trans (feq (by decide : ¬ ((1 : Int32) = (0 : Int32)))).1) ?_
    show Go _ _ _ _ (mkF m 14 _ []) _
    refine XS.aloadN X22.here hx rfl (hb hby d9_14) rfl rfl ?_
    exact kt))
  obtain ⟨T24, X24, e24, st24⟩ := castY X22 hx hZ hown (ov hw 46 rfl) e22 (Ins.self G0) (g := (mkF m 15 #[vR a1, vR a2, vU] [(.ref a2)])) rfl rfl (hb hby d9_15)
  have q25 := fun t (kt : Go p e below T24 (mkF m 19 #[vR a1, vR a2, vR a2] []) t) => q23 t (st24 t (by
    show Go _ _ _ _ (mkF m 18 #[vR a1, vR a2, vU] [(.ref a2)]) _
    refine XS.astoreN X24.here hx rfl (hb hby d9_18) rfl rfl (l' := #[vR a1, vR a2, vR a2]) rfl ?_
    exact kt))
  obtain ⟨T26, X26, e26, st26⟩ := getS2 X24 hx hZ hown (host := "") (Or.inl (ov hw 22 rfl)) Via.refl e24 (cx.1.ext O0.2) (g := (mkF m 19 #[vR a1, vR a2, vR a2] [])) rfl (hb hby d9_19)
  have q27 := fun t (kt : Go p e below T26 (mkF m 26 #[vR a1, vR a2, vR a2] [(.ref a1)]) t) => q25 t (st26 t (by
    show Go _ _ _ _ (mkF m 22 #[vR a1, vR a2, vR a2] [(.int z_cs)]) _
    refine XS.ifNo X26.here hx rfl (hb hby d9_22) rfl ((if0 _ _).trans (feq cx.2.1).1) ?_
    show Go _ _ _ _ (mkF m 25 _ []) _
    refine XS.aloadN X26.here hx rfl (hb hby d9_25) rfl rfl ?_
    exact kt))
  obtain ⟨T28, X28, e28, st28⟩ := getF X26 hx hZ hown (host := "") (Or.inl (ov hw 34 rfl)) Via.refl e26 G1 (g := (mkF m 26 #[vR a1, vR a2, vR a2] [(.ref a1)])) rfl rfl (hb hby d9_26)
  have q29 := fun t (kt : Go p e below T28 (mkF m 30 #[vR a1, vR a2, vR a2] [(.ref a2), (.int 1)]) t) => q27 t (st28 t (by
    show Go _ _ _ _ (mkF m 29 #[vR a1, vR a2, vR a2] [(.int 1)]) _
    refine XS.aloadN X28.here hx rfl (hb hby d9_29) rfl rfl ?_
    exact kt))
  obtain ⟨T30, X30, e30, st30⟩ := getF X28 hx hZ hown (host := "") (Or.inl (ov hw 34 rfl)) Via.refl e28 G2 (g := (mkF m 30 #[vR a1, vR a2, vR a2] [(.ref a2), (.int 1)])) rfl rfl (hb hby d9_30)
  have q31 := fun t (kt : Go p e below T30 (mkF m 55 #[vR a1, vR a2, vR a2] [(.int 0)]) t) => q29 t (st30 t (by
    show Go _ _ _ _ (mkF m 33 #[vR a1, vR a2, vR a2] [(.int 0), (.int 1)]) _
    refine XS.icmpYes X30.here hx rfl (pc0 := 33) (pc' := 54) rfl (hb hby d9_33) rfl (feq (by decide : ¬ ((1 : Int32) = (0 : Int32)))).2 (by decide) (by decide) ?_
    show Go _ _ _ _ (mkF m 54 _ []) _
    refine XS.iconst X30.here hx rfl (hb hby d9_54) ?_
    exact kt))
  exact ⟨some (.int 0), T30, _, _, _, _, X30, by decide, by decide, nofun, q31, fun fs hr => retN X30 hx (t := .boolean) hret (by simp) (hb hby d9_55) hr, by rw [e30]; exact ⟨rfl, N0, rfl⟩⟩
theorem d4_8 : decode jdk_42_method_149_code 8 = .ok (.aload_n 0, 1) := by decide +kernel
theorem d4_9 : decode jdk_42_method_149_code 9 = .ok (.ldc 7, 2) := by decide +kernel
theorem d4_11 : decode jdk_42_method_149_code 11 = .ok (.getfield 9, 3) := by decide +kernel
theorem d4_14 : decode jdk_42_method_149_code 14 = .ok (.putfield 9, 3) := by decide +kernel
theorem d4_17 : decode jdk_42_method_149_code 17 = .ok (.aload_n 0, 1) := by decide +kernel
theorem d4_18 : decode jdk_42_method_149_code 18 = .ok (.ldc 7, 2) := by decide +kernel
theorem d4_20 : decode jdk_42_method_149_code 20 = .ok (.getfield 15, 3) := by decide +kernel
theorem d4_23 : decode jdk_42_method_149_code 23 = .ok (.putfield 15, 3) := by decide +kernel
theorem d4_26 : decode jdk_42_method_149_code 26 = .ok (.return_, 1) := by decide +kernel
def Q_rm4_0 (Z : State) (a1 : Addr) (a2 : Addr) (z_cs : Int32) (h0 : Heap) (n0 : Nat) (v : Option Value) (h : Heap) (L : List Loc) : Prop := ∃ (t : Addr), v = none ∧ Fr n0 L ∧ Keep h0 h [a1] ∧ Str Z h a1 t []
theorem rm4_0 (l : Launch) (Z : State) (a0 : Array Value) (hw : ∀ d ∈ tables_1, d.before a0 Z = true) (ws : List Jvm.Cond) {z_cs : Int32} (cx : Cx Z z_cs) (a1 : Addr) (a2 : Addr) (h0 : Heap) (n0 : Nat) (O0 : Old Z n0 h0) (G0 : Exa Z h0 a1 sk1) (G1 : Fld Z h0 a1 sk1 "value" "[B" .null) (G2 : Fld Z h0 a1 sk1 "coder" "B" (.int 0)) (g_a1 : n0 ≤ a1) :
    MetFree l ym9 (head1 (Jvm.Cond.code ym9 jdk_42_method_149_code 6 none :: ws) (own_R 1 4 8 12)) (fun a U => a = #[(.ref a1), (.ref a2), (.int 0), (.int 0), .null] ∧ Z.Warmed39 U.vm ∧ U.heap = h0 ∧ CHv Z own_EL U.vm h0) (fun _ _ _ _ _ => True) (fun _ U o U' => ∃ v L, o = .returned v ∧ Q_rm4_0 Z a1 a2 z_cs h0 n0 v U'.heap L ∧ CHr Z own_EL U.vm U.heap U'.vm U'.heap ∧ ReturnedEndW U o U' L (own_R 1 4 8 12).cells (own_R 1 4 8 12).slots) := by
  refine MetFree.of_bodySF (plainFor_of_name pn_4) hisR ?_
  intro p e s m args below meth c s₁ Bd hml0 hP hK
  obtain ⟨rfl, hZ, hh, hCH⟩ := hP
  have hx := Bd.exec
  have hby := Bd.bytes
  have hml : c.maxLocals = 6 := hml0
  have hown : s.vm.findClass sk1 = some m.cls := findClass_of_methodNamed Bd.named
  have hnm := (name_of_methodNamed Bd.named Bd.method).1
  have hS0 : s.Since s.vm 0 := (State.WarmedH.refl s).since 0
  have hk0 : 0 ≤ h0.size := Nat.zero_le _
  have hwS : ∀ d ∈ Bundle.stringAtoms, d.before a0 Z = true := fun d hd => hw d ((by decide +kernel : ∀ d ∈ Bundle.stringAtoms, d ∈ tables_1) d hd)
  have X0 : Stand p l e (own_R 1 4 8 12) (s.setVm s.vm) m #[(.ref a1), (.ref a2), (.int 0), (.int 0), .null] below meth c s₁ [] 0 0 := Stand.of_body Bd
  have e0 : s₁.heap = h0 := by rw [← hh, Bd.state]; rfl
  have N0 := Fr.nil n0
  have R0 : CHr Z own_EL s.vm h0 s.vm h0 := CHr.refl hCH
  have hEW : EW Z a0 own_EL := own_EW hw
  have K0 : Keep h0 h0 [a1] := Keep.refl _ _
  have pre0 : ∀ t, Go p e below s₁ (mkF m 0 #[vR a1, vR a2, vI 0, vI 0, vN, vU] []) t → Go p e below s₁ (entryFrame m #[(.ref a1), (.ref a2), (.int 0), (.int 0), .null] 6) t := fun t k => castTop (ef_4_RRIIN m a1 a2 (0 : Int32) (0 : Int32)) k
  have sf_a1 : Safe Z own_EL s.vm h0 a1 := own_safe_null hZ.alike G1 G0
  have q21 := fun t (kt : Go p e below s₁ (mkF m 1 #[vR a1, vR a2, vI 0, vI 0, vN, vU] [(.ref a1)]) t) => pre0 t (by
    show Go _ _ _ _ (mkF m 0 #[vR a1, vR a2, vI 0, vI 0, vN, vU] []) _
    refine XS.aloadN X0.here hx rfl (hb hby d4_0) rfl rfl ?_
    exact kt)
  obtain ⟨T22, X22, e22, st22⟩ := initO X0 hx hZ hown (ov hw 19 rfl) (ov hw 20 rfl) (ov hw 21 rfl) e0 (g := (mkF m 1 #[vR a1, vR a2, vI 0, vI 0, vN, vU] [(.ref a1)])) rfl (by rw [hml]; rfl) rfl (hb hby d4_1) (by decide) (W := 0) own_le0 (by decide)
  have q23 := fun t (kt : Go p e below T22 (mkF m 9 #[vR a1, vR a2, vI 0, vI 0, vN, vU] [(.ref a1)]) t) => q21 t (st22 t (by
    show Go _ _ _ _ (mkF m 4 #[vR a1, vR a2, vI 0, vI 0, vN, vU] []) _
    refine XS.iloadN X22.here hx rfl (hb hby d4_4) rfl ?_
    show Go _ _ _ _ (mkF m 5 _ [(.int 0)]) _
    refine XS.ifNo X22.here hx rfl (hb hby d4_5) rfl ((if0 _ _).trans (teq (rfl : (0 : Int32) = (0 : Int32))).2) ?_
    show Go _ _ _ _ (mkF m 8 _ []) _
    refine XS.aloadN X22.here hx rfl (hb hby d4_8) rfl rfl ?_
    exact kt))
  obtain ⟨b24, T24, h24, k24, tb24, kb24, X24, e24, E24, hS24, hkk24, hZ, hown, lE24, lC24, lV24, lA24, la24, lb24, lR24, lL24, lS24, st24⟩ := ldcCH (vm0 := s.vm) (EL := own_EL) X22 hx hZ hown (ov hw 85 rfl) hwS e22 hS0 hk0 hEW (by decide) R0.1 (vs := []) (z := (0 : Int32)) ⟨by decide, by decide⟩ (by decide) (by decide) (g := (mkF m 9 #[vR a1, vR a2, vI 0, vI 0, vN, vU] [(.ref a1)])) rfl (hb hby d4_9) (n := 0) (by decide) (by decide) (by decide) (by decide)
  have O25 := O0.ext E24
  have sf27 : Safe Z own_EL T24.vm h24 a1 := CHr.safe lR24 G0.lt sf_a1
  have R26 : CHr Z own_EL s.vm h0 T24.vm h24 := R0.trans lR24
  have K28 := K0.ext E24
  have Sr24 : Str Z h24 b24 tb24 ([] : List Int32) := ⟨_, _, _, _, lE24, lV24, lC24, lA24, own_cod (by decide) (by decide), by decide, by decide⟩
  have nl29 := lS24 a1 sf27
  obtain ⟨T30, X30, e30, st30⟩ := getF X24 hx hZ hown (host := "") (Or.inl (ov hw 36 rfl)) Via.refl e24 lV24 (g := (mkF m 11 #[vR a1, vR a2, vI 0, vI 0, vN, vU] [(.ref b24), (.ref a1)])) rfl rfl (hb hby d4_11)
  have f31 := (G0.ext E24)
  have f32 := (G1.ext E24)
  obtain ⟨T33, h33, X33, e33, W33, st33⟩ := putF X30 hx hZ hown (host := "") (Or.inl (ov hw 36 rfl)) Via.refl e30 f32 f31 (Or.inr ⟨(ov hw 37 rfl), rfl, hnm⟩) (ov hw 9 rfl) (ty := (.array .byte)) (by decide) rfl rfl (g := (mkF m 14 #[vR a1, vR a2, vI 0, vI 0, vN, vU] [(.ref tb24), (.ref a1)])) rfl rfl (hb hby d4_14)
  have f34 : Fld Z h33 a1 sk1 "value" "[B" (.ref tb24) := f32.same W33
  have N35 := Fr.snoc X33 N0 g_a1
  have O36 := O25.wr W33 g_a1
  have sf38 : Safe Z own_EL T24.vm h33 a1 := Safe.wr W33 sf27 R26.1 sf27
  have R37 : CHr Z own_EL s.vm h0 T24.vm h33 := R26.trans (CHr.wr W33 sf27 R26.1)
  have hk39 : _ ≤ h33.size := Nat.le_trans hkk24 (Keep.of_wr W33).1
  have K40 := K28.wr W33 (Or.inl (List.mem_of_getElem? (i := 0) rfl))
  have q41 := fun t (kt : Go p e below T33 (mkF m 18 #[vR a1, vR a2, vI 0, vI 0, vN, vU] [(.ref a1)]) t) => q23 t (st24 t (st30 t (st33 t (by
    show Go _ _ _ _ (mkF m 17 #[vR a1, vR a2, vI 0, vI 0, vN, vU] []) _
    refine XS.aloadN X33.here hx rfl (hb hby d4_17) rfl rfl ?_
    exact kt))))
  obtain ⟨b42, T42, h42, k42, tb42, kb42, X42, e42, E42, hS42, hkk42, hZ, hown, lE42, lC42, lV42, lA42, la42, lb42, lR42, lL42, lS42, st42⟩ := ldcCH (vm0 := T24.vm) (EL := own_EL) X33 hx hZ hown (ov hw 85 rfl) hwS e33 hS24 hk39 hEW (by decide) R37.1 (vs := []) (z := (0 : Int32)) ⟨by decide, by decide⟩ (by decide) (by decide) (g := (mkF m 18 #[vR a1, vR a2, vI 0, vI 0, vN, vU] [(.ref a1)])) rfl (hb hby d4_18) (n := 0) (by decide) (by decide) (by decide) (by decide)
  have O43 := O36.ext E42
  have sf45 : Safe Z own_EL T42.vm h42 a1 := CHr.safe lR42 (f31.wr W33).lt sf38
  have R44 : CHr Z own_EL s.vm h0 T42.vm h42 := R37.trans lR42
  have K46 := K40.ext E42
  have Sr42 : Str Z h42 b42 tb42 ([] : List Int32) := ⟨_, _, _, _, lE42, lV42, lC42, lA42, own_cod (by decide) (by decide), by decide, by decide⟩
  have nl47 := lS42 a1 sf45
  obtain ⟨T48, X48, e48, st48⟩ := getF X42 hx hZ hown (host := "") (Or.inl (ov hw 34 rfl)) Via.refl e42 lC42 (g := (mkF m 20 #[vR a1, vR a2, vI 0, vI 0, vN, vU] [(.ref b42), (.ref a1)])) rfl rfl (hb hby d4_20)
  have f49 := ((f31.wr W33).ext E42)
  have f50 := (((G2.ext E24).other W33 (Or.inr (slot_ne (Or.inr (ov hw 35 rfl)) (Or.inr (ov hw 37 rfl)) (by decide) (t := .byte) (t' := (.array .byte)) (by decide) (by decide)))).ext E42)
  obtain ⟨T51, h51, X51, e51, W51, st51⟩ := putFN X48 hx hZ hown (ov hw 34 rfl) Via.refl e48 f50 f49 (Or.inr ⟨(ov hw 35 rfl), rfl, hnm⟩) (ov hw 9 rfl) (ty := .byte) (v' := (.int 0)) (by decide) rfl rfl (g := (mkF m 23 #[vR a1, vR a2, vI 0, vI 0, vN, vU] [(.int 0), (.ref a1)])) rfl rfl (hb hby d4_23)
  have f52 : Fld Z h51 a1 sk1 "coder" "B" (.int 0) := f50.same W51
  have N53 := Fr.snoc X51 N35 g_a1
  have O54 := O43.wr W51 g_a1
  have sf56 : Safe Z own_EL T42.vm h51 a1 := Safe.wr W51 sf45 R44.1 sf45
  have R55 : CHr Z own_EL s.vm h0 T42.vm h51 := R44.trans (CHr.wr W51 sf45 R44.1)
  have hk57 : _ ≤ h51.size := Nat.le_trans hkk42 (Keep.of_wr W51).1
  have K58 := K46.wr W51 (Or.inl (List.mem_of_getElem? (i := 0) rfl))
  have q59 := fun t (kt : Go p e below T51 (mkF m 26 #[vR a1, vR a2, vI 0, vI 0, vN, vU] []) t) => q41 t (st42 t (st48 t (st51 t kt)))
  obtain ⟨fs, hr, hrun, hended, hRE⟩ := X51.leaveW hS42 (by rw [e51]; exact hk57) (v := none) (fun _ => rfl)
  refine ⟨_, _, q59 _ ?_, hrun, hended, _, _, rfl, ?_, ?_, hRE.1, hRE.2.1, hRE.2.2.1, hRE.2.2.2.mono (by decide) (by decide)⟩
  · show Go p e below T51 (mkF m 26 #[vR a1, vR a2, vI 0, vI 0, vN, vU] []) _
    exact X51.returnOut hx Bd.returns (hb hby d4_26) hr
  · show Q_rm4_0 Z a1 a2 z_cs h0 n0 _ T51.heap _
    rw [e51]
    have f60 := (f49.wr W51)
    have f61 := ((f34.ext E42).other W51 (Or.inr (slot_ne (Or.inr (ov hw 37 rfl)) (Or.inr (ov hw 35 rfl)) (by decide) (t := (.array .byte)) (t' := .byte) (by decide) (by decide))))
    have f62 := (((lA24.other W33 (Ne.symm nl29.2)).ext E42).other W51 (Ne.symm nl29.2))
    exact ⟨tb24, rfl, N53, K58, ⟨_, _, _, _, f60, f61, f52, f62, own_cod (by decide) (by decide), by decide, by decide⟩⟩
  · show CHr Z own_EL s.vm s.heap T51.vm T51.heap
    rw [hh, e51]
    exact R55.trans (CHv.at X51 hZ hEW R55.1)
def Q_rm3_0 (Z : State) (a1 : Addr) (a2 : Addr) (ka : ClassId) (z_cs : Int32) (h0 : Heap) (n0 : Nat) (v : Option Value) (h : Heap) (L : List Loc) : Prop := ∃ (t : Addr), v = none ∧ Fr n0 L ∧ Keep h0 h [a1] ∧ Str Z h a1 t []
theorem rm3_0 (l : Launch) (Z : State) (a0 : Array Value) (hw : ∀ d ∈ tables_1, d.before a0 Z = true) (ws : List Jvm.Cond) {z_cs : Int32} (cx : Cx Z z_cs) (a1 : Addr) (a2 : Addr) (ka : ClassId) (h0 : Heap) (n0 : Nat) (O0 : Old Z n0 h0) (G0 : Exa Z h0 a1 sk1) (G1 : Fld Z h0 a1 sk1 "value" "[B" .null) (G2 : Fld Z h0 a1 sk1 "coder" "B" (.int 0)) (V2 : Arv Z h0 a2 ka .char (0 : Int32) [] (.int 0)) (g_a1 : n0 ≤ a1) :
    MetFree l ym10 (head1 (Jvm.Cond.code ym10 jdk_42_method_3_code 2 none :: ws) (own_R 2 4 8 29)) (fun a U => a = #[(.ref a1), (.ref a2)] ∧ Z.Warmed39 U.vm ∧ U.heap = h0 ∧ CHv Z own_EL U.vm h0) (fun _ _ _ _ _ => True) (fun _ U o U' => ∃ v L, o = .returned v ∧ Q_rm3_0 Z a1 a2 ka z_cs h0 n0 v U'.heap L ∧ CHr Z own_EL U.vm U.heap U'.vm U'.heap ∧ ReturnedEndW U o U' L (own_R 2 4 8 29).cells (own_R 2 4 8 29).slots) := by
  refine MetFree.of_bodySF (plainFor_of_name pn_3) hisR ?_
  intro p e s m args below meth c s₁ Bd hml0 hP hK
  obtain ⟨rfl, hZ, hh, hCH⟩ := hP
  have hx := Bd.exec
  have hby := Bd.bytes
  have hml : c.maxLocals = 2 := hml0
  have hown : s.vm.findClass sk1 = some m.cls := findClass_of_methodNamed Bd.named
  have hnm := (name_of_methodNamed Bd.named Bd.method).1
  have hS0 : s.Since s.vm 0 := (State.WarmedH.refl s).since 0
  have hk0 : 0 ≤ h0.size := Nat.zero_le _
  have hwS : ∀ d ∈ Bundle.stringAtoms, d.before a0 Z = true := fun d hd => hw d ((by decide +kernel : ∀ d ∈ Bundle.stringAtoms, d ∈ tables_1) d hd)
  have X0 : Stand p l e (own_R 2 4 8 29) (s.setVm s.vm) m #[(.ref a1), (.ref a2)] below meth c s₁ [] 0 0 := Stand.of_body Bd
  have e0 : s₁.heap = h0 := by rw [← hh, Bd.state]; rfl
  have N0 := Fr.nil n0
  have R0 : CHr Z own_EL s.vm h0 s.vm h0 := CHr.refl hCH
  have hEW : EW Z a0 own_EL := own_EW hw
  have K0 : Keep h0 h0 [a1] := Keep.refl _ _
  have pre0 : ∀ t, Go p e below s₁ (mkF m 0 #[vR a1, vR a2] []) t → Go p e below s₁ (entryFrame m #[(.ref a1), (.ref a2)] 2) t := fun t k => castTop (ef_3_RR m a1 a2) k
  have sf_a1 : Safe Z own_EL s.vm h0 a1 := own_safe_null hZ.alike G1 G0
  have q22 := fun t (kt : Go p e below s₁ (mkF m 4 #[vR a1, vR a2] [(.ref a2), (.int 0), (.ref a2), (.ref a1)]) t) => pre0 t (by
    show Go _ _ _ _ (mkF m 0 #[vR a1, vR a2] []) _
    refine XS.aloadN X0.here hx rfl (hb hby d3_0) rfl rfl ?_
    show Go _ _ _ _ (mkF m 1 _ [(.ref a1)]) _
    refine XS.aloadN X0.here hx rfl (hb hby d3_1) rfl rfl ?_
    show Go _ _ _ _ (mkF m 2 _ [(.ref a2), (.ref a1)]) _
    refine XS.iconst X0.here hx rfl (hb hby d3_2) ?_
    show Go _ _ _ _ (mkF m 3 _ [(.int 0), (.ref a2), (.ref a1)]) _
    refine XS.aloadN X0.here hx rfl (hb hby d3_3) rfl rfl ?_
    exact kt)
  obtain ⟨c21, Ar21, -, S21, N21, -, -⟩ := id V2
  have q23 := fun t (kt : Go p e below s₁ (mkF m 6 #[vR a1, vR a2] [.null, (.int 0), (.int 0), (.ref a2), (.ref a1)]) t) => q22 t (by
    show Go _ _ _ _ (mkF m 4 #[vR a1, vR a2] [(.ref a2), (.int 0), (.ref a2), (.ref a1)]) _
    refine X0.arraylength hx (by rw [e0]; exact Ar21.1) (State.isArrayOf_alike hZ.alike Ar21.2.1) (g := (mkF m 4 #[vR a1, vR a2] [(.ref a2), (.int 0), (.ref a2), (.ref a1)])) rfl rfl (hb hby d3_4) _ ?_
    rw [len_of S21 N21]
    show Go _ _ _ _ (mkF m 5 _ [(.int 0), (.int 0), (.ref a2), (.ref a1)]) _
    refine XS.aconstNull X0.here hx rfl (hb hby d3_5) ?_
    exact kt)
  obtain ⟨_, _, ⟨T24, L24, k24, n24⟩, -, X24, hSn24, hgn24, ⟨_, hQ24, l24, y24, z24, cR24⟩, st24⟩ := X0.specialBackS hx (y := ym9) rfl hown (ow hZ hw 15 rfl) (ow hZ hw 16 rfl) (ow hZ hw 18 rfl) (by decide) (backOfSH (EL := own_EL) (vm0 := s.vm) (W := 0) (rm4_0 l Z a0 hw [] cx a1 a2 h0 n0 O0 G0 G1 G2 g_a1) hZ (ov hw 18 rfl) (ov hw 10 rfl) (by decide) (by decide) hEW R0.1) (g := (mkF m 6 #[vR a1, vR a2] [.null, (.int 0), (.int 0), (.ref a2), (.ref a1)])) rfl (by rw [hml]; rfl) (Steps.refl _) (a := a1) (argsL := [(.ref a2), (.int 0), (.int 0), .null]) (rest := []) (lenOf pd_7 rfl) rfl own_le0 (hb hby d3_6) (fun _ _ => ⟨rfl, e0, (by decide : 0 + 4 ≤ _), (by decide : 0 + 8 ≤ _)⟩)
  dsimp only [Pt.U, Pt.locs, Pt.cells, Pt.slots] at X24 l24 y24 z24 st24 hQ24 hSn24 hgn24 cR24
  subst l24 y24 z24
  have hS24 := foldS (vm0 := s.vm) hS0 (by rw [e0]; exact hk0) hSn24 hgn24
  have hZ : Z.Warmed39 (s.setVm T24.vm).vm := State.Warmed39.trans (t := s.setVm s.vm) hZ hSn24.1
  have hown : (s.setVm T24.vm).vm.findClass sk1 = some m.cls := by
    show T24.vm.findClass _ = _
    rw [hSn24.1.alike.findClass]; exact hown
  have X24 : Stand p l e (own_R 2 4 8 29) (s.setVm T24.vm) m #[(.ref a1), (.ref a2)] below meth c T24 _ _ _ := X24
  have hkk24 : T24.heap.size ≤ T24.heap.size := Nat.le_refl _
  obtain ⟨t_24, rfl, Nq24, Kq24, fq24_0⟩ := hQ24
  have N25 := Fr.app N0 Nq24
  have O26 := O0.keep Kq24 (allS g_a1 all0)
  have sf28 : Safe Z own_EL T24.vm T24.heap a1 := CHr.safe cR24 G0.lt sf_a1
  have R27 : CHr Z own_EL s.vm h0 T24.vm T24.heap := R0.trans cR24
  have K29 := K0.trans Kq24 (allS (Or.inl (List.mem_of_getElem? (i := 0) rfl)) all0)
  have q30 := fun t (kt : Go p e below T24 (mkF m 9 #[vR a1, vR a2] []) t) => q23 t (st24.trans kt)
  obtain ⟨fs, hr, hrun, hended, hRE⟩ := X24.leaveW hS24 hkk24 (v := none) (fun _ => rfl)
  refine ⟨_, _, q30 _ ?_, hrun, hended, _, _, rfl, ?_, ?_, hRE.1, hRE.2.1, hRE.2.2.1, hRE.2.2.2.mono (by decide) (by decide)⟩
  · show Go p e below T24 (mkF m 9 #[vR a1, vR a2] []) _
    exact X24.returnOut hx Bd.returns (hb hby d3_9) hr
  · show Q_rm3_0 Z a1 a2 ka z_cs h0 n0 _ T24.heap _
    exact ⟨t_24, rfl, N25, K29, fq24_0⟩
  · show CHr Z own_EL s.vm s.heap T24.vm T24.heap
    rw [hh]
    exact R27.trans (CHv.at X24 hZ hEW R27.1)
theorem ef_2_N (m : MethodId) : entryFrame m #[.null] 1 = mkF m 0 #[.val .null] [] := by first | (simp [entryFrame, mkF, argsToLocals, Value.category]; done) | rfl
theorem pn_2 : plainName "com/example/vouchsafe/passport/PassportHeader" = true := by first | (simp [plainName, overriddenIn]; done) | decide +kernel
theorem d2_0 : decode prog_34_method_2_code 0 = .ok (.aload_n 0, 1) := by decide +kernel
theorem d2_1 : decode prog_34_method_2_code 1 = .ok (.ifnull 12, 3) := by decide +kernel
theorem d2_13 : decode prog_34_method_2_code 13 = .ok (.iconst 1, 1) := by decide +kernel
theorem d2_14 : decode prog_34_method_2_code 14 = .ok (.goto 4, 3) := by decide +kernel
theorem d2_18 : decode prog_34_method_2_code 18 = .ok (.ireturn, 1) := by decide +kernel
def Q_rm2n (Z : State) (z_cs : Int32) (h0 : Heap) (n0 : Nat) (v : Option Value) (h : Heap) (L : List Loc) : Prop := v = some (.int 1) ∧ Fr n0 L ∧ h = h0
theorem rm2n (l : Launch) (Z : State) (a0 : Array Value) (hw : ∀ d ∈ tables_1, d.before a0 Z = true) (ws : List Jvm.Cond) {z_cs : Int32} (cx : Cx Z z_cs) (h0 : Heap) (n0 : Nat) (O0 : Old Z n0 h0) :
    OwnMet l ym17 (Jvm.Cond.code ym17 prog_34_method_2_code 1 (some .boolean) :: ws) (own_R 0 0 0 0) #[.null] Z h0 (Q_rm2n Z  z_cs h0 n0) := by
  refine own_body (plainFor_of_name pn_2) hisR fun p e s m below meth c s₁ hx hby hml hown hnm hret hZ X0 e0 => ?_
  have N0 := Fr.nil n0
  have pre0 : ∀ t, Go p e below s₁ (mkF m 0 #[vN] []) t → Go p e below s₁ (entryFrame m #[.null] 1) t := fun t k => castTop (ef_2_N m ) k
  have q21 := fun t (kt : Go p e below s₁ (mkF m 18 #[vN] [(.int 1)]) t) => pre0 t (by
    show Go _ _ _ _ (mkF m 0 #[vN] []) _
    refine XS.aloadN X0.here hx rfl (hb hby d2_0) rfl rfl ?_
    show Go _ _ _ _ (mkF m 1 _ [.null]) _
    refine XS.ifnullYes X0.here hx rfl (pc0 := 1) (pc' := 13) rfl (hb hby d2_1) rfl (by decide) (by decide) ?_
    show Go _ _ _ _ (mkF m 13 _ []) _
    refine XS.iconst X0.here hx rfl (hb hby d2_13) ?_
    show Go _ _ _ _ (mkF m 14 _ [(.int 1)]) _
    refine XS.goto X0.here hx rfl (pc0 := 14) (pc' := 18) rfl (hb hby d2_14) (by decide) (by decide) ?_
    exact kt)
  exact ⟨some (.int 1), s₁, _, _, _, _, X0, by decide, by decide, nofun, q21, fun fs hr => retN X0 hx (t := .boolean) hret (by simp) (hb hby d2_18) hr, by rw [e0]; exact ⟨rfl, N0, rfl⟩⟩
theorem ef_2_R (m : MethodId) (x0 : Addr) : entryFrame m #[(.ref x0)] 1 = mkF m 0 #[.val (.ref x0)] [] := by first | (simp [entryFrame, mkF, argsToLocals, Value.category]; done) | rfl
theorem d2_4 : decode prog_34_method_2_code 4 = .ok (.aload_n 0, 1) := by decide +kernel
theorem d2_5 : decode prog_34_method_2_code 5 = .ok (.ldc 9, 2) := by decide +kernel
theorem d2_7 : decode prog_34_method_2_code 7 = .ok (.invokevirtual 11, 3) := by decide +kernel
theorem pd_11 : parseMethodDescriptor "(Ljava/lang/Object;)Z" = some ⟨[(.object "java/lang/Object")], some .boolean⟩ := by decide +kernel
theorem d2_10 : decode prog_34_method_2_code 10 = .ok (.ifCond .eq 7, 3) := by decide +kernel
theorem d2_17 : decode prog_34_method_2_code 17 = .ok (.iconst 0, 1) := by decide +kernel
def Q_rm2s (Z : State) (a1 : Addr) (t1 : Addr) (cs1 : List Int32) (z_cs : Int32) (h0 : Heap) (n0 : Nat) (v : Option Value) (h : Heap) (L : List Loc) : Prop := v = some (.int (own_sh cs1)) ∧ Fr n0 L ∧ Keep h0 h []
theorem rm2s (l : Launch) (Z : State) (a0 : Array Value) (hw : ∀ d ∈ tables_1, d.before a0 Z = true) (ws : List Jvm.Cond) {z_cs : Int32} (cx : Cx Z z_cs) (a1 : Addr) (t1 : Addr) (cs1 : List Int32) (h0 : Heap) (n0 : Nat) (O0 : Old Z n0 h0) (S1 : Str Z h0 a1 t1 cs1) :
    MetFree l ym17 (head1 (Jvm.Cond.code ym17 prog_34_method_2_code 1 (some .boolean) :: ws) (own_R 2 2 28 28)) (fun a U => a = #[(.ref a1)] ∧ Z.Warmed39 U.vm ∧ U.heap = h0 ∧ CHv Z own_EL U.vm h0) (fun _ _ _ _ _ => True) (fun _ U o U' => ∃ v L, o = .returned v ∧ Q_rm2s Z a1 t1 cs1 z_cs h0 n0 v U'.heap L ∧ CHr Z own_EL U.vm U.heap U'.vm U'.heap ∧ ReturnedEndW U o U' L (own_R 2 2 28 28).cells (own_R 2 2 28 28).slots) := by
  refine MetFree.of_bodySF (plainFor_of_name pn_2) hisR ?_
  intro p e s m args below meth c s₁ Bd hml0 hP hK
  obtain ⟨rfl, hZ, hh, hCH⟩ := hP
  have hx := Bd.exec
  have hby := Bd.bytes
  have hml : c.maxLocals = 1 := hml0
  have hown : s.vm.findClass "com/example/vouchsafe/passport/PassportHeader" = some m.cls := findClass_of_methodNamed Bd.named
  have hnm := (name_of_methodNamed Bd.named Bd.method).1
  have hS0 : s.Since s.vm 0 := (State.WarmedH.refl s).since 0
  have hk0 : 0 ≤ h0.size := Nat.zero_le _
  have hwS : ∀ d ∈ Bundle.stringAtoms, d.before a0 Z = true := fun d hd => hw d ((by decide +kernel : ∀ d ∈ Bundle.stringAtoms, d ∈ tables_1) d hd)
  have X0 : Stand p l e (own_R 2 2 28 28) (s.setVm s.vm) m #[(.ref a1)] below meth c s₁ [] 0 0 := Stand.of_body Bd
  have e0 : s₁.heap = h0 := by rw [← hh, Bd.state]; rfl
  have N0 := Fr.nil n0
  have R0 : CHr Z own_EL s.vm h0 s.vm h0 := CHr.refl hCH
  have hEW : EW Z a0 own_EL := own_EW hw
  have K0 : Keep h0 h0 [] := Keep.refl _ _
  have pre0 : ∀ t, Go p e below s₁ (mkF m 0 #[vR a1] []) t → Go p e below s₁ (entryFrame m #[(.ref a1)] 1) t := fun t k => castTop (ef_2_R m a1) k
  have q21 := fun t (kt : Go p e below s₁ (mkF m 5 #[vR a1] [(.ref a1)]) t) => pre0 t (by
    show Go _ _ _ _ (mkF m 0 #[vR a1] []) _
    refine XS.aloadN X0.here hx rfl (hb hby d2_0) rfl rfl ?_
    show Go _ _ _ _ (mkF m 1 _ [(.ref a1)]) _
    refine XS.ifnullNo X0.here hx rfl (hb hby d2_1) rfl ?_
    show Go _ _ _ _ (mkF m 4 _ []) _
    refine XS.aloadN X0.here hx rfl (hb hby d2_4) rfl rfl ?_
    exact kt)
  obtain ⟨b22, T22, h22, k22, tb22, kb22, X22, e22, E22, hS22, hkk22, hZ, hown, lE22, lC22, lV22, lA22, la22, lb22, lR22, lL22, lS22, st22⟩ := ldcCH (vm0 := s.vm) (EL := own_EL) X0 hx hZ hown (ov hw 38 rfl) hwS e0 hS0 hk0 hEW (by decide) R0.1 (vs := [(.int 115), (.int 104), (.int 97), (.int 107), (.int 101), (.int 110)]) (z := (6 : Int32)) ⟨by decide, by decide⟩ (by decide) (by decide) (g := (mkF m 5 #[vR a1] [(.ref a1)])) rfl (hb hby d2_5) (n := 24) (by decide) (by decide) (by decide) (by decide)
  have O23 := O0.ext E22
  have R24 : CHr Z own_EL s.vm h0 T22.vm h22 := R0.trans lR22
  have K25 := K0.ext E22
  have Sr22 : Str Z h22 b22 tb22 ([(115 : Int32), (104 : Int32), (97 : Int32), (107 : Int32), (101 : Int32), (110 : Int32)] : List Int32) := ⟨_, _, _, _, lE22, lV22, lC22, lA22, own_cod (by decide) (by decide), by decide, by decide⟩
  have hsw26 : ∀ d ∈ StrChars.Road.wordsEq, d.before a0 Z = true := fun d hd => hw d ((by decide +kernel : ∀ d ∈ StrChars.Road.wordsEq, d ∈ tables_1) d hd)
  have f28 := (S1.ext E22)
  obtain ⟨kb27, cd27, nb27, vb27, sE27, sV27, sC27, sK27, sD27, sB27, sL27⟩ := id f28
  obtain ⟨kb29, cd29, nb29, vb29, sE29, sV29, sC29, sK29, sD29, sB29, sL29⟩ := id Sr22
  have f32 := (S1.exa.ext E22)
  obtain ⟨cq31, kq31, q31a, q31b, q31c⟩ := isOf hZ e22 f32
  obtain ⟨_, _, ⟨T30, L30, k30, n30⟩, -, X30, ⟨_, hQ30, l30, y30, z30⟩, st30⟩ := X22.virtualBack hx (y := ym16) (z := ym16) hown (ow hZ hw 41 rfl) (ow hZ hw 42 rfl) (notFace_of_selects (args := #[]) (ow hZ hw 44 rfl)) (ow hZ hw 44 rfl) (ow hZ hw 43 rfl) (by decide) (StrChars.Road.eqW (W := 0) hZ hsw26 (kI := 4) (ov hw 9 rfl) sE27 sV27 sC27 sK27 sD27 sB27 sL27 sE29 sV29 sC29 sK29 sD29 sB29 sL29 (cx.1.ext O23.2) cx.2.1 (by decide) (by decide)) q31a q31c (g := (mkF m 7 #[vR a1] [(.ref b22), (.ref a1)])) rfl (by rw [hml]; rfl) (Steps.refl _) (argsL := [(.ref b22)]) (rest := []) (lenOf pd_11 rfl) rfl own_le0 (hb hby d2_7) (fun _ _ => ⟨rfl, e22, (by decide : 2 + 0 ≤ _), (by decide : 28 + 0 ≤ _)⟩)
  dsimp only [Pt.U, Pt.locs, Pt.cells, Pt.slots] at X30 l30 y30 z30 st30 hQ30
  subst l30 y30 z30
  obtain ⟨hcase30, rfl, eq30⟩ := hQ30
  try rw [List.append_nil] at X30
  rcases hcase30 with ⟨rfl, hce30⟩ | ⟨rfl, hce30⟩
  · skip
    have q33 := fun t (kt : Go p e below T30 (mkF m 18 #[vR a1] [(.int 1)]) t) => q21 t (st22 t (st30.trans (by
      show Go _ _ _ _ (mkF m 10 #[vR a1] [(.int 1)]) _
      refine XS.ifNo X30.here hx rfl (hb hby d2_10) rfl ((if0 _ _).trans (feq (by decide : ¬ ((1 : Int32) = (0 : Int32)))).1) ?_
      show Go _ _ _ _ (mkF m 13 _ []) _
      refine XS.iconst X30.here hx rfl (hb hby d2_13) ?_
      show Go _ _ _ _ (mkF m 14 _ [(.int 1)]) _
      refine XS.goto X30.here hx rfl (pc0 := 14) (pc' := 18) rfl (hb hby d2_14) (by decide) (by decide) ?_
      exact kt)))
    obtain ⟨fs, hr, hrun, hended, hRE⟩ := X30.leaveW hS22 (by rw [eq30]; exact hkk22) (v := some (.int 1)) (fun h => by rw [Bd.returns] at h; cases h)
    refine ⟨_, _, q33 _ ?_, hrun, hended, _, _, rfl, ?_, ?_, hRE.1, hRE.2.1, hRE.2.2.1, hRE.2.2.2.mono (by decide) (by decide)⟩
    · show Go p e below T30 (mkF m 18 #[vR a1] [(.int 1)]) _
      exact retN X30 hx (t := .boolean) Bd.returns (by simp) (hb hby d2_18) hr
    · show Q_rm2s Z a1 t1 cs1 z_cs h0 n0 _ T30.heap _
      rw [eq30]
      exact ⟨(by simp [own_sh, hce30]), N0, K25⟩
    · show CHr Z own_EL s.vm s.heap T30.vm T30.heap
      rw [hh, eq30]
      exact R24.trans (CHv.at X30 hZ hEW R24.1)
  · skip
    have q34 := fun t (kt : Go p e below T30 (mkF m 18 #[vR a1] [(.int 0)]) t) => q21 t (st22 t (st30.trans (by
      show Go _ _ _ _ (mkF m 10 #[vR a1] [(.int 0)]) _
      refine XS.ifYes X30.here hx rfl (pc0 := 10) (pc' := 17) rfl (hb hby d2_10) rfl ((if0 _ _).trans (teq (rfl : (0 : Int32) = (0 : Int32))).1) (by decide) (by decide) ?_
      show Go _ _ _ _ (mkF m 17 _ []) _
      refine XS.iconst X30.here hx rfl (hb hby d2_17) ?_
      exact kt)))
    obtain ⟨fs, hr, hrun, hended, hRE⟩ := X30.leaveW hS22 (by rw [eq30]; exact hkk22) (v := some (.int 0)) (fun h => by rw [Bd.returns] at h; cases h)
    refine ⟨_, _, q34 _ ?_, hrun, hended, _, _, rfl, ?_, ?_, hRE.1, hRE.2.1, hRE.2.2.1, hRE.2.2.2.mono (by decide) (by decide)⟩
    · show Go p e below T30 (mkF m 18 #[vR a1] [(.int 0)]) _
      exact retN X30 hx (t := .boolean) Bd.returns (by simp) (hb hby d2_18) hr
    · show Q_rm2s Z a1 t1 cs1 z_cs h0 n0 _ T30.heap _
      rw [eq30]
      exact ⟨(by simp [own_sh, hce30]), N0, K25⟩
    · show CHr Z own_EL s.vm s.heap T30.vm T30.heap
      rw [hh, eq30]
      exact R24.trans (CHv.at X30 hZ hEW R24.1)
def Q_rm2u (Z : State) (a1 : Addr) (z_cs : Int32) (h0 : Heap) (n0 : Nat) (v : Option Value) (h : Heap) (L : List Loc) : Prop := v = some (.int 0) ∧ Fr n0 L ∧ Keep h0 h []
theorem rm2u (l : Launch) (Z : State) (a0 : Array Value) (hw : ∀ d ∈ tables_1, d.before a0 Z = true) (ws : List Jvm.Cond) {z_cs : Int32} (cx : Cx Z z_cs) (a1 : Addr) (h0 : Heap) (n0 : Nat) (O0 : Old Z n0 h0) (G0 : Exa Z h0 a1 sk1) (G1 : Fld Z h0 a1 sk1 "coder" "B" (.int 1)) :
    MetFree l ym17 (head1 (Jvm.Cond.code ym17 prog_34_method_2_code 1 (some .boolean) :: ws) (own_R 1 2 28 14)) (fun a U => a = #[(.ref a1)] ∧ Z.Warmed39 U.vm ∧ U.heap = h0 ∧ CHv Z own_EL U.vm h0) (fun _ _ _ _ _ => True) (fun _ U o U' => ∃ v L, o = .returned v ∧ Q_rm2u Z a1 z_cs h0 n0 v U'.heap L ∧ CHr Z own_EL U.vm U.heap U'.vm U'.heap ∧ ReturnedEndW U o U' L (own_R 1 2 28 14).cells (own_R 1 2 28 14).slots) := by
  refine MetFree.of_bodySF (plainFor_of_name pn_2) hisR ?_
  intro p e s m args below meth c s₁ Bd hml0 hP hK
  obtain ⟨rfl, hZ, hh, hCH⟩ := hP
  have hx := Bd.exec
  have hby := Bd.bytes
  have hml : c.maxLocals = 1 := hml0
  have hown : s.vm.findClass "com/example/vouchsafe/passport/PassportHeader" = some m.cls := findClass_of_methodNamed Bd.named
  have hnm := (name_of_methodNamed Bd.named Bd.method).1
  have hS0 : s.Since s.vm 0 := (State.WarmedH.refl s).since 0
  have hk0 : 0 ≤ h0.size := Nat.zero_le _
  have hwS : ∀ d ∈ Bundle.stringAtoms, d.before a0 Z = true := fun d hd => hw d ((by decide +kernel : ∀ d ∈ Bundle.stringAtoms, d ∈ tables_1) d hd)
  have X0 : Stand p l e (own_R 1 2 28 14) (s.setVm s.vm) m #[(.ref a1)] below meth c s₁ [] 0 0 := Stand.of_body Bd
  have e0 : s₁.heap = h0 := by rw [← hh, Bd.state]; rfl
  have N0 := Fr.nil n0
  have R0 : CHr Z own_EL s.vm h0 s.vm h0 := CHr.refl hCH
  have hEW : EW Z a0 own_EL := own_EW hw
  have K0 : Keep h0 h0 [] := Keep.refl _ _
  have pre0 : ∀ t, Go p e below s₁ (mkF m 0 #[vR a1] []) t → Go p e below s₁ (entryFrame m #[(.ref a1)] 1) t := fun t k => castTop (ef_2_R m a1) k
  have q21 := fun t (kt : Go p e below s₁ (mkF m 5 #[vR a1] [(.ref a1)]) t) => pre0 t (by
    show Go _ _ _ _ (mkF m 0 #[vR a1] []) _
    refine XS.aloadN X0.here hx rfl (hb hby d2_0) rfl rfl ?_
    show Go _ _ _ _ (mkF m 1 _ [(.ref a1)]) _
    refine XS.ifnullNo X0.here hx rfl (hb hby d2_1) rfl ?_
    show Go _ _ _ _ (mkF m 4 _ []) _
    refine XS.aloadN X0.here hx rfl (hb hby d2_4) rfl rfl ?_
    exact kt)
  obtain ⟨b22, T22, h22, k22, tb22, kb22, X22, e22, E22, hS22, hkk22, hZ, hown, lE22, lC22, lV22, lA22, la22, lb22, lR22, lL22, lS22, st22⟩ := ldcCH (vm0 := s.vm) (EL := own_EL) X0 hx hZ hown (ov hw 38 rfl) hwS e0 hS0 hk0 hEW (by decide) R0.1 (vs := [(.int 115), (.int 104), (.int 97), (.int 107), (.int 101), (.int 110)]) (z := (6 : Int32)) ⟨by decide, by decide⟩ (by decide) (by decide) (g := (mkF m 5 #[vR a1] [(.ref a1)])) rfl (hb hby d2_5) (n := 24) (by decide) (by decide) (by decide) (by decide)
  have O23 := O0.ext E22
  have R24 : CHr Z own_EL s.vm h0 T22.vm h22 := R0.trans lR22
  have K25 := K0.ext E22
  have Sr22 : Str Z h22 b22 tb22 ([(115 : Int32), (104 : Int32), (97 : Int32), (107 : Int32), (101 : Int32), (110 : Int32)] : List Int32) := ⟨_, _, _, _, lE22, lV22, lC22, lA22, own_cod (by decide) (by decide), by decide, by decide⟩
  have f26 := (G1.ext E22)
  have f29 := (G0.ext E22)
  obtain ⟨cq28, kq28, q28a, q28b, q28c⟩ := isOf hZ e22 f29
  obtain ⟨_, _, ⟨T27, L27, k27, n27⟩, -, X27, ⟨_, hQ27, l27, y27, z27⟩, st27⟩ := X22.virtualBack hx (y := ym16) (z := ym16) hown (ow hZ hw 41 rfl) (ow hZ hw 42 rfl) (notFace_of_selects (args := #[]) (ow hZ hw 44 rfl)) (ow hZ hw 44 rfl) (ow hZ hw 43 rfl) (by decide) (backOf (W := 0) (rm9 l Z a0 hw [] cx a1 b22 h22 n0 O23 lE22 f26 lC22 (Fld.ne f26 lC22 (by decide))) hZ (ov hw 45 rfl) (ov hw 10 rfl) (by decide) (by decide)) q28a q28c (g := (mkF m 7 #[vR a1] [(.ref b22), (.ref a1)])) rfl (by rw [hml]; rfl) (Steps.refl _) (argsL := [(.ref b22)]) (rest := []) (lenOf pd_11 rfl) rfl own_le0 (hb hby d2_7) (fun _ _ => ⟨rfl, e22, (by decide : 2 + 0 ≤ _), (by decide : 28 + 0 ≤ _)⟩)
  dsimp only [Pt.U, Pt.locs, Pt.cells, Pt.slots] at X27 l27 y27 z27 st27 hQ27
  subst l27 y27 z27
  obtain ⟨rfl, Nq27, eq27⟩ := hQ27
  have N30 := Fr.app N0 Nq27
  have q31 := fun t (kt : Go p e below T27 (mkF m 18 #[vR a1] [(.int 0)]) t) => q21 t (st22 t (st27.trans (by
    show Go _ _ _ _ (mkF m 10 #[vR a1] [(.int 0)]) _
    refine XS.ifYes X27.here hx rfl (pc0 := 10) (pc' := 17) rfl (hb hby d2_10) rfl ((if0 _ _).trans (teq (rfl : (0 : Int32) = (0 : Int32))).1) (by decide) (by decide) ?_
    show Go _ _ _ _ (mkF m 17 _ []) _
    refine XS.iconst X27.here hx rfl (hb hby d2_17) ?_
    exact kt)))
  obtain ⟨fs, hr, hrun, hended, hRE⟩ := X27.leaveW hS22 (by rw [eq27]; exact hkk22) (v := some (.int 0)) (fun h => by rw [Bd.returns] at h; cases h)
  refine ⟨_, _, q31 _ ?_, hrun, hended, _, _, rfl, ?_, ?_, hRE.1, hRE.2.1, hRE.2.2.1, hRE.2.2.2.mono (by decide) (by decide)⟩
  · show Go p e below T27 (mkF m 18 #[vR a1] [(.int 0)]) _
    exact retN X27 hx (t := .boolean) Bd.returns (by simp) (hb hby d2_18) hr
  · show Q_rm2u Z a1 z_cs h0 n0 _ T27.heap _
    rw [eq27]
    exact ⟨rfl, N30, K25⟩
  · show CHr Z own_EL s.vm s.heap T27.vm T27.heap
    rw [hh, eq27]
    exact R24.trans (CHv.at X27 hZ hEW R24.1)
theorem ef_0_IJJ (m : MethodId) (x0 : Int32) (x1 : Int64) (x2 : Int64) : entryFrame m #[(.int x0), (.long x1), (.long x2)] maxLocals = mkF m 0 #[.val (.int x0), .val (.long x1), .second, .val (.long x2), .second, .unset, .unset, .unset, .unset, .unset, .unset, .unset, .unset, .unset, .unset, .unset] [] := by first | (simp [entryFrame, mkF, argsToLocals, Value.category, maxLocals]; done) | rfl
theorem pn_0 : plainName "com/example/vouchsafe/passport/PassportHeaderSupportsPinLawPinLaw" = true := by first | (simp [plainName, overriddenIn]; done) | decide +kernel
theorem pd_12 : parseMethodDescriptor "(IICJI)C" = some ⟨[.int, .int, .char, .long, .int], some .char⟩ := by decide +kernel
theorem pd_13 : parseMethodDescriptor "(Ljava/lang/String;)Z" = some ⟨[(.object "java/lang/String")], some .boolean⟩ := by decide +kernel
theorem pd_14 : parseMethodDescriptor "([C)V" = some ⟨[(.array .char)], none⟩ := by decide +kernel
theorem pd_15 : parseMethodDescriptor "(C)Ljava/lang/String;" = some ⟨[.char], some (.object "java/lang/String")⟩ := by decide +kernel
def Q_rm0 (Z : State) (p1 : Int32) (q2 : Int64) (q3 : Int64) (z_cs : Int32) (h0 : Heap) (n0 : Nat) (v : Option Value) (h : Heap) (L : List Loc) : Prop := v = some (.int 1) ∧ Fr n0 L
theorem rm0 (l : Launch) (Z : State) (a0 : Array Value) (hw : ∀ d ∈ tables_1, d.before a0 Z = true) (ws : List Jvm.Cond) {z_cs : Int32} (cx : Cx Z z_cs) (p1 : Int32) (q2 : Int64) (q3 : Int64) (h0 : Heap) (n0 : Nat) (O0 : Old Z n0 h0) :
    MetFree l x (head1 (Jvm.Cond.code x code maxLocals ret :: ws) room_1) (fun a U => a = #[(.int p1), (.long q2), (.long q3)] ∧ Z.Warmed39 U.vm ∧ U.heap = h0 ∧ CHv Z own_EL U.vm h0) (fun _ _ _ _ _ => True) (fun _ U o U' => ∃ v L, o = .returned v ∧ Q_rm0 Z p1 q2 q3 z_cs h0 n0 v U'.heap L ∧ CHr Z own_EL U.vm U.heap U'.vm U'.heap ∧ ReturnedEndW U o U' L room_1.cells room_1.slots) := by
  refine MetFree.of_bodySF (plainFor_of_name pn_0) hisR ?_
  intro p e s m args below meth c s₁ Bd hml0 hP hK
  obtain ⟨rfl, hZ, hh, hCH⟩ := hP
  have hx := Bd.exec
  have hby := Bd.bytes
  have hml : c.maxLocals = 16 := hml0
  have hown : s.vm.findClass sk0 = some m.cls := findClass_of_methodNamed Bd.named
  have hnm := (name_of_methodNamed Bd.named Bd.method).1
  have hS0 : s.Since s.vm 0 := (State.WarmedH.refl s).since 0
  have hk0 : 0 ≤ h0.size := Nat.zero_le _
  have hwS : ∀ d ∈ Bundle.stringAtoms, d.before a0 Z = true := fun d hd => hw d ((by decide +kernel : ∀ d ∈ Bundle.stringAtoms, d ∈ tables_1) d hd)
  have X0 : Stand p l e room_1 (s.setVm s.vm) m #[(.int p1), (.long q2), (.long q3)] below meth c s₁ [] 0 0 := Stand.of_body Bd
  have e0 : s₁.heap = h0 := by rw [← hh, Bd.state]; rfl
  have N0 := Fr.nil n0
  have R0 : CHr Z own_EL s.vm h0 s.vm h0 := CHr.refl hCH
  have hEW : EW Z a0 own_EL := own_EW hw
  have pre0 : ∀ t, Go p e below s₁ (mkF m 0 #[vI p1, vJ q2, vS, vJ q3, vS, vU, vU, vU, vU, vU, vU, vU, vU, vU, vU, vU] []) t → Go p e below s₁ (entryFrame m #[(.int p1), (.long q2), (.long q3)] maxLocals) t := fun t k => castTop (ef_0_IJJ m p1 q2 q3) k
  have q21 := fun t (kt : Go p e below s₁ (mkF m 6 #[vI p1, vJ q2, vS, vJ q3, vS, vU, vU, vU, vU, vU, vU, vU, vU, vU, vU, vU] [(.int 0), (.long q2), (.int 115), (.int 0), (.int p1)]) t) => pre0 t (by
    show Go _ _ _ _ (mkF m 0 #[vI p1, vJ q2, vS, vJ q3, vS, vU, vU, vU, vU, vU, vU, vU, vU, vU, vU, vU] []) _
    refine XS.iloadN X0.here hx rfl (hb hby at_0) rfl ?_
    show Go _ _ _ _ (mkF m 1 _ [(.int p1)]) _
    refine XS.iconst X0.here hx rfl (hb hby at_1) ?_
    show Go _ _ _ _ (mkF m 2 _ [(.int 0), (.int p1)]) _
    refine XS.bipush X0.here hx rfl (hb hby at_2) ?_
    show Go _ _ _ _ (mkF m 4 _ [(.int 115), (.int 0), (.int p1)]) _
    refine XS.lloadN X0.here hx rfl (hb hby at_4) rfl ?_
    show Go _ _ _ _ (mkF m 5 _ [(.long q2), (.int 115), (.int 0), (.int p1)]) _
    refine XS.iconst X0.here hx rfl (hb hby at_5) ?_
    exact kt)
  obtain ⟨_, _, ⟨T22, L22, k22, n22⟩, -, X22, ⟨_, hQ22, l22, y22, z22⟩, st22⟩ := Jvm.LawKit.callS X0 hx (y := ym0) hown (ow hZ hw 0 rfl) (ow hZ hw 1 rfl) (ow hZ hw 2 rfl) (ow hZ hw 3 rfl) (by decide) (backOf (W := 0) (rm1 l Z a0 hw [] cx p1 (0 : Int32) (115 : Int32) q2 (0 : Int32) h0 n0 O0 (by decide)) hZ (ov hw 3 rfl) (ov hw 2 rfl) (by decide) (by decide)) (g := (mkF m 6 #[vI p1, vJ q2, vS, vJ q3, vS, vU, vU, vU, vU, vU, vU, vU, vU, vU, vU, vU] [(.int 0), (.long q2), (.int 115), (.int 0), (.int p1)])) rfl (by rw [hml]; rfl) (argsL := [(.int p1), (.int 0), (.int 115), (.long q2), (.int 0)]) (rest := []) (lenOf pd_12 rfl) rfl own_le0 (hb hby at_6) (fun _ _ => ⟨rfl, e0, (by decide : 0 + 0 ≤ _), (by decide : 0 + 0 ≤ _)⟩)
  dsimp only [Pt.U, Pt.locs, Pt.cells, Pt.slots] at X22 l22 y22 z22 st22 hQ22
  subst l22 y22 z22
  obtain ⟨r_22, rfl, Nq22, eq22, pq22_0⟩ := hQ22
  have N23 := Fr.app N0 Nq22
  have q24 := fun t (kt : Go p e below T22 (mkF m 18 #[vI p1, vJ q2, vS, vJ q3, vS, vI r_22, vU, vU, vU, vU, vU, vU, vU, vU, vU, vU] [(.int 16), (.long q2), (.int 104), (.int 1), (.int p1)]) t) => q21 t (st22 t (by
    show Go _ _ _ _ (mkF m 9 #[vI p1, vJ q2, vS, vJ q3, vS, vU, vU, vU, vU, vU, vU, vU, vU, vU, vU, vU] [(.int r_22)]) _
    refine XS.istore X22.here hx rfl (hb hby at_9) rfl (l' := #[vI p1, vJ q2, vS, vJ q3, vS, vI r_22, vU, vU, vU, vU, vU, vU, vU, vU, vU, vU]) rfl ?_
    show Go _ _ _ _ (mkF m 11 #[vI p1, vJ q2, vS, vJ q3, vS, vI r_22, vU, vU, vU, vU, vU, vU, vU, vU, vU, vU] []) _
    refine XS.iloadN X22.here hx rfl (hb hby at_11) rfl ?_
    show Go _ _ _ _ (mkF m 12 _ [(.int p1)]) _
    refine XS.iconst X22.here hx rfl (hb hby at_12) ?_
    show Go _ _ _ _ (mkF m 13 _ [(.int 1), (.int p1)]) _
    refine XS.bipush X22.here hx rfl (hb hby at_13) ?_
    show Go _ _ _ _ (mkF m 15 _ [(.int 104), (.int 1), (.int p1)]) _
    refine XS.lloadN X22.here hx rfl (hb hby at_15) rfl ?_
    show Go _ _ _ _ (mkF m 16 _ [(.long q2), (.int 104), (.int 1), (.int p1)]) _
    refine XS.bipush X22.here hx rfl (hb hby at_16) ?_
    exact kt))
  obtain ⟨_, _, ⟨T25, L25, k25, n25⟩, -, X25, ⟨_, hQ25, l25, y25, z25⟩, st25⟩ := Jvm.LawKit.callS X22 hx (y := ym0) hown (ow hZ hw 0 rfl) (ow hZ hw 1 rfl) (ow hZ hw 2 rfl) (ow hZ hw 3 rfl) (by decide) (backOf (W := 0) (rm1 l Z a0 hw [] cx p1 (1 : Int32) (104 : Int32) q2 (16 : Int32) h0 n0 O0 (by decide)) hZ (ov hw 3 rfl) (ov hw 2 rfl) (by decide) (by decide)) (g := (mkF m 18 #[vI p1, vJ q2, vS, vJ q3, vS, vI r_22, vU, vU, vU, vU, vU, vU, vU, vU, vU, vU] [(.int 16), (.long q2), (.int 104), (.int 1), (.int p1)])) rfl (by rw [hml]; rfl) (argsL := [(.int p1), (.int 1), (.int 104), (.long q2), (.int 16)]) (rest := []) (lenOf pd_12 rfl) rfl own_le0 (hb hby at_18) (fun _ _ => ⟨rfl, eq22, (by decide : 0 + 0 ≤ _), (by decide : 0 + 0 ≤ _)⟩)
  dsimp only [Pt.U, Pt.locs, Pt.cells, Pt.slots] at X25 l25 y25 z25 st25 hQ25
  subst l25 y25 z25
  obtain ⟨r_25, rfl, Nq25, eq25, pq25_0⟩ := hQ25
  have N26 := Fr.app N23 Nq25
  have q27 := fun t (kt : Go p e below T25 (mkF m 30 #[vI p1, vJ q2, vS, vJ q3, vS, vI r_22, vI r_25, vU, vU, vU, vU, vU, vU, vU, vU, vU] [(.int 32), (.long q2), (.int 97), (.int 2), (.int p1)]) t) => q24 t (st25 t (by
    show Go _ _ _ _ (mkF m 21 #[vI p1, vJ q2, vS, vJ q3, vS, vI r_22, vU, vU, vU, vU, vU, vU, vU, vU, vU, vU] [(.int r_25)]) _
    refine XS.istore X25.here hx rfl (hb hby at_21) rfl (l' := #[vI p1, vJ q2, vS, vJ q3, vS, vI r_22, vI r_25, vU, vU, vU, vU, vU, vU, vU, vU, vU]) rfl ?_
    show Go _ _ _ _ (mkF m 23 #[vI p1, vJ q2, vS, vJ q3, vS, vI r_22, vI r_25, vU, vU, vU, vU, vU, vU, vU, vU, vU] []) _
    refine XS.iloadN X25.here hx rfl (hb hby at_23) rfl ?_
    show Go _ _ _ _ (mkF m 24 _ [(.int p1)]) _
    refine XS.iconst X25.here hx rfl (hb hby at_24) ?_
    show Go _ _ _ _ (mkF m 25 _ [(.int 2), (.int p1)]) _
    refine XS.bipush X25.here hx rfl (hb hby at_25) ?_
    show Go _ _ _ _ (mkF m 27 _ [(.int 97), (.int 2), (.int p1)]) _
    refine XS.lloadN X25.here hx rfl (hb hby at_27) rfl ?_
    show Go _ _ _ _ (mkF m 28 _ [(.long q2), (.int 97), (.int 2), (.int p1)]) _
    refine XS.bipush X25.here hx rfl (hb hby at_28) ?_
    exact kt))
  obtain ⟨_, _, ⟨T28, L28, k28, n28⟩, -, X28, ⟨_, hQ28, l28, y28, z28⟩, st28⟩ := Jvm.LawKit.callS X25 hx (y := ym0) hown (ow hZ hw 0 rfl) (ow hZ hw 1 rfl) (ow hZ hw 2 rfl) (ow hZ hw 3 rfl) (by decide) (backOf (W := 0) (rm1 l Z a0 hw [] cx p1 (2 : Int32) (97 : Int32) q2 (32 : Int32) h0 n0 O0 (by decide)) hZ (ov hw 3 rfl) (ov hw 2 rfl) (by decide) (by decide)) (g := (mkF m 30 #[vI p1, vJ q2, vS, vJ q3, vS, vI r_22, vI r_25, vU, vU, vU, vU, vU, vU, vU, vU, vU] [(.int 32), (.long q2), (.int 97), (.int 2), (.int p1)])) rfl (by rw [hml]; rfl) (argsL := [(.int p1), (.int 2), (.int 97), (.long q2), (.int 32)]) (rest := []) (lenOf pd_12 rfl) rfl own_le0 (hb hby at_30) (fun _ _ => ⟨rfl, eq25, (by decide : 0 + 0 ≤ _), (by decide : 0 + 0 ≤ _)⟩)
  dsimp only [Pt.U, Pt.locs, Pt.cells, Pt.slots] at X28 l28 y28 z28 st28 hQ28
  subst l28 y28 z28
  obtain ⟨r_28, rfl, Nq28, eq28, pq28_0⟩ := hQ28
  have N29 := Fr.app N26 Nq28
  have q30 := fun t (kt : Go p e below T28 (mkF m 42 #[vI p1, vJ q2, vS, vJ q3, vS, vI r_22, vI r_25, vI r_28, vU, vU, vU, vU, vU, vU, vU, vU] [(.int 48), (.long q2), (.int 107), (.int 3), (.int p1)]) t) => q27 t (st28 t (by
    show Go _ _ _ _ (mkF m 33 #[vI p1, vJ q2, vS, vJ q3, vS, vI r_22, vI r_25, vU, vU, vU, vU, vU, vU, vU, vU, vU] [(.int r_28)]) _
    refine XS.istore X28.here hx rfl (hb hby at_33) rfl (l' := #[vI p1, vJ q2, vS, vJ q3, vS, vI r_22, vI r_25, vI r_28, vU, vU, vU, vU, vU, vU, vU, vU]) rfl ?_
    show Go _ _ _ _ (mkF m 35 #[vI p1, vJ q2, vS, vJ q3, vS, vI r_22, vI r_25, vI r_28, vU, vU, vU, vU, vU, vU, vU, vU] []) _
    refine XS.iloadN X28.here hx rfl (hb hby at_35) rfl ?_
    show Go _ _ _ _ (mkF m 36 _ [(.int p1)]) _
    refine XS.iconst X28.here hx rfl (hb hby at_36) ?_
    show Go _ _ _ _ (mkF m 37 _ [(.int 3), (.int p1)]) _
    refine XS.bipush X28.here hx rfl (hb hby at_37) ?_
    show Go _ _ _ _ (mkF m 39 _ [(.int 107), (.int 3), (.int p1)]) _
    refine XS.lloadN X28.here hx rfl (hb hby at_39) rfl ?_
    show Go _ _ _ _ (mkF m 40 _ [(.long q2), (.int 107), (.int 3), (.int p1)]) _
    refine XS.bipush X28.here hx rfl (hb hby at_40) ?_
    exact kt))
  obtain ⟨_, _, ⟨T31, L31, k31, n31⟩, -, X31, ⟨_, hQ31, l31, y31, z31⟩, st31⟩ := Jvm.LawKit.callS X28 hx (y := ym0) hown (ow hZ hw 0 rfl) (ow hZ hw 1 rfl) (ow hZ hw 2 rfl) (ow hZ hw 3 rfl) (by decide) (backOf (W := 0) (rm1 l Z a0 hw [] cx p1 (3 : Int32) (107 : Int32) q2 (48 : Int32) h0 n0 O0 (by decide)) hZ (ov hw 3 rfl) (ov hw 2 rfl) (by decide) (by decide)) (g := (mkF m 42 #[vI p1, vJ q2, vS, vJ q3, vS, vI r_22, vI r_25, vI r_28, vU, vU, vU, vU, vU, vU, vU, vU] [(.int 48), (.long q2), (.int 107), (.int 3), (.int p1)])) rfl (by rw [hml]; rfl) (argsL := [(.int p1), (.int 3), (.int 107), (.long q2), (.int 48)]) (rest := []) (lenOf pd_12 rfl) rfl own_le0 (hb hby at_42) (fun _ _ => ⟨rfl, eq28, (by decide : 0 + 0 ≤ _), (by decide : 0 + 0 ≤ _)⟩)
  dsimp only [Pt.U, Pt.locs, Pt.cells, Pt.slots] at X31 l31 y31 z31 st31 hQ31
  subst l31 y31 z31
  obtain ⟨r_31, rfl, Nq31, eq31, pq31_0⟩ := hQ31
  have N32 := Fr.app N29 Nq31
  have q33 := fun t (kt : Go p e below T31 (mkF m 53 #[vI p1, vJ q2, vS, vJ q3, vS, vI r_22, vI r_25, vI r_28, vI r_31, vU, vU, vU, vU, vU, vU, vU] [(.int 0), (.long q3), (.int 101), (.int 4), (.int p1)]) t) => q30 t (st31 t (by
    show Go _ _ _ _ (mkF m 45 #[vI p1, vJ q2, vS, vJ q3, vS, vI r_22, vI r_25, vI r_28, vU, vU, vU, vU, vU, vU, vU, vU] [(.int r_31)]) _
    refine XS.istore X31.here hx rfl (hb hby at_45) rfl (l' := #[vI p1, vJ q2, vS, vJ q3, vS, vI r_22, vI r_25, vI r_28, vI r_31, vU, vU, vU, vU, vU, vU, vU]) rfl ?_
    show Go _ _ _ _ (mkF m 47 #[vI p1, vJ q2, vS, vJ q3, vS, vI r_22, vI r_25, vI r_28, vI r_31, vU, vU, vU, vU, vU, vU, vU] []) _
    refine XS.iloadN X31.here hx rfl (hb hby at_47) rfl ?_
    show Go _ _ _ _ (mkF m 48 _ [(.int p1)]) _
    refine XS.iconst X31.here hx rfl (hb hby at_48) ?_
    show Go _ _ _ _ (mkF m 49 _ [(.int 4), (.int p1)]) _
    refine XS.bipush X31.here hx rfl (hb hby at_49) ?_
    show Go _ _ _ _ (mkF m 51 _ [(.int 101), (.int 4), (.int p1)]) _
    refine XS.lloadN X31.here hx rfl (hb hby at_51) rfl ?_
    show Go _ _ _ _ (mkF m 52 _ [(.long q3), (.int 101), (.int 4), (.int p1)]) _
    refine XS.iconst X31.here hx rfl (hb hby at_52) ?_
    exact kt))
  obtain ⟨_, _, ⟨T34, L34, k34, n34⟩, -, X34, ⟨_, hQ34, l34, y34, z34⟩, st34⟩ := Jvm.LawKit.callS X31 hx (y := ym0) hown (ow hZ hw 0 rfl) (ow hZ hw 1 rfl) (ow hZ hw 2 rfl) (ow hZ hw 3 rfl) (by decide) (backOf (W := 0) (rm1 l Z a0 hw [] cx p1 (4 : Int32) (101 : Int32) q3 (0 : Int32) h0 n0 O0 (by decide)) hZ (ov hw 3 rfl) (ov hw 2 rfl) (by decide) (by decide)) (g := (mkF m 53 #[vI p1, vJ q2, vS, vJ q3, vS, vI r_22, vI r_25, vI r_28, vI r_31, vU, vU, vU, vU, vU, vU, vU] [(.int 0), (.long q3), (.int 101), (.int 4), (.int p1)])) rfl (by rw [hml]; rfl) (argsL := [(.int p1), (.int 4), (.int 101), (.long q3), (.int 0)]) (rest := []) (lenOf pd_12 rfl) rfl own_le0 (hb hby at_53) (fun _ _ => ⟨rfl, eq31, (by decide : 0 + 0 ≤ _), (by decide : 0 + 0 ≤ _)⟩)
  dsimp only [Pt.U, Pt.locs, Pt.cells, Pt.slots] at X34 l34 y34 z34 st34 hQ34
  subst l34 y34 z34
  obtain ⟨r_34, rfl, Nq34, eq34, pq34_0⟩ := hQ34
  have N35 := Fr.app N32 Nq34
  have q36 := fun t (kt : Go p e below T34 (mkF m 65 #[vI p1, vJ q2, vS, vJ q3, vS, vI r_22, vI r_25, vI r_28, vI r_31, vI r_34, vU, vU, vU, vU, vU, vU] [(.int 16), (.long q3), (.int 110), (.int 5), (.int p1)]) t) => q33 t (st34 t (by
    show Go _ _ _ _ (mkF m 56 #[vI p1, vJ q2, vS, vJ q3, vS, vI r_22, vI r_25, vI r_28, vI r_31, vU, vU, vU, vU, vU, vU, vU] [(.int r_34)]) _
    refine XS.istore X34.here hx rfl (hb hby at_56) rfl (l' := #[vI p1, vJ q2, vS, vJ q3, vS, vI r_22, vI r_25, vI r_28, vI r_31, vI r_34, vU, vU, vU, vU, vU, vU]) rfl ?_
    show Go _ _ _ _ (mkF m 58 #[vI p1, vJ q2, vS, vJ q3, vS, vI r_22, vI r_25, vI r_28, vI r_31, vI r_34, vU, vU, vU, vU, vU, vU] []) _
    refine XS.iloadN X34.here hx rfl (hb hby at_58) rfl ?_
    show Go _ _ _ _ (mkF m 59 _ [(.int p1)]) _
    refine XS.iconst X34.here hx rfl (hb hby at_59) ?_
    show Go _ _ _ _ (mkF m 60 _ [(.int 5), (.int p1)]) _
    refine XS.bipush X34.here hx rfl (hb hby at_60) ?_
    show Go _ _ _ _ (mkF m 62 _ [(.int 110), (.int 5), (.int p1)]) _
    refine XS.lloadN X34.here hx rfl (hb hby at_62) rfl ?_
    show Go _ _ _ _ (mkF m 63 _ [(.long q3), (.int 110), (.int 5), (.int p1)]) _
    refine XS.bipush X34.here hx rfl (hb hby at_63) ?_
    exact kt))
  obtain ⟨_, _, ⟨T37, L37, k37, n37⟩, -, X37, ⟨_, hQ37, l37, y37, z37⟩, st37⟩ := Jvm.LawKit.callS X34 hx (y := ym0) hown (ow hZ hw 0 rfl) (ow hZ hw 1 rfl) (ow hZ hw 2 rfl) (ow hZ hw 3 rfl) (by decide) (backOf (W := 0) (rm1 l Z a0 hw [] cx p1 (5 : Int32) (110 : Int32) q3 (16 : Int32) h0 n0 O0 (by decide)) hZ (ov hw 3 rfl) (ov hw 2 rfl) (by decide) (by decide)) (g := (mkF m 65 #[vI p1, vJ q2, vS, vJ q3, vS, vI r_22, vI r_25, vI r_28, vI r_31, vI r_34, vU, vU, vU, vU, vU, vU] [(.int 16), (.long q3), (.int 110), (.int 5), (.int p1)])) rfl (by rw [hml]; rfl) (argsL := [(.int p1), (.int 5), (.int 110), (.long q3), (.int 16)]) (rest := []) (lenOf pd_12 rfl) rfl own_le0 (hb hby at_65) (fun _ _ => ⟨rfl, eq34, (by decide : 0 + 0 ≤ _), (by decide : 0 + 0 ≤ _)⟩)
  dsimp only [Pt.U, Pt.locs, Pt.cells, Pt.slots] at X37 l37 y37 z37 st37 hQ37
  subst l37 y37 z37
  obtain ⟨r_37, rfl, Nq37, eq37, pq37_0⟩ := hQ37
  have N38 := Fr.app N35 Nq37
  have q39 := fun t (kt : Go p e below T37 (mkF m 76 #[vI p1, vJ q2, vS, vJ q3, vS, vI r_22, vI r_25, vI r_28, vI r_31, vI r_34, vI r_37, vU, vU, vU, vU, vU] [(.int ((((q3.toUInt64 >>> ((32 : Int32) &&& 0x3f).toInt64.toUInt64).toInt64).toInt32).toUInt32.toUInt16.toUInt32.toInt32))]) t) => q36 t (st37 t (by
    show Go _ _ _ _ (mkF m 68 #[vI p1, vJ q2, vS, vJ q3, vS, vI r_22, vI r_25, vI r_28, vI r_31, vI r_34, vU, vU, vU, vU, vU, vU] [(.int r_37)]) _
    refine XS.istore X37.here hx rfl (hb hby at_68) rfl (l' := #[vI p1, vJ q2, vS, vJ q3, vS, vI r_22, vI r_25, vI r_28, vI r_31, vI r_34, vI r_37, vU, vU, vU, vU, vU]) rfl ?_
    show Go _ _ _ _ (mkF m 70 #[vI p1, vJ q2, vS, vJ q3, vS, vI r_22, vI r_25, vI r_28, vI r_31, vI r_34, vI r_37, vU, vU, vU, vU, vU] []) _
    refine XS.lloadN X37.here hx rfl (hb hby at_70) rfl ?_
    show Go _ _ _ _ (mkF m 71 _ [(.long q3)]) _
    refine XS.bipush X37.here hx rfl (hb hby at_71) ?_
    show Go _ _ _ _ (mkF m 73 _ [(.int 32), (.long q3)]) _
    refine XS.lushr X37.here hx rfl (hb hby at_73) rfl ?_
    show Go _ _ _ _ (mkF m 74 _ [(.long ((q3.toUInt64 >>> ((32 : Int32) &&& 0x3f).toInt64.toUInt64).toInt64))]) _
    refine XS.l2i X37.here hx rfl (hb hby at_74) rfl ?_
    show Go _ _ _ _ (mkF m 75 _ [(.int (((q3.toUInt64 >>> ((32 : Int32) &&& 0x3f).toInt64.toUInt64).toInt64).toInt32))]) _
    refine XS.i2c X37.here hx rfl (hb hby at_75) rfl ?_
    exact kt))
  obtain ⟨r7, hr7⟩ : ∃ z, z = ((((q3.toUInt64 >>> ((32 : Int32) &&& 0x3f).toInt64.toUInt64).toInt64).toInt32).toUInt32.toUInt16.toUInt32.toInt32) := ⟨_, rfl⟩
  have hch7 : ¬ r7 < 0 ∧ ¬ (65535 : Int32) < r7 := by rw [hr7]; exact own_i2c _
  have q40 := fun t (kt : Go p e below T37 (mkF m 76 #[vI p1, vJ q2, vS, vJ q3, vS, vI r_22, vI r_25, vI r_28, vI r_31, vI r_34, vI r_37, vU, vU, vU, vU, vU] [(.int r7)]) t) => q39 t (by rw [← hr7]; exact kt)
  have q41 := fun t (kt : Go p e below T37 (mkF m 86 #[vI p1, vJ q2, vS, vJ q3, vS, vI r_22, vI r_25, vI r_28, vI r_31, vI r_34, vI r_37, vI r7, vI (p1 &&& (7 : Int32)), vU, vU, vU] [(.int (p1 &&& (7 : Int32)))]) t) => q40 t (by
    show Go _ _ _ _ (mkF m 76 #[vI p1, vJ q2, vS, vJ q3, vS, vI r_22, vI r_25, vI r_28, vI r_31, vI r_34, vI r_37, vU, vU, vU, vU, vU] [(.int r7)]) _
    refine XS.istore X37.here hx rfl (hb hby at_76) rfl (l' := #[vI p1, vJ q2, vS, vJ q3, vS, vI r_22, vI r_25, vI r_28, vI r_31, vI r_34, vI r_37, vI r7, vU, vU, vU, vU]) rfl ?_
    show Go _ _ _ _ (mkF m 78 #[vI p1, vJ q2, vS, vJ q3, vS, vI r_22, vI r_25, vI r_28, vI r_31, vI r_34, vI r_37, vI r7, vU, vU, vU, vU] []) _
    refine XS.iloadN X37.here hx rfl (hb hby at_78) rfl ?_
    show Go _ _ _ _ (mkF m 79 _ [(.int p1)]) _
    refine XS.bipush X37.here hx rfl (hb hby at_79) ?_
    show Go _ _ _ _ (mkF m 81 _ [(.int 7), (.int p1)]) _
    refine XS.iand X37.here hx rfl (hb hby at_81) rfl ?_
    show Go _ _ _ _ (mkF m 82 _ [(.int (p1 &&& (7 : Int32)))]) _
    refine XS.istore X37.here hx rfl (hb hby at_82) rfl (l' := #[vI p1, vJ q2, vS, vJ q3, vS, vI r_22, vI r_25, vI r_28, vI r_31, vI r_34, vI r_37, vI r7, vI (p1 &&& (7 : Int32)), vU, vU, vU]) rfl ?_
    show Go _ _ _ _ (mkF m 84 #[vI p1, vJ q2, vS, vJ q3, vS, vI r_22, vI r_25, vI r_28, vI r_31, vI r_34, vI r_37, vI r7, vI (p1 &&& (7 : Int32)), vU, vU, vU] []) _
    refine XS.iload X37.here hx rfl (hb hby at_84) rfl ?_
    exact kt)
  by_cases hc42 : (p1 &&& (7 : Int32)) = (0 : Int32)
  · have q43 := fun t (kt : Go p e below T37 (mkF m 375 #[vI p1, vJ q2, vS, vJ q3, vS, vI r_22, vI r_25, vI r_28, vI r_31, vI r_34, vI r_37, vI r7, vI (p1 &&& (7 : Int32)), vN, vI (-1 : Int32), vI 1] [.null]) t) => q41 t (by
      show Go _ _ _ _ (mkF m 86 #[vI p1, vJ q2, vS, vJ q3, vS, vI r_22, vI r_25, vI r_28, vI r_31, vI r_34, vI r_37, vI r7, vI (p1 &&& (7 : Int32)), vU, vU, vU] [(.int (p1 &&& (7 : Int32)))]) _
      refine XS.ifNo X37.here hx rfl (hb hby at_86) rfl ((if0 _ _).trans (teq hc42).2) ?_
      show Go _ _ _ _ (mkF m 89 _ []) _
      refine XS.aconstNull X37.here hx rfl (hb hby at_89) ?_
      show Go _ _ _ _ (mkF m 90 _ [.null]) _
      refine XS.astore X37.here hx rfl (hb hby at_90) rfl rfl (l' := #[vI p1, vJ q2, vS, vJ q3, vS, vI r_22, vI r_25, vI r_28, vI r_31, vI r_34, vI r_37, vI r7, vI (p1 &&& (7 : Int32)), vN, vU, vU]) rfl ?_
      show Go _ _ _ _ (mkF m 92 #[vI p1, vJ q2, vS, vJ q3, vS, vI r_22, vI r_25, vI r_28, vI r_31, vI r_34, vI r_37, vI r7, vI (p1 &&& (7 : Int32)), vN, vU, vU] []) _
      refine XS.iconst X37.here hx rfl (hb hby at_92) ?_
      show Go _ _ _ _ (mkF m 93 _ [(.int (-1 : Int32))]) _
      refine XS.istore X37.here hx rfl (hb hby at_93) rfl (l' := #[vI p1, vJ q2, vS, vJ q3, vS, vI r_22, vI r_25, vI r_28, vI r_31, vI r_34, vI r_37, vI r7, vI (p1 &&& (7 : Int32)), vN, vI (-1 : Int32), vU]) rfl ?_
      show Go _ _ _ _ (mkF m 95 #[vI p1, vJ q2, vS, vJ q3, vS, vI r_22, vI r_25, vI r_28, vI r_31, vI r_34, vI r_37, vI r7, vI (p1 &&& (7 : Int32)), vN, vI (-1 : Int32), vU] []) _
      refine XS.goto X37.here hx rfl (pc0 := 95) (pc' := 300) rfl (hb hby at_95) (by decide) (by decide) ?_
      show Go _ _ _ _ (mkF m 300 _ []) _
      refine XS.iload X37.here hx rfl (hb hby at_300) rfl ?_
      show Go _ _ _ _ (mkF m 302 _ [(.int (-1 : Int32))]) _
      refine XS.ifNo X37.here hx rfl (hb hby at_302) rfl ((if0 _ _).trans (tlt (by decide : (-1 : Int32) < (0 : Int32))).2.1) ?_
      show Go _ _ _ _ (mkF m 305 _ []) _
      refine XS.iconst X37.here hx rfl (hb hby at_305) ?_
      show Go _ _ _ _ (mkF m 306 _ [(.int 1)]) _
      refine XS.istore X37.here hx rfl (hb hby at_306) rfl (l' := #[vI p1, vJ q2, vS, vJ q3, vS, vI r_22, vI r_25, vI r_28, vI r_31, vI r_34, vI r_37, vI r7, vI (p1 &&& (7 : Int32)), vN, vI (-1 : Int32), vI 1]) rfl ?_
      show Go _ _ _ _ (mkF m 308 #[vI p1, vJ q2, vS, vJ q3, vS, vI r_22, vI r_25, vI r_28, vI r_31, vI r_34, vI r_37, vI r7, vI (p1 &&& (7 : Int32)), vN, vI (-1 : Int32), vI 1] []) _
      refine XS.goto X37.here hx rfl (pc0 := 308) (pc' := 373) rfl (hb hby at_308) (by decide) (by decide) ?_
      show Go _ _ _ _ (mkF m 373 _ []) _
      refine XS.aload X37.here hx rfl (hb hby at_373) rfl rfl ?_
      exact kt)
    obtain ⟨_, _, ⟨T44, L44, k44, n44⟩, -, X44, ⟨_, hQ44, l44, y44, z44⟩, st44⟩ := Jvm.LawKit.callS X37 hx (y := ym17) hown (ow hZ hw 4 rfl) (ow hZ hw 5 rfl) (ow hZ hw 6 rfl) (ow hZ hw 7 rfl) (by decide) (backOf (W := 0) (rm2n l Z a0 hw [] cx  h0 n0 O0 ) hZ (ov hw 7 rfl) (ov hw 6 rfl) (by decide) (by decide)) (g := (mkF m 375 #[vI p1, vJ q2, vS, vJ q3, vS, vI r_22, vI r_25, vI r_28, vI r_31, vI r_34, vI r_37, vI r7, vI (p1 &&& (7 : Int32)), vN, vI (-1 : Int32), vI 1] [.null])) rfl (by rw [hml]; rfl) (argsL := [.null]) (rest := []) (lenOf pd_13 rfl) rfl own_le0 (hb hby at_375) (fun _ _ => ⟨rfl, eq37, (by decide : 0 + 0 ≤ _), (by decide : 0 + 0 ≤ _)⟩)
    dsimp only [Pt.U, Pt.locs, Pt.cells, Pt.slots] at X44 l44 y44 z44 st44 hQ44
    subst l44 y44 z44
    obtain ⟨rfl, Nq44, eq44⟩ := hQ44
    have N45 := Fr.app N38 Nq44
    have q46 := fun t (kt : Go p e below T44 (mkF m 388 #[vI p1, vJ q2, vS, vJ q3, vS, vI r_22, vI r_25, vI r_28, vI r_31, vI r_34, vI r_37, vI r7, vI (p1 &&& (7 : Int32)), vN, vI (-1 : Int32), vI 1] [(.int 1)]) t) => q43 t (st44 t (by
      show Go _ _ _ _ (mkF m 378 #[vI p1, vJ q2, vS, vJ q3, vS, vI r_22, vI r_25, vI r_28, vI r_31, vI r_34, vI r_37, vI r7, vI (p1 &&& (7 : Int32)), vN, vI (-1 : Int32), vI 1] [(.int 1)]) _
      refine XS.iload X44.here hx rfl (hb hby at_378) rfl ?_
      show Go _ _ _ _ (mkF m 380 _ [(.int 1), (.int 1)]) _
      refine XS.icmpNo X44.here hx rfl (hb hby at_380) rfl (teq (rfl : (1 : Int32) = (1 : Int32))).2 ?_
      show Go _ _ _ _ (mkF m 383 _ []) _
      refine XS.iconst X44.here hx rfl (hb hby at_383) ?_
      show Go _ _ _ _ (mkF m 384 _ [(.int 1)]) _
      refine XS.goto X44.here hx rfl (pc0 := 384) (pc' := 388) rfl (hb hby at_384) (by decide) (by decide) ?_
      exact kt))
    obtain ⟨fs, hr, hrun, hended, hRE⟩ := X44.leaveW hS0 (by rw [eq44]; exact hk0) (v := some (.int 1)) (fun h => by rw [Bd.returns] at h; cases h)
    refine ⟨_, _, q46 _ ?_, hrun, hended, _, _, rfl, ?_, ?_, hRE.1, hRE.2.1, hRE.2.2.1, hRE.2.2.2.mono (by decide) (by decide)⟩
    · show Go p e below T44 (mkF m 388 #[vI p1, vJ q2, vS, vJ q3, vS, vI r_22, vI r_25, vI r_28, vI r_31, vI r_34, vI r_37, vI r7, vI (p1 &&& (7 : Int32)), vN, vI (-1 : Int32), vI 1] [(.int 1)]) _
      exact retN X44 hx (t := .boolean) Bd.returns (by simp) (hb hby at_388) hr
    · show Q_rm0 Z p1 q2 q3 z_cs h0 n0 _ T44.heap _
      rw [eq44]
      exact ⟨rfl, N45⟩
    · show CHr Z own_EL s.vm s.heap T44.vm T44.heap
      rw [hh, eq44]
      exact R0.trans (CHv.at X44 hZ hEW R0.1)
  · have q47 := fun t (kt : Go p e below T37 (mkF m 101 #[vI p1, vJ q2, vS, vJ q3, vS, vI r_22, vI r_25, vI r_28, vI r_31, vI r_34, vI r_37, vI r7, vI (p1 &&& (7 : Int32)), vU, vU, vU] [(.int 1), (.int (p1 &&& (7 : Int32)))]) t) => q41 t (by
      show Go _ _ _ _ (mkF m 86 #[vI p1, vJ q2, vS, vJ q3, vS, vI r_22, vI r_25, vI r_28, vI r_31, vI r_34, vI r_37, vI r7, vI (p1 &&& (7 : Int32)), vU, vU, vU] [(.int (p1 &&& (7 : Int32)))]) _
      refine XS.ifYes X37.here hx rfl (pc0 := 86) (pc' := 98) rfl (hb hby at_86) rfl ((if0 _ _).trans (feq hc42).2) (by decide) (by decide) ?_
      show Go _ _ _ _ (mkF m 98 _ []) _
      refine XS.iload X37.here hx rfl (hb hby at_98) rfl ?_
      show Go _ _ _ _ (mkF m 100 _ [(.int (p1 &&& (7 : Int32)))]) _
      refine XS.iconst X37.here hx rfl (hb hby at_100) ?_
      exact kt)
    by_cases hc48 : (p1 &&& (7 : Int32)) = (1 : Int32)
    · have q49 := fun t (kt : Go p e below T37 (mkF m 104 #[vI p1, vJ q2, vS, vJ q3, vS, vI r_22, vI r_25, vI r_28, vI r_31, vI r_34, vI r_37, vI r7, vI (p1 &&& (7 : Int32)), vU, vU, vU] []) t) => q47 t (by
        show Go _ _ _ _ (mkF m 101 #[vI p1, vJ q2, vS, vJ q3, vS, vI r_22, vI r_25, vI r_28, vI r_31, vI r_34, vI r_37, vI r7, vI (p1 &&& (7 : Int32)), vU, vU, vU] [(.int 1), (.int (p1 &&& (7 : Int32)))]) _
        refine XS.icmpNo X37.here hx rfl (hb hby at_101) rfl (teq hc48).2 ?_
        exact kt)
      obtain ⟨T50, h50, X50, e50, E50, A50, D50, U50, st50⟩ := newO X37 hx hZ hown (ov hw 8 rfl) (ov hw 9 rfl) (ov hw 10 rfl) eq37 (g := (mkF m 104 #[vI p1, vJ q2, vS, vJ q3, vS, vI r_22, vI r_25, vI r_28, vI r_31, vI r_34, vI r_37, vI r7, vI (p1 &&& (7 : Int32)), vU, vU, vU] [])) rfl (hb hby at_104) (by decide) (by decide)
      obtain ⟨b50, g50⟩ : ∃ z, z = h0.size := ⟨_, rfl⟩
      rw [← g50] at A50 D50 st50
      have gg51 : n0 ≤ b50 := Nat.le_trans (O0.1 ▸ O0.2.1) (Nat.le_of_eq g50.symm)
      have sf52 : Safe Z own_EL s.vm h0 b50 := Safe.new (Nat.le_of_eq g50.symm)
      have O53 := O0.ext E50
      have sf55 : Safe Z own_EL s.vm h50 b50 := Safe.ext E50 R0.1 sf52
      have R54 : CHr Z own_EL s.vm h0 s.vm h50 := R0.trans (CHr.ext E50 R0.1)
      have hk56 : _ ≤ h50.size := Nat.le_trans hk0 E50.1
      have F50_coder : Fld Z h50 b50 sk1 "coder" "B" (.int 0) := D50 (Or.inr (ov hw 35 rfl)) (ty := .byte) (by decide)
      have F50_value : Fld Z h50 b50 sk1 "value" "[B" .null := D50 (Or.inr (ov hw 37 rfl)) (ty := (.array .byte)) (by decide)
      have q57 := fun t (kt : Go p e below T50 (mkF m 109 #[vI p1, vJ q2, vS, vJ q3, vS, vI r_22, vI r_25, vI r_28, vI r_31, vI r_34, vI r_37, vI r7, vI (p1 &&& (7 : Int32)), vU, vU, vU] [(.int 0), (.ref b50), (.ref b50)]) t) => q49 t (st50 t (by
        show Go _ _ _ _ (mkF m 107 #[vI p1, vJ q2, vS, vJ q3, vS, vI r_22, vI r_25, vI r_28, vI r_31, vI r_34, vI r_37, vI r7, vI (p1 &&& (7 : Int32)), vU, vU, vU] [(.ref b50)]) _
        refine XS.dup X50.here hx rfl (hb hby at_107) rfl rfl ?_
        show Go _ _ _ _ (mkF m 108 _ [(.ref b50), (.ref b50)]) _
        refine XS.iconst X50.here hx rfl (hb hby at_108) ?_
        exact kt))
      obtain ⟨T58, h58, k58, X58, e58, E58, A58, st58⟩ := newP X50 hx hZ (ov hw 11 rfl) e50 (g := (mkF m 109 #[vI p1, vJ q2, vS, vJ q3, vS, vI r_22, vI r_25, vI r_28, vI r_31, vI r_34, vI r_37, vI r7, vI (p1 &&& (7 : Int32)), vU, vU, vU] [(.int 0), (.ref b50), (.ref b50)])) rfl (hb hby at_109) rfl (by decide) (cap := 0) (by decide) (by decide) (by decide) (by decide)
      obtain ⟨b58, g58⟩ : ∃ z, z = h50.size := ⟨_, rfl⟩
      rw [← g58] at A58 st58
      have gg59 : n0 ≤ b58 := Nat.le_trans (O53.1 ▸ O53.2.1) (Nat.le_of_eq g58.symm)
      have O60 := O53.ext E58
      have sf62 : Safe Z own_EL s.vm h58 b50 := Safe.ext E58 R54.1 sf55
      have R61 : CHr Z own_EL s.vm h0 s.vm h58 := R54.trans (CHr.ext E58 R54.1)
      have hk63 : _ ≤ h58.size := Nat.le_trans hk56 E58.1
      have V58 : Arv Z h58 b58 k58 .char (0 : Int32) [] (.int 0) := (Arv.new A58 (by decide))
      have f64 := (A50.ext E58)
      have f65 := (F50_value.ext E58)
      have f66 := (F50_coder.ext E58)
      obtain ⟨_, _, ⟨T67, L67, k67, n67⟩, -, X67, hSn67, hgn67, ⟨_, hQ67, l67, y67, z67, cR67⟩, st67⟩ := X58.specialBackS hx (y := ym10) rfl hown (ow hZ hw 12 rfl) (ow hZ hw 13 rfl) (ow hZ hw 14 rfl) (by decide) (backOfSH (EL := own_EL) (vm0 := s.vm) (W := 1) (rm3_0 l Z a0 hw [] cx b50 b58 k58 h58 n0 O60 f64 f65 f66 V58 gg51) hZ (ov hw 14 rfl) (ov hw 10 rfl) (by decide) (by decide) hEW R61.1) (g := (mkF m 111 #[vI p1, vJ q2, vS, vJ q3, vS, vI r_22, vI r_25, vI r_28, vI r_31, vI r_34, vI r_37, vI r7, vI (p1 &&& (7 : Int32)), vU, vU, vU] [(.ref b58), (.ref b50), (.ref b50)])) rfl (by rw [hml]; rfl) (Steps.refl _) (a := b50) (argsL := [(.ref b58)]) (rest := [(.ref b50)]) (lenOf pd_14 rfl) rfl own_le0 (hb hby at_111) (fun _ _ => ⟨rfl, e58, (by decide : 2 + 4 ≤ _), (by decide : 4 + 8 ≤ _)⟩)
      dsimp only [Pt.U, Pt.locs, Pt.cells, Pt.slots] at X67 l67 y67 z67 st67 hQ67 hSn67 hgn67 cR67
      subst l67 y67 z67
      have hS67 := foldS (vm0 := s.vm) hS0 (by rw [e58]; exact hk63) hSn67 hgn67
      have hZ : Z.Warmed39 (s.setVm T67.vm).vm := State.Warmed39.trans (t := s.setVm s.vm) hZ hSn67.1
      have hown : (s.setVm T67.vm).vm.findClass sk0 = some m.cls := by
        show T67.vm.findClass _ = _
        rw [hSn67.1.alike.findClass]; exact hown
      have X67 : Stand p l e room_1 (s.setVm T67.vm) m #[(.int p1), (.long q2), (.long q3)] below meth c T67 _ _ _ := X67
      have hkk67 : T67.heap.size ≤ T67.heap.size := Nat.le_refl _
      obtain ⟨t_67, rfl, Nq67, Kq67, fq67_0⟩ := hQ67
      have N68 := Fr.app N38 Nq67
      have O69 := O60.keep Kq67 (allS gg51 all0)
      have sf71 : Safe Z own_EL T67.vm T67.heap b50 := CHr.safe cR67 f64.lt sf62
      have R70 : CHr Z own_EL s.vm h0 T67.vm T67.heap := R61.trans cR67
      have q72 := fun t (kt : Go p e below T67 (mkF m 375 #[vI p1, vJ q2, vS, vJ q3, vS, vI r_22, vI r_25, vI r_28, vI r_31, vI r_34, vI r_37, vI r7, vI (p1 &&& (7 : Int32)), vR b50, vI 0, vI 0] [(.ref b50)]) t) => q57 t (st58 t (st67.trans (by
        show Go _ _ _ _ (mkF m 114 #[vI p1, vJ q2, vS, vJ q3, vS, vI r_22, vI r_25, vI r_28, vI r_31, vI r_34, vI r_37, vI r7, vI (p1 &&& (7 : Int32)), vU, vU, vU] [(.ref b50)]) _
        refine XS.astore X67.here hx rfl (hb hby at_114) rfl rfl (l' := #[vI p1, vJ q2, vS, vJ q3, vS, vI r_22, vI r_25, vI r_28, vI r_31, vI r_34, vI r_37, vI r7, vI (p1 &&& (7 : Int32)), vR b50, vU, vU]) rfl ?_
        show Go _ _ _ _ (mkF m 116 #[vI p1, vJ q2, vS, vJ q3, vS, vI r_22, vI r_25, vI r_28, vI r_31, vI r_34, vI r_37, vI r7, vI (p1 &&& (7 : Int32)), vR b50, vU, vU] []) _
        refine XS.iconst X67.here hx rfl (hb hby at_116) ?_
        show Go _ _ _ _ (mkF m 117 _ [(.int 0)]) _
        refine XS.istore X67.here hx rfl (hb hby at_117) rfl (l' := #[vI p1, vJ q2, vS, vJ q3, vS, vI r_22, vI r_25, vI r_28, vI r_31, vI r_34, vI r_37, vI r7, vI (p1 &&& (7 : Int32)), vR b50, vI 0, vU]) rfl ?_
        show Go _ _ _ _ (mkF m 119 #[vI p1, vJ q2, vS, vJ q3, vS, vI r_22, vI r_25, vI r_28, vI r_31, vI r_34, vI r_37, vI r7, vI (p1 &&& (7 : Int32)), vR b50, vI 0, vU] []) _
        refine XS.goto X67.here hx rfl (pc0 := 119) (pc' := 300) rfl (hb hby at_119) (by decide) (by decide) ?_
        show Go _ _ _ _ (mkF m 300 _ []) _
        refine XS.iload X67.here hx rfl (hb hby at_300) rfl ?_
        show Go _ _ _ _ (mkF m 302 _ [(.int 0)]) _
        refine XS.ifYes X67.here hx rfl (pc0 := 302) (pc' := 311) rfl (hb hby at_302) rfl ((if0 _ _).trans (flt (by decide : ¬ ((0 : Int32) < (0 : Int32)))).2.1) (by decide) (by decide) ?_
        show Go _ _ _ _ (mkF m 311 _ []) _
        refine XS.iload X67.here hx rfl (hb hby at_311) rfl ?_
        show Go _ _ _ _ (mkF m 313 _ [(.int 0)]) _
        refine XS.bipush X67.here hx rfl (hb hby at_313) ?_
        show Go _ _ _ _ (mkF m 315 _ [(.int 6), (.int 0)]) _
        refine XS.icmpYes X67.here hx rfl (pc0 := 315) (pc' := 370) rfl (hb hby at_315) rfl (feq (by decide : ¬ ((0 : Int32) = (6 : Int32)))).2 (by decide) (by decide) ?_
        show Go _ _ _ _ (mkF m 370 _ []) _
        refine XS.iconst X67.here hx rfl (hb hby at_370) ?_
        show Go _ _ _ _ (mkF m 371 _ [(.int 0)]) _
        refine XS.istore X67.here hx rfl (hb hby at_371) rfl (l' := #[vI p1, vJ q2, vS, vJ q3, vS, vI r_22, vI r_25, vI r_28, vI r_31, vI r_34, vI r_37, vI r7, vI (p1 &&& (7 : Int32)), vR b50, vI 0, vI 0]) rfl ?_
        show Go _ _ _ _ (mkF m 373 #[vI p1, vJ q2, vS, vJ q3, vS, vI r_22, vI r_25, vI r_28, vI r_31, vI r_34, vI r_37, vI r7, vI (p1 &&& (7 : Int32)), vR b50, vI 0, vI 0] []) _
        refine XS.aload X67.here hx rfl (hb hby at_373) rfl rfl ?_
        exact kt)))
      obtain ⟨_, _, ⟨T73, L73, k73, n73⟩, -, X73, hSn73, hgn73, ⟨_, hQ73, l73, y73, z73, cR73⟩, st73⟩ := callSS X67 hx (y := ym17) hown (ow hZ hw 4 rfl) (ow hZ hw 5 rfl) (ow hZ hw 6 rfl) (ow hZ hw 7 rfl) (by decide) (backOfSH (EL := own_EL) (vm0 := T67.vm) (W := 0) (rm2s l Z a0 hw [] cx b50 t_67 [] T67.heap n0 O69 fq67_0) hZ (ov hw 7 rfl) (ov hw 6 rfl) (by decide) (by decide) hEW R70.1) (g := (mkF m 375 #[vI p1, vJ q2, vS, vJ q3, vS, vI r_22, vI r_25, vI r_28, vI r_31, vI r_34, vI r_37, vI r7, vI (p1 &&& (7 : Int32)), vR b50, vI 0, vI 0] [(.ref b50)])) rfl (by rw [hml]; rfl) (argsL := [(.ref b50)]) (rest := []) (lenOf pd_13 rfl) rfl own_le0 (hb hby at_375) (fun _ _ => ⟨rfl, rfl, (by decide : 6 + 2 ≤ _), (by decide : 12 + 28 ≤ _)⟩)
      dsimp only [Pt.U, Pt.locs, Pt.cells, Pt.slots] at X73 l73 y73 z73 st73 hQ73 hSn73 hgn73 cR73
      subst l73 y73 z73
      have hS73 := foldS (vm0 := T67.vm) hS67 hkk67 hSn73 hgn73
      have hZ : Z.Warmed39 (s.setVm T73.vm).vm := State.Warmed39.trans (t := s.setVm T67.vm) hZ hSn73.1
      have hown : (s.setVm T73.vm).vm.findClass sk0 = some m.cls := by
        show T73.vm.findClass _ = _
        rw [hSn73.1.alike.findClass]; exact hown
      have X73 : Stand p l e room_1 (s.setVm T73.vm) m #[(.int p1), (.long q2), (.long q3)] below meth c T73 _ _ _ := X73
      have hkk73 : T73.heap.size ≤ T73.heap.size := Nat.le_refl _
      obtain ⟨rfl, Nq73, Kq73⟩ := hQ73
      have N74 := Fr.app N68 Nq73
      have O75 := O69.keep Kq73 all0
      have sf77 : Safe Z own_EL T73.vm T73.heap b50 := CHr.safe cR73 (f64.keep Kq67).lt sf71
      have R76 : CHr Z own_EL s.vm h0 T73.vm T73.heap := R70.trans cR73
      have q78 := fun t (kt : Go p e below T73 (mkF m 388 #[vI p1, vJ q2, vS, vJ q3, vS, vI r_22, vI r_25, vI r_28, vI r_31, vI r_34, vI r_37, vI r7, vI (p1 &&& (7 : Int32)), vR b50, vI 0, vI 0] [(.int 1)]) t) => q72 t (st73.trans (by
        show Go _ _ _ _ (mkF m 378 #[vI p1, vJ q2, vS, vJ q3, vS, vI r_22, vI r_25, vI r_28, vI r_31, vI r_34, vI r_37, vI r7, vI (p1 &&& (7 : Int32)), vR b50, vI 0, vI 0] [(.int (own_sh []))]) _
        refine XS.iload X73.here hx rfl (hb hby at_378) rfl ?_
        show Go _ _ _ _ (mkF m 380 _ [(.int 0), (.int (own_sh []))]) _
        refine XS.icmpNo X73.here hx rfl (hb hby at_380) rfl (teq (by simp [own_sh])).2 ?_
        show Go _ _ _ _ (mkF m 383 _ []) _
        refine XS.iconst X73.here hx rfl (hb hby at_383) ?_
        show Go _ _ _ _ (mkF m 384 _ [(.int 1)]) _
        refine XS.goto X73.here hx rfl (pc0 := 384) (pc' := 388) rfl (hb hby at_384) (by decide) (by decide) ?_
        exact kt))
      obtain ⟨fs, hr, hrun, hended, hRE⟩ := X73.leaveW hS73 hkk73 (v := some (.int 1)) (fun h => by rw [Bd.returns] at h; cases h)
      refine ⟨_, _, q78 _ ?_, hrun, hended, _, _, rfl, ?_, ?_, hRE.1, hRE.2.1, hRE.2.2.1, hRE.2.2.2.mono (by decide) (by decide)⟩
      · show Go p e below T73 (mkF m 388 #[vI p1, vJ q2, vS, vJ q3, vS, vI r_22, vI r_25, vI r_28, vI r_31, vI r_34, vI r_37, vI r7, vI (p1 &&& (7 : Int32)), vR b50, vI 0, vI 0] [(.int 1)]) _
        exact retN X73 hx (t := .boolean) Bd.returns (by simp) (hb hby at_388) hr
      · show Q_rm0 Z p1 q2 q3 z_cs h0 n0 _ T73.heap _
        exact ⟨rfl, N74⟩
      · show CHr Z own_EL s.vm s.heap T73.vm T73.heap
        rw [hh]
        exact R76.trans (CHv.at X73 hZ hEW R76.1)
    · have q79 := fun t (kt : Go p e below T37 (mkF m 125 #[vI p1, vJ q2, vS, vJ q3, vS, vI r_22, vI r_25, vI r_28, vI r_31, vI r_34, vI r_37, vI r7, vI (p1 &&& (7 : Int32)), vU, vU, vU] [(.int 2), (.int (p1 &&& (7 : Int32)))]) t) => q47 t (by
        show Go _ _ _ _ (mkF m 101 #[vI p1, vJ q2, vS, vJ q3, vS, vI r_22, vI r_25, vI r_28, vI r_31, vI r_34, vI r_37, vI r7, vI (p1 &&& (7 : Int32)), vU, vU, vU] [(.int 1), (.int (p1 &&& (7 : Int32)))]) _
        refine XS.icmpYes X37.here hx rfl (pc0 := 101) (pc' := 122) rfl (hb hby at_101) rfl (feq hc48).2 (by decide) (by decide) ?_
        show Go _ _ _ _ (mkF m 122 _ []) _
        refine XS.iload X37.here hx rfl (hb hby at_122) rfl ?_
        show Go _ _ _ _ (mkF m 124 _ [(.int (p1 &&& (7 : Int32)))]) _
        refine XS.iconst X37.here hx rfl (hb hby at_124) ?_
        exact kt)
      by_cases hc80 : (p1 &&& (7 : Int32)) = (2 : Int32)
      · have q81 := fun t (kt : Go p e below T37 (mkF m 130 #[vI p1, vJ q2, vS, vJ q3, vS, vI r_22, vI r_25, vI r_28, vI r_31, vI r_34, vI r_37, vI r7, vI (p1 &&& (7 : Int32)), vU, vU, vU] [(.int r_22)]) t) => q79 t (by
          show Go _ _ _ _ (mkF m 125 #[vI p1, vJ q2, vS, vJ q3, vS, vI r_22, vI r_25, vI r_28, vI r_31, vI r_34, vI r_37, vI r7, vI (p1 &&& (7 : Int32)), vU, vU, vU] [(.int 2), (.int (p1 &&& (7 : Int32)))]) _
          refine XS.icmpNo X37.here hx rfl (hb hby at_125) rfl (teq hc80).2 ?_
          show Go _ _ _ _ (mkF m 128 _ []) _
          refine XS.iload X37.here hx rfl (hb hby at_128) rfl ?_
          exact kt)
        by_cases hV : (255 : Int32) < r_22
        · skip
          obtain ⟨_, _, ⟨T82, L82, k82, n82⟩, -, X82, ⟨_, hQ82, l82, y82, z82⟩, st82⟩ := Jvm.LawKit.callS X37 hx (y := ym15) hown (ow hZ hw 51 rfl) (ow hZ hw 52 rfl) (ow hZ hw 10 rfl) (ow hZ hw 53 rfl) (by decide) (backOf (W := 0) (rm11B l Z a0 hw [] cx r_22 h0 n0 O0 hV) hZ (ov hw 53 rfl) (ov hw 10 rfl) (by decide) (by decide)) (g := (mkF m 130 #[vI p1, vJ q2, vS, vJ q3, vS, vI r_22, vI r_25, vI r_28, vI r_31, vI r_34, vI r_37, vI r7, vI (p1 &&& (7 : Int32)), vU, vU, vU] [(.int r_22)])) rfl (by rw [hml]; rfl) (argsL := [(.int r_22)]) (rest := []) (lenOf pd_15 rfl) rfl own_le0 (hb hby at_130) (fun _ _ => ⟨rfl, eq37, (by decide : 0 + 2 ≤ _), (by decide : 0 + 6 ≤ _)⟩)
          dsimp only [Pt.U, Pt.locs, Pt.cells, Pt.slots] at X82 l82 y82 z82 st82 hQ82
          subst l82 y82 z82
          obtain ⟨b_82, rfl, Nq82, Kq82, fr82_0, fq82_0, fq82_1⟩ := hQ82
          have N83 := Fr.app N38 Nq82
          have gg84 : n0 ≤ b_82 := Nat.le_trans (O0.1 ▸ O0.2.1) fr82_0
          have O85 := O0.keep Kq82 all0
          have R86 : CHr Z own_EL s.vm h0 s.vm T82.heap := R0.trans (CHr.keep Kq82 sf0 R0.1)
          have hk87 : _ ≤ T82.heap.size := Nat.le_trans hk0 Kq82.1
          have q88 := fun t (kt : Go p e below T82 (mkF m 375 #[vI p1, vJ q2, vS, vJ q3, vS, vI r_22, vI r_25, vI r_28, vI r_31, vI r_34, vI r_37, vI r7, vI (p1 &&& (7 : Int32)), vR b_82, vI 1, vI 0] [(.ref b_82)]) t) => q81 t (st82 t (by
            show Go _ _ _ _ (mkF m 133 #[vI p1, vJ q2, vS, vJ q3, vS, vI r_22, vI r_25, vI r_28, vI r_31, vI r_34, vI r_37, vI r7, vI (p1 &&& (7 : Int32)), vU, vU, vU] [(.ref b_82)]) _
            refine XS.astore X82.here hx rfl (hb hby at_133) rfl rfl (l' := #[vI p1, vJ q2, vS, vJ q3, vS, vI r_22, vI r_25, vI r_28, vI r_31, vI r_34, vI r_37, vI r7, vI (p1 &&& (7 : Int32)), vR b_82, vU, vU]) rfl ?_
            show Go _ _ _ _ (mkF m 135 #[vI p1, vJ q2, vS, vJ q3, vS, vI r_22, vI r_25, vI r_28, vI r_31, vI r_34, vI r_37, vI r7, vI (p1 &&& (7 : Int32)), vR b_82, vU, vU] []) _
            refine XS.iconst X82.here hx rfl (hb hby at_135) ?_
            show Go _ _ _ _ (mkF m 136 _ [(.int 1)]) _
            refine XS.istore X82.here hx rfl (hb hby at_136) rfl (l' := #[vI p1, vJ q2, vS, vJ q3, vS, vI r_22, vI r_25, vI r_28, vI r_31, vI r_34, vI r_37, vI r7, vI (p1 &&& (7 : Int32)), vR b_82, vI 1, vU]) rfl ?_
            show Go _ _ _ _ (mkF m 138 #[vI p1, vJ q2, vS, vJ q3, vS, vI r_22, vI r_25, vI r_28, vI r_31, vI r_34, vI r_37, vI r7, vI (p1 &&& (7 : Int32)), vR b_82, vI 1, vU] []) _
            refine XS.goto X82.here hx rfl (pc0 := 138) (pc' := 300) rfl (hb hby at_138) (by decide) (by decide) ?_
            show Go _ _ _ _ (mkF m 300 _ []) _
            refine XS.iload X82.here hx rfl (hb hby at_300) rfl ?_
            show Go _ _ _ _ (mkF m 302 _ [(.int 1)]) _
            refine XS.ifYes X82.here hx rfl (pc0 := 302) (pc' := 311) rfl (hb hby at_302) rfl ((if0 _ _).trans (flt (by decide : ¬ ((1 : Int32) < (0 : Int32)))).2.1) (by decide) (by decide) ?_
            show Go _ _ _ _ (mkF m 311 _ []) _
            refine XS.iload X82.here hx rfl (hb hby at_311) rfl ?_
            show Go _ _ _ _ (mkF m 313 _ [(.int 1)]) _
            refine XS.bipush X82.here hx rfl (hb hby at_313) ?_
            show Go _ _ _ _ (mkF m 315 _ [(.int 6), (.int 1)]) _
            refine XS.icmpYes X82.here hx rfl (pc0 := 315) (pc' := 370) rfl (hb hby at_315) rfl (feq (by decide : ¬ ((1 : Int32) = (6 : Int32)))).2 (by decide) (by decide) ?_
            show Go _ _ _ _ (mkF m 370 _ []) _
            refine XS.iconst X82.here hx rfl (hb hby at_370) ?_
            show Go _ _ _ _ (mkF m 371 _ [(.int 0)]) _
            refine XS.istore X82.here hx rfl (hb hby at_371) rfl (l' := #[vI p1, vJ q2, vS, vJ q3, vS, vI r_22, vI r_25, vI r_28, vI r_31, vI r_34, vI r_37, vI r7, vI (p1 &&& (7 : Int32)), vR b_82, vI 1, vI 0]) rfl ?_
            show Go _ _ _ _ (mkF m 373 #[vI p1, vJ q2, vS, vJ q3, vS, vI r_22, vI r_25, vI r_28, vI r_31, vI r_34, vI r_37, vI r7, vI (p1 &&& (7 : Int32)), vR b_82, vI 1, vI 0] []) _
            refine XS.aload X82.here hx rfl (hb hby at_373) rfl rfl ?_
            exact kt))
          obtain ⟨_, _, ⟨T89, L89, k89, n89⟩, -, X89, hSn89, hgn89, ⟨_, hQ89, l89, y89, z89, cR89⟩, st89⟩ := callSS X82 hx (y := ym17) hown (ow hZ hw 4 rfl) (ow hZ hw 5 rfl) (ow hZ hw 6 rfl) (ow hZ hw 7 rfl) (by decide) (backOfSH (EL := own_EL) (vm0 := s.vm) (W := 0) (rm2u l Z a0 hw [] cx b_82 T82.heap n0 O85 fq82_0 fq82_1) hZ (ov hw 7 rfl) (ov hw 6 rfl) (by decide) (by decide) hEW R86.1) (g := (mkF m 375 #[vI p1, vJ q2, vS, vJ q3, vS, vI r_22, vI r_25, vI r_28, vI r_31, vI r_34, vI r_37, vI r7, vI (p1 &&& (7 : Int32)), vR b_82, vI 1, vI 0] [(.ref b_82)])) rfl (by rw [hml]; rfl) (argsL := [(.ref b_82)]) (rest := []) (lenOf pd_13 rfl) rfl own_le0 (hb hby at_375) (fun _ _ => ⟨rfl, rfl, (by decide : 2 + 2 ≤ _), (by decide : 6 + 28 ≤ _)⟩)
          dsimp only [Pt.U, Pt.locs, Pt.cells, Pt.slots] at X89 l89 y89 z89 st89 hQ89 hSn89 hgn89 cR89
          subst l89 y89 z89
          have hS89 := foldS (vm0 := s.vm) hS0 hk87 hSn89 hgn89
          have hZ : Z.Warmed39 (s.setVm T89.vm).vm := State.Warmed39.trans (t := s.setVm s.vm) hZ hSn89.1
          have hown : (s.setVm T89.vm).vm.findClass sk0 = some m.cls := by
            show T89.vm.findClass _ = _
            rw [hSn89.1.alike.findClass]; exact hown
          have X89 : Stand p l e room_1 (s.setVm T89.vm) m #[(.int p1), (.long q2), (.long q3)] below meth c T89 _ _ _ := X89
          have hkk89 : T89.heap.size ≤ T89.heap.size := Nat.le_refl _
          obtain ⟨rfl, Nq89, Kq89⟩ := hQ89
          have N90 := Fr.app N83 Nq89
          have O91 := O85.keep Kq89 all0
          have R92 : CHr Z own_EL s.vm h0 T89.vm T89.heap := R86.trans cR89
          have q93 := fun t (kt : Go p e below T89 (mkF m 388 #[vI p1, vJ q2, vS, vJ q3, vS, vI r_22, vI r_25, vI r_28, vI r_31, vI r_34, vI r_37, vI r7, vI (p1 &&& (7 : Int32)), vR b_82, vI 1, vI 0] [(.int 1)]) t) => q88 t (st89.trans (by
            show Go _ _ _ _ (mkF m 378 #[vI p1, vJ q2, vS, vJ q3, vS, vI r_22, vI r_25, vI r_28, vI r_31, vI r_34, vI r_37, vI r7, vI (p1 &&& (7 : Int32)), vR b_82, vI 1, vI 0] [(.int 0)]) _
            refine XS.iload X89.here hx rfl (hb hby at_378) rfl ?_
            show Go _ _ _ _ (mkF m 380 _ [(.int 0), (.int 0)]) _
            refine XS.icmpNo X89.here hx rfl (hb hby at_380) rfl (teq (rfl : (0 : Int32) = (0 : Int32))).2 ?_
            show Go _ _ _ _ (mkF m 383 _ []) _
            refine XS.iconst X89.here hx rfl (hb hby at_383) ?_
            show Go _ _ _ _ (mkF m 384 _ [(.int 1)]) _
            refine XS.goto X89.here hx rfl (pc0 := 384) (pc' := 388) rfl (hb hby at_384) (by decide) (by decide) ?_
            exact kt))
          obtain ⟨fs, hr, hrun, hended, hRE⟩ := X89.leaveW hS89 hkk89 (v := some (.int 1)) (fun h => by rw [Bd.returns] at h; cases h)
          refine ⟨_, _, q93 _ ?_, hrun, hended, _, _, rfl, ?_, ?_, hRE.1, hRE.2.1, hRE.2.2.1, hRE.2.2.2.mono (by decide) (by decide)⟩
          · show Go p e below T89 (mkF m 388 #[vI p1, vJ q2, vS, vJ q3, vS, vI r_22, vI r_25, vI r_28, vI r_31, vI r_34, vI r_37, vI r7, vI (p1 &&& (7 : Int32)), vR b_82, vI 1, vI 0] [(.int 1)]) _
            exact retN X89 hx (t := .boolean) Bd.returns (by simp) (hb hby at_388) hr
          · show Q_rm0 Z p1 q2 q3 z_cs h0 n0 _ T89.heap _
            exact ⟨rfl, N90⟩
          · show CHr Z own_EL s.vm s.heap T89.vm T89.heap
            rw [hh]
            exact R92.trans (CHv.at X89 hZ hEW R92.1)
        · skip
          obtain ⟨_, _, ⟨T94, L94, k94, n94⟩, -, X94, ⟨_, hQ94, l94, y94, z94⟩, st94⟩ := Jvm.LawKit.callS X37 hx (y := ym15) hown (ow hZ hw 51 rfl) (ow hZ hw 52 rfl) (ow hZ hw 10 rfl) (ow hZ hw 53 rfl) (by decide) (backOf (W := 0) (rm11A l Z a0 hw [] cx r_22 h0 n0 O0 hV pq22_0) hZ (ov hw 53 rfl) (ov hw 10 rfl) (by decide) (by decide)) (g := (mkF m 130 #[vI p1, vJ q2, vS, vJ q3, vS, vI r_22, vI r_25, vI r_28, vI r_31, vI r_34, vI r_37, vI r7, vI (p1 &&& (7 : Int32)), vU, vU, vU] [(.int r_22)])) rfl (by rw [hml]; rfl) (argsL := [(.int r_22)]) (rest := []) (lenOf pd_15 rfl) rfl own_le0 (hb hby at_130) (fun _ _ => ⟨rfl, eq37, (by decide : 0 + 2 ≤ _), (by decide : 0 + 5 ≤ _)⟩)
          dsimp only [Pt.U, Pt.locs, Pt.cells, Pt.slots] at X94 l94 y94 z94 st94 hQ94
          subst l94 y94 z94
          obtain ⟨b_94, t_94, rfl, Nq94, Kq94, fr94_0, fr94_1, fq94_0⟩ := hQ94
          have N95 := Fr.app N38 Nq94
          have gg96 : n0 ≤ b_94 := Nat.le_trans (O0.1 ▸ O0.2.1) fr94_0
          have gg97 : n0 ≤ t_94 := Nat.le_trans (O0.1 ▸ O0.2.1) fr94_1
          have O98 := O0.keep Kq94 all0
          have R99 : CHr Z own_EL s.vm h0 s.vm T94.heap := R0.trans (CHr.keep Kq94 sf0 R0.1)
          have hk100 : _ ≤ T94.heap.size := Nat.le_trans hk0 Kq94.1
          have q101 := fun t (kt : Go p e below T94 (mkF m 375 #[vI p1, vJ q2, vS, vJ q3, vS, vI r_22, vI r_25, vI r_28, vI r_31, vI r_34, vI r_37, vI r7, vI (p1 &&& (7 : Int32)), vR b_94, vI 1, vI 0] [(.ref b_94)]) t) => q81 t (st94 t (by
            show Go _ _ _ _ (mkF m 133 #[vI p1, vJ q2, vS, vJ q3, vS, vI r_22, vI r_25, vI r_28, vI r_31, vI r_34, vI r_37, vI r7, vI (p1 &&& (7 : Int32)), vU, vU, vU] [(.ref b_94)]) _
            refine XS.astore X94.here hx rfl (hb hby at_133) rfl rfl (l' := #[vI p1, vJ q2, vS, vJ q3, vS, vI r_22, vI r_25, vI r_28, vI r_31, vI r_34, vI r_37, vI r7, vI (p1 &&& (7 : Int32)), vR b_94, vU, vU]) rfl ?_
            show Go _ _ _ _ (mkF m 135 #[vI p1, vJ q2, vS, vJ q3, vS, vI r_22, vI r_25, vI r_28, vI r_31, vI r_34, vI r_37, vI r7, vI (p1 &&& (7 : Int32)), vR b_94, vU, vU] []) _
            refine XS.iconst X94.here hx rfl (hb hby at_135) ?_
            show Go _ _ _ _ (mkF m 136 _ [(.int 1)]) _
            refine XS.istore X94.here hx rfl (hb hby at_136) rfl (l' := #[vI p1, vJ q2, vS, vJ q3, vS, vI r_22, vI r_25, vI r_28, vI r_31, vI r_34, vI r_37, vI r7, vI (p1 &&& (7 : Int32)), vR b_94, vI 1, vU]) rfl ?_
            show Go _ _ _ _ (mkF m 138 #[vI p1, vJ q2, vS, vJ q3, vS, vI r_22, vI r_25, vI r_28, vI r_31, vI r_34, vI r_37, vI r7, vI (p1 &&& (7 : Int32)), vR b_94, vI 1, vU] []) _
            refine XS.goto X94.here hx rfl (pc0 := 138) (pc' := 300) rfl (hb hby at_138) (by decide) (by decide) ?_
            show Go _ _ _ _ (mkF m 300 _ []) _
            refine XS.iload X94.here hx rfl (hb hby at_300) rfl ?_
            show Go _ _ _ _ (mkF m 302 _ [(.int 1)]) _
            refine XS.ifYes X94.here hx rfl (pc0 := 302) (pc' := 311) rfl (hb hby at_302) rfl ((if0 _ _).trans (flt (by decide : ¬ ((1 : Int32) < (0 : Int32)))).2.1) (by decide) (by decide) ?_
            show Go _ _ _ _ (mkF m 311 _ []) _
            refine XS.iload X94.here hx rfl (hb hby at_311) rfl ?_
            show Go _ _ _ _ (mkF m 313 _ [(.int 1)]) _
            refine XS.bipush X94.here hx rfl (hb hby at_313) ?_
            show Go _ _ _ _ (mkF m 315 _ [(.int 6), (.int 1)]) _
            refine XS.icmpYes X94.here hx rfl (pc0 := 315) (pc' := 370) rfl (hb hby at_315) rfl (feq (by decide : ¬ ((1 : Int32) = (6 : Int32)))).2 (by decide) (by decide) ?_
            show Go _ _ _ _ (mkF m 370 _ []) _
            refine XS.iconst X94.here hx rfl (hb hby at_370) ?_
            show Go _ _ _ _ (mkF m 371 _ [(.int 0)]) _
            refine XS.istore X94.here hx rfl (hb hby at_371) rfl (l' := #[vI p1, vJ q2, vS, vJ q3, vS, vI r_22, vI r_25, vI r_28, vI r_31, vI r_34, vI r_37, vI r7, vI (p1 &&& (7 : Int32)), vR b_94, vI 1, vI 0]) rfl ?_
            show Go _ _ _ _ (mkF m 373 #[vI p1, vJ q2, vS, vJ q3, vS, vI r_22, vI r_25, vI r_28, vI r_31, vI r_34, vI r_37, vI r7, vI (p1 &&& (7 : Int32)), vR b_94, vI 1, vI 0] []) _
            refine XS.aload X94.here hx rfl (hb hby at_373) rfl rfl ?_
            exact kt))
          obtain ⟨_, _, ⟨T102, L102, k102, n102⟩, -, X102, hSn102, hgn102, ⟨_, hQ102, l102, y102, z102, cR102⟩, st102⟩ := callSS X94 hx (y := ym17) hown (ow hZ hw 4 rfl) (ow hZ hw 5 rfl) (ow hZ hw 6 rfl) (ow hZ hw 7 rfl) (by decide) (backOfSH (EL := own_EL) (vm0 := s.vm) (W := 0) (rm2s l Z a0 hw [] cx b_94 t_94 [r_22] T94.heap n0 O98 fq94_0) hZ (ov hw 7 rfl) (ov hw 6 rfl) (by decide) (by decide) hEW R99.1) (g := (mkF m 375 #[vI p1, vJ q2, vS, vJ q3, vS, vI r_22, vI r_25, vI r_28, vI r_31, vI r_34, vI r_37, vI r7, vI (p1 &&& (7 : Int32)), vR b_94, vI 1, vI 0] [(.ref b_94)])) rfl (by rw [hml]; rfl) (argsL := [(.ref b_94)]) (rest := []) (lenOf pd_13 rfl) rfl own_le0 (hb hby at_375) (fun _ _ => ⟨rfl, rfl, (by decide : 2 + 2 ≤ _), (by decide : 5 + 28 ≤ _)⟩)
          dsimp only [Pt.U, Pt.locs, Pt.cells, Pt.slots] at X102 l102 y102 z102 st102 hQ102 hSn102 hgn102 cR102
          subst l102 y102 z102
          have hS102 := foldS (vm0 := s.vm) hS0 hk100 hSn102 hgn102
          have hZ : Z.Warmed39 (s.setVm T102.vm).vm := State.Warmed39.trans (t := s.setVm s.vm) hZ hSn102.1
          have hown : (s.setVm T102.vm).vm.findClass sk0 = some m.cls := by
            show T102.vm.findClass _ = _
            rw [hSn102.1.alike.findClass]; exact hown
          have X102 : Stand p l e room_1 (s.setVm T102.vm) m #[(.int p1), (.long q2), (.long q3)] below meth c T102 _ _ _ := X102
          have hkk102 : T102.heap.size ≤ T102.heap.size := Nat.le_refl _
          obtain ⟨rfl, Nq102, Kq102⟩ := hQ102
          have N103 := Fr.app N95 Nq102
          have O104 := O98.keep Kq102 all0
          have R105 : CHr Z own_EL s.vm h0 T102.vm T102.heap := R99.trans cR102
          have q106 := fun t (kt : Go p e below T102 (mkF m 388 #[vI p1, vJ q2, vS, vJ q3, vS, vI r_22, vI r_25, vI r_28, vI r_31, vI r_34, vI r_37, vI r7, vI (p1 &&& (7 : Int32)), vR b_94, vI 1, vI 0] [(.int 1)]) t) => q101 t (st102.trans (by
            show Go _ _ _ _ (mkF m 378 #[vI p1, vJ q2, vS, vJ q3, vS, vI r_22, vI r_25, vI r_28, vI r_31, vI r_34, vI r_37, vI r7, vI (p1 &&& (7 : Int32)), vR b_94, vI 1, vI 0] [(.int (own_sh [r_22]))]) _
            refine XS.iload X102.here hx rfl (hb hby at_378) rfl ?_
            show Go _ _ _ _ (mkF m 380 _ [(.int 0), (.int (own_sh [r_22]))]) _
            refine XS.icmpNo X102.here hx rfl (hb hby at_380) rfl (teq (by simp [own_sh])).2 ?_
            show Go _ _ _ _ (mkF m 383 _ []) _
            refine XS.iconst X102.here hx rfl (hb hby at_383) ?_
            show Go _ _ _ _ (mkF m 384 _ [(.int 1)]) _
            refine XS.goto X102.here hx rfl (pc0 := 384) (pc' := 388) rfl (hb hby at_384) (by decide) (by decide) ?_
            exact kt))
          obtain ⟨fs, hr, hrun, hended, hRE⟩ := X102.leaveW hS102 hkk102 (v := some (.int 1)) (fun h => by rw [Bd.returns] at h; cases h)
          refine ⟨_, _, q106 _ ?_, hrun, hended, _, _, rfl, ?_, ?_, hRE.1, hRE.2.1, hRE.2.2.1, hRE.2.2.2.mono (by decide) (by decide)⟩
          · show Go p e below T102 (mkF m 388 #[vI p1, vJ q2, vS, vJ q3, vS, vI r_22, vI r_25, vI r_28, vI r_31, vI r_34, vI r_37, vI r7, vI (p1 &&& (7 : Int32)), vR b_94, vI 1, vI 0] [(.int 1)]) _
            exact retN X102 hx (t := .boolean) Bd.returns (by simp) (hb hby at_388) hr
          · show Q_rm0 Z p1 q2 q3 z_cs h0 n0 _ T102.heap _
            exact ⟨rfl, N103⟩
          · show CHr Z own_EL s.vm s.heap T102.vm T102.heap
            rw [hh]
            exact R105.trans (CHv.at X102 hZ hEW R105.1)
      · have q107 := fun t (kt : Go p e below T37 (mkF m 144 #[vI p1, vJ q2, vS, vJ q3, vS, vI r_22, vI r_25, vI r_28, vI r_31, vI r_34, vI r_37, vI r7, vI (p1 &&& (7 : Int32)), vU, vU, vU] [(.int 3), (.int (p1 &&& (7 : Int32)))]) t) => q79 t (by
          show Go _ _ _ _ (mkF m 125 #[vI p1, vJ q2, vS, vJ q3, vS, vI r_22, vI r_25, vI r_28, vI r_31, vI r_34, vI r_37, vI r7, vI (p1 &&& (7 : Int32)), vU, vU, vU] [(.int 2), (.int (p1 &&& (7 : Int32)))]) _
          refine XS.icmpYes X37.here hx rfl (pc0 := 125) (pc' := 141) rfl (hb hby at_125) rfl (feq hc80).2 (by decide) (by decide) ?_
          show Go _ _ _ _ (mkF m 141 _ []) _
          refine XS.iload X37.here hx rfl (hb hby at_141) rfl ?_
          show Go _ _ _ _ (mkF m 143 _ [(.int (p1 &&& (7 : Int32)))]) _
          refine XS.iconst X37.here hx rfl (hb hby at_143) ?_
          exact kt)
        by_cases hc108 : (p1 &&& (7 : Int32)) = (3 : Int32)
        · have q109 := fun t (kt : Go p e below T37 (mkF m 147 #[vI p1, vJ q2, vS, vJ q3, vS, vI r_22, vI r_25, vI r_28, vI r_31, vI r_34, vI r_37, vI r7, vI (p1 &&& (7 : Int32)), vU, vU, vU] []) t) => q107 t (by
            show Go _ _ _ _ (mkF m 144 #[vI p1, vJ q2, vS, vJ q3, vS, vI r_22, vI r_25, vI r_28, vI r_31, vI r_34, vI r_37, vI r7, vI (p1 &&& (7 : Int32)), vU, vU, vU] [(.int 3), (.int (p1 &&& (7 : Int32)))]) _
            refine XS.icmpNo X37.here hx rfl (hb hby at_144) rfl (teq hc108).2 ?_
            exact kt)
          obtain ⟨T110, h110, X110, e110, E110, A110, D110, U110, st110⟩ := newO X37 hx hZ hown (ov hw 8 rfl) (ov hw 9 rfl) (ov hw 10 rfl) eq37 (g := (mkF m 147 #[vI p1, vJ q2, vS, vJ q3, vS, vI r_22, vI r_25, vI r_28, vI r_31, vI r_34, vI r_37, vI r7, vI (p1 &&& (7 : Int32)), vU, vU, vU] [])) rfl (hb hby at_147) (by decide) (by decide)
          obtain ⟨b110, g110⟩ : ∃ z, z = h0.size := ⟨_, rfl⟩
          rw [← g110] at A110 D110 st110
          have gg111 : n0 ≤ b110 := Nat.le_trans (O0.1 ▸ O0.2.1) (Nat.le_of_eq g110.symm)
          have sf112 : Safe Z own_EL s.vm h0 b110 := Safe.new (Nat.le_of_eq g110.symm)
          have O113 := O0.ext E110
          have sf115 : Safe Z own_EL s.vm h110 b110 := Safe.ext E110 R0.1 sf112
          have R114 : CHr Z own_EL s.vm h0 s.vm h110 := R0.trans (CHr.ext E110 R0.1)
          have hk116 : _ ≤ h110.size := Nat.le_trans hk0 E110.1
          have F110_coder : Fld Z h110 b110 sk1 "coder" "B" (.int 0) := D110 (Or.inr (ov hw 35 rfl)) (ty := .byte) (by decide)
          have F110_value : Fld Z h110 b110 sk1 "value" "[B" .null := D110 (Or.inr (ov hw 37 rfl)) (ty := (.array .byte)) (by decide)
          have q117 := fun t (kt : Go p e below T110 (mkF m 152 #[vI p1, vJ q2, vS, vJ q3, vS, vI r_22, vI r_25, vI r_28, vI r_31, vI r_34, vI r_37, vI r7, vI (p1 &&& (7 : Int32)), vU, vU, vU] [(.int 5), (.ref b110), (.ref b110)]) t) => q109 t (st110 t (by
            show Go _ _ _ _ (mkF m 150 #[vI p1, vJ q2, vS, vJ q3, vS, vI r_22, vI r_25, vI r_28, vI r_31, vI r_34, vI r_37, vI r7, vI (p1 &&& (7 : Int32)), vU, vU, vU] [(.ref b110)]) _
            refine XS.dup X110.here hx rfl (hb hby at_150) rfl rfl ?_
            show Go _ _ _ _ (mkF m 151 _ [(.ref b110), (.ref b110)]) _
            refine XS.iconst X110.here hx rfl (hb hby at_151) ?_
            exact kt))
          obtain ⟨T118, h118, k118, X118, e118, E118, A118, st118⟩ := newP X110 hx hZ (ov hw 11 rfl) e110 (g := (mkF m 152 #[vI p1, vJ q2, vS, vJ q3, vS, vI r_22, vI r_25, vI r_28, vI r_31, vI r_34, vI r_37, vI r7, vI (p1 &&& (7 : Int32)), vU, vU, vU] [(.int 5), (.ref b110), (.ref b110)])) rfl (hb hby at_152) rfl (by decide) (cap := 5) (by decide) (by decide) (by decide) (by decide)
          obtain ⟨b118, g118⟩ : ∃ z, z = h110.size := ⟨_, rfl⟩
          rw [← g118] at A118 st118
          have gg119 : n0 ≤ b118 := Nat.le_trans (O113.1 ▸ O113.2.1) (Nat.le_of_eq g118.symm)
          have O120 := O113.ext E118
          have sf122 : Safe Z own_EL s.vm h118 b110 := Safe.ext E118 R114.1 sf115
          have R121 : CHr Z own_EL s.vm h0 s.vm h118 := R114.trans (CHr.ext E118 R114.1)
          have hk123 : _ ≤ h118.size := Nat.le_trans hk116 E118.1
          have V118 : Arv Z h118 b118 k118 .char (5 : Int32) [(.int 0), (.int 0), (.int 0), (.int 0), (.int 0)] (.int 0) := (Arv.new A118 (by decide)).pad (pad_rep [] (.int 0) 5)
          have q125 := fun t (kt : Go p e below T118 (mkF m 158 #[vI p1, vJ q2, vS, vJ q3, vS, vI r_22, vI r_25, vI r_28, vI r_31, vI r_34, vI r_37, vI r7, vI (p1 &&& (7 : Int32)), vU, vU, vU] [(.int r_22), (.int 0), (.ref b118), (.ref b118), (.ref b110), (.ref b110)]) t) => q117 t (st118 t (by
            show Go _ _ _ _ (mkF m 154 #[vI p1, vJ q2, vS, vJ q3, vS, vI r_22, vI r_25, vI r_28, vI r_31, vI r_34, vI r_37, vI r7, vI (p1 &&& (7 : Int32)), vU, vU, vU] [(.ref b118), (.ref b110), (.ref b110)]) _
            refine XS.dup X118.here hx rfl (hb hby at_154) rfl rfl ?_
            show Go _ _ _ _ (mkF m 155 _ [(.ref b118), (.ref b118), (.ref b110), (.ref b110)]) _
            refine XS.iconst X118.here hx rfl (hb hby at_155) ?_
            show Go _ _ _ _ (mkF m 156 _ [(.int 0), (.ref b118), (.ref b118), (.ref b110), (.ref b110)]) _
            refine XS.iload X118.here hx rfl (hb hby at_156) rfl ?_
            exact kt))
          obtain ⟨c124, Ar124, q124, S124, N124, H124, G124⟩ := id V118
          have hi124 : ¬ ((0 : Int32) < 0 ∨ c124.slots.size ≤ ((0 : Int32)).toNatClampNeg) := inb_of S124 ⟨by decide, by decide⟩
          obtain ⟨T126, h126, X126, e126, W126, st126⟩ := stC X118 hx hZ e118 Ar124 (j := (0 : Int32)) hi124 (g := (mkF m 158 #[vI p1, vJ q2, vS, vJ q3, vS, vI r_22, vI r_25, vI r_28, vI r_31, vI r_34, vI r_37, vI r7, vI (p1 &&& (7 : Int32)), vU, vU, vU] [(.int r_22), (.int 0), (.ref b118), (.ref b118), (.ref b110), (.ref b110)])) rfl rfl (hb hby at_158)
          have V126 : Arv Z h126 b118 k118 .char (5 : Int32) [(.int r_22), (.int 0), (.int 0), (.int 0), (.int 0)] (.int 0) := by
            have vv := Arv.set Ar124 q124 S124 N124 H124 G124 (fits_nar_char _) W126 0 rfl (Nat.le_of_ble_eq_true rfl)
            rw [show nar .char r_22 = r_22 from (own_narc16 pq22_0)] at vv
            exact vv
          have N127 := Fr.snoc X126 N38 gg119
          have O128 := O120.wr W126 gg119
          have sf130 : Safe Z own_EL s.vm h126 b110 := Safe.wr W126 (Safe.arv hZ.alike V118 (by decide)) R121.1 sf122
          have R129 : CHr Z own_EL s.vm h0 s.vm h126 := R121.trans (CHr.wr W126 (Safe.arv hZ.alike V118 (by decide)) R121.1)
          have hk131 : _ ≤ h126.size := Nat.le_trans hk123 (Keep.of_wr W126).1
          have q133 := fun t (kt : Go p e below T126 (mkF m 163 #[vI p1, vJ q2, vS, vJ q3, vS, vI r_22, vI r_25, vI r_28, vI r_31, vI r_34, vI r_37, vI r7, vI (p1 &&& (7 : Int32)), vU, vU, vU] [(.int r_25), (.int 1), (.ref b118), (.ref b118), (.ref b110), (.ref b110)]) t) => q125 t (st126 t (by
            show Go _ _ _ _ (mkF m 159 #[vI p1, vJ q2, vS, vJ q3, vS, vI r_22, vI r_25, vI r_28, vI r_31, vI r_34, vI r_37, vI r7, vI (p1 &&& (7 : Int32)), vU, vU, vU] [(.ref b118), (.ref b110), (.ref b110)]) _
            refine XS.dup X126.here hx rfl (hb hby at_159) rfl rfl ?_
            show Go _ _ _ _ (mkF m 160 _ [(.ref b118), (.ref b118), (.ref b110), (.ref b110)]) _
            refine XS.iconst X126.here hx rfl (hb hby at_160) ?_
            show Go _ _ _ _ (mkF m 161 _ [(.int 1), (.ref b118), (.ref b118), (.ref b110), (.ref b110)]) _
            refine XS.iload X126.here hx rfl (hb hby at_161) rfl ?_
            exact kt))
          obtain ⟨c132, Ar132, q132, S132, N132, H132, G132⟩ := id V126
          have hi132 : ¬ ((1 : Int32) < 0 ∨ c132.slots.size ≤ ((1 : Int32)).toNatClampNeg) := inb_of S132 ⟨by decide, by decide⟩
          obtain ⟨T134, h134, X134, e134, W134, st134⟩ := stC X126 hx hZ e126 Ar132 (j := (1 : Int32)) hi132 (g := (mkF m 163 #[vI p1, vJ q2, vS, vJ q3, vS, vI r_22, vI r_25, vI r_28, vI r_31, vI r_34, vI r_37, vI r7, vI (p1 &&& (7 : Int32)), vU, vU, vU] [(.int r_25), (.int 1), (.ref b118), (.ref b118), (.ref b110), (.ref b110)])) rfl rfl (hb hby at_163)
          have V134 : Arv Z h134 b118 k118 .char (5 : Int32) [(.int r_22), (.int r_25), (.int 0), (.int 0), (.int 0)] (.int 0) := by
            have vv := Arv.set Ar132 q132 S132 N132 H132 G132 (fits_nar_char _) W134 1 rfl (Nat.le_of_ble_eq_true rfl)
            rw [show nar .char r_25 = r_25 from (own_narc16 pq25_0)] at vv
            exact vv
          have N135 := Fr.snoc X134 N127 gg119
          have O136 := O128.wr W134 gg119
          have sf138 : Safe Z own_EL s.vm h134 b110 := Safe.wr W134 (Safe.arv hZ.alike V126 (by decide)) R129.1 sf130
          have R137 : CHr Z own_EL s.vm h0 s.vm h134 := R129.trans (CHr.wr W134 (Safe.arv hZ.alike V126 (by decide)) R129.1)
          have hk139 : _ ≤ h134.size := Nat.le_trans hk131 (Keep.of_wr W134).1
          have q141 := fun t (kt : Go p e below T134 (mkF m 168 #[vI p1, vJ q2, vS, vJ q3, vS, vI r_22, vI r_25, vI r_28, vI r_31, vI r_34, vI r_37, vI r7, vI (p1 &&& (7 : Int32)), vU, vU, vU] [(.int r_28), (.int 2), (.ref b118), (.ref b118), (.ref b110), (.ref b110)]) t) => q133 t (st134 t (by
            show Go _ _ _ _ (mkF m 164 #[vI p1, vJ q2, vS, vJ q3, vS, vI r_22, vI r_25, vI r_28, vI r_31, vI r_34, vI r_37, vI r7, vI (p1 &&& (7 : Int32)), vU, vU, vU] [(.ref b118), (.ref b110), (.ref b110)]) _
            refine XS.dup X134.here hx rfl (hb hby at_164) rfl rfl ?_
            show Go _ _ _ _ (mkF m 165 _ [(.ref b118), (.ref b118), (.ref b110), (.ref b110)]) _
            refine XS.iconst X134.here hx rfl (hb hby at_165) ?_
            show Go _ _ _ _ (mkF m 166 _ [(.int 2), (.ref b118), (.ref b118), (.ref b110), (.ref b110)]) _
            refine XS.iload X134.here hx rfl (hb hby at_166) rfl ?_
            exact kt))
          obtain ⟨c140, Ar140, q140, S140, N140, H140, G140⟩ := id V134
          have hi140 : ¬ ((2 : Int32) < 0 ∨ c140.slots.size ≤ ((2 : Int32)).toNatClampNeg) := inb_of S140 ⟨by decide, by decide⟩
          obtain ⟨T142, h142, X142, e142, W142, st142⟩ := stC X134 hx hZ e134 Ar140 (j := (2 : Int32)) hi140 (g := (mkF m 168 #[vI p1, vJ q2, vS, vJ q3, vS, vI r_22, vI r_25, vI r_28, vI r_31, vI r_34, vI r_37, vI r7, vI (p1 &&& (7 : Int32)), vU, vU, vU] [(.int r_28), (.int 2), (.ref b118), (.ref b118), (.ref b110), (.ref b110)])) rfl rfl (hb hby at_168)
          have V142 : Arv Z h142 b118 k118 .char (5 : Int32) [(.int r_22), (.int r_25), (.int r_28), (.int 0), (.int 0)] (.int 0) := by
            have vv := Arv.set Ar140 q140 S140 N140 H140 G140 (fits_nar_char _) W142 2 rfl (Nat.le_of_ble_eq_true rfl)
            rw [show nar .char r_28 = r_28 from (own_narc16 pq28_0)] at vv
            exact vv
          have N143 := Fr.snoc X142 N135 gg119
          have O144 := O136.wr W142 gg119
          have sf146 : Safe Z own_EL s.vm h142 b110 := Safe.wr W142 (Safe.arv hZ.alike V134 (by decide)) R137.1 sf138
          have R145 : CHr Z own_EL s.vm h0 s.vm h142 := R137.trans (CHr.wr W142 (Safe.arv hZ.alike V134 (by decide)) R137.1)
          have hk147 : _ ≤ h142.size := Nat.le_trans hk139 (Keep.of_wr W142).1
          have q149 := fun t (kt : Go p e below T142 (mkF m 173 #[vI p1, vJ q2, vS, vJ q3, vS, vI r_22, vI r_25, vI r_28, vI r_31, vI r_34, vI r_37, vI r7, vI (p1 &&& (7 : Int32)), vU, vU, vU] [(.int r_31), (.int 3), (.ref b118), (.ref b118), (.ref b110), (.ref b110)]) t) => q141 t (st142 t (by
            show Go _ _ _ _ (mkF m 169 #[vI p1, vJ q2, vS, vJ q3, vS, vI r_22, vI r_25, vI r_28, vI r_31, vI r_34, vI r_37, vI r7, vI (p1 &&& (7 : Int32)), vU, vU, vU] [(.ref b118), (.ref b110), (.ref b110)]) _
            refine XS.dup X142.here hx rfl (hb hby at_169) rfl rfl ?_
            show Go _ _ _ _ (mkF m 170 _ [(.ref b118), (.ref b118), (.ref b110), (.ref b110)]) _
            refine XS.iconst X142.here hx rfl (hb hby at_170) ?_
            show Go _ _ _ _ (mkF m 171 _ [(.int 3), (.ref b118), (.ref b118), (.ref b110), (.ref b110)]) _
            refine XS.iload X142.here hx rfl (hb hby at_171) rfl ?_
            exact kt))
          obtain ⟨c148, Ar148, q148, S148, N148, H148, G148⟩ := id V142
          have hi148 : ¬ ((3 : Int32) < 0 ∨ c148.slots.size ≤ ((3 : Int32)).toNatClampNeg) := inb_of S148 ⟨by decide, by decide⟩
          obtain ⟨T150, h150, X150, e150, W150, st150⟩ := stC X142 hx hZ e142 Ar148 (j := (3 : Int32)) hi148 (g := (mkF m 173 #[vI p1, vJ q2, vS, vJ q3, vS, vI r_22, vI r_25, vI r_28, vI r_31, vI r_34, vI r_37, vI r7, vI (p1 &&& (7 : Int32)), vU, vU, vU] [(.int r_31), (.int 3), (.ref b118), (.ref b118), (.ref b110), (.ref b110)])) rfl rfl (hb hby at_173)
          have V150 : Arv Z h150 b118 k118 .char (5 : Int32) [(.int r_22), (.int r_25), (.int r_28), (.int r_31), (.int 0)] (.int 0) := by
            have vv := Arv.set Ar148 q148 S148 N148 H148 G148 (fits_nar_char _) W150 3 rfl (Nat.le_of_ble_eq_true rfl)
            rw [show nar .char r_31 = r_31 from (own_narc16 pq31_0)] at vv
            exact vv
          have N151 := Fr.snoc X150 N143 gg119
          have O152 := O144.wr W150 gg119
          have sf154 : Safe Z own_EL s.vm h150 b110 := Safe.wr W150 (Safe.arv hZ.alike V142 (by decide)) R145.1 sf146
          have R153 : CHr Z own_EL s.vm h0 s.vm h150 := R145.trans (CHr.wr W150 (Safe.arv hZ.alike V142 (by decide)) R145.1)
          have hk155 : _ ≤ h150.size := Nat.le_trans hk147 (Keep.of_wr W150).1
          have q157 := fun t (kt : Go p e below T150 (mkF m 178 #[vI p1, vJ q2, vS, vJ q3, vS, vI r_22, vI r_25, vI r_28, vI r_31, vI r_34, vI r_37, vI r7, vI (p1 &&& (7 : Int32)), vU, vU, vU] [(.int r_34), (.int 4), (.ref b118), (.ref b118), (.ref b110), (.ref b110)]) t) => q149 t (st150 t (by
            show Go _ _ _ _ (mkF m 174 #[vI p1, vJ q2, vS, vJ q3, vS, vI r_22, vI r_25, vI r_28, vI r_31, vI r_34, vI r_37, vI r7, vI (p1 &&& (7 : Int32)), vU, vU, vU] [(.ref b118), (.ref b110), (.ref b110)]) _
            refine XS.dup X150.here hx rfl (hb hby at_174) rfl rfl ?_
            show Go _ _ _ _ (mkF m 175 _ [(.ref b118), (.ref b118), (.ref b110), (.ref b110)]) _
            refine XS.iconst X150.here hx rfl (hb hby at_175) ?_
            show Go _ _ _ _ (mkF m 176 _ [(.int 4), (.ref b118), (.ref b118), (.ref b110), (.ref b110)]) _
            refine XS.iload X150.here hx rfl (hb hby at_176) rfl ?_
            exact kt))
          obtain ⟨c156, Ar156, q156, S156, N156, H156, G156⟩ := id V150
          have hi156 : ¬ ((4 : Int32) < 0 ∨ c156.slots.size ≤ ((4 : Int32)).toNatClampNeg) := inb_of S156 ⟨by decide, by decide⟩
          obtain ⟨T158, h158, X158, e158, W158, st158⟩ := stC X150 hx hZ e150 Ar156 (j := (4 : Int32)) hi156 (g := (mkF m 178 #[vI p1, vJ q2, vS, vJ q3, vS, vI r_22, vI r_25, vI r_28, vI r_31, vI r_34, vI r_37, vI r7, vI (p1 &&& (7 : Int32)), vU, vU, vU] [(.int r_34), (.int 4), (.ref b118), (.ref b118), (.ref b110), (.ref b110)])) rfl rfl (hb hby at_178)
          have V158 : Arv Z h158 b118 k118 .char (5 : Int32) [(.int r_22), (.int r_25), (.int r_28), (.int r_31), (.int r_34)] (.int 0) := by
            have vv := Arv.set Ar156 q156 S156 N156 H156 G156 (fits_nar_char _) W158 4 rfl (Nat.le_of_ble_eq_true rfl)
            rw [show nar .char r_34 = r_34 from (own_narc16 pq34_0)] at vv
            exact vv
          have N159 := Fr.snoc X158 N151 gg119
          have O160 := O152.wr W158 gg119
          have sf162 : Safe Z own_EL s.vm h158 b110 := Safe.wr W158 (Safe.arv hZ.alike V150 (by decide)) R153.1 sf154
          have R161 : CHr Z own_EL s.vm h0 s.vm h158 := R153.trans (CHr.wr W158 (Safe.arv hZ.alike V150 (by decide)) R153.1)
          have hk163 : _ ≤ h158.size := Nat.le_trans hk155 (Keep.of_wr W158).1
          have q164 := fun t (kt : Go p e below T158 (mkF m 179 #[vI p1, vJ q2, vS, vJ q3, vS, vI r_22, vI r_25, vI r_28, vI r_31, vI r_34, vI r_37, vI r7, vI (p1 &&& (7 : Int32)), vU, vU, vU] [(.ref b118), (.ref b110), (.ref b110)]) t) => q157 t (st158 t kt)
          by_cases hB : (255 : Int32) < r_22 ∨ (255 : Int32) < r_25 ∨ (255 : Int32) < r_28 ∨ (255 : Int32) < r_31 ∨ (255 : Int32) < r_34
          · skip
            have f165 := ((((((A110.ext E118).wr W126).wr W134).wr W142).wr W150).wr W158)
            have ne166 : b110 ≠ b118 := (Nat.ne_of_lt (Nat.lt_of_lt_of_le A110.lt (Nat.le_of_eq g118.symm)))
            have f167 := ((((((F110_value.ext E118).other W126 (Or.inl ne166)).other W134 (Or.inl ne166)).other W142 (Or.inl ne166)).other W150 (Or.inl ne166)).other W158 (Or.inl ne166))
            have f168 := ((((((F110_coder.ext E118).other W126 (Or.inl ne166)).other W134 (Or.inl ne166)).other W142 (Or.inl ne166)).other W150 (Or.inl ne166)).other W158 (Or.inl ne166))
            obtain ⟨_, _, ⟨T169, L169, k169, n169⟩, -, X169, ⟨_, hQ169, l169, y169, z169⟩, st169⟩ := X158.specialBack hx (y := ym10) rfl hown (ow hZ hw 12 rfl) (ow hZ hw 13 rfl) (ow hZ hw 14 rfl) (by decide) (backOf (W := 1) (rm3_5 l Z a0 hw [] cx b110 b118 k118 r_22 r_25 r_28 r_31 r_34 h158 n0 O160 f165 f167 f168 V158 gg111 hB pq22_0 pq25_0 pq28_0 pq31_0 pq34_0) hZ (ov hw 14 rfl) (ov hw 10 rfl) (by decide) (by decide)) (g := (mkF m 179 #[vI p1, vJ q2, vS, vJ q3, vS, vI r_22, vI r_25, vI r_28, vI r_31, vI r_34, vI r_37, vI r7, vI (p1 &&& (7 : Int32)), vU, vU, vU] [(.ref b118), (.ref b110), (.ref b110)])) rfl (by rw [hml]; rfl) (Steps.refl _) (a := b110) (argsL := [(.ref b118)]) (rest := [(.ref b110)]) (lenOf pd_14 rfl) rfl own_le0 (hb hby at_179) (fun _ _ => ⟨rfl, e158, (by decide : 2 + 2 ≤ _), (by decide : 9 + 15 ≤ _)⟩)
            dsimp only [Pt.U, Pt.locs, Pt.cells, Pt.slots] at X169 l169 y169 z169 st169 hQ169
            subst l169 y169 z169
            obtain ⟨t_169, rfl, Nq169, Kq169, fq169_0, fq169_1⟩ := hQ169
            have N170 := Fr.app N159 Nq169
            have O171 := O160.keep Kq169 (allS gg111 all0)
            have sf173 : Safe Z own_EL s.vm T169.heap b110 := Safe.keep Kq169 (sfS sf162 sf0) R161.1 sf162
            have R172 : CHr Z own_EL s.vm h0 s.vm T169.heap := R161.trans (CHr.keep Kq169 (sfS sf162 sf0) R161.1)
            have hk174 : _ ≤ T169.heap.size := Nat.le_trans hk163 Kq169.1
            have f175 := (f165.keep Kq169)
            have q176 := fun t (kt : Go p e below T169 (mkF m 375 #[vI p1, vJ q2, vS, vJ q3, vS, vI r_22, vI r_25, vI r_28, vI r_31, vI r_34, vI r_37, vI r7, vI (p1 &&& (7 : Int32)), vR b110, vI 5, vI 0] [(.ref b110)]) t) => q164 t (st169.trans (by
              show Go _ _ _ _ (mkF m 182 #[vI p1, vJ q2, vS, vJ q3, vS, vI r_22, vI r_25, vI r_28, vI r_31, vI r_34, vI r_37, vI r7, vI (p1 &&& (7 : Int32)), vU, vU, vU] [(.ref b110)]) _
              refine XS.astore X169.here hx rfl (hb hby at_182) rfl rfl (l' := #[vI p1, vJ q2, vS, vJ q3, vS, vI r_22, vI r_25, vI r_28, vI r_31, vI r_34, vI r_37, vI r7, vI (p1 &&& (7 : Int32)), vR b110, vU, vU]) rfl ?_
              show Go _ _ _ _ (mkF m 184 #[vI p1, vJ q2, vS, vJ q3, vS, vI r_22, vI r_25, vI r_28, vI r_31, vI r_34, vI r_37, vI r7, vI (p1 &&& (7 : Int32)), vR b110, vU, vU] []) _
              refine XS.iconst X169.here hx rfl (hb hby at_184) ?_
              show Go _ _ _ _ (mkF m 185 _ [(.int 5)]) _
              refine XS.istore X169.here hx rfl (hb hby at_185) rfl (l' := #[vI p1, vJ q2, vS, vJ q3, vS, vI r_22, vI r_25, vI r_28, vI r_31, vI r_34, vI r_37, vI r7, vI (p1 &&& (7 : Int32)), vR b110, vI 5, vU]) rfl ?_
              show Go _ _ _ _ (mkF m 187 #[vI p1, vJ q2, vS, vJ q3, vS, vI r_22, vI r_25, vI r_28, vI r_31, vI r_34, vI r_37, vI r7, vI (p1 &&& (7 : Int32)), vR b110, vI 5, vU] []) _
              refine XS.goto X169.here hx rfl (pc0 := 187) (pc' := 300) rfl (hb hby at_187) (by decide) (by decide) ?_
              show Go _ _ _ _ (mkF m 300 _ []) _
              refine XS.iload X169.here hx rfl (hb hby at_300) rfl ?_
              show Go _ _ _ _ (mkF m 302 _ [(.int 5)]) _
              refine XS.ifYes X169.here hx rfl (pc0 := 302) (pc' := 311) rfl (hb hby at_302) rfl ((if0 _ _).trans (flt (by decide : ¬ ((5 : Int32) < (0 : Int32)))).2.1) (by decide) (by decide) ?_
              show Go _ _ _ _ (mkF m 311 _ []) _
              refine XS.iload X169.here hx rfl (hb hby at_311) rfl ?_
              show Go _ _ _ _ (mkF m 313 _ [(.int 5)]) _
              refine XS.bipush X169.here hx rfl (hb hby at_313) ?_
              show Go _ _ _ _ (mkF m 315 _ [(.int 6), (.int 5)]) _
              refine XS.icmpYes X169.here hx rfl (pc0 := 315) (pc' := 370) rfl (hb hby at_315) rfl (feq (by decide : ¬ ((5 : Int32) = (6 : Int32)))).2 (by decide) (by decide) ?_
              show Go _ _ _ _ (mkF m 370 _ []) _
              refine XS.iconst X169.here hx rfl (hb hby at_370) ?_
              show Go _ _ _ _ (mkF m 371 _ [(.int 0)]) _
              refine XS.istore X169.here hx rfl (hb hby at_371) rfl (l' := #[vI p1, vJ q2, vS, vJ q3, vS, vI r_22, vI r_25, vI r_28, vI r_31, vI r_34, vI r_37, vI r7, vI (p1 &&& (7 : Int32)), vR b110, vI 5, vI 0]) rfl ?_
              show Go _ _ _ _ (mkF m 373 #[vI p1, vJ q2, vS, vJ q3, vS, vI r_22, vI r_25, vI r_28, vI r_31, vI r_34, vI r_37, vI r7, vI (p1 &&& (7 : Int32)), vR b110, vI 5, vI 0] []) _
              refine XS.aload X169.here hx rfl (hb hby at_373) rfl rfl ?_
              exact kt))
            obtain ⟨_, _, ⟨T177, L177, k177, n177⟩, -, X177, hSn177, hgn177, ⟨_, hQ177, l177, y177, z177, cR177⟩, st177⟩ := callSS X169 hx (y := ym17) hown (ow hZ hw 4 rfl) (ow hZ hw 5 rfl) (ow hZ hw 6 rfl) (ow hZ hw 7 rfl) (by decide) (backOfSH (EL := own_EL) (vm0 := s.vm) (W := 0) (rm2u l Z a0 hw [] cx b110 T169.heap n0 O171 f175 fq169_1) hZ (ov hw 7 rfl) (ov hw 6 rfl) (by decide) (by decide) hEW R172.1) (g := (mkF m 375 #[vI p1, vJ q2, vS, vJ q3, vS, vI r_22, vI r_25, vI r_28, vI r_31, vI r_34, vI r_37, vI r7, vI (p1 &&& (7 : Int32)), vR b110, vI 5, vI 0] [(.ref b110)])) rfl (by rw [hml]; rfl) (argsL := [(.ref b110)]) (rest := []) (lenOf pd_13 rfl) rfl own_le0 (hb hby at_375) (fun _ _ => ⟨rfl, rfl, (by decide : 4 + 2 ≤ _), (by decide : 24 + 28 ≤ _)⟩)
            dsimp only [Pt.U, Pt.locs, Pt.cells, Pt.slots] at X177 l177 y177 z177 st177 hQ177 hSn177 hgn177 cR177
            subst l177 y177 z177
            have hS177 := foldS (vm0 := s.vm) hS0 hk174 hSn177 hgn177
            have hZ : Z.Warmed39 (s.setVm T177.vm).vm := State.Warmed39.trans (t := s.setVm s.vm) hZ hSn177.1
            have hown : (s.setVm T177.vm).vm.findClass sk0 = some m.cls := by
              show T177.vm.findClass _ = _
              rw [hSn177.1.alike.findClass]; exact hown
            have X177 : Stand p l e room_1 (s.setVm T177.vm) m #[(.int p1), (.long q2), (.long q3)] below meth c T177 _ _ _ := X177
            have hkk177 : T177.heap.size ≤ T177.heap.size := Nat.le_refl _
            obtain ⟨rfl, Nq177, Kq177⟩ := hQ177
            have N178 := Fr.app N170 Nq177
            have O179 := O171.keep Kq177 all0
            have sf181 : Safe Z own_EL T177.vm T177.heap b110 := CHr.safe cR177 f175.lt sf173
            have R180 : CHr Z own_EL s.vm h0 T177.vm T177.heap := R172.trans cR177
            have q182 := fun t (kt : Go p e below T177 (mkF m 388 #[vI p1, vJ q2, vS, vJ q3, vS, vI r_22, vI r_25, vI r_28, vI r_31, vI r_34, vI r_37, vI r7, vI (p1 &&& (7 : Int32)), vR b110, vI 5, vI 0] [(.int 1)]) t) => q176 t (st177.trans (by
              show Go _ _ _ _ (mkF m 378 #[vI p1, vJ q2, vS, vJ q3, vS, vI r_22, vI r_25, vI r_28, vI r_31, vI r_34, vI r_37, vI r7, vI (p1 &&& (7 : Int32)), vR b110, vI 5, vI 0] [(.int 0)]) _
              refine XS.iload X177.here hx rfl (hb hby at_378) rfl ?_
              show Go _ _ _ _ (mkF m 380 _ [(.int 0), (.int 0)]) _
              refine XS.icmpNo X177.here hx rfl (hb hby at_380) rfl (teq (rfl : (0 : Int32) = (0 : Int32))).2 ?_
              show Go _ _ _ _ (mkF m 383 _ []) _
              refine XS.iconst X177.here hx rfl (hb hby at_383) ?_
              show Go _ _ _ _ (mkF m 384 _ [(.int 1)]) _
              refine XS.goto X177.here hx rfl (pc0 := 384) (pc' := 388) rfl (hb hby at_384) (by decide) (by decide) ?_
              exact kt))
            obtain ⟨fs, hr, hrun, hended, hRE⟩ := X177.leaveW hS177 hkk177 (v := some (.int 1)) (fun h => by rw [Bd.returns] at h; cases h)
            refine ⟨_, _, q182 _ ?_, hrun, hended, _, _, rfl, ?_, ?_, hRE.1, hRE.2.1, hRE.2.2.1, hRE.2.2.2.mono (by decide) (by decide)⟩
            · show Go p e below T177 (mkF m 388 #[vI p1, vJ q2, vS, vJ q3, vS, vI r_22, vI r_25, vI r_28, vI r_31, vI r_34, vI r_37, vI r7, vI (p1 &&& (7 : Int32)), vR b110, vI 5, vI 0] [(.int 1)]) _
              exact retN X177 hx (t := .boolean) Bd.returns (by simp) (hb hby at_388) hr
            · show Q_rm0 Z p1 q2 q3 z_cs h0 n0 _ T177.heap _
              exact ⟨rfl, N178⟩
            · show CHr Z own_EL s.vm s.heap T177.vm T177.heap
              rw [hh]
              exact R180.trans (CHv.at X177 hZ hEW R180.1)
          · skip
            have hl0 : ¬ r_22 < 0 ∧ ¬ (255 : Int32) < r_22 := ⟨pq22_0.1, fun h => hB (Or.inl h)⟩
            have hl1 : ¬ r_25 < 0 ∧ ¬ (255 : Int32) < r_25 := ⟨pq25_0.1, fun h => hB (Or.inr (Or.inl h))⟩
            have hl2 : ¬ r_28 < 0 ∧ ¬ (255 : Int32) < r_28 := ⟨pq28_0.1, fun h => hB (Or.inr (Or.inr (Or.inl h)))⟩
            have hl3 : ¬ r_31 < 0 ∧ ¬ (255 : Int32) < r_31 := ⟨pq31_0.1, fun h => hB (Or.inr (Or.inr (Or.inr (Or.inl h))))⟩
            have hl4 : ¬ r_34 < 0 ∧ ¬ (255 : Int32) < r_34 := ⟨pq34_0.1, fun h => hB (Or.inr (Or.inr (Or.inr (Or.inr h))))⟩
            have f183 := ((((((A110.ext E118).wr W126).wr W134).wr W142).wr W150).wr W158)
            have ne184 : b110 ≠ b118 := (Nat.ne_of_lt (Nat.lt_of_lt_of_le A110.lt (Nat.le_of_eq g118.symm)))
            have f185 := ((((((F110_value.ext E118).other W126 (Or.inl ne184)).other W134 (Or.inl ne184)).other W142 (Or.inl ne184)).other W150 (Or.inl ne184)).other W158 (Or.inl ne184))
            have f186 := ((((((F110_coder.ext E118).other W126 (Or.inl ne184)).other W134 (Or.inl ne184)).other W142 (Or.inl ne184)).other W150 (Or.inl ne184)).other W158 (Or.inl ne184))
            have hws187 : ∀ d ∈ StrChars.Road.words, d.before a0 Z = true := fun d hd => hw d ((by decide +kernel : ∀ d ∈ StrChars.Road.words, d ∈ tables_1) d hd)
            have hlt187 : ∀ c ∈ ([r_22, r_25, r_28, r_31, r_34] : List Int32), ¬ c < 0 ∧ ¬ (255 : Int32) < c := by
              intro c hc
              simp only [List.mem_cons, List.not_mem_nil, or_false] at hc
              rcases hc with rfl | rfl | rfl | rfl | rfl
              · exact hl0
              · exact hl1
              · exact hl2
              · exact hl3
              · exact hl4
            obtain ⟨_, _, ⟨T188, L188, k188, n188⟩, -, X188, ⟨_, hQ188, l188, y188, z188⟩, st188⟩ := X158.specialBack hx (y := ym10) rfl hown (ow hZ hw 12 rfl) (ow hZ hw 13 rfl) (ow hZ hw 14 rfl) (by decide) (StrChars.Road.backV (W := 1) hZ hws187 (kI := 4) (ov hw 9 rfl) (cs := [r_22, r_25, r_28, r_31, r_34]) (bs := (([r_22, r_25, r_28, r_31, r_34] : List Int32).map (fun c => c.toInt8.toInt32))) (n := 5) gg111 (O160.1 ▸ O160.2.1) f183 f185 f186 V158 (cx.1.ext O160.2) cx.2.1 rfl rfl (by decide) (by decide) hlt187 rfl (by decide) (by decide)) (g := (mkF m 179 #[vI p1, vJ q2, vS, vJ q3, vS, vI r_22, vI r_25, vI r_28, vI r_31, vI r_34, vI r_37, vI r7, vI (p1 &&& (7 : Int32)), vU, vU, vU] [(.ref b118), (.ref b110), (.ref b110)])) rfl (by rw [hml]; rfl) (Steps.refl _) (a := b110) (argsL := [(.ref b118)]) (rest := [(.ref b110)]) (lenOf pd_14 rfl) rfl own_le0 (hb hby at_179) (fun _ _ => ⟨rfl, e158, (by decide : 2 + 1 ≤ _), (by decide : 9 + 5 ≤ _)⟩)
            dsimp only [Pt.U, Pt.locs, Pt.cells, Pt.slots] at X188 l188 y188 z188 st188 hQ188
            subst l188 y188 z188
            obtain ⟨rfl, Nq188, Kq188, Ex188, Co188, t188, kt188, gt188, ht188, nt188, Va188, Vb188⟩ := hQ188
            have N189 := Fr.app N159 Nq188
            have gg190 : n0 ≤ t188 := Nat.le_trans (O160.1 ▸ O160.2.1) ht188
            have O191 := O160.keep Kq188 (allS gg111 all0)
            have sf193 : Safe Z own_EL s.vm T188.heap b110 := Safe.keep Kq188 (sfS sf162 sf0) R161.1 sf162
            have R192 : CHr Z own_EL s.vm h0 s.vm T188.heap := R161.trans (CHr.keep Kq188 (sfS sf162 sf0) R161.1)
            have hk194 : _ ≤ T188.heap.size := Nat.le_trans hk163 Kq188.1
            have Sr188 : Str Z T188.heap b110 t188 [r_22, r_25, r_28, r_31, r_34] := ⟨_, _, _, _, Ex188, Va188, Co188, Vb188, StrChars.Road.codOf (n := 5) rfl (fun c hc => (hlt187 c hc).2), own_up _ hlt187, Nat.le_of_ble_eq_true rfl⟩
            have q195 := fun t (kt : Go p e below T188 (mkF m 375 #[vI p1, vJ q2, vS, vJ q3, vS, vI r_22, vI r_25, vI r_28, vI r_31, vI r_34, vI r_37, vI r7, vI (p1 &&& (7 : Int32)), vR b110, vI 5, vI 0] [(.ref b110)]) t) => q164 t (st188.trans (by
              show Go _ _ _ _ (mkF m 182 #[vI p1, vJ q2, vS, vJ q3, vS, vI r_22, vI r_25, vI r_28, vI r_31, vI r_34, vI r_37, vI r7, vI (p1 &&& (7 : Int32)), vU, vU, vU] [(.ref b110)]) _
              refine XS.astore X188.here hx rfl (hb hby at_182) rfl rfl (l' := #[vI p1, vJ q2, vS, vJ q3, vS, vI r_22, vI r_25, vI r_28, vI r_31, vI r_34, vI r_37, vI r7, vI (p1 &&& (7 : Int32)), vR b110, vU, vU]) rfl ?_
              show Go _ _ _ _ (mkF m 184 #[vI p1, vJ q2, vS, vJ q3, vS, vI r_22, vI r_25, vI r_28, vI r_31, vI r_34, vI r_37, vI r7, vI (p1 &&& (7 : Int32)), vR b110, vU, vU] []) _
              refine XS.iconst X188.here hx rfl (hb hby at_184) ?_
              show Go _ _ _ _ (mkF m 185 _ [(.int 5)]) _
              refine XS.istore X188.here hx rfl (hb hby at_185) rfl (l' := #[vI p1, vJ q2, vS, vJ q3, vS, vI r_22, vI r_25, vI r_28, vI r_31, vI r_34, vI r_37, vI r7, vI (p1 &&& (7 : Int32)), vR b110, vI 5, vU]) rfl ?_
              show Go _ _ _ _ (mkF m 187 #[vI p1, vJ q2, vS, vJ q3, vS, vI r_22, vI r_25, vI r_28, vI r_31, vI r_34, vI r_37, vI r7, vI (p1 &&& (7 : Int32)), vR b110, vI 5, vU] []) _
              refine XS.goto X188.here hx rfl (pc0 := 187) (pc' := 300) rfl (hb hby at_187) (by decide) (by decide) ?_
              show Go _ _ _ _ (mkF m 300 _ []) _
              refine XS.iload X188.here hx rfl (hb hby at_300) rfl ?_
              show Go _ _ _ _ (mkF m 302 _ [(.int 5)]) _
              refine XS.ifYes X188.here hx rfl (pc0 := 302) (pc' := 311) rfl (hb hby at_302) rfl ((if0 _ _).trans (flt (by decide : ¬ ((5 : Int32) < (0 : Int32)))).2.1) (by decide) (by decide) ?_
              show Go _ _ _ _ (mkF m 311 _ []) _
              refine XS.iload X188.here hx rfl (hb hby at_311) rfl ?_
              show Go _ _ _ _ (mkF m 313 _ [(.int 5)]) _
              refine XS.bipush X188.here hx rfl (hb hby at_313) ?_
              show Go _ _ _ _ (mkF m 315 _ [(.int 6), (.int 5)]) _
              refine XS.icmpYes X188.here hx rfl (pc0 := 315) (pc' := 370) rfl (hb hby at_315) rfl (feq (by decide : ¬ ((5 : Int32) = (6 : Int32)))).2 (by decide) (by decide) ?_
              show Go _ _ _ _ (mkF m 370 _ []) _
              refine XS.iconst X188.here hx rfl (hb hby at_370) ?_
              show Go _ _ _ _ (mkF m 371 _ [(.int 0)]) _
              refine XS.istore X188.here hx rfl (hb hby at_371) rfl (l' := #[vI p1, vJ q2, vS, vJ q3, vS, vI r_22, vI r_25, vI r_28, vI r_31, vI r_34, vI r_37, vI r7, vI (p1 &&& (7 : Int32)), vR b110, vI 5, vI 0]) rfl ?_
              show Go _ _ _ _ (mkF m 373 #[vI p1, vJ q2, vS, vJ q3, vS, vI r_22, vI r_25, vI r_28, vI r_31, vI r_34, vI r_37, vI r7, vI (p1 &&& (7 : Int32)), vR b110, vI 5, vI 0] []) _
              refine XS.aload X188.here hx rfl (hb hby at_373) rfl rfl ?_
              exact kt))
            obtain ⟨_, _, ⟨T196, L196, k196, n196⟩, -, X196, hSn196, hgn196, ⟨_, hQ196, l196, y196, z196, cR196⟩, st196⟩ := callSS X188 hx (y := ym17) hown (ow hZ hw 4 rfl) (ow hZ hw 5 rfl) (ow hZ hw 6 rfl) (ow hZ hw 7 rfl) (by decide) (backOfSH (EL := own_EL) (vm0 := s.vm) (W := 0) (rm2s l Z a0 hw [] cx b110 t188 [r_22, r_25, r_28, r_31, r_34] T188.heap n0 O191 Sr188) hZ (ov hw 7 rfl) (ov hw 6 rfl) (by decide) (by decide) hEW R192.1) (g := (mkF m 375 #[vI p1, vJ q2, vS, vJ q3, vS, vI r_22, vI r_25, vI r_28, vI r_31, vI r_34, vI r_37, vI r7, vI (p1 &&& (7 : Int32)), vR b110, vI 5, vI 0] [(.ref b110)])) rfl (by rw [hml]; rfl) (argsL := [(.ref b110)]) (rest := []) (lenOf pd_13 rfl) rfl own_le0 (hb hby at_375) (fun _ _ => ⟨rfl, rfl, (by decide : 3 + 2 ≤ _), (by decide : 14 + 28 ≤ _)⟩)
            dsimp only [Pt.U, Pt.locs, Pt.cells, Pt.slots] at X196 l196 y196 z196 st196 hQ196 hSn196 hgn196 cR196
            subst l196 y196 z196
            have hS196 := foldS (vm0 := s.vm) hS0 hk194 hSn196 hgn196
            have hZ : Z.Warmed39 (s.setVm T196.vm).vm := State.Warmed39.trans (t := s.setVm s.vm) hZ hSn196.1
            have hown : (s.setVm T196.vm).vm.findClass sk0 = some m.cls := by
              show T196.vm.findClass _ = _
              rw [hSn196.1.alike.findClass]; exact hown
            have X196 : Stand p l e room_1 (s.setVm T196.vm) m #[(.int p1), (.long q2), (.long q3)] below meth c T196 _ _ _ := X196
            have hkk196 : T196.heap.size ≤ T196.heap.size := Nat.le_refl _
            obtain ⟨rfl, Nq196, Kq196⟩ := hQ196
            have N197 := Fr.app N189 Nq196
            have O198 := O191.keep Kq196 all0
            have sf200 : Safe Z own_EL T196.vm T196.heap b110 := CHr.safe cR196 Ex188.lt sf193
            have R199 : CHr Z own_EL s.vm h0 T196.vm T196.heap := R192.trans cR196
            have q201 := fun t (kt : Go p e below T196 (mkF m 388 #[vI p1, vJ q2, vS, vJ q3, vS, vI r_22, vI r_25, vI r_28, vI r_31, vI r_34, vI r_37, vI r7, vI (p1 &&& (7 : Int32)), vR b110, vI 5, vI 0] [(.int 1)]) t) => q195 t (st196.trans (by
              show Go _ _ _ _ (mkF m 378 #[vI p1, vJ q2, vS, vJ q3, vS, vI r_22, vI r_25, vI r_28, vI r_31, vI r_34, vI r_37, vI r7, vI (p1 &&& (7 : Int32)), vR b110, vI 5, vI 0] [(.int (own_sh [r_22, r_25, r_28, r_31, r_34]))]) _
              refine XS.iload X196.here hx rfl (hb hby at_378) rfl ?_
              show Go _ _ _ _ (mkF m 380 _ [(.int 0), (.int (own_sh [r_22, r_25, r_28, r_31, r_34]))]) _
              refine XS.icmpNo X196.here hx rfl (hb hby at_380) rfl (teq (by simp [own_sh])).2 ?_
              show Go _ _ _ _ (mkF m 383 _ []) _
              refine XS.iconst X196.here hx rfl (hb hby at_383) ?_
              show Go _ _ _ _ (mkF m 384 _ [(.int 1)]) _
              refine XS.goto X196.here hx rfl (pc0 := 384) (pc' := 388) rfl (hb hby at_384) (by decide) (by decide) ?_
              exact kt))
            obtain ⟨fs, hr, hrun, hended, hRE⟩ := X196.leaveW hS196 hkk196 (v := some (.int 1)) (fun h => by rw [Bd.returns] at h; cases h)
            refine ⟨_, _, q201 _ ?_, hrun, hended, _, _, rfl, ?_, ?_, hRE.1, hRE.2.1, hRE.2.2.1, hRE.2.2.2.mono (by decide) (by decide)⟩
            · show Go p e below T196 (mkF m 388 #[vI p1, vJ q2, vS, vJ q3, vS, vI r_22, vI r_25, vI r_28, vI r_31, vI r_34, vI r_37, vI r7, vI (p1 &&& (7 : Int32)), vR b110, vI 5, vI 0] [(.int 1)]) _
              exact retN X196 hx (t := .boolean) Bd.returns (by simp) (hb hby at_388) hr
            · show Q_rm0 Z p1 q2 q3 z_cs h0 n0 _ T196.heap _
              exact ⟨rfl, N197⟩
            · show CHr Z own_EL s.vm s.heap T196.vm T196.heap
              rw [hh]
              exact R199.trans (CHv.at X196 hZ hEW R199.1)
        · have q202 := fun t (kt : Go p e below T37 (mkF m 194 #[vI p1, vJ q2, vS, vJ q3, vS, vI r_22, vI r_25, vI r_28, vI r_31, vI r_34, vI r_37, vI r7, vI (p1 &&& (7 : Int32)), vU, vU, vU] [(.int 6), (.int (p1 &&& (7 : Int32)))]) t) => q107 t (by
            show Go _ _ _ _ (mkF m 144 #[vI p1, vJ q2, vS, vJ q3, vS, vI r_22, vI r_25, vI r_28, vI r_31, vI r_34, vI r_37, vI r7, vI (p1 &&& (7 : Int32)), vU, vU, vU] [(.int 3), (.int (p1 &&& (7 : Int32)))]) _
            refine XS.icmpYes X37.here hx rfl (pc0 := 144) (pc' := 190) rfl (hb hby at_144) rfl (feq hc108).2 (by decide) (by decide) ?_
            show Go _ _ _ _ (mkF m 190 _ []) _
            refine XS.iload X37.here hx rfl (hb hby at_190) rfl ?_
            show Go _ _ _ _ (mkF m 192 _ [(.int (p1 &&& (7 : Int32)))]) _
            refine XS.bipush X37.here hx rfl (hb hby at_192) ?_
            exact kt)
          by_cases hc203 : (p1 &&& (7 : Int32)) = (6 : Int32)
          · have q204 := fun t (kt : Go p e below T37 (mkF m 197 #[vI p1, vJ q2, vS, vJ q3, vS, vI r_22, vI r_25, vI r_28, vI r_31, vI r_34, vI r_37, vI r7, vI (p1 &&& (7 : Int32)), vU, vU, vU] []) t) => q202 t (by
              show Go _ _ _ _ (mkF m 194 #[vI p1, vJ q2, vS, vJ q3, vS, vI r_22, vI r_25, vI r_28, vI r_31, vI r_34, vI r_37, vI r7, vI (p1 &&& (7 : Int32)), vU, vU, vU] [(.int 6), (.int (p1 &&& (7 : Int32)))]) _
              refine XS.icmpNo X37.here hx rfl (hb hby at_194) rfl (teq hc203).2 ?_
              exact kt)
            obtain ⟨T205, h205, X205, e205, E205, A205, D205, U205, st205⟩ := newO X37 hx hZ hown (ov hw 8 rfl) (ov hw 9 rfl) (ov hw 10 rfl) eq37 (g := (mkF m 197 #[vI p1, vJ q2, vS, vJ q3, vS, vI r_22, vI r_25, vI r_28, vI r_31, vI r_34, vI r_37, vI r7, vI (p1 &&& (7 : Int32)), vU, vU, vU] [])) rfl (hb hby at_197) (by decide) (by decide)
            obtain ⟨b205, g205⟩ : ∃ z, z = h0.size := ⟨_, rfl⟩
            rw [← g205] at A205 D205 st205
            have gg206 : n0 ≤ b205 := Nat.le_trans (O0.1 ▸ O0.2.1) (Nat.le_of_eq g205.symm)
            have sf207 : Safe Z own_EL s.vm h0 b205 := Safe.new (Nat.le_of_eq g205.symm)
            have O208 := O0.ext E205
            have sf210 : Safe Z own_EL s.vm h205 b205 := Safe.ext E205 R0.1 sf207
            have R209 : CHr Z own_EL s.vm h0 s.vm h205 := R0.trans (CHr.ext E205 R0.1)
            have hk211 : _ ≤ h205.size := Nat.le_trans hk0 E205.1
            have F205_coder : Fld Z h205 b205 sk1 "coder" "B" (.int 0) := D205 (Or.inr (ov hw 35 rfl)) (ty := .byte) (by decide)
            have F205_value : Fld Z h205 b205 sk1 "value" "[B" .null := D205 (Or.inr (ov hw 37 rfl)) (ty := (.array .byte)) (by decide)
            have q212 := fun t (kt : Go p e below T205 (mkF m 203 #[vI p1, vJ q2, vS, vJ q3, vS, vI r_22, vI r_25, vI r_28, vI r_31, vI r_34, vI r_37, vI r7, vI (p1 &&& (7 : Int32)), vU, vU, vU] [(.int 7), (.ref b205), (.ref b205)]) t) => q204 t (st205 t (by
              show Go _ _ _ _ (mkF m 200 #[vI p1, vJ q2, vS, vJ q3, vS, vI r_22, vI r_25, vI r_28, vI r_31, vI r_34, vI r_37, vI r7, vI (p1 &&& (7 : Int32)), vU, vU, vU] [(.ref b205)]) _
              refine XS.dup X205.here hx rfl (hb hby at_200) rfl rfl ?_
              show Go _ _ _ _ (mkF m 201 _ [(.ref b205), (.ref b205)]) _
              refine XS.bipush X205.here hx rfl (hb hby at_201) ?_
              exact kt))
            obtain ⟨T213, h213, k213, X213, e213, E213, A213, st213⟩ := newP X205 hx hZ (ov hw 11 rfl) e205 (g := (mkF m 203 #[vI p1, vJ q2, vS, vJ q3, vS, vI r_22, vI r_25, vI r_28, vI r_31, vI r_34, vI r_37, vI r7, vI (p1 &&& (7 : Int32)), vU, vU, vU] [(.int 7), (.ref b205), (.ref b205)])) rfl (hb hby at_203) rfl (by decide) (cap := 7) (by decide) (by decide) (by decide) (by decide)
            obtain ⟨b213, g213⟩ : ∃ z, z = h205.size := ⟨_, rfl⟩
            rw [← g213] at A213 st213
            have gg214 : n0 ≤ b213 := Nat.le_trans (O208.1 ▸ O208.2.1) (Nat.le_of_eq g213.symm)
            have O215 := O208.ext E213
            have sf217 : Safe Z own_EL s.vm h213 b205 := Safe.ext E213 R209.1 sf210
            have R216 : CHr Z own_EL s.vm h0 s.vm h213 := R209.trans (CHr.ext E213 R209.1)
            have hk218 : _ ≤ h213.size := Nat.le_trans hk211 E213.1
            have V213 : Arv Z h213 b213 k213 .char (7 : Int32) [(.int 0), (.int 0), (.int 0), (.int 0), (.int 0), (.int 0), (.int 0)] (.int 0) := (Arv.new A213 (by decide)).pad (pad_rep [] (.int 0) 7)
            have q220 := fun t (kt : Go p e below T213 (mkF m 209 #[vI p1, vJ q2, vS, vJ q3, vS, vI r_22, vI r_25, vI r_28, vI r_31, vI r_34, vI r_37, vI r7, vI (p1 &&& (7 : Int32)), vU, vU, vU] [(.int r_22), (.int 0), (.ref b213), (.ref b213), (.ref b205), (.ref b205)]) t) => q212 t (st213 t (by
              show Go _ _ _ _ (mkF m 205 #[vI p1, vJ q2, vS, vJ q3, vS, vI r_22, vI r_25, vI r_28, vI r_31, vI r_34, vI r_37, vI r7, vI (p1 &&& (7 : Int32)), vU, vU, vU] [(.ref b213), (.ref b205), (.ref b205)]) _
              refine XS.dup X213.here hx rfl (hb hby at_205) rfl rfl ?_
              show Go _ _ _ _ (mkF m 206 _ [(.ref b213), (.ref b213), (.ref b205), (.ref b205)]) _
              refine XS.iconst X213.here hx rfl (hb hby at_206) ?_
              show Go _ _ _ _ (mkF m 207 _ [(.int 0), (.ref b213), (.ref b213), (.ref b205), (.ref b205)]) _
              refine XS.iload X213.here hx rfl (hb hby at_207) rfl ?_
              exact kt))
            obtain ⟨c219, Ar219, q219, S219, N219, H219, G219⟩ := id V213
            have hi219 : ¬ ((0 : Int32) < 0 ∨ c219.slots.size ≤ ((0 : Int32)).toNatClampNeg) := inb_of S219 ⟨by decide, by decide⟩
            obtain ⟨T221, h221, X221, e221, W221, st221⟩ := stC X213 hx hZ e213 Ar219 (j := (0 : Int32)) hi219 (g := (mkF m 209 #[vI p1, vJ q2, vS, vJ q3, vS, vI r_22, vI r_25, vI r_28, vI r_31, vI r_34, vI r_37, vI r7, vI (p1 &&& (7 : Int32)), vU, vU, vU] [(.int r_22), (.int 0), (.ref b213), (.ref b213), (.ref b205), (.ref b205)])) rfl rfl (hb hby at_209)
            have V221 : Arv Z h221 b213 k213 .char (7 : Int32) [(.int r_22), (.int 0), (.int 0), (.int 0), (.int 0), (.int 0), (.int 0)] (.int 0) := by
              have vv := Arv.set Ar219 q219 S219 N219 H219 G219 (fits_nar_char _) W221 0 rfl (Nat.le_of_ble_eq_true rfl)
              rw [show nar .char r_22 = r_22 from (own_narc16 pq22_0)] at vv
              exact vv
            have N222 := Fr.snoc X221 N38 gg214
            have O223 := O215.wr W221 gg214
            have sf225 : Safe Z own_EL s.vm h221 b205 := Safe.wr W221 (Safe.arv hZ.alike V213 (by decide)) R216.1 sf217
            have R224 : CHr Z own_EL s.vm h0 s.vm h221 := R216.trans (CHr.wr W221 (Safe.arv hZ.alike V213 (by decide)) R216.1)
            have hk226 : _ ≤ h221.size := Nat.le_trans hk218 (Keep.of_wr W221).1
            have q228 := fun t (kt : Go p e below T221 (mkF m 214 #[vI p1, vJ q2, vS, vJ q3, vS, vI r_22, vI r_25, vI r_28, vI r_31, vI r_34, vI r_37, vI r7, vI (p1 &&& (7 : Int32)), vU, vU, vU] [(.int r_25), (.int 1), (.ref b213), (.ref b213), (.ref b205), (.ref b205)]) t) => q220 t (st221 t (by
              show Go _ _ _ _ (mkF m 210 #[vI p1, vJ q2, vS, vJ q3, vS, vI r_22, vI r_25, vI r_28, vI r_31, vI r_34, vI r_37, vI r7, vI (p1 &&& (7 : Int32)), vU, vU, vU] [(.ref b213), (.ref b205), (.ref b205)]) _
              refine XS.dup X221.here hx rfl (hb hby at_210) rfl rfl ?_
              show Go _ _ _ _ (mkF m 211 _ [(.ref b213), (.ref b213), (.ref b205), (.ref b205)]) _
              refine XS.iconst X221.here hx rfl (hb hby at_211) ?_
              show Go _ _ _ _ (mkF m 212 _ [(.int 1), (.ref b213), (.ref b213), (.ref b205), (.ref b205)]) _
              refine XS.iload X221.here hx rfl (hb hby at_212) rfl ?_
              exact kt))
            obtain ⟨c227, Ar227, q227, S227, N227, H227, G227⟩ := id V221
            have hi227 : ¬ ((1 : Int32) < 0 ∨ c227.slots.size ≤ ((1 : Int32)).toNatClampNeg) := inb_of S227 ⟨by decide, by decide⟩
            obtain ⟨T229, h229, X229, e229, W229, st229⟩ := stC X221 hx hZ e221 Ar227 (j := (1 : Int32)) hi227 (g := (mkF m 214 #[vI p1, vJ q2, vS, vJ q3, vS, vI r_22, vI r_25, vI r_28, vI r_31, vI r_34, vI r_37, vI r7, vI (p1 &&& (7 : Int32)), vU, vU, vU] [(.int r_25), (.int 1), (.ref b213), (.ref b213), (.ref b205), (.ref b205)])) rfl rfl (hb hby at_214)
            have V229 : Arv Z h229 b213 k213 .char (7 : Int32) [(.int r_22), (.int r_25), (.int 0), (.int 0), (.int 0), (.int 0), (.int 0)] (.int 0) := by
              have vv := Arv.set Ar227 q227 S227 N227 H227 G227 (fits_nar_char _) W229 1 rfl (Nat.le_of_ble_eq_true rfl)
              rw [show nar .char r_25 = r_25 from (own_narc16 pq25_0)] at vv
              exact vv
            have N230 := Fr.snoc X229 N222 gg214
            have O231 := O223.wr W229 gg214
            have sf233 : Safe Z own_EL s.vm h229 b205 := Safe.wr W229 (Safe.arv hZ.alike V221 (by decide)) R224.1 sf225
            have R232 : CHr Z own_EL s.vm h0 s.vm h229 := R224.trans (CHr.wr W229 (Safe.arv hZ.alike V221 (by decide)) R224.1)
            have hk234 : _ ≤ h229.size := Nat.le_trans hk226 (Keep.of_wr W229).1
            have q236 := fun t (kt : Go p e below T229 (mkF m 219 #[vI p1, vJ q2, vS, vJ q3, vS, vI r_22, vI r_25, vI r_28, vI r_31, vI r_34, vI r_37, vI r7, vI (p1 &&& (7 : Int32)), vU, vU, vU] [(.int r_28), (.int 2), (.ref b213), (.ref b213), (.ref b205), (.ref b205)]) t) => q228 t (st229 t (by
              show Go _ _ _ _ (mkF m 215 #[vI p1, vJ q2, vS, vJ q3, vS, vI r_22, vI r_25, vI r_28, vI r_31, vI r_34, vI r_37, vI r7, vI (p1 &&& (7 : Int32)), vU, vU, vU] [(.ref b213), (.ref b205), (.ref b205)]) _
              refine XS.dup X229.here hx rfl (hb hby at_215) rfl rfl ?_
              show Go _ _ _ _ (mkF m 216 _ [(.ref b213), (.ref b213), (.ref b205), (.ref b205)]) _
              refine XS.iconst X229.here hx rfl (hb hby at_216) ?_
              show Go _ _ _ _ (mkF m 217 _ [(.int 2), (.ref b213), (.ref b213), (.ref b205), (.ref b205)]) _
              refine XS.iload X229.here hx rfl (hb hby at_217) rfl ?_
              exact kt))
            obtain ⟨c235, Ar235, q235, S235, N235, H235, G235⟩ := id V229
            have hi235 : ¬ ((2 : Int32) < 0 ∨ c235.slots.size ≤ ((2 : Int32)).toNatClampNeg) := inb_of S235 ⟨by decide, by decide⟩
            obtain ⟨T237, h237, X237, e237, W237, st237⟩ := stC X229 hx hZ e229 Ar235 (j := (2 : Int32)) hi235 (g := (mkF m 219 #[vI p1, vJ q2, vS, vJ q3, vS, vI r_22, vI r_25, vI r_28, vI r_31, vI r_34, vI r_37, vI r7, vI (p1 &&& (7 : Int32)), vU, vU, vU] [(.int r_28), (.int 2), (.ref b213), (.ref b213), (.ref b205), (.ref b205)])) rfl rfl (hb hby at_219)
            have V237 : Arv Z h237 b213 k213 .char (7 : Int32) [(.int r_22), (.int r_25), (.int r_28), (.int 0), (.int 0), (.int 0), (.int 0)] (.int 0) := by
              have vv := Arv.set Ar235 q235 S235 N235 H235 G235 (fits_nar_char _) W237 2 rfl (Nat.le_of_ble_eq_true rfl)
              rw [show nar .char r_28 = r_28 from (own_narc16 pq28_0)] at vv
              exact vv
            have N238 := Fr.snoc X237 N230 gg214
            have O239 := O231.wr W237 gg214
            have sf241 : Safe Z own_EL s.vm h237 b205 := Safe.wr W237 (Safe.arv hZ.alike V229 (by decide)) R232.1 sf233
            have R240 : CHr Z own_EL s.vm h0 s.vm h237 := R232.trans (CHr.wr W237 (Safe.arv hZ.alike V229 (by decide)) R232.1)
            have hk242 : _ ≤ h237.size := Nat.le_trans hk234 (Keep.of_wr W237).1
            have q244 := fun t (kt : Go p e below T237 (mkF m 224 #[vI p1, vJ q2, vS, vJ q3, vS, vI r_22, vI r_25, vI r_28, vI r_31, vI r_34, vI r_37, vI r7, vI (p1 &&& (7 : Int32)), vU, vU, vU] [(.int r_31), (.int 3), (.ref b213), (.ref b213), (.ref b205), (.ref b205)]) t) => q236 t (st237 t (by
              show Go _ _ _ _ (mkF m 220 #[vI p1, vJ q2, vS, vJ q3, vS, vI r_22, vI r_25, vI r_28, vI r_31, vI r_34, vI r_37, vI r7, vI (p1 &&& (7 : Int32)), vU, vU, vU] [(.ref b213), (.ref b205), (.ref b205)]) _
              refine XS.dup X237.here hx rfl (hb hby at_220) rfl rfl ?_
              show Go _ _ _ _ (mkF m 221 _ [(.ref b213), (.ref b213), (.ref b205), (.ref b205)]) _
              refine XS.iconst X237.here hx rfl (hb hby at_221) ?_
              show Go _ _ _ _ (mkF m 222 _ [(.int 3), (.ref b213), (.ref b213), (.ref b205), (.ref b205)]) _
              refine XS.iload X237.here hx rfl (hb hby at_222) rfl ?_
              exact kt))
            obtain ⟨c243, Ar243, q243, S243, N243, H243, G243⟩ := id V237
            have hi243 : ¬ ((3 : Int32) < 0 ∨ c243.slots.size ≤ ((3 : Int32)).toNatClampNeg) := inb_of S243 ⟨by decide, by decide⟩
            obtain ⟨T245, h245, X245, e245, W245, st245⟩ := stC X237 hx hZ e237 Ar243 (j := (3 : Int32)) hi243 (g := (mkF m 224 #[vI p1, vJ q2, vS, vJ q3, vS, vI r_22, vI r_25, vI r_28, vI r_31, vI r_34, vI r_37, vI r7, vI (p1 &&& (7 : Int32)), vU, vU, vU] [(.int r_31), (.int 3), (.ref b213), (.ref b213), (.ref b205), (.ref b205)])) rfl rfl (hb hby at_224)
            have V245 : Arv Z h245 b213 k213 .char (7 : Int32) [(.int r_22), (.int r_25), (.int r_28), (.int r_31), (.int 0), (.int 0), (.int 0)] (.int 0) := by
              have vv := Arv.set Ar243 q243 S243 N243 H243 G243 (fits_nar_char _) W245 3 rfl (Nat.le_of_ble_eq_true rfl)
              rw [show nar .char r_31 = r_31 from (own_narc16 pq31_0)] at vv
              exact vv
            have N246 := Fr.snoc X245 N238 gg214
            have O247 := O239.wr W245 gg214
            have sf249 : Safe Z own_EL s.vm h245 b205 := Safe.wr W245 (Safe.arv hZ.alike V237 (by decide)) R240.1 sf241
            have R248 : CHr Z own_EL s.vm h0 s.vm h245 := R240.trans (CHr.wr W245 (Safe.arv hZ.alike V237 (by decide)) R240.1)
            have hk250 : _ ≤ h245.size := Nat.le_trans hk242 (Keep.of_wr W245).1
            have q252 := fun t (kt : Go p e below T245 (mkF m 229 #[vI p1, vJ q2, vS, vJ q3, vS, vI r_22, vI r_25, vI r_28, vI r_31, vI r_34, vI r_37, vI r7, vI (p1 &&& (7 : Int32)), vU, vU, vU] [(.int r_34), (.int 4), (.ref b213), (.ref b213), (.ref b205), (.ref b205)]) t) => q244 t (st245 t (by
              show Go _ _ _ _ (mkF m 225 #[vI p1, vJ q2, vS, vJ q3, vS, vI r_22, vI r_25, vI r_28, vI r_31, vI r_34, vI r_37, vI r7, vI (p1 &&& (7 : Int32)), vU, vU, vU] [(.ref b213), (.ref b205), (.ref b205)]) _
              refine XS.dup X245.here hx rfl (hb hby at_225) rfl rfl ?_
              show Go _ _ _ _ (mkF m 226 _ [(.ref b213), (.ref b213), (.ref b205), (.ref b205)]) _
              refine XS.iconst X245.here hx rfl (hb hby at_226) ?_
              show Go _ _ _ _ (mkF m 227 _ [(.int 4), (.ref b213), (.ref b213), (.ref b205), (.ref b205)]) _
              refine XS.iload X245.here hx rfl (hb hby at_227) rfl ?_
              exact kt))
            obtain ⟨c251, Ar251, q251, S251, N251, H251, G251⟩ := id V245
            have hi251 : ¬ ((4 : Int32) < 0 ∨ c251.slots.size ≤ ((4 : Int32)).toNatClampNeg) := inb_of S251 ⟨by decide, by decide⟩
            obtain ⟨T253, h253, X253, e253, W253, st253⟩ := stC X245 hx hZ e245 Ar251 (j := (4 : Int32)) hi251 (g := (mkF m 229 #[vI p1, vJ q2, vS, vJ q3, vS, vI r_22, vI r_25, vI r_28, vI r_31, vI r_34, vI r_37, vI r7, vI (p1 &&& (7 : Int32)), vU, vU, vU] [(.int r_34), (.int 4), (.ref b213), (.ref b213), (.ref b205), (.ref b205)])) rfl rfl (hb hby at_229)
            have V253 : Arv Z h253 b213 k213 .char (7 : Int32) [(.int r_22), (.int r_25), (.int r_28), (.int r_31), (.int r_34), (.int 0), (.int 0)] (.int 0) := by
              have vv := Arv.set Ar251 q251 S251 N251 H251 G251 (fits_nar_char _) W253 4 rfl (Nat.le_of_ble_eq_true rfl)
              rw [show nar .char r_34 = r_34 from (own_narc16 pq34_0)] at vv
              exact vv
            have N254 := Fr.snoc X253 N246 gg214
            have O255 := O247.wr W253 gg214
            have sf257 : Safe Z own_EL s.vm h253 b205 := Safe.wr W253 (Safe.arv hZ.alike V245 (by decide)) R248.1 sf249
            have R256 : CHr Z own_EL s.vm h0 s.vm h253 := R248.trans (CHr.wr W253 (Safe.arv hZ.alike V245 (by decide)) R248.1)
            have hk258 : _ ≤ h253.size := Nat.le_trans hk250 (Keep.of_wr W253).1
            have q260 := fun t (kt : Go p e below T253 (mkF m 234 #[vI p1, vJ q2, vS, vJ q3, vS, vI r_22, vI r_25, vI r_28, vI r_31, vI r_34, vI r_37, vI r7, vI (p1 &&& (7 : Int32)), vU, vU, vU] [(.int r_37), (.int 5), (.ref b213), (.ref b213), (.ref b205), (.ref b205)]) t) => q252 t (st253 t (by
              show Go _ _ _ _ (mkF m 230 #[vI p1, vJ q2, vS, vJ q3, vS, vI r_22, vI r_25, vI r_28, vI r_31, vI r_34, vI r_37, vI r7, vI (p1 &&& (7 : Int32)), vU, vU, vU] [(.ref b213), (.ref b205), (.ref b205)]) _
              refine XS.dup X253.here hx rfl (hb hby at_230) rfl rfl ?_
              show Go _ _ _ _ (mkF m 231 _ [(.ref b213), (.ref b213), (.ref b205), (.ref b205)]) _
              refine XS.iconst X253.here hx rfl (hb hby at_231) ?_
              show Go _ _ _ _ (mkF m 232 _ [(.int 5), (.ref b213), (.ref b213), (.ref b205), (.ref b205)]) _
              refine XS.iload X253.here hx rfl (hb hby at_232) rfl ?_
              exact kt))
            obtain ⟨c259, Ar259, q259, S259, N259, H259, G259⟩ := id V253
            have hi259 : ¬ ((5 : Int32) < 0 ∨ c259.slots.size ≤ ((5 : Int32)).toNatClampNeg) := inb_of S259 ⟨by decide, by decide⟩
            obtain ⟨T261, h261, X261, e261, W261, st261⟩ := stC X253 hx hZ e253 Ar259 (j := (5 : Int32)) hi259 (g := (mkF m 234 #[vI p1, vJ q2, vS, vJ q3, vS, vI r_22, vI r_25, vI r_28, vI r_31, vI r_34, vI r_37, vI r7, vI (p1 &&& (7 : Int32)), vU, vU, vU] [(.int r_37), (.int 5), (.ref b213), (.ref b213), (.ref b205), (.ref b205)])) rfl rfl (hb hby at_234)
            have V261 : Arv Z h261 b213 k213 .char (7 : Int32) [(.int r_22), (.int r_25), (.int r_28), (.int r_31), (.int r_34), (.int r_37), (.int 0)] (.int 0) := by
              have vv := Arv.set Ar259 q259 S259 N259 H259 G259 (fits_nar_char _) W261 5 rfl (Nat.le_of_ble_eq_true rfl)
              rw [show nar .char r_37 = r_37 from (own_narc16 pq37_0)] at vv
              exact vv
            have N262 := Fr.snoc X261 N254 gg214
            have O263 := O255.wr W261 gg214
            have sf265 : Safe Z own_EL s.vm h261 b205 := Safe.wr W261 (Safe.arv hZ.alike V253 (by decide)) R256.1 sf257
            have R264 : CHr Z own_EL s.vm h0 s.vm h261 := R256.trans (CHr.wr W261 (Safe.arv hZ.alike V253 (by decide)) R256.1)
            have hk266 : _ ≤ h261.size := Nat.le_trans hk258 (Keep.of_wr W261).1
            have q268 := fun t (kt : Go p e below T261 (mkF m 240 #[vI p1, vJ q2, vS, vJ q3, vS, vI r_22, vI r_25, vI r_28, vI r_31, vI r_34, vI r_37, vI r7, vI (p1 &&& (7 : Int32)), vU, vU, vU] [(.int r7), (.int 6), (.ref b213), (.ref b213), (.ref b205), (.ref b205)]) t) => q260 t (st261 t (by
              show Go _ _ _ _ (mkF m 235 #[vI p1, vJ q2, vS, vJ q3, vS, vI r_22, vI r_25, vI r_28, vI r_31, vI r_34, vI r_37, vI r7, vI (p1 &&& (7 : Int32)), vU, vU, vU] [(.ref b213), (.ref b205), (.ref b205)]) _
              refine XS.dup X261.here hx rfl (hb hby at_235) rfl rfl ?_
              show Go _ _ _ _ (mkF m 236 _ [(.ref b213), (.ref b213), (.ref b205), (.ref b205)]) _
              refine XS.bipush X261.here hx rfl (hb hby at_236) ?_
              show Go _ _ _ _ (mkF m 238 _ [(.int 6), (.ref b213), (.ref b213), (.ref b205), (.ref b205)]) _
              refine XS.iload X261.here hx rfl (hb hby at_238) rfl ?_
              exact kt))
            obtain ⟨c267, Ar267, q267, S267, N267, H267, G267⟩ := id V261
            have hi267 : ¬ ((6 : Int32) < 0 ∨ c267.slots.size ≤ ((6 : Int32)).toNatClampNeg) := inb_of S267 ⟨by decide, by decide⟩
            obtain ⟨T269, h269, X269, e269, W269, st269⟩ := stC X261 hx hZ e261 Ar267 (j := (6 : Int32)) hi267 (g := (mkF m 240 #[vI p1, vJ q2, vS, vJ q3, vS, vI r_22, vI r_25, vI r_28, vI r_31, vI r_34, vI r_37, vI r7, vI (p1 &&& (7 : Int32)), vU, vU, vU] [(.int r7), (.int 6), (.ref b213), (.ref b213), (.ref b205), (.ref b205)])) rfl rfl (hb hby at_240)
            have V269 : Arv Z h269 b213 k213 .char (7 : Int32) [(.int r_22), (.int r_25), (.int r_28), (.int r_31), (.int r_34), (.int r_37), (.int r7)] (.int 0) := by
              have vv := Arv.set Ar267 q267 S267 N267 H267 G267 (fits_nar_char _) W269 6 rfl (Nat.le_of_ble_eq_true rfl)
              rw [show nar .char r7 = r7 from (own_narc16 hch7)] at vv
              exact vv
            have N270 := Fr.snoc X269 N262 gg214
            have O271 := O263.wr W269 gg214
            have sf273 : Safe Z own_EL s.vm h269 b205 := Safe.wr W269 (Safe.arv hZ.alike V261 (by decide)) R264.1 sf265
            have R272 : CHr Z own_EL s.vm h0 s.vm h269 := R264.trans (CHr.wr W269 (Safe.arv hZ.alike V261 (by decide)) R264.1)
            have hk274 : _ ≤ h269.size := Nat.le_trans hk266 (Keep.of_wr W269).1
            have q275 := fun t (kt : Go p e below T269 (mkF m 241 #[vI p1, vJ q2, vS, vJ q3, vS, vI r_22, vI r_25, vI r_28, vI r_31, vI r_34, vI r_37, vI r7, vI (p1 &&& (7 : Int32)), vU, vU, vU] [(.ref b213), (.ref b205), (.ref b205)]) t) => q268 t (st269 t kt)
            by_cases hB : (255 : Int32) < r_22 ∨ (255 : Int32) < r_25 ∨ (255 : Int32) < r_28 ∨ (255 : Int32) < r_31 ∨ (255 : Int32) < r_34 ∨ (255 : Int32) < r_37 ∨ (255 : Int32) < r7
            · skip
              have f276 := ((((((((A205.ext E213).wr W221).wr W229).wr W237).wr W245).wr W253).wr W261).wr W269)
              have ne277 : b205 ≠ b213 := (Nat.ne_of_lt (Nat.lt_of_lt_of_le A205.lt (Nat.le_of_eq g213.symm)))
              have f278 := ((((((((F205_value.ext E213).other W221 (Or.inl ne277)).other W229 (Or.inl ne277)).other W237 (Or.inl ne277)).other W245 (Or.inl ne277)).other W253 (Or.inl ne277)).other W261 (Or.inl ne277)).other W269 (Or.inl ne277))
              have f279 := ((((((((F205_coder.ext E213).other W221 (Or.inl ne277)).other W229 (Or.inl ne277)).other W237 (Or.inl ne277)).other W245 (Or.inl ne277)).other W253 (Or.inl ne277)).other W261 (Or.inl ne277)).other W269 (Or.inl ne277))
              obtain ⟨_, _, ⟨T280, L280, k280, n280⟩, -, X280, ⟨_, hQ280, l280, y280, z280⟩, st280⟩ := X269.specialBack hx (y := ym10) rfl hown (ow hZ hw 12 rfl) (ow hZ hw 13 rfl) (ow hZ hw 14 rfl) (by decide) (backOf (W := 1) (rm3_7 l Z a0 hw [] cx b205 b213 k213 r_22 r_25 r_28 r_31 r_34 r_37 r7 h269 n0 O271 f276 f278 f279 V269 gg206 hB pq22_0 pq25_0 pq28_0 pq31_0 pq34_0 pq37_0 hch7) hZ (ov hw 14 rfl) (ov hw 10 rfl) (by decide) (by decide)) (g := (mkF m 241 #[vI p1, vJ q2, vS, vJ q3, vS, vI r_22, vI r_25, vI r_28, vI r_31, vI r_34, vI r_37, vI r7, vI (p1 &&& (7 : Int32)), vU, vU, vU] [(.ref b213), (.ref b205), (.ref b205)])) rfl (by rw [hml]; rfl) (Steps.refl _) (a := b205) (argsL := [(.ref b213)]) (rest := [(.ref b205)]) (lenOf pd_14 rfl) rfl own_le0 (hb hby at_241) (fun _ _ => ⟨rfl, e269, (by decide : 2 + 2 ≤ _), (by decide : 11 + 21 ≤ _)⟩)
              dsimp only [Pt.U, Pt.locs, Pt.cells, Pt.slots] at X280 l280 y280 z280 st280 hQ280
              subst l280 y280 z280
              obtain ⟨t_280, rfl, Nq280, Kq280, fq280_0, fq280_1⟩ := hQ280
              have N281 := Fr.app N270 Nq280
              have O282 := O271.keep Kq280 (allS gg206 all0)
              have sf284 : Safe Z own_EL s.vm T280.heap b205 := Safe.keep Kq280 (sfS sf273 sf0) R272.1 sf273
              have R283 : CHr Z own_EL s.vm h0 s.vm T280.heap := R272.trans (CHr.keep Kq280 (sfS sf273 sf0) R272.1)
              have hk285 : _ ≤ T280.heap.size := Nat.le_trans hk274 Kq280.1
              have f286 := (f276.keep Kq280)
              have q287 := fun t (kt : Go p e below T280 (mkF m 375 #[vI p1, vJ q2, vS, vJ q3, vS, vI r_22, vI r_25, vI r_28, vI r_31, vI r_34, vI r_37, vI r7, vI (p1 &&& (7 : Int32)), vR b205, vI 7, vI 0] [(.ref b205)]) t) => q275 t (st280.trans (by
                show Go _ _ _ _ (mkF m 244 #[vI p1, vJ q2, vS, vJ q3, vS, vI r_22, vI r_25, vI r_28, vI r_31, vI r_34, vI r_37, vI r7, vI (p1 &&& (7 : Int32)), vU, vU, vU] [(.ref b205)]) _
                refine XS.astore X280.here hx rfl (hb hby at_244) rfl rfl (l' := #[vI p1, vJ q2, vS, vJ q3, vS, vI r_22, vI r_25, vI r_28, vI r_31, vI r_34, vI r_37, vI r7, vI (p1 &&& (7 : Int32)), vR b205, vU, vU]) rfl ?_
                show Go _ _ _ _ (mkF m 246 #[vI p1, vJ q2, vS, vJ q3, vS, vI r_22, vI r_25, vI r_28, vI r_31, vI r_34, vI r_37, vI r7, vI (p1 &&& (7 : Int32)), vR b205, vU, vU] []) _
                refine XS.bipush X280.here hx rfl (hb hby at_246) ?_
                show Go _ _ _ _ (mkF m 248 _ [(.int 7)]) _
                refine XS.istore X280.here hx rfl (hb hby at_248) rfl (l' := #[vI p1, vJ q2, vS, vJ q3, vS, vI r_22, vI r_25, vI r_28, vI r_31, vI r_34, vI r_37, vI r7, vI (p1 &&& (7 : Int32)), vR b205, vI 7, vU]) rfl ?_
                show Go _ _ _ _ (mkF m 250 #[vI p1, vJ q2, vS, vJ q3, vS, vI r_22, vI r_25, vI r_28, vI r_31, vI r_34, vI r_37, vI r7, vI (p1 &&& (7 : Int32)), vR b205, vI 7, vU] []) _
                refine XS.goto X280.here hx rfl (pc0 := 250) (pc' := 300) rfl (hb hby at_250) (by decide) (by decide) ?_
                show Go _ _ _ _ (mkF m 300 _ []) _
                refine XS.iload X280.here hx rfl (hb hby at_300) rfl ?_
                show Go _ _ _ _ (mkF m 302 _ [(.int 7)]) _
                refine XS.ifYes X280.here hx rfl (pc0 := 302) (pc' := 311) rfl (hb hby at_302) rfl ((if0 _ _).trans (flt (by decide : ¬ ((7 : Int32) < (0 : Int32)))).2.1) (by decide) (by decide) ?_
                show Go _ _ _ _ (mkF m 311 _ []) _
                refine XS.iload X280.here hx rfl (hb hby at_311) rfl ?_
                show Go _ _ _ _ (mkF m 313 _ [(.int 7)]) _
                refine XS.bipush X280.here hx rfl (hb hby at_313) ?_
                show Go _ _ _ _ (mkF m 315 _ [(.int 6), (.int 7)]) _
                refine XS.icmpYes X280.here hx rfl (pc0 := 315) (pc' := 370) rfl (hb hby at_315) rfl (feq (by decide : ¬ ((7 : Int32) = (6 : Int32)))).2 (by decide) (by decide) ?_
                show Go _ _ _ _ (mkF m 370 _ []) _
                refine XS.iconst X280.here hx rfl (hb hby at_370) ?_
                show Go _ _ _ _ (mkF m 371 _ [(.int 0)]) _
                refine XS.istore X280.here hx rfl (hb hby at_371) rfl (l' := #[vI p1, vJ q2, vS, vJ q3, vS, vI r_22, vI r_25, vI r_28, vI r_31, vI r_34, vI r_37, vI r7, vI (p1 &&& (7 : Int32)), vR b205, vI 7, vI 0]) rfl ?_
                show Go _ _ _ _ (mkF m 373 #[vI p1, vJ q2, vS, vJ q3, vS, vI r_22, vI r_25, vI r_28, vI r_31, vI r_34, vI r_37, vI r7, vI (p1 &&& (7 : Int32)), vR b205, vI 7, vI 0] []) _
                refine XS.aload X280.here hx rfl (hb hby at_373) rfl rfl ?_
                exact kt))
              obtain ⟨_, _, ⟨T288, L288, k288, n288⟩, -, X288, hSn288, hgn288, ⟨_, hQ288, l288, y288, z288, cR288⟩, st288⟩ := callSS X280 hx (y := ym17) hown (ow hZ hw 4 rfl) (ow hZ hw 5 rfl) (ow hZ hw 6 rfl) (ow hZ hw 7 rfl) (by decide) (backOfSH (EL := own_EL) (vm0 := s.vm) (W := 0) (rm2u l Z a0 hw [] cx b205 T280.heap n0 O282 f286 fq280_1) hZ (ov hw 7 rfl) (ov hw 6 rfl) (by decide) (by decide) hEW R283.1) (g := (mkF m 375 #[vI p1, vJ q2, vS, vJ q3, vS, vI r_22, vI r_25, vI r_28, vI r_31, vI r_34, vI r_37, vI r7, vI (p1 &&& (7 : Int32)), vR b205, vI 7, vI 0] [(.ref b205)])) rfl (by rw [hml]; rfl) (argsL := [(.ref b205)]) (rest := []) (lenOf pd_13 rfl) rfl own_le0 (hb hby at_375) (fun _ _ => ⟨rfl, rfl, (by decide : 4 + 2 ≤ _), (by decide : 32 + 28 ≤ _)⟩)
              dsimp only [Pt.U, Pt.locs, Pt.cells, Pt.slots] at X288 l288 y288 z288 st288 hQ288 hSn288 hgn288 cR288
              subst l288 y288 z288
              have hS288 := foldS (vm0 := s.vm) hS0 hk285 hSn288 hgn288
              have hZ : Z.Warmed39 (s.setVm T288.vm).vm := State.Warmed39.trans (t := s.setVm s.vm) hZ hSn288.1
              have hown : (s.setVm T288.vm).vm.findClass sk0 = some m.cls := by
                show T288.vm.findClass _ = _
                rw [hSn288.1.alike.findClass]; exact hown
              have X288 : Stand p l e room_1 (s.setVm T288.vm) m #[(.int p1), (.long q2), (.long q3)] below meth c T288 _ _ _ := X288
              have hkk288 : T288.heap.size ≤ T288.heap.size := Nat.le_refl _
              obtain ⟨rfl, Nq288, Kq288⟩ := hQ288
              have N289 := Fr.app N281 Nq288
              have O290 := O282.keep Kq288 all0
              have sf292 : Safe Z own_EL T288.vm T288.heap b205 := CHr.safe cR288 f286.lt sf284
              have R291 : CHr Z own_EL s.vm h0 T288.vm T288.heap := R283.trans cR288
              have q293 := fun t (kt : Go p e below T288 (mkF m 388 #[vI p1, vJ q2, vS, vJ q3, vS, vI r_22, vI r_25, vI r_28, vI r_31, vI r_34, vI r_37, vI r7, vI (p1 &&& (7 : Int32)), vR b205, vI 7, vI 0] [(.int 1)]) t) => q287 t (st288.trans (by
                show Go _ _ _ _ (mkF m 378 #[vI p1, vJ q2, vS, vJ q3, vS, vI r_22, vI r_25, vI r_28, vI r_31, vI r_34, vI r_37, vI r7, vI (p1 &&& (7 : Int32)), vR b205, vI 7, vI 0] [(.int 0)]) _
                refine XS.iload X288.here hx rfl (hb hby at_378) rfl ?_
                show Go _ _ _ _ (mkF m 380 _ [(.int 0), (.int 0)]) _
                refine XS.icmpNo X288.here hx rfl (hb hby at_380) rfl (teq (rfl : (0 : Int32) = (0 : Int32))).2 ?_
                show Go _ _ _ _ (mkF m 383 _ []) _
                refine XS.iconst X288.here hx rfl (hb hby at_383) ?_
                show Go _ _ _ _ (mkF m 384 _ [(.int 1)]) _
                refine XS.goto X288.here hx rfl (pc0 := 384) (pc' := 388) rfl (hb hby at_384) (by decide) (by decide) ?_
                exact kt))
              obtain ⟨fs, hr, hrun, hended, hRE⟩ := X288.leaveW hS288 hkk288 (v := some (.int 1)) (fun h => by rw [Bd.returns] at h; cases h)
              refine ⟨_, _, q293 _ ?_, hrun, hended, _, _, rfl, ?_, ?_, hRE.1, hRE.2.1, hRE.2.2.1, hRE.2.2.2.mono (by decide) (by decide)⟩
              · show Go p e below T288 (mkF m 388 #[vI p1, vJ q2, vS, vJ q3, vS, vI r_22, vI r_25, vI r_28, vI r_31, vI r_34, vI r_37, vI r7, vI (p1 &&& (7 : Int32)), vR b205, vI 7, vI 0] [(.int 1)]) _
                exact retN X288 hx (t := .boolean) Bd.returns (by simp) (hb hby at_388) hr
              · show Q_rm0 Z p1 q2 q3 z_cs h0 n0 _ T288.heap _
                exact ⟨rfl, N289⟩
              · show CHr Z own_EL s.vm s.heap T288.vm T288.heap
                rw [hh]
                exact R291.trans (CHv.at X288 hZ hEW R291.1)
            · skip
              have hl0 : ¬ r_22 < 0 ∧ ¬ (255 : Int32) < r_22 := ⟨pq22_0.1, fun h => hB (Or.inl h)⟩
              have hl1 : ¬ r_25 < 0 ∧ ¬ (255 : Int32) < r_25 := ⟨pq25_0.1, fun h => hB (Or.inr (Or.inl h))⟩
              have hl2 : ¬ r_28 < 0 ∧ ¬ (255 : Int32) < r_28 := ⟨pq28_0.1, fun h => hB (Or.inr (Or.inr (Or.inl h)))⟩
              have hl3 : ¬ r_31 < 0 ∧ ¬ (255 : Int32) < r_31 := ⟨pq31_0.1, fun h => hB (Or.inr (Or.inr (Or.inr (Or.inl h))))⟩
              have hl4 : ¬ r_34 < 0 ∧ ¬ (255 : Int32) < r_34 := ⟨pq34_0.1, fun h => hB (Or.inr (Or.inr (Or.inr (Or.inr (Or.inl h)))))⟩
              have hl5 : ¬ r_37 < 0 ∧ ¬ (255 : Int32) < r_37 := ⟨pq37_0.1, fun h => hB (Or.inr (Or.inr (Or.inr (Or.inr (Or.inr (Or.inl h))))))⟩
              have hl6 : ¬ r7 < 0 ∧ ¬ (255 : Int32) < r7 := ⟨hch7.1, fun h => hB (Or.inr (Or.inr (Or.inr (Or.inr (Or.inr (Or.inr h))))))⟩
              have f294 := ((((((((A205.ext E213).wr W221).wr W229).wr W237).wr W245).wr W253).wr W261).wr W269)
              have ne295 : b205 ≠ b213 := (Nat.ne_of_lt (Nat.lt_of_lt_of_le A205.lt (Nat.le_of_eq g213.symm)))
              have f296 := ((((((((F205_value.ext E213).other W221 (Or.inl ne295)).other W229 (Or.inl ne295)).other W237 (Or.inl ne295)).other W245 (Or.inl ne295)).other W253 (Or.inl ne295)).other W261 (Or.inl ne295)).other W269 (Or.inl ne295))
              have f297 := ((((((((F205_coder.ext E213).other W221 (Or.inl ne295)).other W229 (Or.inl ne295)).other W237 (Or.inl ne295)).other W245 (Or.inl ne295)).other W253 (Or.inl ne295)).other W261 (Or.inl ne295)).other W269 (Or.inl ne295))
              have hws298 : ∀ d ∈ StrChars.Road.words, d.before a0 Z = true := fun d hd => hw d ((by decide +kernel : ∀ d ∈ StrChars.Road.words, d ∈ tables_1) d hd)
              have hlt298 : ∀ c ∈ ([r_22, r_25, r_28, r_31, r_34, r_37, r7] : List Int32), ¬ c < 0 ∧ ¬ (255 : Int32) < c := by
                intro c hc
                simp only [List.mem_cons, List.not_mem_nil, or_false] at hc
                rcases hc with rfl | rfl | rfl | rfl | rfl | rfl | rfl
                · exact hl0
                · exact hl1
                · exact hl2
                · exact hl3
                · exact hl4
                · exact hl5
                · exact hl6
              obtain ⟨_, _, ⟨T299, L299, k299, n299⟩, -, X299, ⟨_, hQ299, l299, y299, z299⟩, st299⟩ := X269.specialBack hx (y := ym10) rfl hown (ow hZ hw 12 rfl) (ow hZ hw 13 rfl) (ow hZ hw 14 rfl) (by decide) (StrChars.Road.backV (W := 1) hZ hws298 (kI := 4) (ov hw 9 rfl) (cs := [r_22, r_25, r_28, r_31, r_34, r_37, r7]) (bs := (([r_22, r_25, r_28, r_31, r_34, r_37, r7] : List Int32).map (fun c => c.toInt8.toInt32))) (n := 7) gg206 (O271.1 ▸ O271.2.1) f294 f296 f297 V269 (cx.1.ext O271.2) cx.2.1 rfl rfl (by decide) (by decide) hlt298 rfl (by decide) (by decide)) (g := (mkF m 241 #[vI p1, vJ q2, vS, vJ q3, vS, vI r_22, vI r_25, vI r_28, vI r_31, vI r_34, vI r_37, vI r7, vI (p1 &&& (7 : Int32)), vU, vU, vU] [(.ref b213), (.ref b205), (.ref b205)])) rfl (by rw [hml]; rfl) (Steps.refl _) (a := b205) (argsL := [(.ref b213)]) (rest := [(.ref b205)]) (lenOf pd_14 rfl) rfl own_le0 (hb hby at_241) (fun _ _ => ⟨rfl, e269, (by decide : 2 + 1 ≤ _), (by decide : 11 + 7 ≤ _)⟩)
              dsimp only [Pt.U, Pt.locs, Pt.cells, Pt.slots] at X299 l299 y299 z299 st299 hQ299
              subst l299 y299 z299
              obtain ⟨rfl, Nq299, Kq299, Ex299, Co299, t299, kt299, gt299, ht299, nt299, Va299, Vb299⟩ := hQ299
              have N300 := Fr.app N270 Nq299
              have gg301 : n0 ≤ t299 := Nat.le_trans (O271.1 ▸ O271.2.1) ht299
              have O302 := O271.keep Kq299 (allS gg206 all0)
              have sf304 : Safe Z own_EL s.vm T299.heap b205 := Safe.keep Kq299 (sfS sf273 sf0) R272.1 sf273
              have R303 : CHr Z own_EL s.vm h0 s.vm T299.heap := R272.trans (CHr.keep Kq299 (sfS sf273 sf0) R272.1)
              have hk305 : _ ≤ T299.heap.size := Nat.le_trans hk274 Kq299.1
              have Sr299 : Str Z T299.heap b205 t299 [r_22, r_25, r_28, r_31, r_34, r_37, r7] := ⟨_, _, _, _, Ex299, Va299, Co299, Vb299, StrChars.Road.codOf (n := 7) rfl (fun c hc => (hlt298 c hc).2), own_up _ hlt298, Nat.le_of_ble_eq_true rfl⟩
              have q306 := fun t (kt : Go p e below T299 (mkF m 375 #[vI p1, vJ q2, vS, vJ q3, vS, vI r_22, vI r_25, vI r_28, vI r_31, vI r_34, vI r_37, vI r7, vI (p1 &&& (7 : Int32)), vR b205, vI 7, vI 0] [(.ref b205)]) t) => q275 t (st299.trans (by
                show Go _ _ _ _ (mkF m 244 #[vI p1, vJ q2, vS, vJ q3, vS, vI r_22, vI r_25, vI r_28, vI r_31, vI r_34, vI r_37, vI r7, vI (p1 &&& (7 : Int32)), vU, vU, vU] [(.ref b205)]) _
                refine XS.astore X299.here hx rfl (hb hby at_244) rfl rfl (l' := #[vI p1, vJ q2, vS, vJ q3, vS, vI r_22, vI r_25, vI r_28, vI r_31, vI r_34, vI r_37, vI r7, vI (p1 &&& (7 : Int32)), vR b205, vU, vU]) rfl ?_
                show Go _ _ _ _ (mkF m 246 #[vI p1, vJ q2, vS, vJ q3, vS, vI r_22, vI r_25, vI r_28, vI r_31, vI r_34, vI r_37, vI r7, vI (p1 &&& (7 : Int32)), vR b205, vU, vU] []) _
                refine XS.bipush X299.here hx rfl (hb hby at_246) ?_
                show Go _ _ _ _ (mkF m 248 _ [(.int 7)]) _
                refine XS.istore X299.here hx rfl (hb hby at_248) rfl (l' := #[vI p1, vJ q2, vS, vJ q3, vS, vI r_22, vI r_25, vI r_28, vI r_31, vI r_34, vI r_37, vI r7, vI (p1 &&& (7 : Int32)), vR b205, vI 7, vU]) rfl ?_
                show Go _ _ _ _ (mkF m 250 #[vI p1, vJ q2, vS, vJ q3, vS, vI r_22, vI r_25, vI r_28, vI r_31, vI r_34, vI r_37, vI r7, vI (p1 &&& (7 : Int32)), vR b205, vI 7, vU] []) _
                refine XS.goto X299.here hx rfl (pc0 := 250) (pc' := 300) rfl (hb hby at_250) (by decide) (by decide) ?_
                show Go _ _ _ _ (mkF m 300 _ []) _
                refine XS.iload X299.here hx rfl (hb hby at_300) rfl ?_
                show Go _ _ _ _ (mkF m 302 _ [(.int 7)]) _
                refine XS.ifYes X299.here hx rfl (pc0 := 302) (pc' := 311) rfl (hb hby at_302) rfl ((if0 _ _).trans (flt (by decide : ¬ ((7 : Int32) < (0 : Int32)))).2.1) (by decide) (by decide) ?_
                show Go _ _ _ _ (mkF m 311 _ []) _
                refine XS.iload X299.here hx rfl (hb hby at_311) rfl ?_
                show Go _ _ _ _ (mkF m 313 _ [(.int 7)]) _
                refine XS.bipush X299.here hx rfl (hb hby at_313) ?_
                show Go _ _ _ _ (mkF m 315 _ [(.int 6), (.int 7)]) _
                refine XS.icmpYes X299.here hx rfl (pc0 := 315) (pc' := 370) rfl (hb hby at_315) rfl (feq (by decide : ¬ ((7 : Int32) = (6 : Int32)))).2 (by decide) (by decide) ?_
                show Go _ _ _ _ (mkF m 370 _ []) _
                refine XS.iconst X299.here hx rfl (hb hby at_370) ?_
                show Go _ _ _ _ (mkF m 371 _ [(.int 0)]) _
                refine XS.istore X299.here hx rfl (hb hby at_371) rfl (l' := #[vI p1, vJ q2, vS, vJ q3, vS, vI r_22, vI r_25, vI r_28, vI r_31, vI r_34, vI r_37, vI r7, vI (p1 &&& (7 : Int32)), vR b205, vI 7, vI 0]) rfl ?_
                show Go _ _ _ _ (mkF m 373 #[vI p1, vJ q2, vS, vJ q3, vS, vI r_22, vI r_25, vI r_28, vI r_31, vI r_34, vI r_37, vI r7, vI (p1 &&& (7 : Int32)), vR b205, vI 7, vI 0] []) _
                refine XS.aload X299.here hx rfl (hb hby at_373) rfl rfl ?_
                exact kt))
              obtain ⟨_, _, ⟨T307, L307, k307, n307⟩, -, X307, hSn307, hgn307, ⟨_, hQ307, l307, y307, z307, cR307⟩, st307⟩ := callSS X299 hx (y := ym17) hown (ow hZ hw 4 rfl) (ow hZ hw 5 rfl) (ow hZ hw 6 rfl) (ow hZ hw 7 rfl) (by decide) (backOfSH (EL := own_EL) (vm0 := s.vm) (W := 0) (rm2s l Z a0 hw [] cx b205 t299 [r_22, r_25, r_28, r_31, r_34, r_37, r7] T299.heap n0 O302 Sr299) hZ (ov hw 7 rfl) (ov hw 6 rfl) (by decide) (by decide) hEW R303.1) (g := (mkF m 375 #[vI p1, vJ q2, vS, vJ q3, vS, vI r_22, vI r_25, vI r_28, vI r_31, vI r_34, vI r_37, vI r7, vI (p1 &&& (7 : Int32)), vR b205, vI 7, vI 0] [(.ref b205)])) rfl (by rw [hml]; rfl) (argsL := [(.ref b205)]) (rest := []) (lenOf pd_13 rfl) rfl own_le0 (hb hby at_375) (fun _ _ => ⟨rfl, rfl, (by decide : 3 + 2 ≤ _), (by decide : 18 + 28 ≤ _)⟩)
              dsimp only [Pt.U, Pt.locs, Pt.cells, Pt.slots] at X307 l307 y307 z307 st307 hQ307 hSn307 hgn307 cR307
              subst l307 y307 z307
              have hS307 := foldS (vm0 := s.vm) hS0 hk305 hSn307 hgn307
              have hZ : Z.Warmed39 (s.setVm T307.vm).vm := State.Warmed39.trans (t := s.setVm s.vm) hZ hSn307.1
              have hown : (s.setVm T307.vm).vm.findClass sk0 = some m.cls := by
                show T307.vm.findClass _ = _
                rw [hSn307.1.alike.findClass]; exact hown
              have X307 : Stand p l e room_1 (s.setVm T307.vm) m #[(.int p1), (.long q2), (.long q3)] below meth c T307 _ _ _ := X307
              have hkk307 : T307.heap.size ≤ T307.heap.size := Nat.le_refl _
              obtain ⟨rfl, Nq307, Kq307⟩ := hQ307
              have N308 := Fr.app N300 Nq307
              have O309 := O302.keep Kq307 all0
              have sf311 : Safe Z own_EL T307.vm T307.heap b205 := CHr.safe cR307 Ex299.lt sf304
              have R310 : CHr Z own_EL s.vm h0 T307.vm T307.heap := R303.trans cR307
              have q312 := fun t (kt : Go p e below T307 (mkF m 388 #[vI p1, vJ q2, vS, vJ q3, vS, vI r_22, vI r_25, vI r_28, vI r_31, vI r_34, vI r_37, vI r7, vI (p1 &&& (7 : Int32)), vR b205, vI 7, vI 0] [(.int 1)]) t) => q306 t (st307.trans (by
                show Go _ _ _ _ (mkF m 378 #[vI p1, vJ q2, vS, vJ q3, vS, vI r_22, vI r_25, vI r_28, vI r_31, vI r_34, vI r_37, vI r7, vI (p1 &&& (7 : Int32)), vR b205, vI 7, vI 0] [(.int (own_sh [r_22, r_25, r_28, r_31, r_34, r_37, r7]))]) _
                refine XS.iload X307.here hx rfl (hb hby at_378) rfl ?_
                show Go _ _ _ _ (mkF m 380 _ [(.int 0), (.int (own_sh [r_22, r_25, r_28, r_31, r_34, r_37, r7]))]) _
                refine XS.icmpNo X307.here hx rfl (hb hby at_380) rfl (teq (by simp [own_sh])).2 ?_
                show Go _ _ _ _ (mkF m 383 _ []) _
                refine XS.iconst X307.here hx rfl (hb hby at_383) ?_
                show Go _ _ _ _ (mkF m 384 _ [(.int 1)]) _
                refine XS.goto X307.here hx rfl (pc0 := 384) (pc' := 388) rfl (hb hby at_384) (by decide) (by decide) ?_
                exact kt))
              obtain ⟨fs, hr, hrun, hended, hRE⟩ := X307.leaveW hS307 hkk307 (v := some (.int 1)) (fun h => by rw [Bd.returns] at h; cases h)
              refine ⟨_, _, q312 _ ?_, hrun, hended, _, _, rfl, ?_, ?_, hRE.1, hRE.2.1, hRE.2.2.1, hRE.2.2.2.mono (by decide) (by decide)⟩
              · show Go p e below T307 (mkF m 388 #[vI p1, vJ q2, vS, vJ q3, vS, vI r_22, vI r_25, vI r_28, vI r_31, vI r_34, vI r_37, vI r7, vI (p1 &&& (7 : Int32)), vR b205, vI 7, vI 0] [(.int 1)]) _
                exact retN X307 hx (t := .boolean) Bd.returns (by simp) (hb hby at_388) hr
              · show Q_rm0 Z p1 q2 q3 z_cs h0 n0 _ T307.heap _
                exact ⟨rfl, N308⟩
              · show CHr Z own_EL s.vm s.heap T307.vm T307.heap
                rw [hh]
                exact R310.trans (CHv.at X307 hZ hEW R310.1)
          · have q313 := fun t (kt : Go p e below T37 (mkF m 253 #[vI p1, vJ q2, vS, vJ q3, vS, vI r_22, vI r_25, vI r_28, vI r_31, vI r_34, vI r_37, vI r7, vI (p1 &&& (7 : Int32)), vU, vU, vU] []) t) => q202 t (by
              show Go _ _ _ _ (mkF m 194 #[vI p1, vJ q2, vS, vJ q3, vS, vI r_22, vI r_25, vI r_28, vI r_31, vI r_34, vI r_37, vI r7, vI (p1 &&& (7 : Int32)), vU, vU, vU] [(.int 6), (.int (p1 &&& (7 : Int32)))]) _
              refine XS.icmpYes X37.here hx rfl (pc0 := 194) (pc' := 253) rfl (hb hby at_194) rfl (feq hc203).2 (by decide) (by decide) ?_
              exact kt)
            obtain ⟨T314, h314, X314, e314, E314, A314, D314, U314, st314⟩ := newO X37 hx hZ hown (ov hw 8 rfl) (ov hw 9 rfl) (ov hw 10 rfl) eq37 (g := (mkF m 253 #[vI p1, vJ q2, vS, vJ q3, vS, vI r_22, vI r_25, vI r_28, vI r_31, vI r_34, vI r_37, vI r7, vI (p1 &&& (7 : Int32)), vU, vU, vU] [])) rfl (hb hby at_253) (by decide) (by decide)
            obtain ⟨b314, g314⟩ : ∃ z, z = h0.size := ⟨_, rfl⟩
            rw [← g314] at A314 D314 st314
            have gg315 : n0 ≤ b314 := Nat.le_trans (O0.1 ▸ O0.2.1) (Nat.le_of_eq g314.symm)
            have sf316 : Safe Z own_EL s.vm h0 b314 := Safe.new (Nat.le_of_eq g314.symm)
            have O317 := O0.ext E314
            have sf319 : Safe Z own_EL s.vm h314 b314 := Safe.ext E314 R0.1 sf316
            have R318 : CHr Z own_EL s.vm h0 s.vm h314 := R0.trans (CHr.ext E314 R0.1)
            have hk320 : _ ≤ h314.size := Nat.le_trans hk0 E314.1
            have F314_coder : Fld Z h314 b314 sk1 "coder" "B" (.int 0) := D314 (Or.inr (ov hw 35 rfl)) (ty := .byte) (by decide)
            have F314_value : Fld Z h314 b314 sk1 "value" "[B" .null := D314 (Or.inr (ov hw 37 rfl)) (ty := (.array .byte)) (by decide)
            have q321 := fun t (kt : Go p e below T314 (mkF m 259 #[vI p1, vJ q2, vS, vJ q3, vS, vI r_22, vI r_25, vI r_28, vI r_31, vI r_34, vI r_37, vI r7, vI (p1 &&& (7 : Int32)), vU, vU, vU] [(.int 6), (.ref b314), (.ref b314)]) t) => q313 t (st314 t (by
              show Go _ _ _ _ (mkF m 256 #[vI p1, vJ q2, vS, vJ q3, vS, vI r_22, vI r_25, vI r_28, vI r_31, vI r_34, vI r_37, vI r7, vI (p1 &&& (7 : Int32)), vU, vU, vU] [(.ref b314)]) _
              refine XS.dup X314.here hx rfl (hb hby at_256) rfl rfl ?_
              show Go _ _ _ _ (mkF m 257 _ [(.ref b314), (.ref b314)]) _
              refine XS.bipush X314.here hx rfl (hb hby at_257) ?_
              exact kt))
            obtain ⟨T322, h322, k322, X322, e322, E322, A322, st322⟩ := newP X314 hx hZ (ov hw 11 rfl) e314 (g := (mkF m 259 #[vI p1, vJ q2, vS, vJ q3, vS, vI r_22, vI r_25, vI r_28, vI r_31, vI r_34, vI r_37, vI r7, vI (p1 &&& (7 : Int32)), vU, vU, vU] [(.int 6), (.ref b314), (.ref b314)])) rfl (hb hby at_259) rfl (by decide) (cap := 6) (by decide) (by decide) (by decide) (by decide)
            obtain ⟨b322, g322⟩ : ∃ z, z = h314.size := ⟨_, rfl⟩
            rw [← g322] at A322 st322
            have gg323 : n0 ≤ b322 := Nat.le_trans (O317.1 ▸ O317.2.1) (Nat.le_of_eq g322.symm)
            have O324 := O317.ext E322
            have sf326 : Safe Z own_EL s.vm h322 b314 := Safe.ext E322 R318.1 sf319
            have R325 : CHr Z own_EL s.vm h0 s.vm h322 := R318.trans (CHr.ext E322 R318.1)
            have hk327 : _ ≤ h322.size := Nat.le_trans hk320 E322.1
            have V322 : Arv Z h322 b322 k322 .char (6 : Int32) [(.int 0), (.int 0), (.int 0), (.int 0), (.int 0), (.int 0)] (.int 0) := (Arv.new A322 (by decide)).pad (pad_rep [] (.int 0) 6)
            have q329 := fun t (kt : Go p e below T322 (mkF m 265 #[vI p1, vJ q2, vS, vJ q3, vS, vI r_22, vI r_25, vI r_28, vI r_31, vI r_34, vI r_37, vI r7, vI (p1 &&& (7 : Int32)), vU, vU, vU] [(.int r_22), (.int 0), (.ref b322), (.ref b322), (.ref b314), (.ref b314)]) t) => q321 t (st322 t (by
              show Go _ _ _ _ (mkF m 261 #[vI p1, vJ q2, vS, vJ q3, vS, vI r_22, vI r_25, vI r_28, vI r_31, vI r_34, vI r_37, vI r7, vI (p1 &&& (7 : Int32)), vU, vU, vU] [(.ref b322), (.ref b314), (.ref b314)]) _
              refine XS.dup X322.here hx rfl (hb hby at_261) rfl rfl ?_
              show Go _ _ _ _ (mkF m 262 _ [(.ref b322), (.ref b322), (.ref b314), (.ref b314)]) _
              refine XS.iconst X322.here hx rfl (hb hby at_262) ?_
              show Go _ _ _ _ (mkF m 263 _ [(.int 0), (.ref b322), (.ref b322), (.ref b314), (.ref b314)]) _
              refine XS.iload X322.here hx rfl (hb hby at_263) rfl ?_
              exact kt))
            obtain ⟨c328, Ar328, q328, S328, N328, H328, G328⟩ := id V322
            have hi328 : ¬ ((0 : Int32) < 0 ∨ c328.slots.size ≤ ((0 : Int32)).toNatClampNeg) := inb_of S328 ⟨by decide, by decide⟩
            obtain ⟨T330, h330, X330, e330, W330, st330⟩ := stC X322 hx hZ e322 Ar328 (j := (0 : Int32)) hi328 (g := (mkF m 265 #[vI p1, vJ q2, vS, vJ q3, vS, vI r_22, vI r_25, vI r_28, vI r_31, vI r_34, vI r_37, vI r7, vI (p1 &&& (7 : Int32)), vU, vU, vU] [(.int r_22), (.int 0), (.ref b322), (.ref b322), (.ref b314), (.ref b314)])) rfl rfl (hb hby at_265)
            have V330 : Arv Z h330 b322 k322 .char (6 : Int32) [(.int r_22), (.int 0), (.int 0), (.int 0), (.int 0), (.int 0)] (.int 0) := by
              have vv := Arv.set Ar328 q328 S328 N328 H328 G328 (fits_nar_char _) W330 0 rfl (Nat.le_of_ble_eq_true rfl)
              rw [show nar .char r_22 = r_22 from (own_narc16 pq22_0)] at vv
              exact vv
            have N331 := Fr.snoc X330 N38 gg323
            have O332 := O324.wr W330 gg323
            have sf334 : Safe Z own_EL s.vm h330 b314 := Safe.wr W330 (Safe.arv hZ.alike V322 (by decide)) R325.1 sf326
            have R333 : CHr Z own_EL s.vm h0 s.vm h330 := R325.trans (CHr.wr W330 (Safe.arv hZ.alike V322 (by decide)) R325.1)
            have hk335 : _ ≤ h330.size := Nat.le_trans hk327 (Keep.of_wr W330).1
            have q337 := fun t (kt : Go p e below T330 (mkF m 270 #[vI p1, vJ q2, vS, vJ q3, vS, vI r_22, vI r_25, vI r_28, vI r_31, vI r_34, vI r_37, vI r7, vI (p1 &&& (7 : Int32)), vU, vU, vU] [(.int r_25), (.int 1), (.ref b322), (.ref b322), (.ref b314), (.ref b314)]) t) => q329 t (st330 t (by
              show Go _ _ _ _ (mkF m 266 #[vI p1, vJ q2, vS, vJ q3, vS, vI r_22, vI r_25, vI r_28, vI r_31, vI r_34, vI r_37, vI r7, vI (p1 &&& (7 : Int32)), vU, vU, vU] [(.ref b322), (.ref b314), (.ref b314)]) _
              refine XS.dup X330.here hx rfl (hb hby at_266) rfl rfl ?_
              show Go _ _ _ _ (mkF m 267 _ [(.ref b322), (.ref b322), (.ref b314), (.ref b314)]) _
              refine XS.iconst X330.here hx rfl (hb hby at_267) ?_
              show Go _ _ _ _ (mkF m 268 _ [(.int 1), (.ref b322), (.ref b322), (.ref b314), (.ref b314)]) _
              refine XS.iload X330.here hx rfl (hb hby at_268) rfl ?_
              exact kt))
            obtain ⟨c336, Ar336, q336, S336, N336, H336, G336⟩ := id V330
            have hi336 : ¬ ((1 : Int32) < 0 ∨ c336.slots.size ≤ ((1 : Int32)).toNatClampNeg) := inb_of S336 ⟨by decide, by decide⟩
            obtain ⟨T338, h338, X338, e338, W338, st338⟩ := stC X330 hx hZ e330 Ar336 (j := (1 : Int32)) hi336 (g := (mkF m 270 #[vI p1, vJ q2, vS, vJ q3, vS, vI r_22, vI r_25, vI r_28, vI r_31, vI r_34, vI r_37, vI r7, vI (p1 &&& (7 : Int32)), vU, vU, vU] [(.int r_25), (.int 1), (.ref b322), (.ref b322), (.ref b314), (.ref b314)])) rfl rfl (hb hby at_270)
            have V338 : Arv Z h338 b322 k322 .char (6 : Int32) [(.int r_22), (.int r_25), (.int 0), (.int 0), (.int 0), (.int 0)] (.int 0) := by
              have vv := Arv.set Ar336 q336 S336 N336 H336 G336 (fits_nar_char _) W338 1 rfl (Nat.le_of_ble_eq_true rfl)
              rw [show nar .char r_25 = r_25 from (own_narc16 pq25_0)] at vv
              exact vv
            have N339 := Fr.snoc X338 N331 gg323
            have O340 := O332.wr W338 gg323
            have sf342 : Safe Z own_EL s.vm h338 b314 := Safe.wr W338 (Safe.arv hZ.alike V330 (by decide)) R333.1 sf334
            have R341 : CHr Z own_EL s.vm h0 s.vm h338 := R333.trans (CHr.wr W338 (Safe.arv hZ.alike V330 (by decide)) R333.1)
            have hk343 : _ ≤ h338.size := Nat.le_trans hk335 (Keep.of_wr W338).1
            have q345 := fun t (kt : Go p e below T338 (mkF m 275 #[vI p1, vJ q2, vS, vJ q3, vS, vI r_22, vI r_25, vI r_28, vI r_31, vI r_34, vI r_37, vI r7, vI (p1 &&& (7 : Int32)), vU, vU, vU] [(.int r_28), (.int 2), (.ref b322), (.ref b322), (.ref b314), (.ref b314)]) t) => q337 t (st338 t (by
              show Go _ _ _ _ (mkF m 271 #[vI p1, vJ q2, vS, vJ q3, vS, vI r_22, vI r_25, vI r_28, vI r_31, vI r_34, vI r_37, vI r7, vI (p1 &&& (7 : Int32)), vU, vU, vU] [(.ref b322), (.ref b314), (.ref b314)]) _
              refine XS.dup X338.here hx rfl (hb hby at_271) rfl rfl ?_
              show Go _ _ _ _ (mkF m 272 _ [(.ref b322), (.ref b322), (.ref b314), (.ref b314)]) _
              refine XS.iconst X338.here hx rfl (hb hby at_272) ?_
              show Go _ _ _ _ (mkF m 273 _ [(.int 2), (.ref b322), (.ref b322), (.ref b314), (.ref b314)]) _
              refine XS.iload X338.here hx rfl (hb hby at_273) rfl ?_
              exact kt))
            obtain ⟨c344, Ar344, q344, S344, N344, H344, G344⟩ := id V338
            have hi344 : ¬ ((2 : Int32) < 0 ∨ c344.slots.size ≤ ((2 : Int32)).toNatClampNeg) := inb_of S344 ⟨by decide, by decide⟩
            obtain ⟨T346, h346, X346, e346, W346, st346⟩ := stC X338 hx hZ e338 Ar344 (j := (2 : Int32)) hi344 (g := (mkF m 275 #[vI p1, vJ q2, vS, vJ q3, vS, vI r_22, vI r_25, vI r_28, vI r_31, vI r_34, vI r_37, vI r7, vI (p1 &&& (7 : Int32)), vU, vU, vU] [(.int r_28), (.int 2), (.ref b322), (.ref b322), (.ref b314), (.ref b314)])) rfl rfl (hb hby at_275)
            have V346 : Arv Z h346 b322 k322 .char (6 : Int32) [(.int r_22), (.int r_25), (.int r_28), (.int 0), (.int 0), (.int 0)] (.int 0) := by
              have vv := Arv.set Ar344 q344 S344 N344 H344 G344 (fits_nar_char _) W346 2 rfl (Nat.le_of_ble_eq_true rfl)
              rw [show nar .char r_28 = r_28 from (own_narc16 pq28_0)] at vv
              exact vv
            have N347 := Fr.snoc X346 N339 gg323
            have O348 := O340.wr W346 gg323
            have sf350 : Safe Z own_EL s.vm h346 b314 := Safe.wr W346 (Safe.arv hZ.alike V338 (by decide)) R341.1 sf342
            have R349 : CHr Z own_EL s.vm h0 s.vm h346 := R341.trans (CHr.wr W346 (Safe.arv hZ.alike V338 (by decide)) R341.1)
            have hk351 : _ ≤ h346.size := Nat.le_trans hk343 (Keep.of_wr W346).1
            have q353 := fun t (kt : Go p e below T346 (mkF m 280 #[vI p1, vJ q2, vS, vJ q3, vS, vI r_22, vI r_25, vI r_28, vI r_31, vI r_34, vI r_37, vI r7, vI (p1 &&& (7 : Int32)), vU, vU, vU] [(.int r_31), (.int 3), (.ref b322), (.ref b322), (.ref b314), (.ref b314)]) t) => q345 t (st346 t (by
              show Go _ _ _ _ (mkF m 276 #[vI p1, vJ q2, vS, vJ q3, vS, vI r_22, vI r_25, vI r_28, vI r_31, vI r_34, vI r_37, vI r7, vI (p1 &&& (7 : Int32)), vU, vU, vU] [(.ref b322), (.ref b314), (.ref b314)]) _
              refine XS.dup X346.here hx rfl (hb hby at_276) rfl rfl ?_
              show Go _ _ _ _ (mkF m 277 _ [(.ref b322), (.ref b322), (.ref b314), (.ref b314)]) _
              refine XS.iconst X346.here hx rfl (hb hby at_277) ?_
              show Go _ _ _ _ (mkF m 278 _ [(.int 3), (.ref b322), (.ref b322), (.ref b314), (.ref b314)]) _
              refine XS.iload X346.here hx rfl (hb hby at_278) rfl ?_
              exact kt))
            obtain ⟨c352, Ar352, q352, S352, N352, H352, G352⟩ := id V346
            have hi352 : ¬ ((3 : Int32) < 0 ∨ c352.slots.size ≤ ((3 : Int32)).toNatClampNeg) := inb_of S352 ⟨by decide, by decide⟩
            obtain ⟨T354, h354, X354, e354, W354, st354⟩ := stC X346 hx hZ e346 Ar352 (j := (3 : Int32)) hi352 (g := (mkF m 280 #[vI p1, vJ q2, vS, vJ q3, vS, vI r_22, vI r_25, vI r_28, vI r_31, vI r_34, vI r_37, vI r7, vI (p1 &&& (7 : Int32)), vU, vU, vU] [(.int r_31), (.int 3), (.ref b322), (.ref b322), (.ref b314), (.ref b314)])) rfl rfl (hb hby at_280)
            have V354 : Arv Z h354 b322 k322 .char (6 : Int32) [(.int r_22), (.int r_25), (.int r_28), (.int r_31), (.int 0), (.int 0)] (.int 0) := by
              have vv := Arv.set Ar352 q352 S352 N352 H352 G352 (fits_nar_char _) W354 3 rfl (Nat.le_of_ble_eq_true rfl)
              rw [show nar .char r_31 = r_31 from (own_narc16 pq31_0)] at vv
              exact vv
            have N355 := Fr.snoc X354 N347 gg323
            have O356 := O348.wr W354 gg323
            have sf358 : Safe Z own_EL s.vm h354 b314 := Safe.wr W354 (Safe.arv hZ.alike V346 (by decide)) R349.1 sf350
            have R357 : CHr Z own_EL s.vm h0 s.vm h354 := R349.trans (CHr.wr W354 (Safe.arv hZ.alike V346 (by decide)) R349.1)
            have hk359 : _ ≤ h354.size := Nat.le_trans hk351 (Keep.of_wr W354).1
            have q361 := fun t (kt : Go p e below T354 (mkF m 285 #[vI p1, vJ q2, vS, vJ q3, vS, vI r_22, vI r_25, vI r_28, vI r_31, vI r_34, vI r_37, vI r7, vI (p1 &&& (7 : Int32)), vU, vU, vU] [(.int r_34), (.int 4), (.ref b322), (.ref b322), (.ref b314), (.ref b314)]) t) => q353 t (st354 t (by
              show Go _ _ _ _ (mkF m 281 #[vI p1, vJ q2, vS, vJ q3, vS, vI r_22, vI r_25, vI r_28, vI r_31, vI r_34, vI r_37, vI r7, vI (p1 &&& (7 : Int32)), vU, vU, vU] [(.ref b322), (.ref b314), (.ref b314)]) _
              refine XS.dup X354.here hx rfl (hb hby at_281) rfl rfl ?_
              show Go _ _ _ _ (mkF m 282 _ [(.ref b322), (.ref b322), (.ref b314), (.ref b314)]) _
              refine XS.iconst X354.here hx rfl (hb hby at_282) ?_
              show Go _ _ _ _ (mkF m 283 _ [(.int 4), (.ref b322), (.ref b322), (.ref b314), (.ref b314)]) _
              refine XS.iload X354.here hx rfl (hb hby at_283) rfl ?_
              exact kt))
            obtain ⟨c360, Ar360, q360, S360, N360, H360, G360⟩ := id V354
            have hi360 : ¬ ((4 : Int32) < 0 ∨ c360.slots.size ≤ ((4 : Int32)).toNatClampNeg) := inb_of S360 ⟨by decide, by decide⟩
            obtain ⟨T362, h362, X362, e362, W362, st362⟩ := stC X354 hx hZ e354 Ar360 (j := (4 : Int32)) hi360 (g := (mkF m 285 #[vI p1, vJ q2, vS, vJ q3, vS, vI r_22, vI r_25, vI r_28, vI r_31, vI r_34, vI r_37, vI r7, vI (p1 &&& (7 : Int32)), vU, vU, vU] [(.int r_34), (.int 4), (.ref b322), (.ref b322), (.ref b314), (.ref b314)])) rfl rfl (hb hby at_285)
            have V362 : Arv Z h362 b322 k322 .char (6 : Int32) [(.int r_22), (.int r_25), (.int r_28), (.int r_31), (.int r_34), (.int 0)] (.int 0) := by
              have vv := Arv.set Ar360 q360 S360 N360 H360 G360 (fits_nar_char _) W362 4 rfl (Nat.le_of_ble_eq_true rfl)
              rw [show nar .char r_34 = r_34 from (own_narc16 pq34_0)] at vv
              exact vv
            have N363 := Fr.snoc X362 N355 gg323
            have O364 := O356.wr W362 gg323
            have sf366 : Safe Z own_EL s.vm h362 b314 := Safe.wr W362 (Safe.arv hZ.alike V354 (by decide)) R357.1 sf358
            have R365 : CHr Z own_EL s.vm h0 s.vm h362 := R357.trans (CHr.wr W362 (Safe.arv hZ.alike V354 (by decide)) R357.1)
            have hk367 : _ ≤ h362.size := Nat.le_trans hk359 (Keep.of_wr W362).1
            have q369 := fun t (kt : Go p e below T362 (mkF m 290 #[vI p1, vJ q2, vS, vJ q3, vS, vI r_22, vI r_25, vI r_28, vI r_31, vI r_34, vI r_37, vI r7, vI (p1 &&& (7 : Int32)), vU, vU, vU] [(.int r_37), (.int 5), (.ref b322), (.ref b322), (.ref b314), (.ref b314)]) t) => q361 t (st362 t (by
              show Go _ _ _ _ (mkF m 286 #[vI p1, vJ q2, vS, vJ q3, vS, vI r_22, vI r_25, vI r_28, vI r_31, vI r_34, vI r_37, vI r7, vI (p1 &&& (7 : Int32)), vU, vU, vU] [(.ref b322), (.ref b314), (.ref b314)]) _
              refine XS.dup X362.here hx rfl (hb hby at_286) rfl rfl ?_
              show Go _ _ _ _ (mkF m 287 _ [(.ref b322), (.ref b322), (.ref b314), (.ref b314)]) _
              refine XS.iconst X362.here hx rfl (hb hby at_287) ?_
              show Go _ _ _ _ (mkF m 288 _ [(.int 5), (.ref b322), (.ref b322), (.ref b314), (.ref b314)]) _
              refine XS.iload X362.here hx rfl (hb hby at_288) rfl ?_
              exact kt))
            obtain ⟨c368, Ar368, q368, S368, N368, H368, G368⟩ := id V362
            have hi368 : ¬ ((5 : Int32) < 0 ∨ c368.slots.size ≤ ((5 : Int32)).toNatClampNeg) := inb_of S368 ⟨by decide, by decide⟩
            obtain ⟨T370, h370, X370, e370, W370, st370⟩ := stC X362 hx hZ e362 Ar368 (j := (5 : Int32)) hi368 (g := (mkF m 290 #[vI p1, vJ q2, vS, vJ q3, vS, vI r_22, vI r_25, vI r_28, vI r_31, vI r_34, vI r_37, vI r7, vI (p1 &&& (7 : Int32)), vU, vU, vU] [(.int r_37), (.int 5), (.ref b322), (.ref b322), (.ref b314), (.ref b314)])) rfl rfl (hb hby at_290)
            have V370 : Arv Z h370 b322 k322 .char (6 : Int32) [(.int r_22), (.int r_25), (.int r_28), (.int r_31), (.int r_34), (.int r_37)] (.int 0) := by
              have vv := Arv.set Ar368 q368 S368 N368 H368 G368 (fits_nar_char _) W370 5 rfl (Nat.le_of_ble_eq_true rfl)
              rw [show nar .char r_37 = r_37 from (own_narc16 pq37_0)] at vv
              exact vv
            have N371 := Fr.snoc X370 N363 gg323
            have O372 := O364.wr W370 gg323
            have sf374 : Safe Z own_EL s.vm h370 b314 := Safe.wr W370 (Safe.arv hZ.alike V362 (by decide)) R365.1 sf366
            have R373 : CHr Z own_EL s.vm h0 s.vm h370 := R365.trans (CHr.wr W370 (Safe.arv hZ.alike V362 (by decide)) R365.1)
            have hk375 : _ ≤ h370.size := Nat.le_trans hk367 (Keep.of_wr W370).1
            have q376 := fun t (kt : Go p e below T370 (mkF m 291 #[vI p1, vJ q2, vS, vJ q3, vS, vI r_22, vI r_25, vI r_28, vI r_31, vI r_34, vI r_37, vI r7, vI (p1 &&& (7 : Int32)), vU, vU, vU] [(.ref b322), (.ref b314), (.ref b314)]) t) => q369 t (st370 t kt)
            by_cases hB : (255 : Int32) < r_22 ∨ (255 : Int32) < r_25 ∨ (255 : Int32) < r_28 ∨ (255 : Int32) < r_31 ∨ (255 : Int32) < r_34 ∨ (255 : Int32) < r_37
            · skip
              have f377 := (((((((A314.ext E322).wr W330).wr W338).wr W346).wr W354).wr W362).wr W370)
              have ne378 : b314 ≠ b322 := (Nat.ne_of_lt (Nat.lt_of_lt_of_le A314.lt (Nat.le_of_eq g322.symm)))
              have f379 := (((((((F314_value.ext E322).other W330 (Or.inl ne378)).other W338 (Or.inl ne378)).other W346 (Or.inl ne378)).other W354 (Or.inl ne378)).other W362 (Or.inl ne378)).other W370 (Or.inl ne378))
              have f380 := (((((((F314_coder.ext E322).other W330 (Or.inl ne378)).other W338 (Or.inl ne378)).other W346 (Or.inl ne378)).other W354 (Or.inl ne378)).other W362 (Or.inl ne378)).other W370 (Or.inl ne378))
              obtain ⟨_, _, ⟨T381, L381, k381, n381⟩, -, X381, ⟨_, hQ381, l381, y381, z381⟩, st381⟩ := X370.specialBack hx (y := ym10) rfl hown (ow hZ hw 12 rfl) (ow hZ hw 13 rfl) (ow hZ hw 14 rfl) (by decide) (backOf (W := 1) (rm3_6 l Z a0 hw [] cx b314 b322 k322 r_22 r_25 r_28 r_31 r_34 r_37 h370 n0 O372 f377 f379 f380 V370 gg315 hB pq22_0 pq25_0 pq28_0 pq31_0 pq34_0 pq37_0) hZ (ov hw 14 rfl) (ov hw 10 rfl) (by decide) (by decide)) (g := (mkF m 291 #[vI p1, vJ q2, vS, vJ q3, vS, vI r_22, vI r_25, vI r_28, vI r_31, vI r_34, vI r_37, vI r7, vI (p1 &&& (7 : Int32)), vU, vU, vU] [(.ref b322), (.ref b314), (.ref b314)])) rfl (by rw [hml]; rfl) (Steps.refl _) (a := b314) (argsL := [(.ref b322)]) (rest := [(.ref b314)]) (lenOf pd_14 rfl) rfl own_le0 (hb hby at_291) (fun _ _ => ⟨rfl, e370, (by decide : 2 + 2 ≤ _), (by decide : 10 + 18 ≤ _)⟩)
              dsimp only [Pt.U, Pt.locs, Pt.cells, Pt.slots] at X381 l381 y381 z381 st381 hQ381
              subst l381 y381 z381
              obtain ⟨t_381, rfl, Nq381, Kq381, fq381_0, fq381_1⟩ := hQ381
              have N382 := Fr.app N371 Nq381
              have O383 := O372.keep Kq381 (allS gg315 all0)
              have sf385 : Safe Z own_EL s.vm T381.heap b314 := Safe.keep Kq381 (sfS sf374 sf0) R373.1 sf374
              have R384 : CHr Z own_EL s.vm h0 s.vm T381.heap := R373.trans (CHr.keep Kq381 (sfS sf374 sf0) R373.1)
              have hk386 : _ ≤ T381.heap.size := Nat.le_trans hk375 Kq381.1
              have q387 := fun t (kt : Go p e below T381 (mkF m 318 #[vI p1, vJ q2, vS, vJ q3, vS, vI r_22, vI r_25, vI r_28, vI r_31, vI r_34, vI r_37, vI r7, vI (p1 &&& (7 : Int32)), vR b314, vI 6, vU] []) t) => q376 t (st381.trans (by
                show Go _ _ _ _ (mkF m 294 #[vI p1, vJ q2, vS, vJ q3, vS, vI r_22, vI r_25, vI r_28, vI r_31, vI r_34, vI r_37, vI r7, vI (p1 &&& (7 : Int32)), vU, vU, vU] [(.ref b314)]) _
                refine XS.astore X381.here hx rfl (hb hby at_294) rfl rfl (l' := #[vI p1, vJ q2, vS, vJ q3, vS, vI r_22, vI r_25, vI r_28, vI r_31, vI r_34, vI r_37, vI r7, vI (p1 &&& (7 : Int32)), vR b314, vU, vU]) rfl ?_
                show Go _ _ _ _ (mkF m 296 #[vI p1, vJ q2, vS, vJ q3, vS, vI r_22, vI r_25, vI r_28, vI r_31, vI r_34, vI r_37, vI r7, vI (p1 &&& (7 : Int32)), vR b314, vU, vU] []) _
                refine XS.bipush X381.here hx rfl (hb hby at_296) ?_
                show Go _ _ _ _ (mkF m 298 _ [(.int 6)]) _
                refine XS.istore X381.here hx rfl (hb hby at_298) rfl (l' := #[vI p1, vJ q2, vS, vJ q3, vS, vI r_22, vI r_25, vI r_28, vI r_31, vI r_34, vI r_37, vI r7, vI (p1 &&& (7 : Int32)), vR b314, vI 6, vU]) rfl ?_
                show Go _ _ _ _ (mkF m 300 #[vI p1, vJ q2, vS, vJ q3, vS, vI r_22, vI r_25, vI r_28, vI r_31, vI r_34, vI r_37, vI r7, vI (p1 &&& (7 : Int32)), vR b314, vI 6, vU] []) _
                refine XS.iload X381.here hx rfl (hb hby at_300) rfl ?_
                show Go _ _ _ _ (mkF m 302 _ [(.int 6)]) _
                refine XS.ifYes X381.here hx rfl (pc0 := 302) (pc' := 311) rfl (hb hby at_302) rfl ((if0 _ _).trans (flt (by decide : ¬ ((6 : Int32) < (0 : Int32)))).2.1) (by decide) (by decide) ?_
                show Go _ _ _ _ (mkF m 311 _ []) _
                refine XS.iload X381.here hx rfl (hb hby at_311) rfl ?_
                show Go _ _ _ _ (mkF m 313 _ [(.int 6)]) _
                refine XS.bipush X381.here hx rfl (hb hby at_313) ?_
                show Go _ _ _ _ (mkF m 315 _ [(.int 6), (.int 6)]) _
                refine XS.icmpNo X381.here hx rfl (hb hby at_315) rfl (teq (rfl : (6 : Int32) = (6 : Int32))).2 ?_
                exact kt))
              obtain ⟨T388, lo388, v15, X388, e388, N388, mp388_0, q388⟩ : ∃ (T388 : State) (lo388 : List Loc) (v15 : Int32), Stand p l e room_1 (s.setVm s.vm) m #[(.int p1), (.long q2), (.long q3)] below meth c T388 lo388 4 28 ∧ T388.heap = T381.heap ∧ Fr n0 lo388 ∧ (v15 = (0 : Int32)) ∧ ∀ t, Go p e below T388 (mkF m 373 #[vI p1, vJ q2, vS, vJ q3, vS, vI r_22, vI r_25, vI r_28, vI r_31, vI r_34, vI r_37, vI r7, vI (p1 &&& (7 : Int32)), vR b314, vI 6, vI v15] []) t → Go p e below s₁ (entryFrame m #[(.int p1), (.long q2), (.long q3)] maxLocals) t := by
                skip
                have q389 := fun t (kt : Go p e below T381 (mkF m 322 #[vI p1, vJ q2, vS, vJ q3, vS, vI r_22, vI r_25, vI r_28, vI r_31, vI r_34, vI r_37, vI r7, vI (p1 &&& (7 : Int32)), vR b314, vI 6, vU] [(.int 115), (.int r_22)]) t) => q387 t (by
                  show Go _ _ _ _ (mkF m 318 #[vI p1, vJ q2, vS, vJ q3, vS, vI r_22, vI r_25, vI r_28, vI r_31, vI r_34, vI r_37, vI r7, vI (p1 &&& (7 : Int32)), vR b314, vI 6, vU] []) _
                  refine XS.iload X381.here hx rfl (hb hby at_318) rfl ?_
                  show Go _ _ _ _ (mkF m 320 _ [(.int r_22)]) _
                  refine XS.bipush X381.here hx rfl (hb hby at_320) ?_
                  exact kt)
                by_cases hc390 : r_22 = (115 : Int32)
                · have q391 := fun t (kt : Go p e below T381 (mkF m 329 #[vI p1, vJ q2, vS, vJ q3, vS, vI r_22, vI r_25, vI r_28, vI r_31, vI r_34, vI r_37, vI r7, vI (p1 &&& (7 : Int32)), vR b314, vI 6, vU] [(.int 104), (.int r_25)]) t) => q389 t (by
                    show Go _ _ _ _ (mkF m 322 #[vI p1, vJ q2, vS, vJ q3, vS, vI r_22, vI r_25, vI r_28, vI r_31, vI r_34, vI r_37, vI r7, vI (p1 &&& (7 : Int32)), vR b314, vI 6, vU] [(.int 115), (.int r_22)]) _
                    refine XS.icmpNo X381.here hx rfl (hb hby at_322) rfl (teq hc390).2 ?_
                    show Go _ _ _ _ (mkF m 325 _ []) _
                    refine XS.iload X381.here hx rfl (hb hby at_325) rfl ?_
                    show Go _ _ _ _ (mkF m 327 _ [(.int r_25)]) _
                    refine XS.bipush X381.here hx rfl (hb hby at_327) ?_
                    exact kt)
                  by_cases hc392 : r_25 = (104 : Int32)
                  · have q393 := fun t (kt : Go p e below T381 (mkF m 336 #[vI p1, vJ q2, vS, vJ q3, vS, vI r_22, vI r_25, vI r_28, vI r_31, vI r_34, vI r_37, vI r7, vI (p1 &&& (7 : Int32)), vR b314, vI 6, vU] [(.int 97), (.int r_28)]) t) => q391 t (by
                      show Go _ _ _ _ (mkF m 329 #[vI p1, vJ q2, vS, vJ q3, vS, vI r_22, vI r_25, vI r_28, vI r_31, vI r_34, vI r_37, vI r7, vI (p1 &&& (7 : Int32)), vR b314, vI 6, vU] [(.int 104), (.int r_25)]) _
                      refine XS.icmpNo X381.here hx rfl (hb hby at_329) rfl (teq hc392).2 ?_
                      show Go _ _ _ _ (mkF m 332 _ []) _
                      refine XS.iload X381.here hx rfl (hb hby at_332) rfl ?_
                      show Go _ _ _ _ (mkF m 334 _ [(.int r_28)]) _
                      refine XS.bipush X381.here hx rfl (hb hby at_334) ?_
                      exact kt)
                    by_cases hc394 : r_28 = (97 : Int32)
                    · have q395 := fun t (kt : Go p e below T381 (mkF m 343 #[vI p1, vJ q2, vS, vJ q3, vS, vI r_22, vI r_25, vI r_28, vI r_31, vI r_34, vI r_37, vI r7, vI (p1 &&& (7 : Int32)), vR b314, vI 6, vU] [(.int 107), (.int r_31)]) t) => q393 t (by
                        show Go _ _ _ _ (mkF m 336 #[vI p1, vJ q2, vS, vJ q3, vS, vI r_22, vI r_25, vI r_28, vI r_31, vI r_34, vI r_37, vI r7, vI (p1 &&& (7 : Int32)), vR b314, vI 6, vU] [(.int 97), (.int r_28)]) _
                        refine XS.icmpNo X381.here hx rfl (hb hby at_336) rfl (teq hc394).2 ?_
                        show Go _ _ _ _ (mkF m 339 _ []) _
                        refine XS.iload X381.here hx rfl (hb hby at_339) rfl ?_
                        show Go _ _ _ _ (mkF m 341 _ [(.int r_31)]) _
                        refine XS.bipush X381.here hx rfl (hb hby at_341) ?_
                        exact kt)
                      by_cases hc396 : r_31 = (107 : Int32)
                      · have q397 := fun t (kt : Go p e below T381 (mkF m 350 #[vI p1, vJ q2, vS, vJ q3, vS, vI r_22, vI r_25, vI r_28, vI r_31, vI r_34, vI r_37, vI r7, vI (p1 &&& (7 : Int32)), vR b314, vI 6, vU] [(.int 101), (.int r_34)]) t) => q395 t (by
                          show Go _ _ _ _ (mkF m 343 #[vI p1, vJ q2, vS, vJ q3, vS, vI r_22, vI r_25, vI r_28, vI r_31, vI r_34, vI r_37, vI r7, vI (p1 &&& (7 : Int32)), vR b314, vI 6, vU] [(.int 107), (.int r_31)]) _
                          refine XS.icmpNo X381.here hx rfl (hb hby at_343) rfl (teq hc396).2 ?_
                          show Go _ _ _ _ (mkF m 346 _ []) _
                          refine XS.iload X381.here hx rfl (hb hby at_346) rfl ?_
                          show Go _ _ _ _ (mkF m 348 _ [(.int r_34)]) _
                          refine XS.bipush X381.here hx rfl (hb hby at_348) ?_
                          exact kt)
                        by_cases hc398 : r_34 = (101 : Int32)
                        · have q399 := fun t (kt : Go p e below T381 (mkF m 357 #[vI p1, vJ q2, vS, vJ q3, vS, vI r_22, vI r_25, vI r_28, vI r_31, vI r_34, vI r_37, vI r7, vI (p1 &&& (7 : Int32)), vR b314, vI 6, vU] [(.int 110), (.int r_37)]) t) => q397 t (by
                            show Go _ _ _ _ (mkF m 350 #[vI p1, vJ q2, vS, vJ q3, vS, vI r_22, vI r_25, vI r_28, vI r_31, vI r_34, vI r_37, vI r7, vI (p1 &&& (7 : Int32)), vR b314, vI 6, vU] [(.int 101), (.int r_34)]) _
                            refine XS.icmpNo X381.here hx rfl (hb hby at_350) rfl (teq hc398).2 ?_
                            show Go _ _ _ _ (mkF m 353 _ []) _
                            refine XS.iload X381.here hx rfl (hb hby at_353) rfl ?_
                            show Go _ _ _ _ (mkF m 355 _ [(.int r_37)]) _
                            refine XS.bipush X381.here hx rfl (hb hby at_355) ?_
                            exact kt)
                          by_cases hc400 : r_37 = (110 : Int32)
                          · have q401 := fun t (kt : Go p e below T381 (mkF m 360 #[vI p1, vJ q2, vS, vJ q3, vS, vI r_22, vI r_25, vI r_28, vI r_31, vI r_34, vI r_37, vI r7, vI (p1 &&& (7 : Int32)), vR b314, vI 6, vU] []) t) => q399 t (by
                              show Go _ _ _ _ (mkF m 357 #[vI p1, vJ q2, vS, vJ q3, vS, vI r_22, vI r_25, vI r_28, vI r_31, vI r_34, vI r_37, vI r7, vI (p1 &&& (7 : Int32)), vR b314, vI 6, vU] [(.int 110), (.int r_37)]) _
                              refine XS.icmpNo X381.here hx rfl (hb hby at_357) rfl (teq hc400).2 ?_
                              exact kt)
                            exact absurd hB (by rw [hc390, hc392, hc394, hc396, hc398, hc400]; decide)
                          · have q402 := fun t (kt : Go p e below T381 (mkF m 373 #[vI p1, vJ q2, vS, vJ q3, vS, vI r_22, vI r_25, vI r_28, vI r_31, vI r_34, vI r_37, vI r7, vI (p1 &&& (7 : Int32)), vR b314, vI 6, vI 0] []) t) => q399 t (by
                              show Go _ _ _ _ (mkF m 357 #[vI p1, vJ q2, vS, vJ q3, vS, vI r_22, vI r_25, vI r_28, vI r_31, vI r_34, vI r_37, vI r7, vI (p1 &&& (7 : Int32)), vR b314, vI 6, vU] [(.int 110), (.int r_37)]) _
                              refine XS.icmpYes X381.here hx rfl (pc0 := 357) (pc' := 364) rfl (hb hby at_357) rfl (feq hc400).2 (by decide) (by decide) ?_
                              show Go _ _ _ _ (mkF m 364 _ []) _
                              refine XS.iconst X381.here hx rfl (hb hby at_364) ?_
                              show Go _ _ _ _ (mkF m 365 _ [(.int 0)]) _
                              refine XS.istore X381.here hx rfl (hb hby at_365) rfl (l' := #[vI p1, vJ q2, vS, vJ q3, vS, vI r_22, vI r_25, vI r_28, vI r_31, vI r_34, vI r_37, vI r7, vI (p1 &&& (7 : Int32)), vR b314, vI 6, vI 0]) rfl ?_
                              show Go _ _ _ _ (mkF m 367 #[vI p1, vJ q2, vS, vJ q3, vS, vI r_22, vI r_25, vI r_28, vI r_31, vI r_34, vI r_37, vI r7, vI (p1 &&& (7 : Int32)), vR b314, vI 6, vI 0] []) _
                              refine XS.goto X381.here hx rfl (pc0 := 367) (pc' := 373) rfl (hb hby at_367) (by decide) (by decide) ?_
                              exact kt)
                            exact ⟨T381, _, (0 : Int32), X381, rfl, N382, rfl, q402⟩
                        · have q403 := fun t (kt : Go p e below T381 (mkF m 373 #[vI p1, vJ q2, vS, vJ q3, vS, vI r_22, vI r_25, vI r_28, vI r_31, vI r_34, vI r_37, vI r7, vI (p1 &&& (7 : Int32)), vR b314, vI 6, vI 0] []) t) => q397 t (by
                            show Go _ _ _ _ (mkF m 350 #[vI p1, vJ q2, vS, vJ q3, vS, vI r_22, vI r_25, vI r_28, vI r_31, vI r_34, vI r_37, vI r7, vI (p1 &&& (7 : Int32)), vR b314, vI 6, vU] [(.int 101), (.int r_34)]) _
                            refine XS.icmpYes X381.here hx rfl (pc0 := 350) (pc' := 364) rfl (hb hby at_350) rfl (feq hc398).2 (by decide) (by decide) ?_
                            show Go _ _ _ _ (mkF m 364 _ []) _
                            refine XS.iconst X381.here hx rfl (hb hby at_364) ?_
                            show Go _ _ _ _ (mkF m 365 _ [(.int 0)]) _
                            refine XS.istore X381.here hx rfl (hb hby at_365) rfl (l' := #[vI p1, vJ q2, vS, vJ q3, vS, vI r_22, vI r_25, vI r_28, vI r_31, vI r_34, vI r_37, vI r7, vI (p1 &&& (7 : Int32)), vR b314, vI 6, vI 0]) rfl ?_
                            show Go _ _ _ _ (mkF m 367 #[vI p1, vJ q2, vS, vJ q3, vS, vI r_22, vI r_25, vI r_28, vI r_31, vI r_34, vI r_37, vI r7, vI (p1 &&& (7 : Int32)), vR b314, vI 6, vI 0] []) _
                            refine XS.goto X381.here hx rfl (pc0 := 367) (pc' := 373) rfl (hb hby at_367) (by decide) (by decide) ?_
                            exact kt)
                          exact ⟨T381, _, (0 : Int32), X381, rfl, N382, rfl, q403⟩
                      · have q404 := fun t (kt : Go p e below T381 (mkF m 373 #[vI p1, vJ q2, vS, vJ q3, vS, vI r_22, vI r_25, vI r_28, vI r_31, vI r_34, vI r_37, vI r7, vI (p1 &&& (7 : Int32)), vR b314, vI 6, vI 0] []) t) => q395 t (by
                          show Go _ _ _ _ (mkF m 343 #[vI p1, vJ q2, vS, vJ q3, vS, vI r_22, vI r_25, vI r_28, vI r_31, vI r_34, vI r_37, vI r7, vI (p1 &&& (7 : Int32)), vR b314, vI 6, vU] [(.int 107), (.int r_31)]) _
                          refine XS.icmpYes X381.here hx rfl (pc0 := 343) (pc' := 364) rfl (hb hby at_343) rfl (feq hc396).2 (by decide) (by decide) ?_
                          show Go _ _ _ _ (mkF m 364 _ []) _
                          refine XS.iconst X381.here hx rfl (hb hby at_364) ?_
                          show Go _ _ _ _ (mkF m 365 _ [(.int 0)]) _
                          refine XS.istore X381.here hx rfl (hb hby at_365) rfl (l' := #[vI p1, vJ q2, vS, vJ q3, vS, vI r_22, vI r_25, vI r_28, vI r_31, vI r_34, vI r_37, vI r7, vI (p1 &&& (7 : Int32)), vR b314, vI 6, vI 0]) rfl ?_
                          show Go _ _ _ _ (mkF m 367 #[vI p1, vJ q2, vS, vJ q3, vS, vI r_22, vI r_25, vI r_28, vI r_31, vI r_34, vI r_37, vI r7, vI (p1 &&& (7 : Int32)), vR b314, vI 6, vI 0] []) _
                          refine XS.goto X381.here hx rfl (pc0 := 367) (pc' := 373) rfl (hb hby at_367) (by decide) (by decide) ?_
                          exact kt)
                        exact ⟨T381, _, (0 : Int32), X381, rfl, N382, rfl, q404⟩
                    · have q405 := fun t (kt : Go p e below T381 (mkF m 373 #[vI p1, vJ q2, vS, vJ q3, vS, vI r_22, vI r_25, vI r_28, vI r_31, vI r_34, vI r_37, vI r7, vI (p1 &&& (7 : Int32)), vR b314, vI 6, vI 0] []) t) => q393 t (by
                        show Go _ _ _ _ (mkF m 336 #[vI p1, vJ q2, vS, vJ q3, vS, vI r_22, vI r_25, vI r_28, vI r_31, vI r_34, vI r_37, vI r7, vI (p1 &&& (7 : Int32)), vR b314, vI 6, vU] [(.int 97), (.int r_28)]) _
                        refine XS.icmpYes X381.here hx rfl (pc0 := 336) (pc' := 364) rfl (hb hby at_336) rfl (feq hc394).2 (by decide) (by decide) ?_
                        show Go _ _ _ _ (mkF m 364 _ []) _
                        refine XS.iconst X381.here hx rfl (hb hby at_364) ?_
                        show Go _ _ _ _ (mkF m 365 _ [(.int 0)]) _
                        refine XS.istore X381.here hx rfl (hb hby at_365) rfl (l' := #[vI p1, vJ q2, vS, vJ q3, vS, vI r_22, vI r_25, vI r_28, vI r_31, vI r_34, vI r_37, vI r7, vI (p1 &&& (7 : Int32)), vR b314, vI 6, vI 0]) rfl ?_
                        show Go _ _ _ _ (mkF m 367 #[vI p1, vJ q2, vS, vJ q3, vS, vI r_22, vI r_25, vI r_28, vI r_31, vI r_34, vI r_37, vI r7, vI (p1 &&& (7 : Int32)), vR b314, vI 6, vI 0] []) _
                        refine XS.goto X381.here hx rfl (pc0 := 367) (pc' := 373) rfl (hb hby at_367) (by decide) (by decide) ?_
                        exact kt)
                      exact ⟨T381, _, (0 : Int32), X381, rfl, N382, rfl, q405⟩
                  · have q406 := fun t (kt : Go p e below T381 (mkF m 373 #[vI p1, vJ q2, vS, vJ q3, vS, vI r_22, vI r_25, vI r_28, vI r_31, vI r_34, vI r_37, vI r7, vI (p1 &&& (7 : Int32)), vR b314, vI 6, vI 0] []) t) => q391 t (by
                      show Go _ _ _ _ (mkF m 329 #[vI p1, vJ q2, vS, vJ q3, vS, vI r_22, vI r_25, vI r_28, vI r_31, vI r_34, vI r_37, vI r7, vI (p1 &&& (7 : Int32)), vR b314, vI 6, vU] [(.int 104), (.int r_25)]) _
                      refine XS.icmpYes X381.here hx rfl (pc0 := 329) (pc' := 364) rfl (hb hby at_329) rfl (feq hc392).2 (by decide) (by decide) ?_
                      show Go _ _ _ _ (mkF m 364 _ []) _
                      refine XS.iconst X381.here hx rfl (hb hby at_364) ?_
                      show Go _ _ _ _ (mkF m 365 _ [(.int 0)]) _
                      refine XS.istore X381.here hx rfl (hb hby at_365) rfl (l' := #[vI p1, vJ q2, vS, vJ q3, vS, vI r_22, vI r_25, vI r_28, vI r_31, vI r_34, vI r_37, vI r7, vI (p1 &&& (7 : Int32)), vR b314, vI 6, vI 0]) rfl ?_
                      show Go _ _ _ _ (mkF m 367 #[vI p1, vJ q2, vS, vJ q3, vS, vI r_22, vI r_25, vI r_28, vI r_31, vI r_34, vI r_37, vI r7, vI (p1 &&& (7 : Int32)), vR b314, vI 6, vI 0] []) _
                      refine XS.goto X381.here hx rfl (pc0 := 367) (pc' := 373) rfl (hb hby at_367) (by decide) (by decide) ?_
                      exact kt)
                    exact ⟨T381, _, (0 : Int32), X381, rfl, N382, rfl, q406⟩
                · have q407 := fun t (kt : Go p e below T381 (mkF m 373 #[vI p1, vJ q2, vS, vJ q3, vS, vI r_22, vI r_25, vI r_28, vI r_31, vI r_34, vI r_37, vI r7, vI (p1 &&& (7 : Int32)), vR b314, vI 6, vI 0] []) t) => q389 t (by
                    show Go _ _ _ _ (mkF m 322 #[vI p1, vJ q2, vS, vJ q3, vS, vI r_22, vI r_25, vI r_28, vI r_31, vI r_34, vI r_37, vI r7, vI (p1 &&& (7 : Int32)), vR b314, vI 6, vU] [(.int 115), (.int r_22)]) _
                    refine XS.icmpYes X381.here hx rfl (pc0 := 322) (pc' := 364) rfl (hb hby at_322) rfl (feq hc390).2 (by decide) (by decide) ?_
                    show Go _ _ _ _ (mkF m 364 _ []) _
                    refine XS.iconst X381.here hx rfl (hb hby at_364) ?_
                    show Go _ _ _ _ (mkF m 365 _ [(.int 0)]) _
                    refine XS.istore X381.here hx rfl (hb hby at_365) rfl (l' := #[vI p1, vJ q2, vS, vJ q3, vS, vI r_22, vI r_25, vI r_28, vI r_31, vI r_34, vI r_37, vI r7, vI (p1 &&& (7 : Int32)), vR b314, vI 6, vI 0]) rfl ?_
                    show Go _ _ _ _ (mkF m 367 #[vI p1, vJ q2, vS, vJ q3, vS, vI r_22, vI r_25, vI r_28, vI r_31, vI r_34, vI r_37, vI r7, vI (p1 &&& (7 : Int32)), vR b314, vI 6, vI 0] []) _
                    refine XS.goto X381.here hx rfl (pc0 := 367) (pc' := 373) rfl (hb hby at_367) (by decide) (by decide) ?_
                    exact kt)
                  exact ⟨T381, _, (0 : Int32), X381, rfl, N382, rfl, q407⟩
              have f408 := (f377.keep Kq381)
              have q409 := fun t (kt : Go p e below T388 (mkF m 375 #[vI p1, vJ q2, vS, vJ q3, vS, vI r_22, vI r_25, vI r_28, vI r_31, vI r_34, vI r_37, vI r7, vI (p1 &&& (7 : Int32)), vR b314, vI 6, vI v15] [(.ref b314)]) t) => q388 t (by
                show Go _ _ _ _ (mkF m 373 #[vI p1, vJ q2, vS, vJ q3, vS, vI r_22, vI r_25, vI r_28, vI r_31, vI r_34, vI r_37, vI r7, vI (p1 &&& (7 : Int32)), vR b314, vI 6, vI v15] []) _
                refine XS.aload X388.here hx rfl (hb hby at_373) rfl rfl ?_
                exact kt)
              obtain ⟨_, _, ⟨T410, L410, k410, n410⟩, -, X410, hSn410, hgn410, ⟨_, hQ410, l410, y410, z410, cR410⟩, st410⟩ := callSS X388 hx (y := ym17) hown (ow hZ hw 4 rfl) (ow hZ hw 5 rfl) (ow hZ hw 6 rfl) (ow hZ hw 7 rfl) (by decide) (backOfSH (EL := own_EL) (vm0 := s.vm) (W := 0) (rm2u l Z a0 hw [] cx b314 T381.heap n0 O383 f408 fq381_1) hZ (ov hw 7 rfl) (ov hw 6 rfl) (by decide) (by decide) hEW R384.1) (g := (mkF m 375 #[vI p1, vJ q2, vS, vJ q3, vS, vI r_22, vI r_25, vI r_28, vI r_31, vI r_34, vI r_37, vI r7, vI (p1 &&& (7 : Int32)), vR b314, vI 6, vI v15] [(.ref b314)])) rfl (by rw [hml]; rfl) (argsL := [(.ref b314)]) (rest := []) (lenOf pd_13 rfl) rfl own_le0 (hb hby at_375) (fun _ _ => ⟨rfl, e388, (by decide : 4 + 2 ≤ _), (by decide : 28 + 28 ≤ _)⟩)
              dsimp only [Pt.U, Pt.locs, Pt.cells, Pt.slots] at X410 l410 y410 z410 st410 hQ410 hSn410 hgn410 cR410
              subst l410 y410 z410
              have hS410 := foldS (vm0 := s.vm) hS0 (by rw [e388]; exact hk386) hSn410 hgn410
              have hZ : Z.Warmed39 (s.setVm T410.vm).vm := State.Warmed39.trans (t := s.setVm s.vm) hZ hSn410.1
              have hown : (s.setVm T410.vm).vm.findClass sk0 = some m.cls := by
                show T410.vm.findClass _ = _
                rw [hSn410.1.alike.findClass]; exact hown
              have X410 : Stand p l e room_1 (s.setVm T410.vm) m #[(.int p1), (.long q2), (.long q3)] below meth c T410 _ _ _ := X410
              have hkk410 : T410.heap.size ≤ T410.heap.size := Nat.le_refl _
              obtain ⟨rfl, Nq410, Kq410⟩ := hQ410
              have N411 := Fr.app N388 Nq410
              have O412 := O383.keep Kq410 all0
              have sf414 : Safe Z own_EL T410.vm T410.heap b314 := CHr.safe cR410 f408.lt sf385
              have R413 : CHr Z own_EL s.vm h0 T410.vm T410.heap := R384.trans cR410
              have q415 := fun t (kt : Go p e below T410 (mkF m 388 #[vI p1, vJ q2, vS, vJ q3, vS, vI r_22, vI r_25, vI r_28, vI r_31, vI r_34, vI r_37, vI r7, vI (p1 &&& (7 : Int32)), vR b314, vI 6, vI v15] [(.int 1)]) t) => q409 t (st410.trans (by
                show Go _ _ _ _ (mkF m 378 #[vI p1, vJ q2, vS, vJ q3, vS, vI r_22, vI r_25, vI r_28, vI r_31, vI r_34, vI r_37, vI r7, vI (p1 &&& (7 : Int32)), vR b314, vI 6, vI v15] [(.int 0)]) _
                refine XS.iload X410.here hx rfl (hb hby at_378) rfl ?_
                show Go _ _ _ _ (mkF m 380 _ [(.int v15), (.int 0)]) _
                refine XS.icmpNo X410.here hx rfl (hb hby at_380) rfl (teq (Eq.symm mp388_0)).2 ?_
                show Go _ _ _ _ (mkF m 383 _ []) _
                refine XS.iconst X410.here hx rfl (hb hby at_383) ?_
                show Go _ _ _ _ (mkF m 384 _ [(.int 1)]) _
                refine XS.goto X410.here hx rfl (pc0 := 384) (pc' := 388) rfl (hb hby at_384) (by decide) (by decide) ?_
                exact kt))
              obtain ⟨fs, hr, hrun, hended, hRE⟩ := X410.leaveW hS410 hkk410 (v := some (.int 1)) (fun h => by rw [Bd.returns] at h; cases h)
              refine ⟨_, _, q415 _ ?_, hrun, hended, _, _, rfl, ?_, ?_, hRE.1, hRE.2.1, hRE.2.2.1, hRE.2.2.2.mono (by decide) (by decide)⟩
              · show Go p e below T410 (mkF m 388 #[vI p1, vJ q2, vS, vJ q3, vS, vI r_22, vI r_25, vI r_28, vI r_31, vI r_34, vI r_37, vI r7, vI (p1 &&& (7 : Int32)), vR b314, vI 6, vI v15] [(.int 1)]) _
                exact retN X410 hx (t := .boolean) Bd.returns (by simp) (hb hby at_388) hr
              · show Q_rm0 Z p1 q2 q3 z_cs h0 n0 _ T410.heap _
                exact ⟨rfl, N411⟩
              · show CHr Z own_EL s.vm s.heap T410.vm T410.heap
                rw [hh]
                exact R413.trans (CHv.at X410 hZ hEW R413.1)
            · skip
              have hl0 : ¬ r_22 < 0 ∧ ¬ (255 : Int32) < r_22 := ⟨pq22_0.1, fun h => hB (Or.inl h)⟩
              have hl1 : ¬ r_25 < 0 ∧ ¬ (255 : Int32) < r_25 := ⟨pq25_0.1, fun h => hB (Or.inr (Or.inl h))⟩
              have hl2 : ¬ r_28 < 0 ∧ ¬ (255 : Int32) < r_28 := ⟨pq28_0.1, fun h => hB (Or.inr (Or.inr (Or.inl h)))⟩
              have hl3 : ¬ r_31 < 0 ∧ ¬ (255 : Int32) < r_31 := ⟨pq31_0.1, fun h => hB (Or.inr (Or.inr (Or.inr (Or.inl h))))⟩
              have hl4 : ¬ r_34 < 0 ∧ ¬ (255 : Int32) < r_34 := ⟨pq34_0.1, fun h => hB (Or.inr (Or.inr (Or.inr (Or.inr (Or.inl h)))))⟩
              have hl5 : ¬ r_37 < 0 ∧ ¬ (255 : Int32) < r_37 := ⟨pq37_0.1, fun h => hB (Or.inr (Or.inr (Or.inr (Or.inr (Or.inr h)))))⟩
              have f416 := (((((((A314.ext E322).wr W330).wr W338).wr W346).wr W354).wr W362).wr W370)
              have ne417 : b314 ≠ b322 := (Nat.ne_of_lt (Nat.lt_of_lt_of_le A314.lt (Nat.le_of_eq g322.symm)))
              have f418 := (((((((F314_value.ext E322).other W330 (Or.inl ne417)).other W338 (Or.inl ne417)).other W346 (Or.inl ne417)).other W354 (Or.inl ne417)).other W362 (Or.inl ne417)).other W370 (Or.inl ne417))
              have f419 := (((((((F314_coder.ext E322).other W330 (Or.inl ne417)).other W338 (Or.inl ne417)).other W346 (Or.inl ne417)).other W354 (Or.inl ne417)).other W362 (Or.inl ne417)).other W370 (Or.inl ne417))
              have hws420 : ∀ d ∈ StrChars.Road.words, d.before a0 Z = true := fun d hd => hw d ((by decide +kernel : ∀ d ∈ StrChars.Road.words, d ∈ tables_1) d hd)
              have hlt420 : ∀ c ∈ ([r_22, r_25, r_28, r_31, r_34, r_37] : List Int32), ¬ c < 0 ∧ ¬ (255 : Int32) < c := by
                intro c hc
                simp only [List.mem_cons, List.not_mem_nil, or_false] at hc
                rcases hc with rfl | rfl | rfl | rfl | rfl | rfl
                · exact hl0
                · exact hl1
                · exact hl2
                · exact hl3
                · exact hl4
                · exact hl5
              obtain ⟨_, _, ⟨T421, L421, k421, n421⟩, -, X421, ⟨_, hQ421, l421, y421, z421⟩, st421⟩ := X370.specialBack hx (y := ym10) rfl hown (ow hZ hw 12 rfl) (ow hZ hw 13 rfl) (ow hZ hw 14 rfl) (by decide) (StrChars.Road.backV (W := 1) hZ hws420 (kI := 4) (ov hw 9 rfl) (cs := [r_22, r_25, r_28, r_31, r_34, r_37]) (bs := (([r_22, r_25, r_28, r_31, r_34, r_37] : List Int32).map (fun c => c.toInt8.toInt32))) (n := 6) gg315 (O372.1 ▸ O372.2.1) f416 f418 f419 V370 (cx.1.ext O372.2) cx.2.1 rfl rfl (by decide) (by decide) hlt420 rfl (by decide) (by decide)) (g := (mkF m 291 #[vI p1, vJ q2, vS, vJ q3, vS, vI r_22, vI r_25, vI r_28, vI r_31, vI r_34, vI r_37, vI r7, vI (p1 &&& (7 : Int32)), vU, vU, vU] [(.ref b322), (.ref b314), (.ref b314)])) rfl (by rw [hml]; rfl) (Steps.refl _) (a := b314) (argsL := [(.ref b322)]) (rest := [(.ref b314)]) (lenOf pd_14 rfl) rfl own_le0 (hb hby at_291) (fun _ _ => ⟨rfl, e370, (by decide : 2 + 1 ≤ _), (by decide : 10 + 6 ≤ _)⟩)
              dsimp only [Pt.U, Pt.locs, Pt.cells, Pt.slots] at X421 l421 y421 z421 st421 hQ421
              subst l421 y421 z421
              obtain ⟨rfl, Nq421, Kq421, Ex421, Co421, t421, kt421, gt421, ht421, nt421, Va421, Vb421⟩ := hQ421
              have N422 := Fr.app N371 Nq421
              have gg423 : n0 ≤ t421 := Nat.le_trans (O372.1 ▸ O372.2.1) ht421
              have O424 := O372.keep Kq421 (allS gg315 all0)
              have sf426 : Safe Z own_EL s.vm T421.heap b314 := Safe.keep Kq421 (sfS sf374 sf0) R373.1 sf374
              have R425 : CHr Z own_EL s.vm h0 s.vm T421.heap := R373.trans (CHr.keep Kq421 (sfS sf374 sf0) R373.1)
              have hk427 : _ ≤ T421.heap.size := Nat.le_trans hk375 Kq421.1
              have Sr421 : Str Z T421.heap b314 t421 [r_22, r_25, r_28, r_31, r_34, r_37] := ⟨_, _, _, _, Ex421, Va421, Co421, Vb421, StrChars.Road.codOf (n := 6) rfl (fun c hc => (hlt420 c hc).2), own_up _ hlt420, Nat.le_of_ble_eq_true rfl⟩
              have q428 := fun t (kt : Go p e below T421 (mkF m 318 #[vI p1, vJ q2, vS, vJ q3, vS, vI r_22, vI r_25, vI r_28, vI r_31, vI r_34, vI r_37, vI r7, vI (p1 &&& (7 : Int32)), vR b314, vI 6, vU] []) t) => q376 t (st421.trans (by
                show Go _ _ _ _ (mkF m 294 #[vI p1, vJ q2, vS, vJ q3, vS, vI r_22, vI r_25, vI r_28, vI r_31, vI r_34, vI r_37, vI r7, vI (p1 &&& (7 : Int32)), vU, vU, vU] [(.ref b314)]) _
                refine XS.astore X421.here hx rfl (hb hby at_294) rfl rfl (l' := #[vI p1, vJ q2, vS, vJ q3, vS, vI r_22, vI r_25, vI r_28, vI r_31, vI r_34, vI r_37, vI r7, vI (p1 &&& (7 : Int32)), vR b314, vU, vU]) rfl ?_
                show Go _ _ _ _ (mkF m 296 #[vI p1, vJ q2, vS, vJ q3, vS, vI r_22, vI r_25, vI r_28, vI r_31, vI r_34, vI r_37, vI r7, vI (p1 &&& (7 : Int32)), vR b314, vU, vU] []) _
                refine XS.bipush X421.here hx rfl (hb hby at_296) ?_
                show Go _ _ _ _ (mkF m 298 _ [(.int 6)]) _
                refine XS.istore X421.here hx rfl (hb hby at_298) rfl (l' := #[vI p1, vJ q2, vS, vJ q3, vS, vI r_22, vI r_25, vI r_28, vI r_31, vI r_34, vI r_37, vI r7, vI (p1 &&& (7 : Int32)), vR b314, vI 6, vU]) rfl ?_
                show Go _ _ _ _ (mkF m 300 #[vI p1, vJ q2, vS, vJ q3, vS, vI r_22, vI r_25, vI r_28, vI r_31, vI r_34, vI r_37, vI r7, vI (p1 &&& (7 : Int32)), vR b314, vI 6, vU] []) _
                refine XS.iload X421.here hx rfl (hb hby at_300) rfl ?_
                show Go _ _ _ _ (mkF m 302 _ [(.int 6)]) _
                refine XS.ifYes X421.here hx rfl (pc0 := 302) (pc' := 311) rfl (hb hby at_302) rfl ((if0 _ _).trans (flt (by decide : ¬ ((6 : Int32) < (0 : Int32)))).2.1) (by decide) (by decide) ?_
                show Go _ _ _ _ (mkF m 311 _ []) _
                refine XS.iload X421.here hx rfl (hb hby at_311) rfl ?_
                show Go _ _ _ _ (mkF m 313 _ [(.int 6)]) _
                refine XS.bipush X421.here hx rfl (hb hby at_313) ?_
                show Go _ _ _ _ (mkF m 315 _ [(.int 6), (.int 6)]) _
                refine XS.icmpNo X421.here hx rfl (hb hby at_315) rfl (teq (rfl : (6 : Int32) = (6 : Int32))).2 ?_
                exact kt))
              obtain ⟨T429, lo429, v15, X429, e429, N429, mp429_0, q429⟩ : ∃ (T429 : State) (lo429 : List Loc) (v15 : Int32), Stand p l e room_1 (s.setVm s.vm) m #[(.int p1), (.long q2), (.long q3)] below meth c T429 lo429 3 16 ∧ T429.heap = T421.heap ∧ Fr n0 lo429 ∧ (v15 = own_sh [r_22, r_25, r_28, r_31, r_34, r_37]) ∧ ∀ t, Go p e below T429 (mkF m 373 #[vI p1, vJ q2, vS, vJ q3, vS, vI r_22, vI r_25, vI r_28, vI r_31, vI r_34, vI r_37, vI r7, vI (p1 &&& (7 : Int32)), vR b314, vI 6, vI v15] []) t → Go p e below s₁ (entryFrame m #[(.int p1), (.long q2), (.long q3)] maxLocals) t := by
                skip
                have q430 := fun t (kt : Go p e below T421 (mkF m 322 #[vI p1, vJ q2, vS, vJ q3, vS, vI r_22, vI r_25, vI r_28, vI r_31, vI r_34, vI r_37, vI r7, vI (p1 &&& (7 : Int32)), vR b314, vI 6, vU] [(.int 115), (.int r_22)]) t) => q428 t (by
                  show Go _ _ _ _ (mkF m 318 #[vI p1, vJ q2, vS, vJ q3, vS, vI r_22, vI r_25, vI r_28, vI r_31, vI r_34, vI r_37, vI r7, vI (p1 &&& (7 : Int32)), vR b314, vI 6, vU] []) _
                  refine XS.iload X421.here hx rfl (hb hby at_318) rfl ?_
                  show Go _ _ _ _ (mkF m 320 _ [(.int r_22)]) _
                  refine XS.bipush X421.here hx rfl (hb hby at_320) ?_
                  exact kt)
                by_cases hc431 : r_22 = (115 : Int32)
                · have q432 := fun t (kt : Go p e below T421 (mkF m 329 #[vI p1, vJ q2, vS, vJ q3, vS, vI r_22, vI r_25, vI r_28, vI r_31, vI r_34, vI r_37, vI r7, vI (p1 &&& (7 : Int32)), vR b314, vI 6, vU] [(.int 104), (.int r_25)]) t) => q430 t (by
                    show Go _ _ _ _ (mkF m 322 #[vI p1, vJ q2, vS, vJ q3, vS, vI r_22, vI r_25, vI r_28, vI r_31, vI r_34, vI r_37, vI r7, vI (p1 &&& (7 : Int32)), vR b314, vI 6, vU] [(.int 115), (.int r_22)]) _
                    refine XS.icmpNo X421.here hx rfl (hb hby at_322) rfl (teq hc431).2 ?_
                    show Go _ _ _ _ (mkF m 325 _ []) _
                    refine XS.iload X421.here hx rfl (hb hby at_325) rfl ?_
                    show Go _ _ _ _ (mkF m 327 _ [(.int r_25)]) _
                    refine XS.bipush X421.here hx rfl (hb hby at_327) ?_
                    exact kt)
                  by_cases hc433 : r_25 = (104 : Int32)
                  · have q434 := fun t (kt : Go p e below T421 (mkF m 336 #[vI p1, vJ q2, vS, vJ q3, vS, vI r_22, vI r_25, vI r_28, vI r_31, vI r_34, vI r_37, vI r7, vI (p1 &&& (7 : Int32)), vR b314, vI 6, vU] [(.int 97), (.int r_28)]) t) => q432 t (by
                      show Go _ _ _ _ (mkF m 329 #[vI p1, vJ q2, vS, vJ q3, vS, vI r_22, vI r_25, vI r_28, vI r_31, vI r_34, vI r_37, vI r7, vI (p1 &&& (7 : Int32)), vR b314, vI 6, vU] [(.int 104), (.int r_25)]) _
                      refine XS.icmpNo X421.here hx rfl (hb hby at_329) rfl (teq hc433).2 ?_
                      show Go _ _ _ _ (mkF m 332 _ []) _
                      refine XS.iload X421.here hx rfl (hb hby at_332) rfl ?_
                      show Go _ _ _ _ (mkF m 334 _ [(.int r_28)]) _
                      refine XS.bipush X421.here hx rfl (hb hby at_334) ?_
                      exact kt)
                    by_cases hc435 : r_28 = (97 : Int32)
                    · have q436 := fun t (kt : Go p e below T421 (mkF m 343 #[vI p1, vJ q2, vS, vJ q3, vS, vI r_22, vI r_25, vI r_28, vI r_31, vI r_34, vI r_37, vI r7, vI (p1 &&& (7 : Int32)), vR b314, vI 6, vU] [(.int 107), (.int r_31)]) t) => q434 t (by
                        show Go _ _ _ _ (mkF m 336 #[vI p1, vJ q2, vS, vJ q3, vS, vI r_22, vI r_25, vI r_28, vI r_31, vI r_34, vI r_37, vI r7, vI (p1 &&& (7 : Int32)), vR b314, vI 6, vU] [(.int 97), (.int r_28)]) _
                        refine XS.icmpNo X421.here hx rfl (hb hby at_336) rfl (teq hc435).2 ?_
                        show Go _ _ _ _ (mkF m 339 _ []) _
                        refine XS.iload X421.here hx rfl (hb hby at_339) rfl ?_
                        show Go _ _ _ _ (mkF m 341 _ [(.int r_31)]) _
                        refine XS.bipush X421.here hx rfl (hb hby at_341) ?_
                        exact kt)
                      by_cases hc437 : r_31 = (107 : Int32)
                      · have q438 := fun t (kt : Go p e below T421 (mkF m 350 #[vI p1, vJ q2, vS, vJ q3, vS, vI r_22, vI r_25, vI r_28, vI r_31, vI r_34, vI r_37, vI r7, vI (p1 &&& (7 : Int32)), vR b314, vI 6, vU] [(.int 101), (.int r_34)]) t) => q436 t (by
                          show Go _ _ _ _ (mkF m 343 #[vI p1, vJ q2, vS, vJ q3, vS, vI r_22, vI r_25, vI r_28, vI r_31, vI r_34, vI r_37, vI r7, vI (p1 &&& (7 : Int32)), vR b314, vI 6, vU] [(.int 107), (.int r_31)]) _
                          refine XS.icmpNo X421.here hx rfl (hb hby at_343) rfl (teq hc437).2 ?_
                          show Go _ _ _ _ (mkF m 346 _ []) _
                          refine XS.iload X421.here hx rfl (hb hby at_346) rfl ?_
                          show Go _ _ _ _ (mkF m 348 _ [(.int r_34)]) _
                          refine XS.bipush X421.here hx rfl (hb hby at_348) ?_
                          exact kt)
                        by_cases hc439 : r_34 = (101 : Int32)
                        · have q440 := fun t (kt : Go p e below T421 (mkF m 357 #[vI p1, vJ q2, vS, vJ q3, vS, vI r_22, vI r_25, vI r_28, vI r_31, vI r_34, vI r_37, vI r7, vI (p1 &&& (7 : Int32)), vR b314, vI 6, vU] [(.int 110), (.int r_37)]) t) => q438 t (by
                            show Go _ _ _ _ (mkF m 350 #[vI p1, vJ q2, vS, vJ q3, vS, vI r_22, vI r_25, vI r_28, vI r_31, vI r_34, vI r_37, vI r7, vI (p1 &&& (7 : Int32)), vR b314, vI 6, vU] [(.int 101), (.int r_34)]) _
                            refine XS.icmpNo X421.here hx rfl (hb hby at_350) rfl (teq hc439).2 ?_
                            show Go _ _ _ _ (mkF m 353 _ []) _
                            refine XS.iload X421.here hx rfl (hb hby at_353) rfl ?_
                            show Go _ _ _ _ (mkF m 355 _ [(.int r_37)]) _
                            refine XS.bipush X421.here hx rfl (hb hby at_355) ?_
                            exact kt)
                          by_cases hc441 : r_37 = (110 : Int32)
                          · have q442 := fun t (kt : Go p e below T421 (mkF m 373 #[vI p1, vJ q2, vS, vJ q3, vS, vI r_22, vI r_25, vI r_28, vI r_31, vI r_34, vI r_37, vI r7, vI (p1 &&& (7 : Int32)), vR b314, vI 6, vI 1] []) t) => q440 t (by
                              show Go _ _ _ _ (mkF m 357 #[vI p1, vJ q2, vS, vJ q3, vS, vI r_22, vI r_25, vI r_28, vI r_31, vI r_34, vI r_37, vI r7, vI (p1 &&& (7 : Int32)), vR b314, vI 6, vU] [(.int 110), (.int r_37)]) _
                              refine XS.icmpNo X421.here hx rfl (hb hby at_357) rfl (teq hc441).2 ?_
                              show Go _ _ _ _ (mkF m 360 _ []) _
                              refine XS.iconst X421.here hx rfl (hb hby at_360) ?_
                              show Go _ _ _ _ (mkF m 361 _ [(.int 1)]) _
                              refine XS.goto X421.here hx rfl (pc0 := 361) (pc' := 365) rfl (hb hby at_361) (by decide) (by decide) ?_
                              show Go _ _ _ _ (mkF m 365 _ [(.int 1)]) _
                              refine XS.istore X421.here hx rfl (hb hby at_365) rfl (l' := #[vI p1, vJ q2, vS, vJ q3, vS, vI r_22, vI r_25, vI r_28, vI r_31, vI r_34, vI r_37, vI r7, vI (p1 &&& (7 : Int32)), vR b314, vI 6, vI 1]) rfl ?_
                              show Go _ _ _ _ (mkF m 367 #[vI p1, vJ q2, vS, vJ q3, vS, vI r_22, vI r_25, vI r_28, vI r_31, vI r_34, vI r_37, vI r7, vI (p1 &&& (7 : Int32)), vR b314, vI 6, vI 1] []) _
                              refine XS.goto X421.here hx rfl (pc0 := 367) (pc' := 373) rfl (hb hby at_367) (by decide) (by decide) ?_
                              exact kt)
                            exact ⟨T421, _, (1 : Int32), X421, rfl, N422, (by simp [own_sh, hc431, hc433, hc435, hc437, hc439, hc441]), q442⟩
                          · have q443 := fun t (kt : Go p e below T421 (mkF m 373 #[vI p1, vJ q2, vS, vJ q3, vS, vI r_22, vI r_25, vI r_28, vI r_31, vI r_34, vI r_37, vI r7, vI (p1 &&& (7 : Int32)), vR b314, vI 6, vI 0] []) t) => q440 t (by
                              show Go _ _ _ _ (mkF m 357 #[vI p1, vJ q2, vS, vJ q3, vS, vI r_22, vI r_25, vI r_28, vI r_31, vI r_34, vI r_37, vI r7, vI (p1 &&& (7 : Int32)), vR b314, vI 6, vU] [(.int 110), (.int r_37)]) _
                              refine XS.icmpYes X421.here hx rfl (pc0 := 357) (pc' := 364) rfl (hb hby at_357) rfl (feq hc441).2 (by decide) (by decide) ?_
                              show Go _ _ _ _ (mkF m 364 _ []) _
                              refine XS.iconst X421.here hx rfl (hb hby at_364) ?_
                              show Go _ _ _ _ (mkF m 365 _ [(.int 0)]) _
                              refine XS.istore X421.here hx rfl (hb hby at_365) rfl (l' := #[vI p1, vJ q2, vS, vJ q3, vS, vI r_22, vI r_25, vI r_28, vI r_31, vI r_34, vI r_37, vI r7, vI (p1 &&& (7 : Int32)), vR b314, vI 6, vI 0]) rfl ?_
                              show Go _ _ _ _ (mkF m 367 #[vI p1, vJ q2, vS, vJ q3, vS, vI r_22, vI r_25, vI r_28, vI r_31, vI r_34, vI r_37, vI r7, vI (p1 &&& (7 : Int32)), vR b314, vI 6, vI 0] []) _
                              refine XS.goto X421.here hx rfl (pc0 := 367) (pc' := 373) rfl (hb hby at_367) (by decide) (by decide) ?_
                              exact kt)
                            exact ⟨T421, _, (0 : Int32), X421, rfl, N422, (by simp [own_sh, hc431, hc433, hc435, hc437, hc439, hc441]), q443⟩
                        · have q444 := fun t (kt : Go p e below T421 (mkF m 373 #[vI p1, vJ q2, vS, vJ q3, vS, vI r_22, vI r_25, vI r_28, vI r_31, vI r_34, vI r_37, vI r7, vI (p1 &&& (7 : Int32)), vR b314, vI 6, vI 0] []) t) => q438 t (by
                            show Go _ _ _ _ (mkF m 350 #[vI p1, vJ q2, vS, vJ q3, vS, vI r_22, vI r_25, vI r_28, vI r_31, vI r_34, vI r_37, vI r7, vI (p1 &&& (7 : Int32)), vR b314, vI 6, vU] [(.int 101), (.int r_34)]) _
                            refine XS.icmpYes X421.here hx rfl (pc0 := 350) (pc' := 364) rfl (hb hby at_350) rfl (feq hc439).2 (by decide) (by decide) ?_
                            show Go _ _ _ _ (mkF m 364 _ []) _
                            refine XS.iconst X421.here hx rfl (hb hby at_364) ?_
                            show Go _ _ _ _ (mkF m 365 _ [(.int 0)]) _
                            refine XS.istore X421.here hx rfl (hb hby at_365) rfl (l' := #[vI p1, vJ q2, vS, vJ q3, vS, vI r_22, vI r_25, vI r_28, vI r_31, vI r_34, vI r_37, vI r7, vI (p1 &&& (7 : Int32)), vR b314, vI 6, vI 0]) rfl ?_
                            show Go _ _ _ _ (mkF m 367 #[vI p1, vJ q2, vS, vJ q3, vS, vI r_22, vI r_25, vI r_28, vI r_31, vI r_34, vI r_37, vI r7, vI (p1 &&& (7 : Int32)), vR b314, vI 6, vI 0] []) _
                            refine XS.goto X421.here hx rfl (pc0 := 367) (pc' := 373) rfl (hb hby at_367) (by decide) (by decide) ?_
                            exact kt)
                          exact ⟨T421, _, (0 : Int32), X421, rfl, N422, (by simp [own_sh, hc431, hc433, hc435, hc437, hc439]), q444⟩
                      · have q445 := fun t (kt : Go p e below T421 (mkF m 373 #[vI p1, vJ q2, vS, vJ q3, vS, vI r_22, vI r_25, vI r_28, vI r_31, vI r_34, vI r_37, vI r7, vI (p1 &&& (7 : Int32)), vR b314, vI 6, vI 0] []) t) => q436 t (by
                          show Go _ _ _ _ (mkF m 343 #[vI p1, vJ q2, vS, vJ q3, vS, vI r_22, vI r_25, vI r_28, vI r_31, vI r_34, vI r_37, vI r7, vI (p1 &&& (7 : Int32)), vR b314, vI 6, vU] [(.int 107), (.int r_31)]) _
                          refine XS.icmpYes X421.here hx rfl (pc0 := 343) (pc' := 364) rfl (hb hby at_343) rfl (feq hc437).2 (by decide) (by decide) ?_
                          show Go _ _ _ _ (mkF m 364 _ []) _
                          refine XS.iconst X421.here hx rfl (hb hby at_364) ?_
                          show Go _ _ _ _ (mkF m 365 _ [(.int 0)]) _
                          refine XS.istore X421.here hx rfl (hb hby at_365) rfl (l' := #[vI p1, vJ q2, vS, vJ q3, vS, vI r_22, vI r_25, vI r_28, vI r_31, vI r_34, vI r_37, vI r7, vI (p1 &&& (7 : Int32)), vR b314, vI 6, vI 0]) rfl ?_
                          show Go _ _ _ _ (mkF m 367 #[vI p1, vJ q2, vS, vJ q3, vS, vI r_22, vI r_25, vI r_28, vI r_31, vI r_34, vI r_37, vI r7, vI (p1 &&& (7 : Int32)), vR b314, vI 6, vI 0] []) _
                          refine XS.goto X421.here hx rfl (pc0 := 367) (pc' := 373) rfl (hb hby at_367) (by decide) (by decide) ?_
                          exact kt)
                        exact ⟨T421, _, (0 : Int32), X421, rfl, N422, (by simp [own_sh, hc431, hc433, hc435, hc437]), q445⟩
                    · have q446 := fun t (kt : Go p e below T421 (mkF m 373 #[vI p1, vJ q2, vS, vJ q3, vS, vI r_22, vI r_25, vI r_28, vI r_31, vI r_34, vI r_37, vI r7, vI (p1 &&& (7 : Int32)), vR b314, vI 6, vI 0] []) t) => q434 t (by
                        show Go _ _ _ _ (mkF m 336 #[vI p1, vJ q2, vS, vJ q3, vS, vI r_22, vI r_25, vI r_28, vI r_31, vI r_34, vI r_37, vI r7, vI (p1 &&& (7 : Int32)), vR b314, vI 6, vU] [(.int 97), (.int r_28)]) _
                        refine XS.icmpYes X421.here hx rfl (pc0 := 336) (pc' := 364) rfl (hb hby at_336) rfl (feq hc435).2 (by decide) (by decide) ?_
                        show Go _ _ _ _ (mkF m 364 _ []) _
                        refine XS.iconst X421.here hx rfl (hb hby at_364) ?_
                        show Go _ _ _ _ (mkF m 365 _ [(.int 0)]) _
                        refine XS.istore X421.here hx rfl (hb hby at_365) rfl (l' := #[vI p1, vJ q2, vS, vJ q3, vS, vI r_22, vI r_25, vI r_28, vI r_31, vI r_34, vI r_37, vI r7, vI (p1 &&& (7 : Int32)), vR b314, vI 6, vI 0]) rfl ?_
                        show Go _ _ _ _ (mkF m 367 #[vI p1, vJ q2, vS, vJ q3, vS, vI r_22, vI r_25, vI r_28, vI r_31, vI r_34, vI r_37, vI r7, vI (p1 &&& (7 : Int32)), vR b314, vI 6, vI 0] []) _
                        refine XS.goto X421.here hx rfl (pc0 := 367) (pc' := 373) rfl (hb hby at_367) (by decide) (by decide) ?_
                        exact kt)
                      exact ⟨T421, _, (0 : Int32), X421, rfl, N422, (by simp [own_sh, hc431, hc433, hc435]), q446⟩
                  · have q447 := fun t (kt : Go p e below T421 (mkF m 373 #[vI p1, vJ q2, vS, vJ q3, vS, vI r_22, vI r_25, vI r_28, vI r_31, vI r_34, vI r_37, vI r7, vI (p1 &&& (7 : Int32)), vR b314, vI 6, vI 0] []) t) => q432 t (by
                      show Go _ _ _ _ (mkF m 329 #[vI p1, vJ q2, vS, vJ q3, vS, vI r_22, vI r_25, vI r_28, vI r_31, vI r_34, vI r_37, vI r7, vI (p1 &&& (7 : Int32)), vR b314, vI 6, vU] [(.int 104), (.int r_25)]) _
                      refine XS.icmpYes X421.here hx rfl (pc0 := 329) (pc' := 364) rfl (hb hby at_329) rfl (feq hc433).2 (by decide) (by decide) ?_
                      show Go _ _ _ _ (mkF m 364 _ []) _
                      refine XS.iconst X421.here hx rfl (hb hby at_364) ?_
                      show Go _ _ _ _ (mkF m 365 _ [(.int 0)]) _
                      refine XS.istore X421.here hx rfl (hb hby at_365) rfl (l' := #[vI p1, vJ q2, vS, vJ q3, vS, vI r_22, vI r_25, vI r_28, vI r_31, vI r_34, vI r_37, vI r7, vI (p1 &&& (7 : Int32)), vR b314, vI 6, vI 0]) rfl ?_
                      show Go _ _ _ _ (mkF m 367 #[vI p1, vJ q2, vS, vJ q3, vS, vI r_22, vI r_25, vI r_28, vI r_31, vI r_34, vI r_37, vI r7, vI (p1 &&& (7 : Int32)), vR b314, vI 6, vI 0] []) _
                      refine XS.goto X421.here hx rfl (pc0 := 367) (pc' := 373) rfl (hb hby at_367) (by decide) (by decide) ?_
                      exact kt)
                    exact ⟨T421, _, (0 : Int32), X421, rfl, N422, (by simp [own_sh, hc431, hc433]), q447⟩
                · have q448 := fun t (kt : Go p e below T421 (mkF m 373 #[vI p1, vJ q2, vS, vJ q3, vS, vI r_22, vI r_25, vI r_28, vI r_31, vI r_34, vI r_37, vI r7, vI (p1 &&& (7 : Int32)), vR b314, vI 6, vI 0] []) t) => q430 t (by
                    show Go _ _ _ _ (mkF m 322 #[vI p1, vJ q2, vS, vJ q3, vS, vI r_22, vI r_25, vI r_28, vI r_31, vI r_34, vI r_37, vI r7, vI (p1 &&& (7 : Int32)), vR b314, vI 6, vU] [(.int 115), (.int r_22)]) _
                    refine XS.icmpYes X421.here hx rfl (pc0 := 322) (pc' := 364) rfl (hb hby at_322) rfl (feq hc431).2 (by decide) (by decide) ?_
                    show Go _ _ _ _ (mkF m 364 _ []) _
                    refine XS.iconst X421.here hx rfl (hb hby at_364) ?_
                    show Go _ _ _ _ (mkF m 365 _ [(.int 0)]) _
                    refine XS.istore X421.here hx rfl (hb hby at_365) rfl (l' := #[vI p1, vJ q2, vS, vJ q3, vS, vI r_22, vI r_25, vI r_28, vI r_31, vI r_34, vI r_37, vI r7, vI (p1 &&& (7 : Int32)), vR b314, vI 6, vI 0]) rfl ?_
                    show Go _ _ _ _ (mkF m 367 #[vI p1, vJ q2, vS, vJ q3, vS, vI r_22, vI r_25, vI r_28, vI r_31, vI r_34, vI r_37, vI r7, vI (p1 &&& (7 : Int32)), vR b314, vI 6, vI 0] []) _
                    refine XS.goto X421.here hx rfl (pc0 := 367) (pc' := 373) rfl (hb hby at_367) (by decide) (by decide) ?_
                    exact kt)
                  exact ⟨T421, _, (0 : Int32), X421, rfl, N422, (by simp [own_sh, hc431]), q448⟩
              have q449 := fun t (kt : Go p e below T429 (mkF m 375 #[vI p1, vJ q2, vS, vJ q3, vS, vI r_22, vI r_25, vI r_28, vI r_31, vI r_34, vI r_37, vI r7, vI (p1 &&& (7 : Int32)), vR b314, vI 6, vI v15] [(.ref b314)]) t) => q429 t (by
                show Go _ _ _ _ (mkF m 373 #[vI p1, vJ q2, vS, vJ q3, vS, vI r_22, vI r_25, vI r_28, vI r_31, vI r_34, vI r_37, vI r7, vI (p1 &&& (7 : Int32)), vR b314, vI 6, vI v15] []) _
                refine XS.aload X429.here hx rfl (hb hby at_373) rfl rfl ?_
                exact kt)
              obtain ⟨_, _, ⟨T450, L450, k450, n450⟩, -, X450, hSn450, hgn450, ⟨_, hQ450, l450, y450, z450, cR450⟩, st450⟩ := callSS X429 hx (y := ym17) hown (ow hZ hw 4 rfl) (ow hZ hw 5 rfl) (ow hZ hw 6 rfl) (ow hZ hw 7 rfl) (by decide) (backOfSH (EL := own_EL) (vm0 := s.vm) (W := 0) (rm2s l Z a0 hw [] cx b314 t421 [r_22, r_25, r_28, r_31, r_34, r_37] T421.heap n0 O424 Sr421) hZ (ov hw 7 rfl) (ov hw 6 rfl) (by decide) (by decide) hEW R425.1) (g := (mkF m 375 #[vI p1, vJ q2, vS, vJ q3, vS, vI r_22, vI r_25, vI r_28, vI r_31, vI r_34, vI r_37, vI r7, vI (p1 &&& (7 : Int32)), vR b314, vI 6, vI v15] [(.ref b314)])) rfl (by rw [hml]; rfl) (argsL := [(.ref b314)]) (rest := []) (lenOf pd_13 rfl) rfl own_le0 (hb hby at_375) (fun _ _ => ⟨rfl, e429, (by decide : 3 + 2 ≤ _), (by decide : 16 + 28 ≤ _)⟩)
              dsimp only [Pt.U, Pt.locs, Pt.cells, Pt.slots] at X450 l450 y450 z450 st450 hQ450 hSn450 hgn450 cR450
              subst l450 y450 z450
              have hS450 := foldS (vm0 := s.vm) hS0 (by rw [e429]; exact hk427) hSn450 hgn450
              have hZ : Z.Warmed39 (s.setVm T450.vm).vm := State.Warmed39.trans (t := s.setVm s.vm) hZ hSn450.1
              have hown : (s.setVm T450.vm).vm.findClass sk0 = some m.cls := by
                show T450.vm.findClass _ = _
                rw [hSn450.1.alike.findClass]; exact hown
              have X450 : Stand p l e room_1 (s.setVm T450.vm) m #[(.int p1), (.long q2), (.long q3)] below meth c T450 _ _ _ := X450
              have hkk450 : T450.heap.size ≤ T450.heap.size := Nat.le_refl _
              obtain ⟨rfl, Nq450, Kq450⟩ := hQ450
              have N451 := Fr.app N429 Nq450
              have O452 := O424.keep Kq450 all0
              have sf454 : Safe Z own_EL T450.vm T450.heap b314 := CHr.safe cR450 Ex421.lt sf426
              have R453 : CHr Z own_EL s.vm h0 T450.vm T450.heap := R425.trans cR450
              have q455 := fun t (kt : Go p e below T450 (mkF m 388 #[vI p1, vJ q2, vS, vJ q3, vS, vI r_22, vI r_25, vI r_28, vI r_31, vI r_34, vI r_37, vI r7, vI (p1 &&& (7 : Int32)), vR b314, vI 6, vI v15] [(.int 1)]) t) => q449 t (st450.trans (by
                show Go _ _ _ _ (mkF m 378 #[vI p1, vJ q2, vS, vJ q3, vS, vI r_22, vI r_25, vI r_28, vI r_31, vI r_34, vI r_37, vI r7, vI (p1 &&& (7 : Int32)), vR b314, vI 6, vI v15] [(.int (own_sh [r_22, r_25, r_28, r_31, r_34, r_37]))]) _
                refine XS.iload X450.here hx rfl (hb hby at_378) rfl ?_
                show Go _ _ _ _ (mkF m 380 _ [(.int v15), (.int (own_sh [r_22, r_25, r_28, r_31, r_34, r_37]))]) _
                refine XS.icmpNo X450.here hx rfl (hb hby at_380) rfl (teq mp429_0.symm).2 ?_
                show Go _ _ _ _ (mkF m 383 _ []) _
                refine XS.iconst X450.here hx rfl (hb hby at_383) ?_
                show Go _ _ _ _ (mkF m 384 _ [(.int 1)]) _
                refine XS.goto X450.here hx rfl (pc0 := 384) (pc' := 388) rfl (hb hby at_384) (by decide) (by decide) ?_
                exact kt))
              obtain ⟨fs, hr, hrun, hended, hRE⟩ := X450.leaveW hS450 hkk450 (v := some (.int 1)) (fun h => by rw [Bd.returns] at h; cases h)
              refine ⟨_, _, q455 _ ?_, hrun, hended, _, _, rfl, ?_, ?_, hRE.1, hRE.2.1, hRE.2.2.1, hRE.2.2.2.mono (by decide) (by decide)⟩
              · show Go p e below T450 (mkF m 388 #[vI p1, vJ q2, vS, vJ q3, vS, vI r_22, vI r_25, vI r_28, vI r_31, vI r_34, vI r_37, vI r7, vI (p1 &&& (7 : Int32)), vR b314, vI 6, vI v15] [(.int 1)]) _
                exact retN X450 hx (t := .boolean) Bd.returns (by simp) (hb hby at_388) hr
              · show Q_rm0 Z p1 q2 q3 z_cs h0 n0 _ T450.heap _
                exact ⟨rfl, N451⟩
              · show CHr Z own_EL s.vm s.heap T450.vm T450.heap
                rw [hh]
                exact R453.trans (CHv.at X450 hZ hEW R453.1)
theorem comes_1 {Post : Tables → Env → Array Value → State → Outcome → State → Prop} (hpost : ∀ tb e args s v u, (limb_1_1.after args s (.returned v) u = true ∧ limb_1_2.after args s (.returned v) u = true ∧ True) → ReturnedEndW s (.returned v) u (Jvm.fieldLocs frame_1_writes args s ++ Jvm.arrayLocs frame_1_arrays args s ++ Jvm.staticLocs frame_1_statics s) 24 2240 → Post tb e args s (.returned v) u) :
    ArmFor flags0 classFile x code maxLocals ret World_1 tables_1 room_1 Calls_1 rest_1 Pre_1 Post := by
  intro l hfl _ _ p e ha hc hk s m args below hf hA hF happ hP
  obtain ⟨hcalls, hrest, hpre⟩ := hP
  obtain ⟨-, -, -, hnamed, -, -, -, hat⟩ := (Spec.applies_iff hf).mp happ
  obtain ⟨hg, hn⟩ := and_e (Cond.before_iff.mp (show (Jvm.Cond.and given_1 narrow_1).before args s = true from hpre))
  obtain ⟨gg1, gg2⟩ := and_e hg
  obtain ⟨gg3, gg4⟩ := and_e gg2
  obtain ⟨gg5, gg6⟩ := and_e gg4
  obtain ⟨w0, w1, w2, rfl⟩ : ∃ w0 w1 w2 : Value, args = #[w0, w1, w2] := by
    have hs : args.size = 3 := by simpa [Cond.value, given_1] using gg1
    obtain ⟨L⟩ := args
    match L, hs with
    | [w0, w1, w2], _ => exact ⟨w0, w1, w2, rfl⟩
  have hw := fun d (hd : d ∈ tables_1) => atoms_spec (ws := Jvm.Cond.code x code maxLocals ret :: tables_1) hat d (List.mem_cons_of_mem _ hd)
  have hfit : Fit s := fun {y c} hc i hi => by
    obtain ⟨ha, rfl⟩ := Array.getElem?_eq_some_iff.mp hc
    have q := List.all_eq_true.mp ((Array.all_eq_true_iff_forall_mem.mp hF) _ (Array.getElem_mem ha)) i (List.mem_range.mpr hi)
    simpa [Array.getElem?_eq_getElem hi] using q
  obtain ⟨hsets, hown0⟩ := atoms_of _ (rest_1_c_eq ▸ (show rest_1_c.before _ s = true from hrest))
  have hr0 := Cond.before_iff.mp hown0
  obtain ⟨i0, ei0⟩ := is_v gg3
  obtain rfl : w0 = (.int i0) := Option.some.inj ei0
  obtain ⟨i1, ei1⟩ := isL_v gg5
  obtain rfl : w1 = (.long i1) := Option.some.inj ei1
  obtain ⟨i2, ei2⟩ := isL_v gg6
  obtain rfl : w2 = (.long i2) := Option.some.inj ei2
  have nz_cs := not_v (Cond.before_iff.mp (hsets _ (List.mem_of_getElem? (i := 2) rfl)))
  obtain ⟨z_cs, ev_cs⟩ := is_v (Cond.before_iff.mp (hsets _ (List.mem_of_getElem? (i := 1) rfl)))
  have cx : Cx s z_cs := ⟨(Sta.start ev_cs (Or.inl (hsets _ (List.mem_of_getElem? (i := 0) rfl)))), (gotF (Cond.eq_ints ev_cs (Term.int_eval (0))) nz_cs), (Sta.start (own_eqI (Cond.before_iff.mp (hsets _ (List.mem_of_getElem? (i := 12) rfl)))) (Or.inl (hsets _ (List.mem_of_getElem? (i := 11) rfl)))), (Sta.start (own_eqI (Cond.before_iff.mp (hsets _ (List.mem_of_getElem? (i := 15) rfl)))) (Or.inl (hsets _ (List.mem_of_getElem? (i := 14) rfl)))), (Sta.start (own_eqI (Cond.before_iff.mp (hsets _ (List.mem_of_getElem? (i := 18) rfl)))) (Or.inl (hsets _ (List.mem_of_getElem? (i := 17) rfl))))⟩
  have hCH0 : CHv s own_EL s.vm s.heap := CHv.start (own_EW hw) hcalls.1 (hsets _ (List.mem_of_getElem? (i := 2) rfl)) (own_w hw 27 rfl) (own_w hw 9 rfl)
  obtain ⟨n, o, h1, h2, h3, _, L, rfl, ⟨rfl, N⟩, hCHr, hq⟩ := rm0 l s _ hw tables_1 cx i0 i1 i2 s.heap s.heap.size (Old.start s)  p e ha hc hk s m _ below hf ((Spec.applies_iff_loose hf).mp happ).1 ⟨rfl, State.Warmed39.refl s, rfl, hCH0⟩ trivial
  refine ⟨n, _, h1, h2, h3, hpost _ _ _ _ _ _ ⟨Cond.after_iff.mpr rfl, Cond.after_iff.mpr (eq_i res_at (Term.int_eval (1)) rfl), trivial⟩ ⟨hq.1, hq.2.1, hq.2.2.1, (hq.2.2.2.sift fun y hy => Or.inr (N y hy)).mono (by decide) (by decide)⟩⟩
theorem main_1_1 : Claimed_1_1 := comes_1 fun _ _ _ _ _ _ h hF => ⟨h.1, hF⟩
theorem main_1_2 : Claimed_1_2 := comes_1 fun _ _ _ _ _ _ h hF => ⟨h.2.1, hF⟩
end Jvm.Pilot.@@N@@
namespace Jvm.Pilot.@@N@@
open Jvm Jvm.ClassFile Sem Op Lib Jvm.Free Jvm.Stand Jvm.Pilot.@@N@@.Jvm.D
/-! MADE BY PROGRAM (witnessworld.py) out of the Statement's table words and the real class files: 20 classes; the members and pool entries that the words name. The judged class is class 1, her method 2. -/
namespace start1
open Jvm.ClassFile
def u (s : String) : CpInfo := .utf8 (stringToUtf16 s)
/-- a pool by its gaps: so many unusable entries, then the entry; so many at the end -/
def gap : Nat → List CpInfo → List CpInfo
  | 0, r => r
  | n + 1, r => .unusable :: gap n r
def poolList (es : List (Nat × CpInfo)) (last : Nat) : List CpInfo := es.foldr (fun e r => gap e.1 (e.2 :: r)) (gap last [])
def pool (es : List (Nat × CpInfo)) (last : Nat) : Array CpInfo := ⟨poolList es last⟩
def fileOf (pool : Array CpInfo) (this : Nat) (attrs : Array Attribute := #[]) (ms : Array MethodInfo := #[]) (fl : Nat := 33) (sup : Nat := 0) (ifs : Array Nat := #[]) (fds : Array FieldInfo := #[]) : ClassFile where
  minorVersion := 0
  majorVersion := 65
  constantPool := pool
  accessFlags := fl
  thisClass := this
  superClass := sup
  interfaces := ifs
  fields := fds
  methods := ms
  attributes := attrs
def plain (name : String) (sup : Option ClassId) : Class where
  name := name
  kind := .ordinary
  loader := none
  accessFlags := 33
  super := sup
  interfaces := #[]
  cf := none
  fields := #[]
  methods := #[]
  instanceTypes := #[]
  staticTypes := #[]
  resolved := #[]
  callSites := []
  init := .initialized
  statics := none
  mirror := none

def pool0 : Array CpInfo := pool [(5, u "<init>"), (0, u "()V"), (1, .class_ 10), (1, u "java/lang/Object")] 113

def k0c0 : Code := { maxStack := 0, maxLocals := 1, code := object_method_1_code, exceptionTable := #[], attributes := #[] }
def k0m0 : Method := { name := "<init>", desc := "()V", sig := { parameters := [], returnType := none }, accessFlags := 1, code := some k0c0 }
/-- java/lang/Object -/
def k0 : Class := { plain "java/lang/Object" none with
  accessFlags := 33
  interfaces := #[]
  cf := some (fileOf pool0 8 #[] #[{ accessFlags := 1, nameIndex := 5, descriptorIndex := 6, attributes := #[] }] 33 0 #[] #[])
  fields := #[]
  methods := #[k0m0]
  instanceTypes := #[]
  staticTypes := #[]
  resolved := Array.replicate 124 none
  statics := none }

def pool1 : Array CpInfo := pool [(2, .class_ 4), (1, u "java/lang/Object"), (0, u "<init>"), (0, u "()V"), (0, .methodref 8 9), (0, .class_ 10), (0, .nameAndType 11 12), (0, u "com/example/vouchsafe/passport/PassportHeaderSupportsPinLawPinLaw"), (0, u "pick"), (0, u "(IICJI)C"), (0, .class_ 14), (0, u "java/lang/String"), (0, .methodref 13 16), (0, .nameAndType 5 17), (0, u "([C)V"), (0, .methodref 13 19), (0, .nameAndType 20 21), (0, u "valueOf"), (0, u "(C)Ljava/lang/String;"), (0, .methodref 23 24), (0, .class_ 25), (0, .nameAndType 26 27), (0, u "com/example/vouchsafe/passport/PassportHeader"), (0, u "supports"), (0, u "(Ljava/lang/String;)Z"), (3, u "law"), (0, u "(IJJ)Z")] 2

def k1m0 : Method := { name := "<init>", desc := "()V", sig := { parameters := [], returnType := none }, accessFlags := 1, code := none }
def k1c1 : Code := { maxStack := 3, maxLocals := 6, code := method_2_code, exceptionTable := #[], attributes := #[] }
def k1m1 : Method := { name := "pick", desc := "(IICJI)C", sig := { parameters := [.int, .int, .char, .long, .int], returnType := some .char }, accessFlags := 10, code := some k1c1 }
def k1c2 : Code := { maxStack := 6, maxLocals := 16, code := code, exceptionTable := #[], attributes := #[] }
def k1m2 : Method := { name := "law", desc := "(IJJ)Z", sig := { parameters := [.int, .long, .long], returnType := some .boolean }, accessFlags := 9, code := some k1c2 }
/-- com/example/vouchsafe/passport/PassportHeaderSupportsPinLawPinLaw -/
def k1 : Class := { plain "com/example/vouchsafe/passport/PassportHeaderSupportsPinLawPinLaw" (some 0) with
  accessFlags := 49
  interfaces := #[]
  cf := some (fileOf pool1 8 #[] #[{ accessFlags := 1, nameIndex := 5, descriptorIndex := 6, attributes := #[] }, { accessFlags := 10, nameIndex := 11, descriptorIndex := 12, attributes := #[] }, { accessFlags := 9, nameIndex := 31, descriptorIndex := 32, attributes := #[] }] 49 2 #[] #[])
  fields := #[]
  methods := #[k1m0, k1m1, k1m2]
  instanceTypes := #[]
  staticTypes := #[]
  resolved := Array.replicate 35 none
  statics := none }

def pool2 : Array CpInfo := pool [(2, .class_ 4), (1, u "java/lang/Object"), (0, u "<init>"), (0, u "()V"), (2, .string 10), (0, u "shaken"), (0, .methodref 12 13), (0, .class_ 14), (0, .nameAndType 15 16), (0, u "java/lang/String"), (0, u "equals"), (0, u "(Ljava/lang/Object;)Z"), (3, .class_ 21), (0, u "com/example/vouchsafe/passport/PassportHeader"), (48, u "TYPE"), (0, u "Ljava/lang/String;"), (1, u "ALG"), (0, u "TYP"), (0, u "PPT"), (0, u "X5U"), (2, u "supports"), (0, u "(Ljava/lang/String;)Z")] 29

def k2m0 : Method := { name := "<init>", desc := "()V", sig := { parameters := [], returnType := none }, accessFlags := 2, code := none }
def k2c1 : Code := { maxStack := 2, maxLocals := 1, code := prog_34_method_2_code, exceptionTable := #[], attributes := #[] }
def k2m1 : Method := { name := "supports", desc := "(Ljava/lang/String;)Z", sig := { parameters := [(.object "java/lang/String")], returnType := some .boolean }, accessFlags := 9, code := some k2c1 }
/-- com/example/vouchsafe/passport/PassportHeader -/
def k2 : Class := { plain "com/example/vouchsafe/passport/PassportHeader" (some 0) with
  accessFlags := 49
  interfaces := #[]
  cf := some (fileOf pool2 20 #[] #[{ accessFlags := 2, nameIndex := 5, descriptorIndex := 6, attributes := #[] }, { accessFlags := 9, nameIndex := 79, descriptorIndex := 80, attributes := #[] }] 49 2 #[] #[{ accessFlags := 26, nameIndex := 70, descriptorIndex := 71, attributes := #[] }, { accessFlags := 26, nameIndex := 73, descriptorIndex := 71, attributes := #[] }, { accessFlags := 26, nameIndex := 74, descriptorIndex := 71, attributes := #[] }, { accessFlags := 26, nameIndex := 75, descriptorIndex := 71, attributes := #[] }, { accessFlags := 26, nameIndex := 76, descriptorIndex := 71, attributes := #[] }])
  fields := #[{ name := "TYPE", type := (.object "java/lang/String"), accessFlags := 26, slot := 0, constantValue := 0 }, { name := "ALG", type := (.object "java/lang/String"), accessFlags := 26, slot := 1, constantValue := 0 }, { name := "TYP", type := (.object "java/lang/String"), accessFlags := 26, slot := 2, constantValue := 0 }, { name := "PPT", type := (.object "java/lang/String"), accessFlags := 26, slot := 3, constantValue := 0 }, { name := "X5U", type := (.object "java/lang/String"), accessFlags := 26, slot := 4, constantValue := 0 }]
  methods := #[k2m0, k2m1]
  instanceTypes := #[]
  staticTypes := #[(.object "java/lang/String"), (.object "java/lang/String"), (.object "java/lang/String"), (.object "java/lang/String"), (.object "java/lang/String")]
  resolved := Array.replicate 110 none
  statics := none }

def pool3 : Array CpInfo := pool [(1, .class_ 2), (0, u "java/io/Serializable"), (0, .class_ 4), (0, u "java/lang/Object")] 2

/-- java/io/Serializable -/
def k3 : Class := { plain "java/io/Serializable" (some 0) with
  accessFlags := 1537
  interfaces := #[]
  cf := some (fileOf pool3 1 #[] #[] 1537 3 #[] #[])
  fields := #[]
  methods := #[]
  instanceTypes := #[]
  staticTypes := #[]
  resolved := Array.replicate 7 none
  statics := none }

def pool4 : Array CpInfo := pool [(1, .class_ 2), (0, u "java/lang/Comparable"), (0, .class_ 4), (0, u "java/lang/Object")] 7

/-- java/lang/Comparable -/
def k4 : Class := { plain "java/lang/Comparable" (some 0) with
  accessFlags := 1537
  interfaces := #[]
  cf := some (fileOf pool4 1 #[] #[] 1537 3 #[] #[])
  fields := #[]
  methods := #[]
  instanceTypes := #[]
  staticTypes := #[]
  resolved := Array.replicate 12 none
  statics := none }

def pool5 : Array CpInfo := pool [(2, .class_ 4), (1, u "java/lang/CharSequence"), (42, .class_ 48), (0, u "java/lang/CharSequence$1CodePointIterator"), (10, .class_ 60), (0, u "java/lang/CharSequence$1CharIterator"), (5, .class_ 67), (0, u "java/lang/Object")] 63

/-- java/lang/CharSequence -/
def k5 : Class := { plain "java/lang/CharSequence" (some 0) with
  accessFlags := 1537
  interfaces := #[]
  cf := some (fileOf pool5 2 #[.nestMembers #[47, 59]] #[] 1537 66 #[] #[])
  fields := #[]
  methods := #[]
  instanceTypes := #[]
  staticTypes := #[]
  resolved := Array.replicate 131 none
  statics := none }

def pool6 : Array CpInfo := pool [(1, .class_ 2), (0, u "java/lang/constant/Constable"), (0, .class_ 4), (0, u "java/lang/Object")] 6

/-- java/lang/constant/Constable -/
def k6 : Class := { plain "java/lang/constant/Constable" (some 0) with
  accessFlags := 1537
  interfaces := #[]
  cf := some (fileOf pool6 1 #[] #[] 1537 3 #[] #[])
  fields := #[]
  methods := #[]
  instanceTypes := #[]
  staticTypes := #[]
  resolved := Array.replicate 11 none
  statics := none }

def pool7 : Array CpInfo := pool [(1, .class_ 2), (0, u "java/lang/constant/ConstantDesc"), (0, .class_ 4), (0, u "java/lang/Object")] 32

/-- java/lang/constant/ConstantDesc -/
def k7 : Class := { plain "java/lang/constant/ConstantDesc" (some 0) with
  accessFlags := 1537
  interfaces := #[]
  cf := some (fileOf pool7 1 #[] #[] 1537 3 #[] #[])
  fields := #[]
  methods := #[]
  instanceTypes := #[]
  staticTypes := #[]
  resolved := Array.replicate 37 none
  statics := none }

def pool8 : Array CpInfo := pool [(1, .methodref 2 3), (0, .class_ 4), (0, .nameAndType 5 6), (0, u "java/lang/Object"), (0, u "<init>"), (0, u "()V"), (0, .string 8), (0, u ""), (0, .fieldref 10 11), (0, .class_ 12), (0, .nameAndType 13 14), (0, u "java/lang/String"), (0, u "value"), (0, u "[B"), (0, .fieldref 10 16), (0, .nameAndType 17 18), (0, u "coder"), (0, u "B"), (2, u "hash"), (0, u "I"), (2, u "hashIsZero"), (0, u "Z"), (0, .methodref 10 28), (0, .nameAndType 5 29), (0, u "([CIILjava/lang/Void;)V"), (8, .fieldref 10 39), (0, .nameAndType 40 26), (0, u "COMPACT_STRINGS"), (1, .class_ 44), (1, u "java/lang/StringUTF16"), (0, u "compress"), (1, .methodref 42 48), (0, .nameAndType 49 50), (0, u "coderFromArrayLen"), (0, u "([BI)B"), (2, u "toBytes"), (53, .class_ 109), (1, u "java/lang/StringLatin1"), (67, .methodref 42 178), (0, .nameAndType 45 179), (0, u "([CII)[B"), (29, .methodref 10 210), (0, .nameAndType 5 211), (0, u "([BB)V"), (157, u "(C)Z"), (171, .methodref 107 542), (0, .nameAndType 543 544), (0, u "equals"), (0, u "([B[B)Z"), (28, u "(Ljava/lang/Object;)Z"), (1, .class_ 576), (0, u "java/lang/CharSequence"), (22, u "CASE_INSENSITIVE_ORDER"), (0, u "Ljava/util/Comparator;"), (181, u "valueOf"), (0, u "(C)Ljava/lang/String;"), (226, u "([C)V"), (4, .methodref 107 1016), (0, .nameAndType 1017 369), (0, u "canEncode"), (0, .methodref 107 1019), (0, .nameAndType 53 1020), (0, u "(C)[B"), (0, .methodref 42 1019), (79, u "serialPersistentFields"), (0, u "[Ljava/io/ObjectStreamField;"), (0, .class_ 1104), (0, u "java/lang/String$CaseInsensitiveComparator"), (1, .class_ 1107), (0, u "java/io/Serializable"), (0, .class_ 1109), (0, u "java/lang/Comparable"), (0, .class_ 1111), (0, u "java/lang/constant/Constable"), (0, .class_ 1113), (0, u "java/lang/constant/ConstantDesc"), (2, u "serialVersionUID"), (0, u "J"), (3, u "REPL"), (0, u "C"), (2, u "LATIN1"), (1, u "UTF16")] 323

def k8m0 : Method := { name := "<init>", desc := "()V", sig := { parameters := [], returnType := none }, accessFlags := 1, code := none }
def k8c1 : Code := { maxStack := 5, maxLocals := 2, code := jdk_42_method_3_code, exceptionTable := #[], attributes := #[] }
def k8m1 : Method := { name := "<init>", desc := "([C)V", sig := { parameters := [(.array .char)], returnType := none }, accessFlags := 1, code := some k8c1 }
def k8c2 : Code := { maxStack := 2, maxLocals := 3, code := jdk_42_method_66_code, exceptionTable := #[], attributes := #[] }
def k8m2 : Method := { name := "equals", desc := "(Ljava/lang/Object;)Z", sig := { parameters := [(.object "java/lang/Object")], returnType := some .boolean }, accessFlags := 1, code := some k8c2 }
def k8c3 : Code := { maxStack := 4, maxLocals := 1, code := jdk_42_method_139_code, exceptionTable := #[], attributes := #[] }
def k8m3 : Method := { name := "valueOf", desc := "(C)Ljava/lang/String;", sig := { parameters := [.char], returnType := some (.object "java/lang/String") }, accessFlags := 9, code := some k8c3 }
def k8c4 : Code := { maxStack := 4, maxLocals := 6, code := jdk_42_method_149_code, exceptionTable := #[], attributes := #[] }
def k8m4 : Method := { name := "<init>", desc := "([CIILjava/lang/Void;)V", sig := { parameters := [(.array .char), .int, .int, (.object "java/lang/Void")], returnType := none }, accessFlags := 2, code := some k8c4 }
def k8c5 : Code := { maxStack := 2, maxLocals := 3, code := jdk_42_method_151_code, exceptionTable := #[], attributes := #[] }
def k8m5 : Method := { name := "<init>", desc := "([BB)V", sig := { parameters := [(.array .byte), .byte], returnType := none }, accessFlags := 0, code := some k8c5 }
/-- java/lang/String -/
def k8 : Class := { plain "java/lang/String" (some 0) with
  accessFlags := 49
  interfaces := #[3, 4, 5, 6, 7]
  cf := some (fileOf pool8 10 #[.nestMembers #[1103]] #[{ accessFlags := 1, nameIndex := 5, descriptorIndex := 6, attributes := #[] }, { accessFlags := 1, nameIndex := 5, descriptorIndex := 1010, attributes := #[] }, { accessFlags := 1, nameIndex := 543, descriptorIndex := 573, attributes := #[] }, { accessFlags := 9, nameIndex := 782, descriptorIndex := 783, attributes := #[] }, { accessFlags := 2, nameIndex := 5, descriptorIndex := 29, attributes := #[] }, { accessFlags := 0, nameIndex := 5, descriptorIndex := 211, attributes := #[] }] 49 2 #[1106, 1108, 575, 1110, 1112] #[{ accessFlags := 18, nameIndex := 13, descriptorIndex := 14, attributes := #[] }, { accessFlags := 18, nameIndex := 17, descriptorIndex := 18, attributes := #[] }, { accessFlags := 2, nameIndex := 21, descriptorIndex := 22, attributes := #[] }, { accessFlags := 2, nameIndex := 25, descriptorIndex := 26, attributes := #[] }, { accessFlags := 26, nameIndex := 1116, descriptorIndex := 1117, attributes := #[] }, { accessFlags := 24, nameIndex := 40, descriptorIndex := 26, attributes := #[] }, { accessFlags := 26, nameIndex := 1101, descriptorIndex := 1102, attributes := #[] }, { accessFlags := 26, nameIndex := 1121, descriptorIndex := 1122, attributes := #[] }, { accessFlags := 25, nameIndex := 599, descriptorIndex := 600, attributes := #[] }, { accessFlags := 24, nameIndex := 1125, descriptorIndex := 18, attributes := #[] }, { accessFlags := 24, nameIndex := 1127, descriptorIndex := 18, attributes := #[] }])
  fields := #[{ name := "value", type := (.array .byte), accessFlags := 18, slot := 0, constantValue := 0 }, { name := "coder", type := .byte, accessFlags := 18, slot := 1, constantValue := 0 }, { name := "hash", type := .int, accessFlags := 2, slot := 2, constantValue := 0 }, { name := "hashIsZero", type := .boolean, accessFlags := 2, slot := 3, constantValue := 0 }, { name := "serialVersionUID", type := .long, accessFlags := 26, slot := 0, constantValue := 0 }, { name := "COMPACT_STRINGS", type := .boolean, accessFlags := 24, slot := 1, constantValue := 0 }, { name := "serialPersistentFields", type := (.array (.object "java/io/ObjectStreamField")), accessFlags := 26, slot := 2, constantValue := 0 }, { name := "REPL", type := .char, accessFlags := 26, slot := 3, constantValue := 0 }, { name := "CASE_INSENSITIVE_ORDER", type := (.object "java/util/Comparator"), accessFlags := 25, slot := 4, constantValue := 0 }, { name := "LATIN1", type := .byte, accessFlags := 24, slot := 5, constantValue := 0 }, { name := "UTF16", type := .byte, accessFlags := 24, slot := 6, constantValue := 0 }]
  methods := #[k8m0, k8m1, k8m2, k8m3, k8m4, k8m5]
  instanceTypes := #[(.array .byte), .byte, .int, .boolean]
  staticTypes := #[.long, .boolean, (.array (.object "java/io/ObjectStreamField")), .char, (.object "java/util/Comparator"), .byte, .byte]
  resolved := Array.replicate 1451 none
  statics := some 0 }

def pool9 : Array CpInfo := pool [(6, .class_ 8), (1, u "java/lang/Object"), (0, u "<init>"), (0, u "()V"), (0, .methodref 12 13), (0, .class_ 14), (0, .nameAndType 15 16), (0, u "java/lang/StringUTF16"), (0, u "newBytesLength"), (0, u "(I)I"), (3, .integer 1073741823), (23, .fieldref 12 45), (0, .nameAndType 46 47), (0, u "$assertionsDisabled"), (0, u "Z"), (11, .fieldref 12 60), (0, .nameAndType 61 62), (0, u "HI_BYTE_SHIFT"), (0, u "I"), (0, .fieldref 12 64), (0, .nameAndType 65 62), (0, u "LO_BYTE_SHIFT"), (5, .methodref 12 72), (0, .nameAndType 73 74), (0, u "getChar"), (0, u "([BI)C"), (32, .methodref 12 108), (0, .nameAndType 109 110), (0, u "newBytesFor"), (0, u "(I)[B"), (0, .methodref 12 112), (0, .nameAndType 113 114), (0, u "putChar"), (0, u "([BII)V"), (0, .methodref 12 116), (0, .nameAndType 117 118), (0, u "compress"), (0, u "([CI[BII)I"), (0, .methodref 12 120), (0, .nameAndType 121 122), (0, u "toBytes"), (0, u "([CII)[B"), (138, u "coderFromArrayLen"), (0, u "([BI)B"), (106, .class_ 371), (1, u "java/lang/StringUTF16$LinesSpliterator"), (58, u "MAX_LENGTH"), (44, u "(C)[B"), (151, .class_ 628), (0, u "java/lang/StringUTF16$CodePointsSpliterator"), (0, .class_ 630), (0, u "java/lang/StringUTF16$CharsSpliterator")] 4

def k9m0 : Method := { name := "<init>", desc := "()V", sig := { parameters := [], returnType := none }, accessFlags := 0, code := none }
def k9c1 : Code := { maxStack := 1, maxLocals := 1, code := jdk_52_method_2_code, exceptionTable := #[], attributes := #[] }
def k9m1 : Method := { name := "newBytesFor", desc := "(I)[B", sig := { parameters := [.int], returnType := some (.array .byte) }, accessFlags := 9, code := some k9c1 }
def k9c2 : Code := { maxStack := 4, maxLocals := 1, code := jdk_52_method_3_code, exceptionTable := #[], attributes := #[] }
def k9m2 : Method := { name := "newBytesLength", desc := "(I)I", sig := { parameters := [.int], returnType := some .int }, accessFlags := 9, code := some k9c2 }
def k9c3 : Code := { maxStack := 4, maxLocals := 3, code := jdk_52_method_4_code, exceptionTable := #[], attributes := #[] }
def k9m3 : Method := { name := "putChar", desc := "([BII)V", sig := { parameters := [(.array .byte), .int, .int], returnType := none }, accessFlags := 8, code := some k9c3 }
def k9c4 : Code := { maxStack := 3, maxLocals := 2, code := jdk_52_method_5_code, exceptionTable := #[], attributes := #[] }
def k9m4 : Method := { name := "getChar", desc := "([BI)C", sig := { parameters := [(.array .byte), .int], returnType := some .char }, accessFlags := 8, code := some k9c4 }
def k9c5 : Code := { maxStack := 4, maxLocals := 5, code := jdk_52_method_14_code, exceptionTable := #[], attributes := #[] }
def k9m5 : Method := { name := "toBytes", desc := "([CII)[B", sig := { parameters := [(.array .char), .int, .int], returnType := some (.array .byte) }, accessFlags := 9, code := some k9c5 }
def k9c6 : Code := { maxStack := 2, maxLocals := 2, code := jdk_52_method_15_code, exceptionTable := #[], attributes := #[] }
def k9m6 : Method := { name := "coderFromArrayLen", desc := "([BI)B", sig := { parameters := [(.array .byte), .int], returnType := some .byte }, accessFlags := 8, code := some k9c6 }
def k9c7 : Code := { maxStack := 5, maxLocals := 6, code := jdk_52_method_16_code, exceptionTable := #[], attributes := #[] }
def k9m7 : Method := { name := "compress", desc := "([CII)[B", sig := { parameters := [(.array .char), .int, .int], returnType := some (.array .byte) }, accessFlags := 9, code := some k9c7 }
def k9c8 : Code := { maxStack := 3, maxLocals := 7, code := jdk_52_method_21_code, exceptionTable := #[], attributes := #[] }
def k9m8 : Method := { name := "compress", desc := "([CI[BII)I", sig := { parameters := [(.array .char), .int, (.array .byte), .int, .int], returnType := some .int }, accessFlags := 9, code := some k9c8 }
def k9c9 : Code := { maxStack := 3, maxLocals := 2, code := jdk_52_method_24_code, exceptionTable := #[], attributes := #[] }
def k9m9 : Method := { name := "toBytes", desc := "(C)[B", sig := { parameters := [.char], returnType := some (.array .byte) }, accessFlags := 9, code := some k9c9 }
/-- java/lang/StringUTF16 -/
def k9 : Class := { plain "java/lang/StringUTF16" (some 0) with
  accessFlags := 48
  interfaces := #[]
  cf := some (fileOf pool9 12 #[.nestMembers #[627, 629, 369]] #[{ accessFlags := 0, nameIndex := 9, descriptorIndex := 10, attributes := #[] }, { accessFlags := 9, nameIndex := 109, descriptorIndex := 110, attributes := #[] }, { accessFlags := 9, nameIndex := 15, descriptorIndex := 16, attributes := #[] }, { accessFlags := 8, nameIndex := 113, descriptorIndex := 114, attributes := #[] }, { accessFlags := 8, nameIndex := 73, descriptorIndex := 74, attributes := #[] }, { accessFlags := 9, nameIndex := 121, descriptorIndex := 122, attributes := #[] }, { accessFlags := 8, nameIndex := 261, descriptorIndex := 262, attributes := #[] }, { accessFlags := 9, nameIndex := 117, descriptorIndex := 122, attributes := #[] }, { accessFlags := 9, nameIndex := 117, descriptorIndex := 118, attributes := #[] }, { accessFlags := 9, nameIndex := 121, descriptorIndex := 475, attributes := #[] }] 48 6 #[] #[{ accessFlags := 26, nameIndex := 61, descriptorIndex := 62, attributes := #[] }, { accessFlags := 26, nameIndex := 65, descriptorIndex := 62, attributes := #[] }, { accessFlags := 24, nameIndex := 430, descriptorIndex := 62, attributes := #[] }, { accessFlags := 4120, nameIndex := 46, descriptorIndex := 47, attributes := #[] }])
  fields := #[{ name := "HI_BYTE_SHIFT", type := .int, accessFlags := 26, slot := 0, constantValue := 0 }, { name := "LO_BYTE_SHIFT", type := .int, accessFlags := 26, slot := 1, constantValue := 0 }, { name := "MAX_LENGTH", type := .int, accessFlags := 24, slot := 2, constantValue := 0 }, { name := "$assertionsDisabled", type := .boolean, accessFlags := 4120, slot := 3, constantValue := 0 }]
  methods := #[k9m0, k9m1, k9m2, k9m3, k9m4, k9m5, k9m6, k9m7, k9m8, k9m9]
  instanceTypes := #[]
  staticTypes := #[.int, .int, .int, .boolean]
  resolved := Array.replicate 635 none
  statics := some 1 }

def pool10 : Array CpInfo := pool [(4, .class_ 6), (1, u "java/lang/Object"), (0, u "<init>"), (0, u "()V"), (5, .class_ 16), (1, u "java/lang/StringLatin1"), (73, u "canEncode"), (14, u "(C)Z"), (15, u "$assertionsDisabled"), (0, u "Z"), (98, .class_ 223), (1, u "java/lang/StringLatin1$LinesSpliterator"), (57, u "equals"), (0, u "([B[B)Z"), (97, u "toBytes"), (1, u "(C)[B"), (7, .class_ 391), (0, u "java/lang/StringLatin1$CharsSpliterator")] 3

def k10m0 : Method := { name := "<init>", desc := "()V", sig := { parameters := [], returnType := none }, accessFlags := 0, code := none }
def k10c1 : Code := { maxStack := 2, maxLocals := 1, code := jdk_43_method_3_code, exceptionTable := #[], attributes := #[] }
def k10m1 : Method := { name := "canEncode", desc := "(C)Z", sig := { parameters := [.char], returnType := some .boolean }, accessFlags := 9, code := some k10c1 }
def k10c2 : Code := { maxStack := 3, maxLocals := 3, code := jdk_43_method_13_code, exceptionTable := #[], attributes := #[] }
def k10m2 : Method := { name := "equals", desc := "([B[B)Z", sig := { parameters := [(.array .byte), (.array .byte)], returnType := some .boolean }, accessFlags := 9, code := some k10c2 }
def k10c3 : Code := { maxStack := 4, maxLocals := 1, code := jdk_43_method_46_code, exceptionTable := #[], attributes := #[] }
def k10m3 : Method := { name := "toBytes", desc := "(C)[B", sig := { parameters := [.char], returnType := some (.array .byte) }, accessFlags := 9, code := some k10c3 }
/-- java/lang/StringLatin1 -/
def k10 : Class := { plain "java/lang/StringLatin1" (some 0) with
  accessFlags := 48
  interfaces := #[]
  cf := some (fileOf pool10 14 #[.nestMembers #[390, 221]] #[{ accessFlags := 0, nameIndex := 7, descriptorIndex := 8, attributes := #[] }, { accessFlags := 9, nameIndex := 90, descriptorIndex := 105, attributes := #[] }, { accessFlags := 9, nameIndex := 281, descriptorIndex := 282, attributes := #[] }, { accessFlags := 9, nameIndex := 380, descriptorIndex := 382, attributes := #[] }] 48 4 #[] #[{ accessFlags := 4120, nameIndex := 121, descriptorIndex := 122, attributes := #[] }])
  fields := #[{ name := "$assertionsDisabled", type := .boolean, accessFlags := 4120, slot := 0, constantValue := 0 }]
  methods := #[k10m0, k10m1, k10m2, k10m3]
  instanceTypes := #[]
  staticTypes := #[.boolean]
  resolved := Array.replicate 395 none
  statics := none }

def pool11 : Array CpInfo := pool [(2, .class_ 4), (1, u "java/lang/Object"), (0, u "<init>"), (0, u "()V"), (17, .class_ 26), (1, u "jdk/internal/util/Preconditions"), (28, .class_ 56), (0, u "jdk/internal/util/Preconditions$4"), (57, .class_ 115), (0, u "jdk/internal/util/Preconditions$1"), (7, u "SIOOBE_FORMATTER"), (0, u "Ljava/util/function/BiFunction;"), (0, .class_ 126), (0, u "jdk/internal/util/Preconditions$2"), (3, u "AIOOBE_FORMATTER"), (0, .class_ 132), (0, u "jdk/internal/util/Preconditions$3"), (3, u "IOOBE_FORMATTER")] 57

def k11m0 : Method := { name := "<init>", desc := "()V", sig := { parameters := [], returnType := none }, accessFlags := 1, code := none }
/-- jdk/internal/util/Preconditions -/
def k11 : Class := { plain "jdk/internal/util/Preconditions" (some 0) with
  accessFlags := 33
  interfaces := #[]
  cf := some (fileOf pool11 24 #[.nestMembers #[55, 131, 125, 114]] #[{ accessFlags := 1, nameIndex := 5, descriptorIndex := 6, attributes := #[] }] 33 2 #[] #[{ accessFlags := 25, nameIndex := 123, descriptorIndex := 124, attributes := #[] }, { accessFlags := 25, nameIndex := 130, descriptorIndex := 124, attributes := #[] }, { accessFlags := 25, nameIndex := 136, descriptorIndex := 124, attributes := #[] }])
  fields := #[{ name := "SIOOBE_FORMATTER", type := (.object "java/util/function/BiFunction"), accessFlags := 25, slot := 0, constantValue := 0 }, { name := "AIOOBE_FORMATTER", type := (.object "java/util/function/BiFunction"), accessFlags := 25, slot := 1, constantValue := 0 }, { name := "IOOBE_FORMATTER", type := (.object "java/util/function/BiFunction"), accessFlags := 25, slot := 2, constantValue := 0 }]
  methods := #[k11m0]
  instanceTypes := #[]
  staticTypes := #[(.object "java/util/function/BiFunction"), (.object "java/util/function/BiFunction"), (.object "java/util/function/BiFunction")]
  resolved := Array.replicate 194 none
  statics := some 2 }

def pool12 : Array CpInfo := pool [(9, u "<init>"), (6, .class_ 18), (1, u "java/lang/Object"), (0, u "()V"), (1, .class_ 23), (1, u "jdk/internal/util/ArraysSupport"), (0, u "LOG2_ARRAY_LONG_INDEX_SCALE"), (0, u "I"), (2, u "U"), (0, u "Ljdk/internal/misc/Unsafe;"), (8, u "BIG_ENDIAN"), (0, u "Z"), (8, u "LOG2_BYTE_BIT_SIZE"), (4, u "LOG2_ARRAY_INT_INDEX_SCALE"), (54, u "JLA"), (0, u "Ljdk/internal/access/JavaLangAccess;"), (11, u "LOG2_ARRAY_BOOLEAN_INDEX_SCALE"), (9, u "LOG2_ARRAY_BYTE_INDEX_SCALE"), (5, u "LOG2_ARRAY_CHAR_INDEX_SCALE"), (5, u "LOG2_ARRAY_SHORT_INDEX_SCALE"), (18, u "LOG2_ARRAY_FLOAT_INDEX_SCALE"), (24, u "LOG2_ARRAY_DOUBLE_INDEX_SCALE"), (89, u "T_BOOLEAN"), (2, u "T_CHAR"), (1, u "T_FLOAT"), (1, u "T_DOUBLE"), (1, u "T_BYTE"), (1, u "T_SHORT"), (1, u "T_INT"), (1, u "T_LONG"), (1, u "SOFT_MAX_ARRAY_LENGTH")] 83

def k12m0 : Method := { name := "<init>", desc := "()V", sig := { parameters := [], returnType := none }, accessFlags := 2, code := none }
/-- jdk/internal/util/ArraysSupport -/
def k12 : Class := { plain "jdk/internal/util/ArraysSupport" (some 0) with
  accessFlags := 33
  interfaces := #[]
  cf := some (fileOf pool12 21 #[] #[{ accessFlags := 2, nameIndex := 9, descriptorIndex := 19, attributes := #[] }] 33 16 #[] #[{ accessFlags := 24, nameIndex := 28, descriptorIndex := 29, attributes := #[] }, { accessFlags := 26, nameIndex := 38, descriptorIndex := 39, attributes := #[] }, { accessFlags := 25, nameIndex := 121, descriptorIndex := 25, attributes := #[] }, { accessFlags := 25, nameIndex := 131, descriptorIndex := 25, attributes := #[] }, { accessFlags := 25, nameIndex := 137, descriptorIndex := 25, attributes := #[] }, { accessFlags := 25, nameIndex := 143, descriptorIndex := 25, attributes := #[] }, { accessFlags := 25, nameIndex := 53, descriptorIndex := 25, attributes := #[] }, { accessFlags := 25, nameIndex := 24, descriptorIndex := 25, attributes := #[] }, { accessFlags := 25, nameIndex := 162, descriptorIndex := 25, attributes := #[] }, { accessFlags := 25, nameIndex := 187, descriptorIndex := 25, attributes := #[] }, { accessFlags := 26, nameIndex := 48, descriptorIndex := 25, attributes := #[] }, { accessFlags := 25, nameIndex := 277, descriptorIndex := 25, attributes := #[] }, { accessFlags := 25, nameIndex := 280, descriptorIndex := 25, attributes := #[] }, { accessFlags := 25, nameIndex := 282, descriptorIndex := 25, attributes := #[] }, { accessFlags := 25, nameIndex := 284, descriptorIndex := 25, attributes := #[] }, { accessFlags := 25, nameIndex := 286, descriptorIndex := 25, attributes := #[] }, { accessFlags := 25, nameIndex := 288, descriptorIndex := 25, attributes := #[] }, { accessFlags := 25, nameIndex := 290, descriptorIndex := 25, attributes := #[] }, { accessFlags := 25, nameIndex := 292, descriptorIndex := 25, attributes := #[] }, { accessFlags := 26, nameIndex := 108, descriptorIndex := 109, attributes := #[] }, { accessFlags := 25, nameIndex := 294, descriptorIndex := 25, attributes := #[] }])
  fields := #[{ name := "U", type := (.object "jdk/internal/misc/Unsafe"), accessFlags := 24, slot := 0, constantValue := 0 }, { name := "BIG_ENDIAN", type := .boolean, accessFlags := 26, slot := 1, constantValue := 0 }, { name := "LOG2_ARRAY_BOOLEAN_INDEX_SCALE", type := .int, accessFlags := 25, slot := 2, constantValue := 0 }, { name := "LOG2_ARRAY_BYTE_INDEX_SCALE", type := .int, accessFlags := 25, slot := 3, constantValue := 0 }, { name := "LOG2_ARRAY_CHAR_INDEX_SCALE", type := .int, accessFlags := 25, slot := 4, constantValue := 0 }, { name := "LOG2_ARRAY_SHORT_INDEX_SCALE", type := .int, accessFlags := 25, slot := 5, constantValue := 0 }, { name := "LOG2_ARRAY_INT_INDEX_SCALE", type := .int, accessFlags := 25, slot := 6, constantValue := 0 }, { name := "LOG2_ARRAY_LONG_INDEX_SCALE", type := .int, accessFlags := 25, slot := 7, constantValue := 0 }, { name := "LOG2_ARRAY_FLOAT_INDEX_SCALE", type := .int, accessFlags := 25, slot := 8, constantValue := 0 }, { name := "LOG2_ARRAY_DOUBLE_INDEX_SCALE", type := .int, accessFlags := 25, slot := 9, constantValue := 0 }, { name := "LOG2_BYTE_BIT_SIZE", type := .int, accessFlags := 26, slot := 10, constantValue := 0 }, { name := "T_BOOLEAN", type := .int, accessFlags := 25, slot := 11, constantValue := 0 }, { name := "T_CHAR", type := .int, accessFlags := 25, slot := 12, constantValue := 0 }, { name := "T_FLOAT", type := .int, accessFlags := 25, slot := 13, constantValue := 0 }, { name := "T_DOUBLE", type := .int, accessFlags := 25, slot := 14, constantValue := 0 }, { name := "T_BYTE", type := .int, accessFlags := 25, slot := 15, constantValue := 0 }, { name := "T_SHORT", type := .int, accessFlags := 25, slot := 16, constantValue := 0 }, { name := "T_INT", type := .int, accessFlags := 25, slot := 17, constantValue := 0 }, { name := "T_LONG", type := .int, accessFlags := 25, slot := 18, constantValue := 0 }, { name := "JLA", type := (.object "jdk/internal/access/JavaLangAccess"), accessFlags := 26, slot := 19, constantValue := 0 }, { name := "SOFT_MAX_ARRAY_LENGTH", type := .int, accessFlags := 25, slot := 20, constantValue := 0 }]
  methods := #[k12m0]
  instanceTypes := #[]
  staticTypes := #[(.object "jdk/internal/misc/Unsafe"), .boolean, .int, .int, .int, .int, .int, .int, .int, .int, .int, .int, .int, .int, .int, .int, .int, .int, .int, (.object "jdk/internal/access/JavaLangAccess"), .int]
  resolved := Array.replicate 378 none
  statics := none }

def pool13 : Array CpInfo := pool [(1, u "java/lang/Cloneable"), (0, .class_ 1), (0, u "java/lang/Object"), (0, .class_ 3)] 3

/-- java/lang/Cloneable -/
def k13 : Class := { plain "java/lang/Cloneable" (some 0) with
  accessFlags := 1537
  interfaces := #[]
  cf := some (fileOf pool13 2 #[] #[] 1537 4 #[] #[])
  fields := #[]
  methods := #[]
  instanceTypes := #[]
  staticTypes := #[]
  resolved := Array.replicate 8 none
  statics := none }

/-- the primitive byte -/
def k14 : Class := { plain "byte" none with kind := .primitive 'B', accessFlags := 0x411 }
/-- [B -/
def k15 : Class := { plain "[B" (some 0) with kind := .array 14 .byte, interfaces := #[13, 3], accessFlags := 1041 }

/-- the primitive char -/
def k16 : Class := { plain "char" none with kind := .primitive 'C', accessFlags := 0x411 }
/-- [C -/
def k17 : Class := { plain "[C" (some 0) with kind := .array 16 .char, interfaces := #[13, 3], accessFlags := 1041 }

/-- the primitive int -/
def k18 : Class := { plain "int" none with kind := .primitive 'I', accessFlags := 0x411 }
/-- [I -/
def k19 : Class := { plain "[I" (some 0) with kind := .array 18 .int, interfaces := #[13, 3], accessFlags := 1041 }

def heap : Heap := #[{ cls := 8, slots := #[.long 0, .int 1, .null, .int 0, .null, .int 0, .int 0], vm := .statics 8 },
  { cls := 9, slots := #[.int 0, .int 8, .int 0, .int 1], vm := .statics 9 },
  { cls := 11, slots := #[.null, .null, .null], vm := .statics 11 }]
def classes : Array Class := #[k0, k1, k2, k3, k4, k5, k6, k7, k8, k9, k10, k11, k12, k13, k14, k15, k16, k17, k18, k19]
def interned : List (Array UInt16 × Addr) := []
def slotsUsed : Nat := 14
def theMethod : MethodId := ⟨1, 2⟩
def args0 : Array Value := #[.int 5, .long 5, .long 5]
def aboutOver (below : List Frame) : State where
  vm := { classes := classes, interned := interned.toArray }
  heap := heap
  slotsUsed := slotsUsed
  threads := #[{ frames := .invoking theMethod args0 :: below }]
def below0 : List Frame := [.native { method := ⟨0, 0⟩, args := #[] }]
def about1 : State := aboutOver below0
def p0 : Program := .bare "" "" ""
def e0 : Env := launch0.env 0 0 0
theorem w_frames : about1.frames = Frame.invoking theMethod args0 :: below0 := rfl
set_option maxRecDepth 65536 in
theorem w_args : argsFit about1.vm theMethod args0 = true := by decide +kernel
set_option maxRecDepth 65536 in
theorem w_heap : heapFits about1 = true := by decide +kernel
set_option maxRecDepth 65536 in
theorem w_runnable : about1.curStatus? = some .runnable := by decide +kernel
set_option maxRecDepth 65536 in
theorem w_alone : about1.alone = true := by decide +kernel
set_option maxRecDepth 65536 in
theorem w_named : about1.methodNamed? x = some theMethod := by decide +kernel
set_option maxRecDepth 65536 in
theorem w_hears : about1.hears theMethod below0 = true := by decide +kernel
set_option maxRecDepth 65536 in
theorem w_ripe : about1.ripe theMethod args0 below0 = true := by decide +kernel
theorem w_running : about1.status = .running := rfl
set_option maxRecDepth 65536 in
theorem w_room : about1.hasRoom e0.platform room_1 = true :=
  launch0.hasRoom_least _ room_1 (by decide +kernel) (by decide +kernel) (by decide +kernel) (by decide +kernel) (by decide +kernel) (by decide +kernel)
theorem allAtoms_all (ts : List Jvm.Cond) (a : Array Jvm.Value) (st : Jvm.State) : (allAtoms ts).before a st = ts.all (fun c => c.before a st) := by
  induction ts with
  | nil => rfl
  | cons c t ih =>
    show (Jvm.Cond.and c (allAtoms t)).before a st = _
    rw [Jvm.Cond.before_and, ih, List.all_cons]
def words1 : List Jvm.Cond := Jvm.Cond.code x code maxLocals ret :: tables_1
/-- a 'code' word, met by the world's own term for the bytes: nothing is compared byte by byte -/
theorem code_word {y : MethodName} {bytes : ByteArray} {mx : Nat} {rt : Option FieldType} {a : Array Value} {s : State} {m : MethodId} {meth : Method} {c : Code} (h1 : s.methodNamed? y = some m) (h2 : s.vm.method? m = some meth) (h3 : meth.code = some c) (h4 : c.code = bytes)
    (h5 : (c.maxLocals == mx && c.exceptionTable.isEmpty && decide (c.maxStack ≤ mostOperands) && decide (meth.sig.returnType = rt) && !meth.locks && decide (parseMethodDescriptor y.desc = some meth.sig)) = true) : (Jvm.Cond.code y bytes mx rt).before a s = true := by
  simp only [Bool.and_eq_true, beq_iff_eq, Bool.not_eq_true', decide_eq_true_eq] at h5
  obtain ⟨⟨⟨⟨⟨g1, g2⟩, g3⟩, g4⟩, g5⟩, g6⟩ := h5
  simp [Cond.before, Cond.holds, Cond.value, h1, h2, h3, h4, g1, g2, g3, g4, g5, g6]
def isCode : Jvm.Cond → Bool
  | .code _ _ _ _ => true
  | _ => false
theorem all_split {L : List Jvm.Cond} {P : Jvm.Cond → Bool} (h1 : L.all (fun c => isCode c || P c) = true) (h2 : ∀ c ∈ L.filter isCode, P c = true) : L.all P = true := by
  refine List.all_eq_true.mpr fun c hc => ?_
  have h := List.all_eq_true.mp h1 c hc
  rcases Bool.eq_false_or_eq_true (isCode c) with hi | hi
  · exact h2 c (List.mem_filter.mpr ⟨hc, hi⟩)
  · simpa [hi] using h
set_option maxRecDepth 65536 in
theorem w_c0 : (Jvm.Cond.code x code maxLocals ret).before args0 about1 = true := code_word (m := ⟨1, 2⟩) (meth := k1m2) (c := k1c2) (by decide +kernel) rfl rfl rfl (by decide +kernel)
set_option maxRecDepth 65536 in
theorem w_c1 : (Jvm.Cond.code ({ cls := "com/example/vouchsafe/passport/PassportHeaderSupportsPinLawPinLaw", name := "pick", desc := "(IICJI)C" } : Jvm.MethodName) method_2_code (6 : Nat) (Option.some Jvm.ClassFile.FieldType.char)).before args0 about1 = true := code_word (m := ⟨1, 1⟩) (meth := k1m1) (c := k1c1) (by decide +kernel) rfl rfl rfl (by decide +kernel)
set_option maxRecDepth 65536 in
theorem w_c2 : (Jvm.Cond.code ({ cls := "com/example/vouchsafe/passport/PassportHeader", name := "supports", desc := "(Ljava/lang/String;)Z" } : Jvm.MethodName) prog_34_method_2_code (1 : Nat) (Option.some Jvm.ClassFile.FieldType.boolean)).before args0 about1 = true := code_word (m := ⟨2, 1⟩) (meth := k2m1) (c := k2c1) (by decide +kernel) rfl rfl rfl (by decide +kernel)
set_option maxRecDepth 65536 in
theorem w_c3 : (Jvm.Cond.code ({ cls := "java/lang/String", name := "<init>", desc := "([C)V" } : Jvm.MethodName) jdk_42_method_3_code (2 : Nat) (Option.none : Option Jvm.ClassFile.FieldType)).before args0 about1 = true := code_word (m := ⟨8, 1⟩) (meth := k8m1) (c := k8c1) (by decide +kernel) rfl rfl rfl (by decide +kernel)
set_option maxRecDepth 65536 in
theorem w_c4 : (Jvm.Cond.code ({ cls := "java/lang/String", name := "<init>", desc := "([CIILjava/lang/Void;)V" } : Jvm.MethodName) jdk_42_method_149_code (6 : Nat) (Option.none : Option Jvm.ClassFile.FieldType)).before args0 about1 = true := code_word (m := ⟨8, 4⟩) (meth := k8m4) (c := k8c4) (by decide +kernel) rfl rfl rfl (by decide +kernel)
set_option maxRecDepth 65536 in
theorem w_c5 : (Jvm.Cond.code ({ cls := "java/lang/Object", name := "<init>", desc := "()V" } : Jvm.MethodName) object_method_1_code (1 : Nat) (Option.none : Option Jvm.ClassFile.FieldType)).before args0 about1 = true := code_word (m := ⟨0, 0⟩) (meth := k0m0) (c := k0c0) (by decide +kernel) rfl rfl rfl (by decide +kernel)
set_option maxRecDepth 65536 in
theorem w_c6 : (Jvm.Cond.code ({ cls := "java/lang/StringUTF16", name := "compress", desc := "([CII)[B" } : Jvm.MethodName) jdk_52_method_16_code (6 : Nat) (Option.some (Jvm.ClassFile.FieldType.array Jvm.ClassFile.FieldType.byte))).before args0 about1 = true := code_word (m := ⟨9, 7⟩) (meth := k9m7) (c := k9c7) (by decide +kernel) rfl rfl rfl (by decide +kernel)
set_option maxRecDepth 65536 in
theorem w_c7 : (Jvm.Cond.code ({ cls := "java/lang/StringUTF16", name := "compress", desc := "([CI[BII)I" } : Jvm.MethodName) jdk_52_method_21_code (7 : Nat) (Option.some Jvm.ClassFile.FieldType.int)).before args0 about1 = true := code_word (m := ⟨9, 8⟩) (meth := k9m8) (c := k9c8) (by decide +kernel) rfl rfl rfl (by decide +kernel)
set_option maxRecDepth 65536 in
theorem w_c8 : (Jvm.Cond.code ({ cls := "java/lang/StringUTF16", name := "coderFromArrayLen", desc := "([BI)B" } : Jvm.MethodName) jdk_52_method_15_code (2 : Nat) (Option.some Jvm.ClassFile.FieldType.byte)).before args0 about1 = true := code_word (m := ⟨9, 6⟩) (meth := k9m6) (c := k9c6) (by decide +kernel) rfl rfl rfl (by decide +kernel)
set_option maxRecDepth 65536 in
theorem w_c9 : (Jvm.Cond.code ({ cls := "java/lang/String", name := "equals", desc := "(Ljava/lang/Object;)Z" } : Jvm.MethodName) jdk_42_method_66_code (3 : Nat) (Option.some Jvm.ClassFile.FieldType.boolean)).before args0 about1 = true := code_word (m := ⟨8, 2⟩) (meth := k8m2) (c := k8c2) (by decide +kernel) rfl rfl rfl (by decide +kernel)
set_option maxRecDepth 65536 in
theorem w_c10 : (Jvm.Cond.code ({ cls := "java/lang/StringLatin1", name := "equals", desc := "([B[B)Z" } : Jvm.MethodName) jdk_43_method_13_code (3 : Nat) (Option.some Jvm.ClassFile.FieldType.boolean)).before args0 about1 = true := code_word (m := ⟨10, 2⟩) (meth := k10m2) (c := k10c2) (by decide +kernel) rfl rfl rfl (by decide +kernel)
set_option maxRecDepth 65536 in
theorem w_c11 : (Jvm.Cond.code ({ cls := "java/lang/String", name := "valueOf", desc := "(C)Ljava/lang/String;" } : Jvm.MethodName) jdk_42_method_139_code (1 : Nat) (Option.some (Jvm.ClassFile.FieldType.object "java/lang/String"))).before args0 about1 = true := code_word (m := ⟨8, 3⟩) (meth := k8m3) (c := k8c3) (by decide +kernel) rfl rfl rfl (by decide +kernel)
set_option maxRecDepth 65536 in
theorem w_c12 : (Jvm.Cond.code ({ cls := "java/lang/StringLatin1", name := "canEncode", desc := "(C)Z" } : Jvm.MethodName) jdk_43_method_3_code (1 : Nat) (Option.some Jvm.ClassFile.FieldType.boolean)).before args0 about1 = true := code_word (m := ⟨10, 1⟩) (meth := k10m1) (c := k10c1) (by decide +kernel) rfl rfl rfl (by decide +kernel)
set_option maxRecDepth 65536 in
theorem w_c13 : (Jvm.Cond.code ({ cls := "java/lang/StringLatin1", name := "toBytes", desc := "(C)[B" } : Jvm.MethodName) jdk_43_method_46_code (1 : Nat) (Option.some (Jvm.ClassFile.FieldType.array Jvm.ClassFile.FieldType.byte))).before args0 about1 = true := code_word (m := ⟨10, 3⟩) (meth := k10m3) (c := k10c3) (by decide +kernel) rfl rfl rfl (by decide +kernel)
set_option maxRecDepth 65536 in
theorem w_c14 : (Jvm.Cond.code ({ cls := "java/lang/String", name := "<init>", desc := "([BB)V" } : Jvm.MethodName) jdk_42_method_151_code (3 : Nat) (Option.none : Option Jvm.ClassFile.FieldType)).before args0 about1 = true := code_word (m := ⟨8, 5⟩) (meth := k8m5) (c := k8c5) (by decide +kernel) rfl rfl rfl (by decide +kernel)
set_option maxRecDepth 65536 in
theorem w_c15 : (Jvm.Cond.code ({ cls := "java/lang/StringUTF16", name := "toBytes", desc := "([CII)[B" } : Jvm.MethodName) jdk_52_method_14_code (5 : Nat) (Option.some (Jvm.ClassFile.FieldType.array Jvm.ClassFile.FieldType.byte))).before args0 about1 = true := code_word (m := ⟨9, 5⟩) (meth := k9m5) (c := k9c5) (by decide +kernel) rfl rfl rfl (by decide +kernel)
set_option maxRecDepth 65536 in
theorem w_c16 : (Jvm.Cond.code ({ cls := "java/lang/StringUTF16", name := "newBytesFor", desc := "(I)[B" } : Jvm.MethodName) jdk_52_method_2_code (1 : Nat) (Option.some (Jvm.ClassFile.FieldType.array Jvm.ClassFile.FieldType.byte))).before args0 about1 = true := code_word (m := ⟨9, 1⟩) (meth := k9m1) (c := k9c1) (by decide +kernel) rfl rfl rfl (by decide +kernel)
set_option maxRecDepth 65536 in
theorem w_c17 : (Jvm.Cond.code ({ cls := "java/lang/StringUTF16", name := "newBytesLength", desc := "(I)I" } : Jvm.MethodName) jdk_52_method_3_code (1 : Nat) (Option.some Jvm.ClassFile.FieldType.int)).before args0 about1 = true := code_word (m := ⟨9, 2⟩) (meth := k9m2) (c := k9c2) (by decide +kernel) rfl rfl rfl (by decide +kernel)
set_option maxRecDepth 65536 in
theorem w_c18 : (Jvm.Cond.code ({ cls := "java/lang/StringUTF16", name := "putChar", desc := "([BII)V" } : Jvm.MethodName) jdk_52_method_4_code (3 : Nat) (Option.none : Option Jvm.ClassFile.FieldType)).before args0 about1 = true := code_word (m := ⟨9, 3⟩) (meth := k9m3) (c := k9c3) (by decide +kernel) rfl rfl rfl (by decide +kernel)
set_option maxRecDepth 65536 in
theorem w_c19 : (Jvm.Cond.code ({ cls := "java/lang/StringUTF16", name := "getChar", desc := "([BI)C" } : Jvm.MethodName) jdk_52_method_5_code (2 : Nat) (Option.some Jvm.ClassFile.FieldType.char)).before args0 about1 = true := code_word (m := ⟨9, 4⟩) (meth := k9m4) (c := k9c4) (by decide +kernel) rfl rfl rfl (by decide +kernel)
set_option maxRecDepth 65536 in
theorem w_c20 : (Jvm.Cond.code ({ cls := "java/lang/StringUTF16", name := "toBytes", desc := "(C)[B" } : Jvm.MethodName) jdk_52_method_24_code (2 : Nat) (Option.some (Jvm.ClassFile.FieldType.array Jvm.ClassFile.FieldType.byte))).before args0 about1 = true := code_word (m := ⟨9, 9⟩) (meth := k9m9) (c := k9c9) (by decide +kernel) rfl rfl rfl (by decide +kernel)
def codes1 : List Jvm.Cond := [Jvm.Cond.code x code maxLocals ret, Jvm.Cond.code ({ cls := "com/example/vouchsafe/passport/PassportHeaderSupportsPinLawPinLaw", name := "pick", desc := "(IICJI)C" } : Jvm.MethodName) method_2_code (6 : Nat) (Option.some Jvm.ClassFile.FieldType.char), Jvm.Cond.code ({ cls := "com/example/vouchsafe/passport/PassportHeader", name := "supports", desc := "(Ljava/lang/String;)Z" } : Jvm.MethodName) prog_34_method_2_code (1 : Nat) (Option.some Jvm.ClassFile.FieldType.boolean), Jvm.Cond.code ({ cls := "java/lang/String", name := "<init>", desc := "([C)V" } : Jvm.MethodName) jdk_42_method_3_code (2 : Nat) (Option.none : Option Jvm.ClassFile.FieldType), Jvm.Cond.code ({ cls := "java/lang/String", name := "<init>", desc := "([CIILjava/lang/Void;)V" } : Jvm.MethodName) jdk_42_method_149_code (6 : Nat) (Option.none : Option Jvm.ClassFile.FieldType), Jvm.Cond.code ({ cls := "java/lang/Object", name := "<init>", desc := "()V" } : Jvm.MethodName) object_method_1_code (1 : Nat) (Option.none : Option Jvm.ClassFile.FieldType), Jvm.Cond.code ({ cls := "java/lang/StringUTF16", name := "compress", desc := "([CII)[B" } : Jvm.MethodName) jdk_52_method_16_code (6 : Nat) (Option.some (Jvm.ClassFile.FieldType.array Jvm.ClassFile.FieldType.byte)), Jvm.Cond.code ({ cls := "java/lang/StringUTF16", name := "compress", desc := "([CI[BII)I" } : Jvm.MethodName) jdk_52_method_21_code (7 : Nat) (Option.some Jvm.ClassFile.FieldType.int), Jvm.Cond.code ({ cls := "java/lang/StringUTF16", name := "coderFromArrayLen", desc := "([BI)B" } : Jvm.MethodName) jdk_52_method_15_code (2 : Nat) (Option.some Jvm.ClassFile.FieldType.byte), Jvm.Cond.code ({ cls := "java/lang/String", name := "equals", desc := "(Ljava/lang/Object;)Z" } : Jvm.MethodName) jdk_42_method_66_code (3 : Nat) (Option.some Jvm.ClassFile.FieldType.boolean), Jvm.Cond.code ({ cls := "java/lang/StringLatin1", name := "equals", desc := "([B[B)Z" } : Jvm.MethodName) jdk_43_method_13_code (3 : Nat) (Option.some Jvm.ClassFile.FieldType.boolean), Jvm.Cond.code ({ cls := "java/lang/String", name := "valueOf", desc := "(C)Ljava/lang/String;" } : Jvm.MethodName) jdk_42_method_139_code (1 : Nat) (Option.some (Jvm.ClassFile.FieldType.object "java/lang/String")), Jvm.Cond.code ({ cls := "java/lang/StringLatin1", name := "canEncode", desc := "(C)Z" } : Jvm.MethodName) jdk_43_method_3_code (1 : Nat) (Option.some Jvm.ClassFile.FieldType.boolean), Jvm.Cond.code ({ cls := "java/lang/StringLatin1", name := "toBytes", desc := "(C)[B" } : Jvm.MethodName) jdk_43_method_46_code (1 : Nat) (Option.some (Jvm.ClassFile.FieldType.array Jvm.ClassFile.FieldType.byte)), Jvm.Cond.code ({ cls := "java/lang/String", name := "<init>", desc := "([BB)V" } : Jvm.MethodName) jdk_42_method_151_code (3 : Nat) (Option.none : Option Jvm.ClassFile.FieldType), Jvm.Cond.code ({ cls := "java/lang/StringUTF16", name := "toBytes", desc := "([CII)[B" } : Jvm.MethodName) jdk_52_method_14_code (5 : Nat) (Option.some (Jvm.ClassFile.FieldType.array Jvm.ClassFile.FieldType.byte)), Jvm.Cond.code ({ cls := "java/lang/StringUTF16", name := "newBytesFor", desc := "(I)[B" } : Jvm.MethodName) jdk_52_method_2_code (1 : Nat) (Option.some (Jvm.ClassFile.FieldType.array Jvm.ClassFile.FieldType.byte)), Jvm.Cond.code ({ cls := "java/lang/StringUTF16", name := "newBytesLength", desc := "(I)I" } : Jvm.MethodName) jdk_52_method_3_code (1 : Nat) (Option.some Jvm.ClassFile.FieldType.int), Jvm.Cond.code ({ cls := "java/lang/StringUTF16", name := "putChar", desc := "([BII)V" } : Jvm.MethodName) jdk_52_method_4_code (3 : Nat) (Option.none : Option Jvm.ClassFile.FieldType), Jvm.Cond.code ({ cls := "java/lang/StringUTF16", name := "getChar", desc := "([BI)C" } : Jvm.MethodName) jdk_52_method_5_code (2 : Nat) (Option.some Jvm.ClassFile.FieldType.char), Jvm.Cond.code ({ cls := "java/lang/StringUTF16", name := "toBytes", desc := "(C)[B" } : Jvm.MethodName) jdk_52_method_24_code (2 : Nat) (Option.some (Jvm.ClassFile.FieldType.array Jvm.ClassFile.FieldType.byte))]
set_option maxRecDepth 65536 in
theorem codes_eq : words1.filter isCode = codes1 := rfl
theorem w_codes : ∀ c ∈ words1.filter isCode, c.before args0 about1 = true := by
  rw [codes_eq]
  intro c hc
  simp only [codes1, List.mem_cons, List.not_mem_nil, or_false] at hc
  rcases hc with rfl | rfl | rfl | rfl | rfl | rfl | rfl | rfl | rfl | rfl | rfl | rfl | rfl | rfl | rfl | rfl | rfl | rfl | rfl | rfl | rfl
  · exact w_c0
  · exact w_c1
  · exact w_c2
  · exact w_c3
  · exact w_c4
  · exact w_c5
  · exact w_c6
  · exact w_c7
  · exact w_c8
  · exact w_c9
  · exact w_c10
  · exact w_c11
  · exact w_c12
  · exact w_c13
  · exact w_c14
  · exact w_c15
  · exact w_c16
  · exact w_c17
  · exact w_c18
  · exact w_c19
  · exact w_c20
set_option maxRecDepth 65536 in
theorem w_t1 : (words1.take 24).all (fun c => isCode c || c.before args0 about1) = true := by decide +kernel
set_option maxRecDepth 65536 in
theorem w_t2 : ((words1.drop 24).take 24).all (fun c => isCode c || c.before args0 about1) = true := by decide +kernel
set_option maxRecDepth 65536 in
theorem w_t3 : (((words1.drop 24).drop 24).take 24).all (fun c => isCode c || c.before args0 about1) = true := by decide +kernel
set_option maxRecDepth 65536 in
theorem w_t4 : (((words1.drop 24).drop 24).drop 24).all (fun c => isCode c || c.before args0 about1) = true := by decide +kernel
theorem w_tables : (allAtoms (Jvm.Cond.code x code maxLocals ret :: tables_1)).before args0 about1 = true := by
  rw [allAtoms_all]
  show words1.all (fun c => c.before args0 about1) = true
  refine all_split ?_ w_codes
  rw [← List.take_append_drop 24 words1, List.all_append, w_t1, ← List.take_append_drop 24 (words1.drop 24), List.all_append, w_t2, ← List.take_append_drop 24 ((words1.drop 24).drop 24), List.all_append, w_t3, w_t4]
  rfl
set_option maxRecDepth 65536 in
theorem w_rest : rest_1_c.before args0 about1 = true := by decide +kernel
set_option maxRecDepth 65536 in
theorem w_case : (Jvm.Cond.and given_1 narrow_1).before args0 about1 = true := by decide +kernel
set_option maxRecDepth 65536 in
theorem w_consts : constsHeld consts_1 about1 := Jvm.Lit.constsHeldB_iff.mp (by decide +kernel)
theorem w_applies : (headSpec (Jvm.Cond.code x code maxLocals ret :: tables_1) room_1).applies x e0.platform about1 = true :=
  (Spec.applies_iff w_frames).mpr ⟨w_running, w_runnable, w_alone, w_named, w_hears, w_ripe, w_room, w_tables⟩
theorem atStart : AtStart classFile x code maxLocals ret World_1 tables_1 room_1 Calls_1 rest_1 Pre_1 launch0 p0 e0 about1 theMethod args0 below0 :=
  ⟨lists_1, trivial, launch0.admits_env _ _ _, launch0.least_env, fairChoices_fair.cas, fairChoices_fair.clock, w_frames, w_args, w_heap, w_applies, ⟨w_consts, trivial⟩, w_rest, w_case⟩
end start1
theorem witness_1 : WitnessClaimed_1 := ⟨start1.p0, start1.e0, start1.about1, start1.theMethod, start1.args0, start1.below0, start1.atStart⟩
end Jvm.Pilot.@@N@@
