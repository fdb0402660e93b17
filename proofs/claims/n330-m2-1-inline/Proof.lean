import JvmDerived
import JvmDerived.Pilot.@@N@@Statement
import JvmDerived.Pilot.@@N@@Code
set_option linter.unusedVariables false
set_option linter.unusedSimpArgs false
set_option maxRecDepth 65536
set_option maxHeartbeats 40000000
namespace Jvm.RoadKit
open Sem ClassFile Op Lib Jvm.Stand Jvm.Free Jvm.LawKit
section New
variable {p : Program} {l : Launch} {e : Env} {R : Room} {s : State} {m : MethodId} {args : Array Value} {below : List Frame} {meth : Method} {c : Code} {T : State} {locs : List Loc} {cells slots : Nat}
theorem retI (X : Stand p l e R s m args below meth c T locs cells slots) (hx : p.tables.exec = Jvm.exec) {pc : Nat} {Ls : Array Slot} {z : Int32} {rest : List Value} (hret : meth.sig.returnType = some .int) (hd : decode c.code pc = .ok (.ireturn, 1)) {fs : List Frame}
    (hl : ∀ (f : JFrame) (acts : List Action), f.method = m → f.locked = none → f.entered = [] → (doReturn e (T.setTop f) acts (some (.int z))).1 = T.setFrames fs) : Steps p.tables e below (T.setTop (mkF m pc Ls (.int z :: rest))) (T.setFrames fs) := by
  have hm' : T.vm.method? m = some meth := X.method'
  have hn : narrow .int (.int z) = .int z := rfl
  show Steps p.tables e below (T.setTop { method := m, pc := pc, locals := Ls, stack := _ :: rest, locked := none }) _
  jvm_step X.here [X.here.top, hx, hd, hm', hret, hn]
  first | (intro acts; rw [hl _ acts rfl rfl rfl]) | rw [hl _ _ rfl rfl rfl]
  exact Steps.refl _
end New
end Jvm.RoadKit
/- laws to paste: Road.backV, Road.codOf, Road.chN, Road.lenW (cut by pick.py; bodies as the Statement names them) -/
namespace Jvm.Pilot.@@N@@
namespace StrChars
open Jvm Sem ClassFile Op Lib Jvm.Stand Jvm.Free.XT Jvm.Free.ALB Jvm.Free.JM Jvm.Free
open Jvm.Lib.Cold (StaticIs)
/-- a char array whose places are chars -/
def Ch (a : Addr) (A : Cell) (U : State) : Prop := Arr .char a A U ∧ Typed .char A
theorem Ch.mv {a : Addr} {A : Cell} {U U' : State} (h : Ch a A U) (hal : U.vm.Alike U'.vm) (hh : U'.heap = U.heap) : Ch a A U' := ⟨h.1.mv hal hh, h.2⟩
theorem Ch.keep {a : Addr} {A : Cell} {U U' : State} (h : Ch a A U) (hal : U.vm.Alike U'.vm) (hk : U'.heap[a]? = some A) : Ch a A U' := ⟨h.1.keep hal hk, h.2⟩
/-- what place i of a char[]'s cell holds -/
def cv (A : Cell) (i : Nat) : Int32 := match A.slots[i]? with | some (.int x) => x | _ => 0
theorem Ch.get {a : Addr} {A : Cell} {U : State} (h : Ch a A U) {i : Nat} (hi : i < A.slots.size) : A.slots[i]? = some (.int (cv A i)) := by
  have e := Array.getElem?_eq_getElem hi
  have f := h.2 i _ e
  unfold cv; rw [e]
  generalize A.slots[i] = v at f
  cases v <;> simp [fits] at f ⊢
/-- the byte that i2b leaves of a char -/
def lo8 (x : Int32) : Int32 := x.toInt8.toInt32
theorem fits_lo8 (y : Int32) : fits .byte (.int (lo8 y)) = true := by
  have h1 := y.toInt8.le_toInt
  have h2 := y.toInt8.toInt_lt
  simp only [lo8, fits, Bool.and_eq_true, decide_eq_true_eq, Int32.le_iff_toInt_le, Int8.toInt_toInt32, show (-128 : Int32).toInt = -128 from by decide, show (127 : Int32).toInt = 127 from by decide]
  omega
/-- A' is A but that each place j of lo .. hi - 1 holds f j -/
def Laid (A A' : Cell) (lo hi : Nat) (f : Nat → Value) : Prop := A'.cls = A.cls ∧ A'.vm = A.vm ∧ A'.slots.size = A.slots.size ∧ ∀ i, A'.slots[i]? = if lo ≤ i ∧ i < hi then some (f i) else A.slots[i]?
theorem Laid.zero (A : Cell) (lo : Nat) (f : Nat → Value) : Laid A A lo (lo + 0) f := ⟨rfl, rfl, rfl, fun i => by rw [if_neg (by omega)]⟩
theorem Laid.step {A Ak : Cell} {lo k : Nat} {f : Nat → Value} {v : Value} (h : Laid A Ak lo k f) (hlo : lo ≤ k) (hk : k < Ak.slots.size) (hv : v = f k) : Laid A (Ak.setSlot k v) lo (k + 1) f := by
  refine ⟨h.1, h.2.1, by simpa [Cell.setSlot] using h.2.2.1, fun i => ?_⟩
  by_cases e : k = i
  · subst e; rw [Cell.slots_setSlot_self v hk, if_pos (by omega), hv]
  · rw [Cell.slots_setSlot_ne v e, h.2.2.2 i]
    by_cases q : lo ≤ i ∧ i < k
    · rw [if_pos q, if_pos (by omega)]
    · rw [if_neg q, if_neg (by omega)]
def U16 : String := "java/lang/StringUTF16"
namespace Cmp5
def yN : MethodName := ⟨"java/lang/StringUTF16", "compress", "([CI[BII)I"⟩
abbrev yB : ByteArray := jdk_52_method_21_code
theorem d0 : decode yB 0 = .ok (.iconst 0, 1) := by decide +kernel
theorem d1 : decode yB 1 = .ok (.istore 5, 2) := by decide +kernel
theorem d3 : decode yB 3 = .ok (.iload 5, 2) := by decide +kernel
theorem d5 : decode yB 5 = .ok (.iload 4, 2) := by decide +kernel
theorem d7 : decode yB 7 = .ok (.if_icmp (.ge) 37, 3) := by decide +kernel
theorem d10 : decode yB 10 = .ok (.aload_n 0, 1) := by decide +kernel
theorem d11 : decode yB 11 = .ok (.iload_n 1, 1) := by decide +kernel
theorem d12 : decode yB 12 = .ok (.caload, 1) := by decide +kernel
theorem d13 : decode yB 13 = .ok (.istore 6, 2) := by decide +kernel
theorem d15 : decode yB 15 = .ok (.iload 6, 2) := by decide +kernel
theorem d17 : decode yB 17 = .ok (.sipush 255, 3) := by decide +kernel
theorem d20 : decode yB 20 = .ok (.if_icmp (.le) 6, 3) := by decide +kernel
theorem d26 : decode yB 26 = .ok (.aload_n 2, 1) := by decide +kernel
theorem d27 : decode yB 27 = .ok (.iload_n 3, 1) := by decide +kernel
theorem d28 : decode yB 28 = .ok (.iload 6, 2) := by decide +kernel
theorem d30 : decode yB 30 = .ok (.i2b, 1) := by decide +kernel
theorem d31 : decode yB 31 = .ok (.bastore, 1) := by decide +kernel
theorem d32 : decode yB 32 = .ok (.iinc 1 1, 3) := by decide +kernel
theorem d35 : decode yB 35 = .ok (.iinc 3 1, 3) := by decide +kernel
theorem d38 : decode yB 38 = .ok (.iinc 5 1, 3) := by decide +kernel
theorem d41 : decode yB 41 = .ok (.goto (-38), 3) := by decide +kernel
theorem d44 : decode yB 44 = .ok (.iload 4, 2) := by decide +kernel
theorem d46 : decode yB 46 = .ok (.ireturn, 1) := by decide +kernel
def site : List Cond := []
def tab : Cond := tabOf yN yB 7 (some .int) site
def P (b : Addr) (A : Cell) (d : Addr) (B : Cell) (o q len : Nat) (args : Array Value) (s : State) : Prop := args = #[.ref b, .int (Int32.ofNat o), .ref d, .int (Int32.ofNat q), .int (Int32.ofNat len)] ∧ Ch b A s ∧ Arr .byte d B s ∧ b ≠ d ∧ o + len ≤ A.slots.size ∧ q + len ≤ B.slots.size ∧ ∀ i, i < len → ¬ 255 < cv A (o + i)
def E (b : Addr) (A : Cell) (d : Addr) (B : Cell) (o q len : Nat) (r : Option Value) (s u : State) : Prop := r = some (.int (Int32.ofNat len)) ∧ ∃ B', Put d B' s u ∧ Laid B B' q (q + len) (fun j => Value.int (lo8 (cv A (o + (j - q)))))
/-- no char of the range above 255: len; the places written hold each char's low byte -/
theorem law (l : Launch) (b : Addr) (A : Cell) (d : Addr) (B : Cell) (o q len : Nat) : Law l yN 5 5 0 0 yB 7 (some .int) site (P b A d B o q len) (E b A d B o q len) (copyLocs d q len) 0 0 := by
  refine Law.of_walk (plainFor_of_name (by decide +kernel)) (by decide +kernel) (by decide +kernel) (by decide) (fun _ _ h => by rw [h.1]; rfl) (fun _ U U' hal hh h => ⟨h.1, h.2.1.mv hal hh, h.2.2.1.mv hal hh, h.2.2.2⟩) (fun r U U' V V' h1 hal h2 h => ⟨h.1, h.2.elim fun B' q => ⟨B', q.1.mv h1 h2, q.2⟩⟩) ?_
  intro p e s m args below meth c s₁ X0 hexec hbytes hml hret hlk hnm hown hh0 W hP
  obtain ⟨rfl, hA, hB, hne, l1, l2, hp⟩ := hP
  have c1 : Steps p.tables e below (s₁.setTop (entryFrame m #[.ref b, .int (Int32.ofNat o), .ref d, .int (Int32.ofNat q), .int (Int32.ofNat len)] 7)) (s₁.setTop (mkF m 0 #[.val (.ref b), .val (.int (Int32.ofNat o)), .val (.ref d), .val (.int (Int32.ofNat q)), .val (.int (Int32.ofNat len)), .unset, .unset] [])) := entry rfl
  have hA0 := hA.1.mv X0.warmed.alike hh0
  have hB0 := hB.mv X0.warmed.alike hh0
  have a31 := hA.1.2.2.2
  have c2 : Steps p.tables e below (s₁.setTop (entryFrame m #[.ref b, .int (Int32.ofNat o), .ref d, .int (Int32.ofNat q), .int (Int32.ofNat len)] 7)) (s₁.setTop (mkF m 3 #[.val (.ref b), .val (.int (Int32.ofNat o)), .val (.ref d), .val (.int (Int32.ofNat q)), .val (.int (Int32.ofNat len)), .val (.int 0), .unset] [])) := c1.trans (by
    refine iconstV X0.here hexec rfl 0 (hb hbytes d0) (by decide) ?_
    refine XS.istore X0.here hexec rfl (hb hbytes d1) rfl rfl ?_
    exact Steps.refl _)
  have loop : ∀ (r i : Nat), i + r = len → ∀ (z : Slot), (z = .unset ∨ ∃ w, z = .val w ∧ w.category = 1) → ∀ (Tl : State) (Bk : Cell), Stand p l e { frames := 0, locals := 0, cells := 0, slots := 0 } s m #[.ref b, .int (Int32.ofNat o), .ref d, .int (Int32.ofNat q), .int (Int32.ofNat len)] below meth c Tl ([] ++ copyLocs d q i) 0 0 → Put d Bk s₁ Tl → Laid B Bk q (q + i) (fun j => Value.int (lo8 (cv A (o + (j - q))))) →
      Steps p.tables e below (s₁.setTop (entryFrame m #[.ref b, .int (Int32.ofNat o), .ref d, .int (Int32.ofNat q), .int (Int32.ofNat len)] 7)) (Tl.setTop (mkF m 3 #[.val (.ref b), .val (.int (Int32.ofNat (o + i))), .val (.ref d), .val (.int (Int32.ofNat (q + i))), .val (.int (Int32.ofNat len)), .val (.int (Int32.ofNat i)), z] [])) → ∃ (T' : State) (B' : Cell) (z' : Slot), Stand p l e { frames := 0, locals := 0, cells := 0, slots := 0 } s m #[.ref b, .int (Int32.ofNat o), .ref d, .int (Int32.ofNat q), .int (Int32.ofNat len)] below meth c T' ([] ++ copyLocs d q len) 0 0 ∧ Put d B' s₁ T' ∧ Laid B B' q (q + len) (fun j => Value.int (lo8 (cv A (o + (j - q))))) ∧
      Steps p.tables e below (s₁.setTop (entryFrame m #[.ref b, .int (Int32.ofNat o), .ref d, .int (Int32.ofNat q), .int (Int32.ofNat len)] 7)) (T'.setTop (mkF m 3 #[.val (.ref b), .val (.int (Int32.ofNat (o + len))), .val (.ref d), .val (.int (Int32.ofNat (q + len))), .val (.int (Int32.ofNat len)), .val (.int (Int32.ofNat len)), z'] [])) := by
    intro r
    induction r with
    | zero =>
      intro i hi z hz Tl Bk Xl pl fl cl
      have hil : i = len := by omega
      rw [hil] at Xl fl cl
      exact ⟨Tl, Bk, z, Xl, pl, fl, cl⟩
    | succ r ih =>
      intro i hi z hz Tl Bk Xl pl fl cl
      have all := X0.warmed.alike.symm.trans Xl.warmed.alike
      have hAl := hA0.keep all (pl.other hne hA0.1)
      have hBk := hB0.like all pl.1 fl.1 fl.2.1 fl.2.2.1
      have hlt : q + i < Bk.slots.size := by rw [fl.2.2.1]; omega
      have c3 : Steps p.tables e below (s₁.setTop (entryFrame m #[.ref b, .int (Int32.ofNat o), .ref d, .int (Int32.ofNat q), .int (Int32.ofNat len)] 7)) (Tl.setTop (mkF m 12 #[.val (.ref b), .val (.int (Int32.ofNat (o + i))), .val (.ref d), .val (.int (Int32.ofNat (q + i))), .val (.int (Int32.ofNat len)), .val (.int (Int32.ofNat i)), z] [.int (Int32.ofNat (o + i)), .ref b])) := cl.trans (by
        refine XS.iload Xl.here hexec rfl (hb hbytes d3) rfl ?_
        refine XS.iload Xl.here hexec rfl (hb hbytes d5) rfl ?_
        refine XS.icmpNo Xl.here hexec rfl (hb hbytes d7) rfl (ii_ge_f (lt32 (by omega) (by omega))) ?_
        refine XS.aloadN Xl.here hexec rfl (hb hbytes d10) rfl rfl ?_
        refine XS.iloadN Xl.here hexec rfl (hb hbytes d11) rfl ?_
        exact Steps.refl _)
      have c4 : Steps p.tables e below (s₁.setTop (entryFrame m #[.ref b, .int (Int32.ofNat o), .ref d, .int (Int32.ofNat q), .int (Int32.ofNat len)] 7)) (Tl.setTop (mkF m 13 #[.val (.ref b), .val (.int (Int32.ofNat (o + i))), .val (.ref d), .val (.int (Int32.ofNat (q + i))), .val (.int (Int32.ofNat len)), .val (.int (Int32.ofNat i)), z] [.int (cv A (o + i))])) := c3.trans (by
        refine Xl.aget hexec hAl rfl (hA.get (i := o + i) (by omega)) rfl rfl (hb hbytes d12) ?_
        exact Steps.refl _)
      have c5 : Steps p.tables e below (s₁.setTop (entryFrame m #[.ref b, .int (Int32.ofNat o), .ref d, .int (Int32.ofNat q), .int (Int32.ofNat len)] 7)) (Tl.setTop (mkF m 15 #[.val (.ref b), .val (.int (Int32.ofNat (o + i))), .val (.ref d), .val (.int (Int32.ofNat (q + i))), .val (.int (Int32.ofNat len)), .val (.int (Int32.ofNat i)), .val (.int (cv A (o + i)))] [])) := c4.trans (by
        refine XS.istoreS Xl.here hexec rfl (hb hbytes d13) rfl rfl hz ?_
        exact Steps.refl _)
      have c6 : Steps p.tables e below (s₁.setTop (entryFrame m #[.ref b, .int (Int32.ofNat o), .ref d, .int (Int32.ofNat q), .int (Int32.ofNat len)] 7)) (Tl.setTop (mkF m 31 #[.val (.ref b), .val (.int (Int32.ofNat (o + i))), .val (.ref d), .val (.int (Int32.ofNat (q + i))), .val (.int (Int32.ofNat len)), .val (.int (Int32.ofNat i)), .val (.int (cv A (o + i)))] [.int (lo8 (cv A (o + i))), .int (Int32.ofNat (q + i)), .ref d])) := c5.trans (by
        refine XS.iload Xl.here hexec rfl (hb hbytes d15) rfl ?_
        refine sipushV Xl.here hexec rfl 255 (hb hbytes d17) (by decide) ?_
        refine XS.icmpYes Xl.here hexec rfl (pc0 := 20) rfl (hb hbytes d20) rfl (ii_le_t (hp i (by omega))) (by decide) rfl ?_
        refine XS.aloadN Xl.here hexec rfl (hb hbytes d26) rfl rfl ?_
        refine XS.iloadN Xl.here hexec rfl (hb hbytes d27) rfl ?_
        refine XS.iload Xl.here hexec rfl (hb hbytes d28) rfl ?_
        refine i2b Xl.here hexec rfl (hb hbytes d30) rfl ?_
        exact Steps.refl _)
      obtain ⟨T7, X7, p7, st7⟩ := Xl.aput hexec hBk rfl hlt rfl (fits_lo8 (cv A (o + i))) (g := (mkF m 31 #[.val (.ref b), .val (.int (Int32.ofNat (o + i))), .val (.ref d), .val (.int (Int32.ofNat (q + i))), .val (.int (Int32.ofNat len)), .val (.int (Int32.ofNat i)), .val (.int (cv A (o + i)))] [.int (lo8 (cv A (o + i))), .int (Int32.ofNat (q + i)), .ref d])) rfl (rest := []) rfl (hb hbytes d31)
      have c8 : Steps p.tables e below (s₁.setTop (entryFrame m #[.ref b, .int (Int32.ofNat o), .ref d, .int (Int32.ofNat q), .int (Int32.ofNat len)] 7)) (T7.setTop (mkF m 32 #[.val (.ref b), .val (.int (Int32.ofNat (o + i))), .val (.ref d), .val (.int (Int32.ofNat (q + i))), .val (.int (Int32.ofNat len)), .val (.int (Int32.ofNat i)), .val (.int (cv A (o + i)))] [])) := c6.trans (st7 _ (Steps.refl _))
      have c9 : Steps p.tables e below (s₁.setTop (entryFrame m #[.ref b, .int (Int32.ofNat o), .ref d, .int (Int32.ofNat q), .int (Int32.ofNat len)] 7)) (T7.setTop (mkF m 3 #[.val (.ref b), .val (.int (Int32.ofNat (o + i) + 1)), .val (.ref d), .val (.int (Int32.ofNat (q + i) + 1)), .val (.int (Int32.ofNat len)), .val (.int (Int32.ofNat i + 1)), .val (.int (cv A (o + i)))] [])) := c8.trans (by
        refine iincV X7.here hexec rfl 1 (hb hbytes d32) (by decide) rfl rfl ?_
        refine iincV X7.here hexec rfl 1 (hb hbytes d35) (by decide) rfl rfl ?_
        refine iincV X7.here hexec rfl 1 (hb hbytes d38) (by decide) rfl rfl ?_
        refine XS.goto X7.here hexec rfl (pc0 := 41) rfl (hb hbytes d41) (by decide) rfl ?_
        exact Steps.refl _)
      have c10 : Steps p.tables e below (s₁.setTop (entryFrame m #[.ref b, .int (Int32.ofNat o), .ref d, .int (Int32.ofNat q), .int (Int32.ofNat len)] 7)) (T7.setTop (mkF m 3 #[.val (.ref b), .val (.int (Int32.ofNat (o + (i + 1)))), .val (.ref d), .val (.int (Int32.ofNat (q + (i + 1)))), .val (.int (Int32.ofNat len)), .val (.int (Int32.ofNat (i + 1))), .val (.int (cv A (o + i)))] [])) := by
        have := c9
        rw [succ32, succ32, succ32] at this
        exact this
      exact ih (i + 1) (by omega) _ (Or.inr ⟨_, rfl, rfl⟩) T7 _ (by rw [copyLocs_step, ← List.append_assoc]; exact X7) (pl.trans p7) (fl.step (by omega) hlt (by simp)) c10
  obtain ⟨T9, B9, z9, X9, p9, f9, g9⟩ := loop len 0 (by omega) .unset (Or.inl rfl) s₁ B (by simpa [copyLocs] using X0) ⟨hB0.1, fun _ _ => rfl, rfl⟩ (Laid.zero _ _ _) c2
  have c11 : Steps p.tables e below (s₁.setTop (entryFrame m #[.ref b, .int (Int32.ofNat o), .ref d, .int (Int32.ofNat q), .int (Int32.ofNat len)] 7)) (T9.setTop (mkF m 46 #[.val (.ref b), .val (.int (Int32.ofNat (o + len))), .val (.ref d), .val (.int (Int32.ofNat (q + len))), .val (.int (Int32.ofNat len)), .val (.int (Int32.ofNat len)), z9] [.int (Int32.ofNat len)])) := g9.trans (by
    refine XS.iload X9.here hexec rfl (hb hbytes d3) rfl ?_
    refine XS.iload X9.here hexec rfl (hb hbytes d5) rfl ?_
    refine XS.icmpYes X9.here hexec rfl (pc0 := 7) rfl (hb hbytes d7) rfl (ii_ge_t (nlt32 (by omega) (Nat.le_refl _))) (by decide) rfl ?_
    refine XS.iload X9.here hexec rfl (hb hbytes d44) rfl ?_
    exact Steps.refl _)
  exact ⟨T9, some (.int (Int32.ofNat len)), _, _, _, X9, by simp, rfl, rfl, (fun h => by cases h), ⟨rfl, B9, p9.from hh0, f9⟩, fun fs hl => c11.trans (X9.ireturnOut hexec hret rfl (Or.inl rfl) (hb hbytes d46) hl)⟩
end Cmp5
namespace Cmp3
def yN : MethodName := ⟨"java/lang/StringUTF16", "compress", "([CII)[B"⟩
abbrev yB : ByteArray := jdk_52_method_16_code
theorem d0 : decode yB 0 = .ok (.iload_n 2, 1) := by decide +kernel
theorem d1 : decode yB 1 = .ok (.newarray .byte, 2) := by decide +kernel
theorem d3 : decode yB 3 = .ok (.astore_n 3, 1) := by decide +kernel
theorem d4 : decode yB 4 = .ok (.aload_n 0, 1) := by decide +kernel
theorem d5 : decode yB 5 = .ok (.iload_n 1, 1) := by decide +kernel
theorem d6 : decode yB 6 = .ok (.aload_n 3, 1) := by decide +kernel
theorem d7 : decode yB 7 = .ok (.iconst 0, 1) := by decide +kernel
theorem d8 : decode yB 8 = .ok (.iload_n 2, 1) := by decide +kernel
theorem d9 : decode yB 9 = .ok (.invokestatic 115, 3) := by decide +kernel
theorem d12 : decode yB 12 = .ok (.istore 4, 2) := by decide +kernel
theorem d14 : decode yB 14 = .ok (.iload 4, 2) := by decide +kernel
theorem d16 : decode yB 16 = .ok (.iload_n 2, 1) := by decide +kernel
theorem d17 : decode yB 17 = .ok (.if_icmp (.eq) 40, 3) := by decide +kernel
theorem d57 : decode yB 57 = .ok (.aload_n 3, 1) := by decide +kernel
theorem d58 : decode yB 58 = .ok (.areturn, 1) := by decide +kernel
def site : List Cond := [.arrayClass .byte, Cmp5.tab] ++ staticW U16 115 Cmp5.yN
def tab : Cond := tabOf yN yB 6 (some (.array .byte)) site
def P (b : Addr) (A : Cell) (o len : Nat) (args : Array Value) (s : State) : Prop := args = #[.ref b, .int (Int32.ofNat o), .int (Int32.ofNat len)] ∧ Ch b A s ∧ o + len ≤ A.slots.size ∧ len ≤ 536870912 ∧ ∀ i, i < len → ¬ 255 < cv A (o + i)
def E (b : Addr) (A : Cell) (o len : Nat) (r : Option Value) (s u : State) : Prop := NewArr .byte "[B" len (fun j => .int (lo8 (cv A (o + j)))) r s u ∧ u.heap.size = s.heap.size + 1
/-- no char of the range above 255: a new byte[] of their low bytes -/
theorem law (l : Launch) (b : Addr) (A : Cell) (o len : Nat) : Law l yN 3 3 1 18 yB 6 (some (.array .byte)) site (P b A o len) (E b A o len) [] 1 len := by
  refine Law.of_walk (plainFor_of_name (by decide +kernel)) (by decide +kernel) (by decide +kernel) (by decide) (fun _ _ h => by rw [h.1]; rfl) (fun _ U U' hal hh h => ⟨h.1, h.2.1.mv hal hh, h.2.2⟩) (fun r U U' V V' h1 hal h2 h => ⟨NewArr.mv r U U' V V' h1 hal h2 h.1, by rw [h1, h2]; exact h.2⟩) ?_
  intro p e s m args below meth c s₁ X0 hexec hbytes hml hret hlk hnm hown hh0 W hP
  obtain ⟨rfl, hA, l1, l2, hp⟩ := hP
  have a31 := hA.1.2.2.2
  have c1 : Steps p.tables e below (s₁.setTop (entryFrame m #[.ref b, .int (Int32.ofNat o), .int (Int32.ofNat len)] 6)) (s₁.setTop (mkF m 0 #[.val (.ref b), .val (.int (Int32.ofNat o)), .val (.int (Int32.ofNat len)), .unset, .unset, .unset] [])) := entry rfl
  have c2 : Steps p.tables e below (s₁.setTop (entryFrame m #[.ref b, .int (Int32.ofNat o), .int (Int32.ofNat len)] 6)) (s₁.setTop (mkF m 1 #[.val (.ref b), .val (.int (Int32.ofNat o)), .val (.int (Int32.ofNat len)), .unset, .unset, .unset] [.int (Int32.ofNat len)])) := c1.trans (by
    refine XS.iloadN X0.here hexec rfl (hb hbytes d0) rfl ?_
    exact Steps.refl _)
  obtain ⟨T3, B3, X3, ba3, bs3, bv3, bh3, bf3, st3⟩ := X0.anew hexec (atype := .byte) (wk W (.arrayClass .byte)) rfl (by show len * 1 ≤ _; omega) (by omega) (g := (mkF m 1 #[.val (.ref b), .val (.int (Int32.ofNat o)), .val (.int (Int32.ofNat len)), .unset, .unset, .unset] [.int (Int32.ofNat len)])) rfl (hb hbytes d1) (rest := []) rfl (Nat.le_refl _) (by show 0 + len ≤ len; omega)
  rw [hh0] at ba3 st3
  have kp3 : XT.Kept s T3 := (XT.Kept.of_eq hh0).push bh3
  have hA3 := hA.keep X3.warmed.alike (kp3 _ _ hA.1.1)
  have hne : b ≠ s.heap.size := hA.1.ne
  have c4 : Steps p.tables e below (s₁.setTop (entryFrame m #[.ref b, .int (Int32.ofNat o), .int (Int32.ofNat len)] 6)) (T3.setTop (mkF m 3 #[.val (.ref b), .val (.int (Int32.ofNat o)), .val (.int (Int32.ofNat len)), .unset, .unset, .unset] [.ref s.heap.size])) := c2.trans (st3 _ (Steps.refl _))
  have c5 : Steps p.tables e below (s₁.setTop (entryFrame m #[.ref b, .int (Int32.ofNat o), .int (Int32.ofNat len)] 6)) (T3.setTop (mkF m 9 #[.val (.ref b), .val (.int (Int32.ofNat o)), .val (.int (Int32.ofNat len)), .val (.ref s.heap.size), .unset, .unset] [.int (Int32.ofNat len), .int 0, .ref s.heap.size, .int (Int32.ofNat o), .ref b])) := c4.trans (by
    refine XS.astoreN X3.here hexec rfl (hb hbytes d3) rfl rfl rfl ?_
    refine XS.aloadN X3.here hexec rfl (hb hbytes d4) rfl rfl ?_
    refine XS.iloadN X3.here hexec rfl (hb hbytes d5) rfl ?_
    refine XS.aloadN X3.here hexec rfl (hb hbytes d6) rfl rfl ?_
    refine iconstV X3.here hexec rfl 0 (hb hbytes d7) (by decide) ?_
    refine XS.iloadN X3.here hexec rfl (hb hbytes d8) rfl ?_
    exact Steps.refl _)
  obtain ⟨v6, T6, X6, E6, g6⟩ := X3.callS hexec (Cmp5.law l b A s.heap.size B3 o 0 len) hown (wks W (staticW U16 115 Cmp5.yN)) (wk W Cmp5.tab) (W := 0) (Nat.le_of_ble_eq_true rfl) (Nat.le_of_ble_eq_true rfl) (Nat.le_refl _) (by show 0 + len + 0 ≤ len; omega) (g := (mkF m 9 #[.val (.ref b), .val (.int (Int32.ofNat o)), .val (.int (Int32.ofNat len)), .val (.ref s.heap.size), .unset, .unset] [.int (Int32.ofNat len), .int (Int32.ofNat 0), .ref s.heap.size, .int (Int32.ofNat o), .ref b])) rfl (by rw [hml]; rfl) c5 (argsL := [.ref b, .int (Int32.ofNat o), .ref s.heap.size, .int (Int32.ofNat 0), .int (Int32.ofNat len)]) (rest := []) rfl rfl (by show 2 * 0 + 0 ≤ _; decide) (hb hbytes d9) (⟨rfl, hA3, ba3, hne, l1, by rw [bs3]; simp, hp⟩)
  obtain ⟨rfl, B6, p6, f6⟩ := E6
  have c7 : Steps p.tables e below (s₁.setTop (entryFrame m #[.ref b, .int (Int32.ofNat o), .int (Int32.ofNat len)] 6)) (T6.setTop (mkF m 12 #[.val (.ref b), .val (.int (Int32.ofNat o)), .val (.int (Int32.ofNat len)), .val (.ref s.heap.size), .unset, .unset] [.int (Int32.ofNat len)])) := g6
  have c8 : Steps p.tables e below (s₁.setTop (entryFrame m #[.ref b, .int (Int32.ofNat o), .int (Int32.ofNat len)] 6)) (T6.setTop (mkF m 58 #[.val (.ref b), .val (.int (Int32.ofNat o)), .val (.int (Int32.ofNat len)), .val (.ref s.heap.size), .val (.int (Int32.ofNat len)), .unset] [.ref s.heap.size])) := c7.trans (by
    refine XS.istore X6.here hexec rfl (hb hbytes d12) rfl rfl ?_
    refine XS.iload X6.here hexec rfl (hb hbytes d14) rfl ?_
    refine XS.iloadN X6.here hexec rfl (hb hbytes d16) rfl ?_
    refine XS.icmpYes X6.here hexec rfl (pc0 := 17) rfl (hb hbytes d17) rfl (ii_eq_t rfl) (by decide) rfl ?_
    refine XS.aloadN X6.here hexec rfl (hb hbytes d57) rfl rfl ?_
    exact Steps.refl _)
  have X8 := X6.wide (L' := []) (cells' := 1) (slots' := len) (fun x hx hlt => by
    simp only [List.nil_append, copyLocs, List.mem_map, List.mem_range] at hx
    obtain ⟨i, -, rfl⟩ := hx
    exact absurd hlt (Nat.lt_irrefl _)) (Nat.le_refl _) (by omega)
  exact ⟨T6, some (.ref s.heap.size), _, _, _, X8, rfl, rfl, rfl, (fun h => by cases h), ⟨⟨rfl, B6, ba3.like (X3.warmed.alike.symm.trans X6.warmed.alike) p6.1 f6.1 f6.2.1 f6.2.2.1, f6.2.1.trans bv3, by rw [X6.warmed.alike.findClass, f6.1]; exact bf3, by rw [f6.2.2.1, bs3]; simp, fun j hj => by rw [f6.2.2.2 j, if_pos (by omega)]; rfl, kp3.put p6 (Nat.le_refl _)⟩, by rw [p6.2.2, bh3, hh0]; simp⟩, fun fs hl => c8.trans (X8.areturnOut hexec rfl hret rfl (hb hbytes d58) hl)⟩
end Cmp3
namespace CodL
def yN : MethodName := ⟨"java/lang/StringUTF16", "coderFromArrayLen", "([BI)B"⟩
abbrev yB : ByteArray := jdk_52_method_15_code
theorem d0 : decode yB 0 = .ok (.iload_n 1, 1) := by decide +kernel
theorem d1 : decode yB 1 = .ok (.aload_n 0, 1) := by decide +kernel
theorem d2 : decode yB 2 = .ok (.arraylength, 1) := by decide +kernel
theorem d3 : decode yB 3 = .ok (.isub, 1) := by decide +kernel
theorem d4 : decode yB 4 = .ok (.bipush 31, 2) := by decide +kernel
theorem d6 : decode yB 6 = .ok (.iushr, 1) := by decide +kernel
theorem d7 : decode yB 7 = .ok (.i2b, 1) := by decide +kernel
theorem d8 : decode yB 8 = .ok (.ireturn, 1) := by decide +kernel
def site : List Cond := []
def tab : Cond := tabOf yN yB 2 (some .byte) site
def P (d : Addr) (B : Cell) (args : Array Value) (s : State) : Prop := args = #[.ref d, .int (Int32.ofNat B.slots.size)] ∧ Arr .byte d B s
def E (r : Option Value) (s u : State) : Prop := XT.PureE (some (.int 0)) r s u
/-- an array as long as the number of chars: LATIN1 -/
theorem law (l : Launch) (d : Addr) (B : Cell) : Law l yN 2 2 0 0 yB 2 (some .byte) site (P d B) E [] 0 0 := by
  refine Law.of_walk (plainFor_of_name (by decide +kernel)) (by decide +kernel) (by decide +kernel) (by decide) (fun _ _ h => by rw [h.1]; rfl) (fun _ U U' hal hh h => ⟨h.1, h.2.mv hal hh⟩) (fun r U U' V V' h1 hal h2 h => XT.PureE.mv r U U' V V' h1 hal h2 h) ?_
  intro p e s m args below meth c s₁ X0 hexec hbytes hml hret hlk hnm hown hh0 W hP
  obtain ⟨rfl, hB⟩ := hP
  have hB0 := hB.mv X0.warmed.alike hh0
  have c1 : Steps p.tables e below (s₁.setTop (entryFrame m #[.ref d, .int (Int32.ofNat B.slots.size)] 2)) (s₁.setTop (mkF m 0 #[.val (.ref d), .val (.int (Int32.ofNat B.slots.size))] [])) := entry rfl
  have c2 : Steps p.tables e below (s₁.setTop (entryFrame m #[.ref d, .int (Int32.ofNat B.slots.size)] 2)) (s₁.setTop (mkF m 2 #[.val (.ref d), .val (.int (Int32.ofNat B.slots.size))] [.ref d, .int (Int32.ofNat B.slots.size)])) := c1.trans (by
    refine XS.iloadN X0.here hexec rfl (hb hbytes d0) rfl ?_
    refine XS.aloadN X0.here hexec rfl (hb hbytes d1) rfl rfl ?_
    exact Steps.refl _)
  have c3 : Steps p.tables e below (s₁.setTop (entryFrame m #[.ref d, .int (Int32.ofNat B.slots.size)] 2)) (s₁.setTop (mkF m 8 #[.val (.ref d), .val (.int (Int32.ofNat B.slots.size))] [.int (lo8 (ushr (Int32.ofNat B.slots.size - Int32.ofNat B.slots.size) 31))])) := c2.trans (by
    refine X0.alen hexec hB0 rfl rfl (hb hbytes d2) ?_
    refine XS.isub X0.here hexec rfl (hb hbytes d3) rfl ?_
    refine bipushV X0.here hexec rfl 31 (hb hbytes d4) (by decide) ?_
    refine iushr X0.here hexec rfl (hb hbytes d6) rfl ?_
    refine i2b X0.here hexec rfl (hb hbytes d7) rfl ?_
    exact Steps.refl _)
  have e0 : lo8 (ushr (Int32.ofNat B.slots.size - Int32.ofNat B.slots.size) 31) = 0 := by rw [Int32.sub_self]; decide
  rw [e0] at c3
  exact ⟨s₁, some (.int 0), _, _, _, X0, rfl, rfl, rfl, (fun h => by cases h), ⟨rfl, hh0⟩, fun fs hl => c3.trans (X0.ireturnOut hexec hret rfl (Or.inr (Or.inr (Or.inl rfl))) (hb hbytes d8) hl)⟩
end CodL
/-- the String at a is Latin-1 over a new byte[] (the heap's one new cell): the low bytes of the len chars of A from o on; every cell but a is kept -/
def Got (a : Addr) (D : Cell) (fV fC : Field) (A : Cell) (o len : Nat) (r : Option Value) (s u : State) : Prop := r = none ∧ ∃ D' V : Cell, Blank "java/lang/String" a D' u ∧ Same D D' [fV.slot, fC.slot] ∧ D'.slots[fV.slot]? = some (.ref s.heap.size) ∧ D'.slots[fC.slot]? = some (.int 0) ∧ Arr .byte s.heap.size V u ∧ V.vm = .none ∧ u.vm.findClass "[B" = some V.cls ∧ V.slots.size = len ∧ (∀ j, j < len → V.slots[j]? = some (.int (lo8 (cv A (o + j))))) ∧ (∀ (y : Addr) (c : Cell), y ≠ a → s.heap[y]? = some c → u.heap[y]? = some c) ∧ u.heap.size = s.heap.size + 1
theorem Got.mv {a : Addr} {D A : Cell} {fV fC : Field} {o len : Nat} : ∀ r (U U' V V' : State), U'.heap = U.heap → V.vm.Alike V'.vm → V'.heap = V.heap → Got a D fV fC A o len r U V → Got a D fV fC A o len r U' V' :=
  fun r U U' V V' h1 hal h2 ⟨e0, D', X, a1, a2, a3, a4, a5, a6, a7, a8, a9, a10, a11⟩ => ⟨e0, D', X, a1.mv hal h2, a2, by rw [h1]; exact a3, a4, by rw [h1]; exact a5.mv hal h2, a6, by rw [hal.findClass]; exact a7, a8, a9, by rw [h1, h2]; exact a10, by rw [h1, h2]; exact a11⟩
namespace New4
def yN : MethodName := ⟨"java/lang/String", "<init>", "([CIILjava/lang/Void;)V"⟩
abbrev yB : ByteArray := jdk_42_method_149_code
theorem d0 : decode yB 0 = .ok (.aload_n 0, 1) := by decide +kernel
theorem d1 : decode yB 1 = .ok (.invokespecial 1, 3) := by decide +kernel
theorem d4 : decode yB 4 = .ok (.iload_n 3, 1) := by decide +kernel
theorem d5 : decode yB 5 = .ok (.ifCond (.ne) 22, 3) := by decide +kernel
theorem d27 : decode yB 27 = .ok (.getstatic 38, 3) := by decide +kernel
theorem d30 : decode yB 30 = .ok (.ifCond (.eq) 28, 3) := by decide +kernel
theorem d33 : decode yB 33 = .ok (.aload_n 1, 1) := by decide +kernel
theorem d34 : decode yB 34 = .ok (.iload_n 2, 1) := by decide +kernel
theorem d35 : decode yB 35 = .ok (.iload_n 3, 1) := by decide +kernel
theorem d36 : decode yB 36 = .ok (.invokestatic 177, 3) := by decide +kernel
theorem d39 : decode yB 39 = .ok (.astore 5, 2) := by decide +kernel
theorem d41 : decode yB 41 = .ok (.aload_n 0, 1) := by decide +kernel
theorem d42 : decode yB 42 = .ok (.aload 5, 2) := by decide +kernel
theorem d44 : decode yB 44 = .ok (.iload_n 3, 1) := by decide +kernel
theorem d45 : decode yB 45 = .ok (.invokestatic 47, 3) := by decide +kernel
theorem d48 : decode yB 48 = .ok (.putfield 15, 3) := by decide +kernel
theorem d51 : decode yB 51 = .ok (.aload_n 0, 1) := by decide +kernel
theorem d52 : decode yB 52 = .ok (.aload 5, 2) := by decide +kernel
theorem d54 : decode yB 54 = .ok (.putfield 9, 3) := by decide +kernel
theorem d57 : decode yB 57 = .ok (.return_, 1) := by decide +kernel
def site : List Cond := [.fieldLink "java/lang/String" 38 "java/lang/String" "COMPACT_STRINGS" "Z", Cmp3.tab, CodL.tab, .laysFinal "java/lang/String" "java/lang/String" "value" "[B", .fieldLink "java/lang/String" 9 "java/lang/String" "value" "[B", .laysFinal "java/lang/String" "java/lang/String" "coder" "B", .fieldLink "java/lang/String" 15 "java/lang/String" "coder" "B"] ++ objW "java/lang/String" 1 ++ staticW "java/lang/String" 177 Cmp3.yN ++ staticW "java/lang/String" 47 CodL.yN
def tab : Cond := tabOf yN yB 6 none site
def P (a : Addr) (D : Cell) (fV fC : Field) (b : Addr) (A : Cell) (z : Int32) (o len : Nat) (args : Array Value) (s : State) : Prop := args = #[.ref a, .ref b, .int (Int32.ofNat o), .int (Int32.ofNat len), .null] ∧ Blank "java/lang/String" a D s ∧ Found "java/lang/String" "value" "[B" fV s ∧ Found "java/lang/String" "coder" "B" fC s ∧ Ch b A s ∧ StaticIs s "java/lang/String" "COMPACT_STRINGS" "Z" (.int z) ∧ ¬ z = 0 ∧ 0 < len ∧ o + len ≤ A.slots.size ∧ len ≤ 536870912 ∧ ∀ i, i < len → ¬ 255 < cv A (o + i)
def E (a : Addr) (D : Cell) (fV fC : Field) (A : Cell) (o len : Nat) (r : Option Value) (s u : State) : Prop := Got a D fV fC A o len r s u
/-- len > 0, no char of the range above 255: a Latin-1 String of their low bytes -/
theorem law (l : Launch) (a : Addr) (D : Cell) (fV fC : Field) (b : Addr) (A : Cell) (z : Int32) (o len : Nat) : Law l yN 5 4 2 35 yB 6 none site (P a D fV fC b A z o len) (E a D fV fC A o len) [⟨a, fC.slot⟩, ⟨a, fV.slot⟩] 1 len := by
  refine Law.of_walk (plainFor_of_name (by decide +kernel)) (by decide +kernel) (by decide +kernel) (by decide) (fun _ _ h => by rw [h.1]; rfl) (fun _ U U' hal hh h => ⟨h.1, h.2.1.mv hal hh, h.2.2.1.al hal, h.2.2.2.1.al hal, h.2.2.2.2.1.mv hal hh, h.2.2.2.2.2.1.there hal hh, h.2.2.2.2.2.2⟩) (fun r U U' V V' h1 hal h2 h => Got.mv r U U' V V' h1 hal h2 h) ?_
  intro p e s m args below meth c s₁ X0 hexec hbytes hml hret hlk hnm hown hh0 W hP
  obtain ⟨rfl, hB, f1, f2, hA, s1, hz, l0, l1, l2, hp⟩ := hP
  have a31 := hA.1.2.2.2
  have c1 : Steps p.tables e below (s₁.setTop (entryFrame m #[.ref a, .ref b, .int (Int32.ofNat o), .int (Int32.ofNat len), .null] 6)) (s₁.setTop (mkF m 0 #[.val (.ref a), .val (.ref b), .val (.int (Int32.ofNat o)), .val (.int (Int32.ofNat len)), .val .null, .unset] [])) := entry rfl
  have c2 : Steps p.tables e below (s₁.setTop (entryFrame m #[.ref a, .ref b, .int (Int32.ofNat o), .int (Int32.ofNat len), .null] 6)) (s₁.setTop (mkF m 1 #[.val (.ref a), .val (.ref b), .val (.int (Int32.ofNat o)), .val (.int (Int32.ofNat len)), .val .null, .unset] [.ref a])) := c1.trans (by
    refine XS.aloadN X0.here hexec rfl (hb hbytes d0) rfl rfl ?_
    exact Steps.refl _)
  obtain ⟨T3, X3, q3, st3⟩ := X0.oinit hexec hown (wks W (objW "java/lang/String" 1)) (g := (mkF m 1 #[.val (.ref a), .val (.ref b), .val (.int (Int32.ofNat o)), .val (.int (Int32.ofNat len)), .val .null, .unset] [.ref a])) rfl (by rw [hml]; rfl) (rest := []) rfl (hb hbytes d1) (W := 0) (by show 2 * 0 + 0 ≤ _; decide) (Nat.le_of_ble_eq_true rfl) (Nat.le_of_ble_eq_true rfl)
  have hh3 := q3.trans hh0
  have c4 : Steps p.tables e below (s₁.setTop (entryFrame m #[.ref a, .ref b, .int (Int32.ofNat o), .int (Int32.ofNat len), .null] 6)) (T3.setTop (mkF m 27 #[.val (.ref a), .val (.ref b), .val (.int (Int32.ofNat o)), .val (.int (Int32.ofNat len)), .val .null, .unset] [])) := (c2.trans (st3 _ (Steps.refl _))).trans (by
    refine XS.iloadN X3.here hexec rfl (hb hbytes d4) rfl ?_
    refine XS.ifYes X3.here hexec rfl (pc0 := 5) rfl (hb hbytes d5) rfl (i0_ne_t (nz32 (by omega) l0)) (by decide) rfl ?_
    exact Steps.refl _)
  obtain ⟨T5, X5, q5, st5⟩ := X3.sget hexec hown (wk W (.fieldLink "java/lang/String" 38 "java/lang/String" "COMPACT_STRINGS" "Z")) s1 (fun _ _ h => by rw [hh3]; exact h) (g := (mkF m 27 #[.val (.ref a), .val (.ref b), .val (.int (Int32.ofNat o)), .val (.int (Int32.ofNat len)), .val .null, .unset] [])) rfl (hb hbytes d27)
  have hh5 := q5.trans hh3
  have c6 : Steps p.tables e below (s₁.setTop (entryFrame m #[.ref a, .ref b, .int (Int32.ofNat o), .int (Int32.ofNat len), .null] 6)) (T5.setTop (mkF m 30 #[.val (.ref a), .val (.ref b), .val (.int (Int32.ofNat o)), .val (.int (Int32.ofNat len)), .val .null, .unset] [.int z])) := c4.trans (st5 _ (Steps.refl _))
  have c7 : Steps p.tables e below (s₁.setTop (entryFrame m #[.ref a, .ref b, .int (Int32.ofNat o), .int (Int32.ofNat len), .null] 6)) (T5.setTop (mkF m 36 #[.val (.ref a), .val (.ref b), .val (.int (Int32.ofNat o)), .val (.int (Int32.ofNat len)), .val .null, .unset] [.int (Int32.ofNat len), .int (Int32.ofNat o), .ref b])) := c6.trans (by
    refine XS.ifNo X5.here hexec rfl (hb hbytes d30) rfl (i0_eq_f hz) ?_
    refine XS.aloadN X5.here hexec rfl (hb hbytes d33) rfl rfl ?_
    refine XS.iloadN X5.here hexec rfl (hb hbytes d34) rfl ?_
    refine XS.iloadN X5.here hexec rfl (hb hbytes d35) rfl ?_
    exact Steps.refl _)
  obtain ⟨v8, T8, X8, E8, g8⟩ := X5.callS hexec (Cmp3.law l b A o len) hown (wks W (staticW "java/lang/String" 177 Cmp3.yN)) (wk W Cmp3.tab) (W := 0) (Nat.le_of_ble_eq_true rfl) (Nat.le_of_ble_eq_true rfl) (Nat.le_refl _) (by show 0 + len ≤ len; omega) (g := (mkF m 36 #[.val (.ref a), .val (.ref b), .val (.int (Int32.ofNat o)), .val (.int (Int32.ofNat len)), .val .null, .unset] [.int (Int32.ofNat len), .int (Int32.ofNat o), .ref b])) rfl (by rw [hml]; rfl) c7 (argsL := [.ref b, .int (Int32.ofNat o), .int (Int32.ofNat len)]) (rest := []) rfl rfl (by show 2 * 0 + 0 ≤ _; decide) (hb hbytes d36) (⟨rfl, hA.mv X5.warmed.alike hh5, l1, l2, hp⟩)
  obtain ⟨e8, z8⟩ := E8
  obtain ⟨rfl, N, n1, n2, n3, n4, n5, n6⟩ := NewArr.mv _ T5 s _ _ hh5.symm (Vm.Alike.refl _) rfl e8
  rw [hh5] at z8
  have hB1 := hB.keep X8.warmed.alike (n6 _ _ hB.1)
  have hne : s.heap.size ≠ a := (Nat.ne_of_lt (Array.getElem?_eq_some_iff.mp hB.1).1).symm
  have c9 : Steps p.tables e below (s₁.setTop (entryFrame m #[.ref a, .ref b, .int (Int32.ofNat o), .int (Int32.ofNat len), .null] 6)) (T8.setTop (mkF m 39 #[.val (.ref a), .val (.ref b), .val (.int (Int32.ofNat o)), .val (.int (Int32.ofNat len)), .val .null, .unset] [.ref s.heap.size])) := g8
  have c10 : Steps p.tables e below (s₁.setTop (entryFrame m #[.ref a, .ref b, .int (Int32.ofNat o), .int (Int32.ofNat len), .null] 6)) (T8.setTop (mkF m 45 #[.val (.ref a), .val (.ref b), .val (.int (Int32.ofNat o)), .val (.int (Int32.ofNat len)), .val .null, .val (.ref s.heap.size)] [.int (Int32.ofNat N.slots.size), .ref s.heap.size, .ref a])) := by
    have hc : Steps p.tables e below (s₁.setTop (entryFrame m #[.ref a, .ref b, .int (Int32.ofNat o), .int (Int32.ofNat len), .null] 6)) (T8.setTop (mkF m 45 #[.val (.ref a), .val (.ref b), .val (.int (Int32.ofNat o)), .val (.int (Int32.ofNat len)), .val .null, .val (.ref s.heap.size)] [.int (Int32.ofNat len), .ref s.heap.size, .ref a])) := c9.trans (by
      refine XS.astore X8.here hexec rfl (hb hbytes d39) rfl rfl rfl ?_
      refine XS.aloadN X8.here hexec rfl (hb hbytes d41) rfl rfl ?_
      refine XS.aload X8.here hexec rfl (hb hbytes d42) rfl rfl ?_
      refine XS.iloadN X8.here hexec rfl (hb hbytes d44) rfl ?_
      exact Steps.refl _)
    rw [n4]; exact hc
  obtain ⟨v11, T11, X11, E11, g11⟩ := X8.callS hexec (CodL.law l s.heap.size N) hown (wks W (staticW "java/lang/String" 47 CodL.yN)) (wk W CodL.tab) (W := 1) (Nat.le_of_ble_eq_true rfl) (Nat.le_of_ble_eq_true rfl) (Nat.le_refl _) (by show 0 + len + 0 ≤ len; omega) (g := (mkF m 45 #[.val (.ref a), .val (.ref b), .val (.int (Int32.ofNat o)), .val (.int (Int32.ofNat len)), .val .null, .val (.ref s.heap.size)] [.int (Int32.ofNat N.slots.size), .ref s.heap.size, .ref a])) rfl (by rw [hml]; rfl) c10 (argsL := [.ref s.heap.size, .int (Int32.ofNat N.slots.size)]) (rest := [.ref a]) rfl rfl (by show 2 * 0 + (1 + 0) ≤ _; decide) (hb hbytes d45) (⟨rfl, n1⟩)
  obtain ⟨rfl, q11⟩ := E11
  have hB11 := hB1.mv (X8.warmed.alike.symm.trans X11.warmed.alike) q11
  have c12 : Steps p.tables e below (s₁.setTop (entryFrame m #[.ref a, .ref b, .int (Int32.ofNat o), .int (Int32.ofNat len), .null] 6)) (T11.setTop (mkF m 48 #[.val (.ref a), .val (.ref b), .val (.int (Int32.ofNat o)), .val (.int (Int32.ofNat len)), .val .null, .val (.ref s.heap.size)] [.int 0, .ref a])) := g11
  obtain ⟨T13, X13, p13, bl13, sl13, st13⟩ := X11.finit hexec hown (wk W (.fieldLink "java/lang/String" 15 "java/lang/String" "coder" "B")) (Or.inr ⟨_, (wk W (.laysFinal "java/lang/String" "java/lang/String" "coder" "B"))⟩) (Or.inl ⟨rfl, hnm⟩) f2 (Or.inl rfl) hB11 (t := .byte) (by decide +kernel) rfl (g := (mkF m 48 #[.val (.ref a), .val (.ref b), .val (.int (Int32.ofNat o)), .val (.int (Int32.ofNat len)), .val .null, .val (.ref s.heap.size)] [.int 0, .ref a])) rfl (rest := []) rfl (hb hbytes d48)
  have c14 : Steps p.tables e below (s₁.setTop (entryFrame m #[.ref a, .ref b, .int (Int32.ofNat o), .int (Int32.ofNat len), .null] 6)) (T13.setTop (mkF m 54 #[.val (.ref a), .val (.ref b), .val (.int (Int32.ofNat o)), .val (.int (Int32.ofNat len)), .val .null, .val (.ref s.heap.size)] [.ref s.heap.size, .ref a])) := (c12.trans (st13 _ (Steps.refl _))).trans (by
    refine XS.aloadN X13.here hexec rfl (hb hbytes d51) rfl rfl ?_
    refine XS.aload X13.here hexec rfl (hb hbytes d52) rfl rfl ?_
    exact Steps.refl _)
  obtain ⟨T15, X15, p15, bl15, sl15, st15⟩ := X13.finit hexec hown (wk W (.fieldLink "java/lang/String" 9 "java/lang/String" "value" "[B")) (Or.inr ⟨_, (wk W (.laysFinal "java/lang/String" "java/lang/String" "value" "[B"))⟩) (Or.inl ⟨rfl, hnm⟩) f1 (Or.inl rfl) bl13 (t := (.array .byte)) (by decide +kernel) rfl (g := (mkF m 54 #[.val (.ref a), .val (.ref b), .val (.int (Int32.ofNat o)), .val (.int (Int32.ofNat len)), .val .null, .val (.ref s.heap.size)] [.ref s.heap.size, .ref a])) rfl (rest := []) rfl (hb hbytes d54)
  have c16 : Steps p.tables e below (s₁.setTop (entryFrame m #[.ref a, .ref b, .int (Int32.ofNat o), .int (Int32.ofNat len), .null] 6)) (T15.setTop (mkF m 57 #[.val (.ref a), .val (.ref b), .val (.int (Int32.ofNat o)), .val (.int (Int32.ofNat len)), .val .null, .val (.ref s.heap.size)] [])) := c14.trans (st15 _ (Steps.refl _))
  have ap := apart (Or.inr ⟨_, (wk W (.laysFinal "java/lang/String" "java/lang/String" "value" "[B"))⟩) (Or.inr ⟨_, (wk W (.laysFinal "java/lang/String" "java/lang/String" "coder" "B"))⟩) f1 f2 (t₁ := .array .byte) (t₂ := .byte) (by decide +kernel) (by decide +kernel) (by decide)
  have al := X8.warmed.alike.symm.trans X15.warmed.alike
  have n7 : T11.heap[s.heap.size]? = some N := by rw [q11]; exact n1.1
  exact ⟨T15, none, _, _, _, X15, by simp, rfl, by omega, (fun _ => rfl), ⟨rfl, _, N, bl15, ((Same.refl D _).set _ (by simp)).set _ (by simp), sl15, (Cell.slots_setSlot_ne _ ap).trans sl13, n1.keep al (p15.other hne (p13.other hne n7)), n2, by rw [al.findClass]; exact n3, n4, n5, fun y c h1 h2 => p15.other h1 (p13.other h1 (by rw [q11]; exact n6 y c h2)), by rw [p15.2.2, p13.2.2, q11]; exact z8⟩, fun fs hl => c16.trans (X15.returnOut hexec hret (hb hbytes d57) hl)⟩
end New4
namespace New1
def yN : MethodName := ⟨"java/lang/String", "<init>", "([C)V"⟩
abbrev yB : ByteArray := jdk_42_method_3_code
theorem d0 : decode yB 0 = .ok (.aload_n 0, 1) := by decide +kernel
theorem d1 : decode yB 1 = .ok (.aload_n 1, 1) := by decide +kernel
theorem d2 : decode yB 2 = .ok (.iconst 0, 1) := by decide +kernel
theorem d3 : decode yB 3 = .ok (.aload_n 1, 1) := by decide +kernel
theorem d4 : decode yB 4 = .ok (.arraylength, 1) := by decide +kernel
theorem d5 : decode yB 5 = .ok (.aconst_null, 1) := by decide +kernel
theorem d6 : decode yB 6 = .ok (.invokespecial 27, 3) := by decide +kernel
theorem d9 : decode yB 9 = .ok (.return_, 1) := by decide +kernel
def site : List Cond := [New4.tab] ++ initW "java/lang/String" 27 New4.yN
def tab : Cond := tabOf yN yB 2 none site
def P (a : Addr) (D : Cell) (fV fC : Field) (b : Addr) (A : Cell) (z : Int32) (args : Array Value) (s : State) : Prop := args = #[.ref a, .ref b] ∧ Blank "java/lang/String" a D s ∧ Found "java/lang/String" "value" "[B" fV s ∧ Found "java/lang/String" "coder" "B" fC s ∧ Ch b A s ∧ StaticIs s "java/lang/String" "COMPACT_STRINGS" "Z" (.int z) ∧ ¬ z = 0 ∧ 0 < A.slots.size ∧ A.slots.size ≤ 536870912 ∧ ∀ i, i < A.slots.size → ¬ 255 < cv A i
def E (a : Addr) (D : Cell) (fV fC : Field) (A : Cell) (r : Option Value) (s u : State) : Prop := Got a D fV fC A 0 A.slots.size r s u
/-- new String(chars), not empty, no char above 255: a Latin-1 String of their low bytes -/
theorem law (l : Launch) (a : Addr) (D : Cell) (fV fC : Field) (b : Addr) (A : Cell) (z : Int32) : Law l yN 2 1 3 52 yB 2 none site (P a D fV fC b A z) (E a D fV fC A) [⟨a, fC.slot⟩, ⟨a, fV.slot⟩] 1 A.slots.size := by
  refine Law.of_walk (plainFor_of_name (by decide +kernel)) (by decide +kernel) (by decide +kernel) (by decide) (fun _ _ h => by rw [h.1]; rfl) (fun _ U U' hal hh h => ⟨h.1, h.2.1.mv hal hh, h.2.2.1.al hal, h.2.2.2.1.al hal, h.2.2.2.2.1.mv hal hh, h.2.2.2.2.2.1.there hal hh, h.2.2.2.2.2.2⟩) (fun r U U' V V' h1 hal h2 h => Got.mv r U U' V V' h1 hal h2 h) ?_
  intro p e s m args below meth c s₁ X0 hexec hbytes hml hret hlk hnm hown hh0 W hP
  obtain ⟨rfl, hB, f1, f2, hA, s1, hz, l0, l2, hp⟩ := hP
  have c1 : Steps p.tables e below (s₁.setTop (entryFrame m #[.ref a, .ref b] 2)) (s₁.setTop (mkF m 0 #[.val (.ref a), .val (.ref b)] [])) := entry rfl
  have c2 : Steps p.tables e below (s₁.setTop (entryFrame m #[.ref a, .ref b] 2)) (s₁.setTop (mkF m 6 #[.val (.ref a), .val (.ref b)] [.null, .int (Int32.ofNat A.slots.size), .int 0, .ref b, .ref a])) := c1.trans (by
    refine XS.aloadN X0.here hexec rfl (hb hbytes d0) rfl rfl ?_
    refine XS.aloadN X0.here hexec rfl (hb hbytes d1) rfl rfl ?_
    refine iconstV X0.here hexec rfl 0 (hb hbytes d2) (by decide) ?_
    refine XS.aloadN X0.here hexec rfl (hb hbytes d3) rfl rfl ?_
    refine X0.alen hexec (hA.1.mv X0.warmed.alike hh0) rfl rfl (hb hbytes d4) ?_
    refine XS.aconstNull X0.here hexec rfl (hb hbytes d5) ?_
    exact Steps.refl _)
  obtain ⟨v3, T3, X3, E3, g3⟩ := X0.callN hexec (New4.law l a D fV fC b A z 0 A.slots.size) rfl hown (wks W (initW "java/lang/String" 27 New4.yN)) (W New4.tab (by simp only [site, List.mem_cons, List.mem_append, true_or, or_true])) (W := 0) (Nat.le_of_ble_eq_true rfl) (Nat.le_of_ble_eq_true rfl) (Nat.le_refl _) (by show 0 + A.slots.size ≤ A.slots.size; omega) (g := (mkF m 6 #[.val (.ref a), .val (.ref b)] [.null, .int (Int32.ofNat A.slots.size), .int (Int32.ofNat 0), .ref b, .ref a])) rfl (by rw [hml]; rfl) c2 (argsL := [.ref b, .int (Int32.ofNat 0), .int (Int32.ofNat A.slots.size), .null]) (rest := []) rfl rfl (by show 2 * 0 + 0 ≤ _; decide) (hb hbytes d6) (⟨rfl, hB.mv X0.warmed.alike hh0, f1.al X0.warmed.alike, f2.al X0.warmed.alike, hA.mv X0.warmed.alike hh0, s1.there X0.warmed.alike hh0, hz, l0, by omega, l2, fun i hi => by rw [Nat.zero_add]; exact hp i hi⟩)
  have e0 := Got.mv _ s₁ s _ _ hh0.symm (Vm.Alike.refl _) rfl E3
  obtain rfl := e0.1
  have c4 : Steps p.tables e below (s₁.setTop (entryFrame m #[.ref a, .ref b] 2)) (T3.setTop (mkF m 9 #[.val (.ref a), .val (.ref b)] [])) := g3
  exact ⟨T3, none, _, _, _, X3, by simp, rfl, by omega, (fun _ => rfl), e0, fun fs hl => c4.trans (X3.returnOut hexec hret (hb hbytes d9) hl)⟩
theorem pays {l : Launch} {R : Room} {p : Program} {e : Env} {below : List Frame} {s : State} {sargs : Array Value} {len W : Nat} (a : Addr) (D : Cell) (fV fC : Field) (b : Addr) (A : Cell) (z : Int32) (htab : tab.before sargs s = true) (hfr : 4 ≤ R.frames) (hlo : W + 65 ≤ R.locals) :
    Back l R p e below s sargs yN len W (fun A₁ a₁ => A₁.cells + 1 ≤ R.cells ∧ A₁.slots + A.slots.size ≤ R.slots ∧ P a D fV fC b A z a₁ A₁.U) (fun A₁ _ v₁ B₁ => E a D fV fC A v₁ A₁.U B₁.U ∧ B₁.locs = A₁.locs ++ [⟨a, fC.slot⟩, ⟨a, fV.slot⟩] ∧ B₁.cells = A₁.cells + 1 ∧ B₁.slots = A₁.slots + A.slots.size) :=
  (law l a D fV fC b A z).pays htab hfr (by omega)
end New1
/-- the byte, read back as charAt reads it, is the char -/
theorem lo8_mask {x : Int32} (h0 : ¬ x < 0) (h1 : ¬ 255 < x) : lo8 x &&& 255 = x := by
  have t : ∀ k : Fin 256, lo8 (Int32.ofNat k.val) &&& 255 = Int32.ofNat k.val := by decide +kernel
  rw [Int32.lt_iff_toInt_lt] at h0 h1
  have e0 : (0 : Int32).toInt = 0 := rfl
  have e1 : (255 : Int32).toInt = 255 := rfl
  obtain ⟨k, hk⟩ : ∃ k : Nat, x.toInt = k := ⟨x.toInt.toNat, by omega⟩
  have hx : x = Int32.ofNat k := Int32.toInt_inj.mp (by rw [hk, Int32.toInt_ofNat_small (by omega)])
  rw [hx]
  exact t ⟨k, by omega⟩
end StrChars
namespace StrChars.Road
open Jvm Sem ClassFile Op Lib Jvm.Stand Jvm.Free Jvm.Free.XT
open Jvm.Lib.Cold (StaticIs)
abbrev ST : String := "java/lang/String"
/-- every table word that New1's law asks, flat -/
abbrev words : List Jvm.Cond := [.code New1.yN New1.yB 2 none, .initialized ST, .methodLink ST 27 New4.yN, .instanceMethod New4.yN,
  .code New4.yN New4.yB 6 none, .fieldLink ST 38 ST "COMPACT_STRINGS" "Z", .laysFinal ST ST "value" "[B", .fieldLink ST 9 ST "value" "[B", .laysFinal ST ST "coder" "B", .fieldLink ST 15 ST "coder" "B",
  .methodLink ST 1 Lib.objectInit, .instanceMethod Lib.objectInit, .code Lib.objectInit ⟨#[0xb1]⟩ 1 none, .methodLink ST 177 Cmp3.yN, .static Cmp3.yN, .methodLink ST 47 CodL.yN, .static CodL.yN,
  .code Cmp3.yN Cmp3.yB 6 (some (.array .byte)), .initialized U16, .arrayClass .byte, .methodLink U16 115 Cmp5.yN, .static Cmp5.yN, .code Cmp5.yN Cmp5.yB 7 (some .int), .code CodL.yN CodL.yB 2 (some .byte)]
theorem tab_of {a : Array Value} {s : State} (h : ∀ w ∈ words, w.before a s = true) : New1.tab.before a s = true := by
  have h5 : Cmp5.tab.before a s = true := unparts (wk h (.code Cmp5.yN Cmp5.yB 7 (some .int))) (wks h (.initialized Cmp5.yN.cls :: Cmp5.site))
  have hc : CodL.tab.before a s = true := unparts (wk h (.code CodL.yN CodL.yB 2 (some .byte))) (wks h (.initialized CodL.yN.cls :: CodL.site))
  have q5 : ∀ w ∈ Cmp5.tab :: words, w.before a s = true := fun w hw => (List.mem_cons.mp hw).elim (fun e => e ▸ h5) (h w)
  have h3 : Cmp3.tab.before a s = true := unparts (wk q5 (.code Cmp3.yN Cmp3.yB 6 (some (.array .byte)))) (wks q5 (.initialized Cmp3.yN.cls :: Cmp3.site))
  have q3 : ∀ w ∈ Cmp3.tab :: CodL.tab :: words, w.before a s = true := fun w hw => (List.mem_cons.mp hw).elim (fun e => e ▸ h3) fun hw => (List.mem_cons.mp hw).elim (fun e => e ▸ hc) (h w)
  have h4 : New4.tab.before a s = true := unparts (wk q3 (.code New4.yN New4.yB 6 none)) (wks q3 (.initialized New4.yN.cls :: New4.site))
  have q4 : ∀ w ∈ New4.tab :: words, w.before a s = true := fun w hw => (List.mem_cons.mp hw).elim (fun e => e ▸ h4) (h w)
  exact unparts (wk q4 (.code New1.yN New1.yB 2 none)) (wks q4 (.initialized New1.yN.cls :: New1.site))
/-- the words ride from the start Z to the walk's own state -/
theorem moved {Z s : State} {a0 args : Array Value} (hZ : Z.Warmed39 s.vm) (hw : ∀ d ∈ words, d.before a0 Z = true) : ∀ d ∈ words, d.before args s = true := fun d hd => by
  have q := hw d hd
  have t : ∀ d ∈ words, d = .arrayClass .byte ∨ (d.onTables && d.keepsFace) = true := by decide +kernel
  rcases t d hd with rfl | t
  · exact RoadKit.mvA hZ q
  · exact RoadKit.mv hZ q t
/-- WHAT COMES BACK, over the tables of the start Z: h the heap at the call, h' behind it -/
def Q (Z : State) (x : Addr) (A : Cell) (h : Heap) (v : Option Value) (h' : Heap) (L : List Loc) : Prop := v = none ∧ (∀ y ∈ L, y.base = x) ∧ RoadKit.Keep h h' [x] ∧ h'.size = h.size + 1 ∧ RoadKit.Exa Z h' x ST ∧ RoadKit.Fld Z h' x ST "value" "[B" (.ref h.size) ∧ RoadKit.Fld Z h' x ST "coder" "B" (.int 0) ∧
  (∃ V : Cell, RoadKit.Arr Z h' h.size V .byte ∧ V.vm = .none ∧ Z.vm.findClass "[B" = some V.cls ∧ V.slots.size = A.slots.size ∧ ∀ j, j < A.slots.size → V.slots[j]? = some (.int (lo8 (cv A j)))) ∧
  ∀ (O n d : String) (w : Value), RoadKit.Fld Z h x O n d w → RoadKit.slotOf Z O n d ≠ RoadKit.slotOf Z ST "value" "[B" → RoadKit.slotOf Z O n d ≠ RoadKit.slotOf Z ST "coder" "B" → RoadKit.Fld Z h' x O n d w
/-- **new String(chars) AT A CALL, IN THE ROAD'S FORM**: for specialBack behind newO: x the fresh String, b the char[] with the cell A -/
theorem back {p : Program} {l : Launch} {e : Env} {R : Room} {s : State} {args : Array Value} {below : List Frame} {len W : Nat} {Z : State} {a0 : Array Value} {h : Heap} (hZ : Z.Warmed39 s.vm) (hw : ∀ d ∈ words, d.before a0 Z = true) {kI : Nat} (wi : (Jvm.Cond.instantiable ST kI).before a0 Z = true)
    {x b : Addr} {A : Cell} {z : Int32} {v0 c0 : Value} (E : RoadKit.Exa Z h x ST) (V : RoadKit.Fld Z h x ST "value" "[B" v0) (C : RoadKit.Fld Z h x ST "coder" "B" c0) (K : RoadKit.Arr Z h b A .char) (hty : Typed .char A) (S : RoadKit.Sta Z h ST "COMPACT_STRINGS" "Z" (.int z)) (hz : ¬ z = 0)
    (l0 : 0 < A.slots.size) (l2 : A.slots.size ≤ 536870912) (hp : ∀ i, i < A.slots.size → ¬ 255 < cv A i) (hfr : 4 ≤ R.frames) (hlo : W + 65 ≤ R.locals) :
    Back l R p e below s args New1.yN len W (fun P a => a = #[.ref x, .ref b] ∧ P.U.heap = h ∧ P.cells + 1 ≤ R.cells ∧ P.slots + A.slots.size ≤ R.slots)
      (fun P _ v B => ∃ L, Q Z x A h v B.U.heap L ∧ B.locs = P.locs ++ L ∧ B.cells = P.cells + 1 ∧ B.slots = P.slots + A.slots.size) := by
  intro m meth c P g ig mk a X hg hsize hdg hW hn hp'
  obtain ⟨rfl, rfl, r1, r2⟩ := hp'
  have al : Z.vm.Alike P.U.vm := hZ.alike.trans X.warmed.alike
  obtain ⟨D, cfV, kV, iV, fV, hD, gV, stV, knV, obV, asV, slV⟩ := id V
  obtain ⟨D', cfC, kC, iC, fC, hD', gC, stC, -, -, asC, slC⟩ := id C
  cases hD.symm.trans hD'
  obtain ⟨D2, kD, e1, e2, e3, e4, e5⟩ := id E
  cases hD.symm.trans e1
  obtain ⟨c2, k2, i1, i2, i3, -⟩ := Cond.instantiable_spec wi
  cases e2.symm.trans i1
  cases e3.symm.trans i2
  obtain ⟨kU, u1, u2⟩ := al.2.2 _ _ e3
  have hB : Blank ST x D P.U := ⟨hD, ⟨knV, fun q hq => by rw [hq] at obV; cases obV⟩, by rw [al.findClass]; exact e2, kU, u1, by rw [u2]; exact i3, by rw [u2]; exact e5 i3⟩
  have F1 : Found ST "value" "[B" fV P.U := ⟨SBG.found_only al ⟨cfV, kV, iV, gV⟩, stV⟩
  have F2 : Found ST "coder" "B" fC P.U := ⟨SBG.found_only al ⟨cfC, kC, iC, gC⟩, stC⟩
  have hA : Ch b A P.U := ⟨⟨K.1, State.isArrayOf_alike al K.2.1, K.2.2, by omega⟩, hty⟩
  have hS : StaticIs P.U ST "COMPACT_STRINGS" "Z" (.int z) := by
    obtain ⟨cfS, iS, kS, fS, st, cS, t1, t2, t3, t4, t5, t6, t7⟩ := S
    exact StaticIs.there (s := { Z with heap := P.U.heap }) ⟨cfS, iS, kS, fS, st, cS, t1, t2, t3, t4, t5, (fun q => by rw [q] at t6; cases t6), t7⟩ al rfl
  obtain ⟨v, B, X', ⟨⟨hv, E', V', q1, q2, q3, q4, q5, q6, q7, q8, q9, q10, q11⟩, hl, hc, hs⟩, st⟩ := New1.pays x D fV fC b A z (tab_of (moved hZ hw)) hfr hlo m meth c P g ig mk _ X hg hsize hdg hW hn ⟨r1, r2, rfl, hB, F1, F2, hA, hS, hz, l0, l2, hp⟩
  have al' : Z.vm.Alike B.U.vm := hZ.alike.trans X'.warmed.alike
  have hsz : E'.slots.size = D.slots.size := by
    obtain ⟨-, -, -, kB, w1, w2, w3⟩ := q1
    obtain ⟨kB', y1, y2⟩ := al'.2.2 _ _ e3
    rw [q2.2.1] at w1
    cases w1.symm.trans y1
    rw [w3, e5 i3, y2]
  refine ⟨v, B, X', ⟨_, ⟨hv, ?_, ⟨by omega, fun y cy hy hn' => q10 y cy (by simpa using hn') hy, fun y cy hy => ?_⟩, q11, ⟨E', _, q1.1, by rw [q2.2.1]; exact e2, by rw [q2.2.1]; exact e3, by rw [q2.1]; exact obV, fun _ => by rw [hsz]; exact e5 i3⟩,
    ⟨E', cfV, kV, iV, fV, q1.1, gV, stV, by rw [q2.1]; exact knV, by rw [q2.1]; exact obV, by rw [q2.2.1]; exact asV, q3⟩, ⟨E', cfC, kC, iC, fC, q1.1, gC, stC, by rw [q2.1]; exact knV, by rw [q2.1]; exact obV, by rw [q2.2.1]; exact asC, q4⟩,
    ⟨V', ⟨q5.1, State.isArrayOf_alike al'.symm q5.2.1, q5.2.2.1⟩, q6, by rw [← al'.findClass]; exact q7, q8, fun j hj => by have := q9 j hj; rwa [Nat.zero_add] at this⟩, fun O n d w F n1 n2 => ?_⟩, hl, hc, hs⟩, st⟩
  · intro y hy
    simp only [List.mem_cons, List.not_mem_nil, or_false] at hy
    rcases hy with rfl | rfl <;> rfl
  · by_cases q : y = x
    · subst q
      cases hD.symm.trans hy
      exact ⟨E', q1.1, q2.2.1, q2.1, hsz⟩
    · exact ⟨cy, q10 y cy q hy, rfl, rfl, rfl⟩
  · obtain ⟨D3, cf, k, i, f, g1, g2, g3, g4, g5, g6, g7⟩ := F
    cases hD.symm.trans g1
    simp only [RoadKit.slotOf, g2, gV, gC, Option.map_some, Option.getD_some] at n1 n2
    exact ⟨E', cf, k, i, f, q1.1, g2, g3, by rw [q2.1]; exact g4, by rw [q2.1]; exact g5, by rw [q2.2.1]; exact g6, by rw [q2.2.2 f.slot (by simp [n1, n2])]; exact g7⟩
end StrChars.Road
namespace StrChars.Road
open Jvm Sem ClassFile Op Lib Jvm.Stand Jvm.Free Jvm.Free.XT
/-- WHAT COMES BACK, the byte[] as a list of values -/
def QA (Z : State) (x : Addr) (zn : Int32) (cs : List Int32) (h : Heap) (v : Option Value) (h' : Heap) (L : List Loc) : Prop := v = none ∧ (∀ y ∈ L, y.base = x) ∧ RoadKit.Keep h h' [x] ∧ h'.size = h.size + 1 ∧ RoadKit.Exa Z h' x ST ∧ RoadKit.Fld Z h' x ST "value" "[B" (.ref h.size) ∧ RoadKit.Fld Z h' x ST "coder" "B" (.int 0) ∧
  (∃ kb, Z.vm.findClass "[B" = some kb ∧ RoadKit.Arv Z h' h.size kb .byte zn (cs.map fun c => .int (lo8 c)) (.int 0)) ∧
  ∀ (O n d : String) (w : Value), RoadKit.Fld Z h x O n d w → RoadKit.slotOf Z O n d ≠ RoadKit.slotOf Z ST "value" "[B" → RoadKit.slotOf Z O n d ≠ RoadKit.slotOf Z ST "coder" "B" → RoadKit.Fld Z h' x O n d w
/-- **new String(chars) AT A CALL, THE ARRAYS AS LISTS**: the char[] at b holds cs, not empty, no char above 255 -/
theorem backArv {p : Program} {l : Launch} {e : Env} {R : Room} {s : State} {args : Array Value} {below : List Frame} {len W : Nat} {Z : State} {a0 : Array Value} {h : Heap} (hZ : Z.Warmed39 s.vm) (hw : ∀ d ∈ words, d.before a0 Z = true) {kI : Nat} (wi : (Jvm.Cond.instantiable ST kI).before a0 Z = true)
    {x b : Addr} {k : ClassId} {zn z : Int32} {cs : List Int32} {dv v0 c0 : Value} (E : RoadKit.Exa Z h x ST) (V : RoadKit.Fld Z h x ST "value" "[B" v0) (C : RoadKit.Fld Z h x ST "coder" "B" c0) (K : RoadKit.Arv Z h b k .char zn (cs.map Value.int) dv) (S : RoadKit.Sta Z h ST "COMPACT_STRINGS" "Z" (.int z)) (hz : ¬ z = 0)
    (hlen : zn.toNatClampNeg = cs.length) (h0 : 0 < cs.length) (hbig : cs.length ≤ 536870912) (hall : ∀ c ∈ cs, ¬ 255 < c) (hfr : 4 ≤ R.frames) (hlo : W + 65 ≤ R.locals) :
    Back l R p e below s args New1.yN len W (fun P a => a = #[.ref x, .ref b] ∧ P.U.heap = h ∧ P.cells + 1 ≤ R.cells ∧ P.slots + cs.length ≤ R.slots)
      (fun P _ v B => ∃ L, QA Z x zn cs h v B.U.heap L ∧ B.locs = P.locs ++ L ∧ B.cells = P.cells + 1 ∧ B.slots = P.slots + cs.length) := by
  obtain ⟨A, K1, K2, K3, K4, K5, K6⟩ := K
  have e : A.slots.size = cs.length := K3.trans hlen
  have hat : ∀ (i : Nat) (hi : i < cs.length), A.slots[i]? = some (.int cs[i]) := fun i hi => by rw [K5 i (by omega)]; simp [List.getD_eq_getElem?_getD, hi]
  have hcv : ∀ (i : Nat) (hi : i < cs.length), cv A i = cs[i] := fun i hi => by unfold cv; rw [hat i hi]
  have hty : Typed .char A := fun i v hv => by
    have hi : i < A.slots.size := (Array.getElem?_eq_some_iff.mp hv).1
    have q := K5 i hi
    rw [hv] at q
    rw [Option.some.inj q]
    exact K6 i hi
  refine Back.mono (back hZ hw wi E V C K1 hty S hz (by omega) (by omega) (fun i hi => by rw [hcv i (by omega)]; exact hall _ (List.getElem_mem _)) hfr hlo) (fun P a hp => ⟨hp.1, hp.2.1, hp.2.2.1, by rw [e]; exact hp.2.2.2⟩) (fun P a v B hp hq => ?_)
  obtain ⟨L, ⟨q1, q2, q3, q4, q5, q6, q7, ⟨V', v1, v2, v3, v4, v5⟩, q9⟩, hl, hc, hs⟩ := hq
  refine ⟨L, ⟨q1, q2, q3, q4, q5, q6, q7, ⟨V'.cls, v3, V', v1, rfl, by rw [v4, e, hlen], K4, fun i hi => ?_, fun i hi => ?_⟩, q9⟩, hl, hc, by rw [hs, e]⟩
  · have hi' : i < cs.length := by omega
    rw [v5 i (by omega), hcv i hi']; simp [List.getD_eq_getElem?_getD, hi']
  · have hi' : i < cs.length := by omega
    simp only [List.getD_eq_getElem?_getD, List.getElem?_map, List.getElem?_eq_getElem hi', Option.map_some, Option.getD_some]
    exact fits_lo8 _
end StrChars.Road
namespace StrChars.Road
open Jvm Sem ClassFile Op Lib Jvm.Stand Jvm.Free Jvm.Free.XT
/-- WHAT COMES BACK, in the writer's own shape -/
def QV (Z : State) (x : Addr) (N : Int32) (bs : List Int32) (h : Heap) (n0 : Nat) (v : Option Value) (h' : Heap) (L : List Loc) : Prop := v = none ∧ RoadKit.Fr n0 L ∧ RoadKit.Keep h h' [x] ∧ RoadKit.Exa Z h' x ST ∧ RoadKit.Fld Z h' x ST "coder" "B" (.int 0) ∧
  ∃ (t : Addr) (kb : ClassId), n0 ≤ t ∧ h.size ≤ t ∧ ¬ t = x ∧ RoadKit.Fld Z h' x ST "value" "[B" (.ref t) ∧ RoadKit.Arv Z h' t kb .byte N (bs.map Value.int) (.int 0)
/-- **new String(chars) AT A CALL, FOR THE WRITER**: a char[] of n known ints, each 0 to 255 -/
theorem backV {p : Program} {l : Launch} {e : Env} {R : Room} {s : State} {args : Array Value} {below : List Frame} {len W : Nat} {Z : State} {a0 : Array Value} {h : Heap} (hZ : Z.Warmed39 s.vm) (hw : ∀ d ∈ words, d.before a0 Z = true) {kI : Nat} (wi : (Jvm.Cond.instantiable ST kI).before a0 Z = true)
    {x b : Addr} {kC : ClassId} {cs bs : List Int32} {d v0 c0 : Value} {z N : Int32} {n n0 : Nat} (hx0 : n0 ≤ x) (hh0 : n0 ≤ h.size) (E : RoadKit.Exa Z h x ST) (V : RoadKit.Fld Z h x ST "value" "[B" v0) (C : RoadKit.Fld Z h x ST "coder" "B" c0) (K : RoadKit.Arv Z h b kC .char N (cs.map Value.int) d) (S : RoadKit.Sta Z h ST "COMPACT_STRINGS" "Z" (.int z)) (hz : ¬ z = 0)
    (hn : cs.length = n) (hN : N = Int32.ofNat n) (l0 : 0 < n) (l2 : n ≤ 4000) (hp : ∀ c ∈ cs, ¬ c < 0 ∧ ¬ (255 : Int32) < c) (hb : bs = cs.map (fun c => c.toInt8.toInt32)) (hfr : 4 ≤ R.frames) (hlo : W + 65 ≤ R.locals) :
    Back l R p e below s args (⟨"java/lang/String", "<init>", "([C)V"⟩ : MethodName) len W (fun P a => a = #[.ref x, .ref b] ∧ P.U.heap = h ∧ P.cells + 1 ≤ R.cells ∧ P.slots + n ≤ R.slots)
      (fun P _ v B => ∃ L, QV Z x N bs h n0 v B.U.heap L ∧ B.locs = P.locs ++ L ∧ B.cells = P.cells + 1 ∧ B.slots = P.slots + n) := by
  subst hn hN hb
  refine Back.mono (backArv hZ hw wi E V C K S hz (n32 (by omega)) l0 (by omega) (fun c hc => (hp c hc).2) hfr hlo) (fun P a hp => hp) (fun P a v B hp hq => ?_)
  obtain ⟨L, ⟨q1, q2, q3, q4, q5, q6, q7, ⟨kb, v1, v2⟩, q9⟩, hl, hc, hs⟩ := hq
  exact ⟨L, ⟨q1, fun y hy => by rw [q2 y hy]; exact hx0, q3, q5, q7, h.size, kb, hh0, Nat.le_refl _, Nat.ne_of_gt E.lt, q6, by rw [List.map_map]; exact v2⟩, hl, hc, hs⟩
end StrChars.Road
namespace StrChars
open Jvm Sem ClassFile Op Lib Jvm.Stand Jvm.Free.XT Jvm.Free.ALB Jvm.Free.JM Jvm.Free
open Jvm.Lib.Cold (StaticIs)
def hi8 (x : Int32) : Int32 := lo8 (x >>> ((8 : Int32) &&& 31))
/-- what StringUTF16.getChar makes of two bytes -/
def pairCh (u v : Int32) : Int32 := (((u &&& 255) <<< ((0 : Int32) &&& 31)) ||| ((v &&& 255) <<< ((8 : Int32) &&& 31))).toUInt32.toUInt16.toUInt32.toInt32
theorem shr0 (c : Int32) : c >>> ((0 : Int32) &&& 31) = c := by
  have e : ((0 : Int32) &&& 31) = 0 := by decide
  rw [e]
  apply Int32.toBitVec_inj.mp
  rw [Int32.toBitVec_shiftRight]
  have e1 : ((0 : Int32).toBitVec.smod 32) = 0#32 := by decide
  rw [e1, BitVec.sshiftRight_eq']
  exact BitVec.sshiftRight_zero
theorem lo8_and (x : Int32) : (lo8 x &&& 255).toBitVec.toNat = x.toBitVec.toNat % 256 := by
  have h : (lo8 x).toBitVec = (x.toBitVec.signExtend 8).signExtend 32 := by rw [lo8, Int8.toBitVec_toInt32, Int32.toBitVec_toInt8]
  rw [Int32.toBitVec_and, BitVec.toNat_and, h]
  have e : ((x.toBitVec.signExtend 8).signExtend 32).toNat % 256 = x.toBitVec.toNat % 256 := by
    rw [BitVec.toNat_signExtend]
    have hlt := x.toBitVec.isLt
    simp only [BitVec.toNat_setWidth, BitVec.toNat_signExtend]
    split <;> split <;> omega
  rw [← e]
  exact Nat.and_two_pow_sub_one_eq_mod _ 8
theorem pair_says {c : Int32} (h0 : ¬ c < 0) (h1 : ¬ 65535 < c) : pairCh (lo8 c) (hi8 c) = c := by
  rw [Int32.lt_iff_toInt_lt] at h0 h1
  have e0 : (0 : Int32).toInt = 0 := rfl
  have e1 : (65535 : Int32).toInt = 65535 := rfl
  have hc : c.toInt = c.toBitVec.toNat := by
    have := c.toBitVec.isLt
    have e : c.toInt = c.toBitVec.toInt := rfl
    rw [e] at h0 h1
    rw [e]
    rw [BitVec.toInt_eq_toNat_cond] at h0 h1 ⊢
    split at h0 <;> split <;> omega
  have hn : c.toBitVec.toNat < 65536 := by omega
  have a1 := lo8_and c
  have a2 : (hi8 c &&& 255).toBitVec.toNat = c.toBitVec.toNat / 256 := by
    rw [hi8, lo8_and]
    have e : ((8 : Int32) &&& 31) = 8 := by decide
    rw [e, Int32.toBitVec_shiftRight]
    have e2 : ((8 : Int32).toBitVec.smod 32) = 8#32 := by decide
    rw [e2, BitVec.sshiftRight_eq', BitVec.toNat_sshiftRight_of_msb_false (by rw [BitVec.msb_eq_false_iff_two_mul_lt]; omega)]
    show c.toBitVec.toNat >>> 8 % 256 = _
    rw [Nat.shiftRight_eq_div_pow]
    omega
  unfold pairCh
  apply Int32.toBitVec_inj.mp
  apply BitVec.eq_of_toNat_eq
  have f0 : ((0 : Int32) &&& 31) = 0 := by decide
  have f8 : ((8 : Int32) &&& 31) = 8 := by decide
  rw [f0, f8]
  have g : (((lo8 c &&& 255) <<< (0 : Int32)) ||| ((hi8 c &&& 255) <<< (8 : Int32))).toBitVec.toNat = c.toBitVec.toNat := by
    rw [Int32.toBitVec_or, Int32.toBitVec_shiftLeft, Int32.toBitVec_shiftLeft]
    have s0 : ((0 : Int32).toBitVec.smod 32) = 0#32 := by decide
    have s8 : ((8 : Int32).toBitVec.smod 32) = 8#32 := by decide
    rw [s0, s8, BitVec.toNat_or]
    simp only [BitVec.shiftLeft_eq', BitVec.toNat_shiftLeft, a1, a2]
    show (c.toBitVec.toNat % 256) <<< 0 % 2 ^ 32 ||| (c.toBitVec.toNat / 256) <<< 8 % 2 ^ 32 = _
    rw [Nat.shiftLeft_zero, Nat.mod_eq_of_lt (show c.toBitVec.toNat % 256 < 2 ^ 32 by omega), Nat.mod_eq_of_lt (show (c.toBitVec.toNat / 256) <<< 8 < 2 ^ 32 by rw [Nat.shiftLeft_eq]; omega), Nat.or_comm, ← Nat.shiftLeft_add_eq_or_of_lt (by omega), Nat.shiftLeft_eq]
    omega
  show BitVec.toNat (((((lo8 c &&& 255) <<< (0 : Int32)) ||| ((hi8 c &&& 255) <<< (8 : Int32))).toBitVec.setWidth 16).setWidth 32) = _
  rw [BitVec.toNat_setWidth, BitVec.toNat_setWidth, g]
  omega
end StrChars
namespace StrChars
open Jvm Sem ClassFile Op Lib Jvm.Stand Jvm.Free.XT Jvm.Free.ALB Jvm.Free.JM Jvm.Free
open Jvm.Lib.Cold (StaticIs)
theorem shr1 {n : Nat} (h : 2 * n < 2 ^ 31) : Int32.ofNat (2 * n) >>> ((1 : Int32) &&& 31) = Int32.ofNat n := by
  have e : ((1 : Int32) &&& 31) = 1 := by decide
  rw [e]
  apply Int32.toBitVec_inj.mp
  rw [Int32.toBitVec_shiftRight]
  have e1 : ((1 : Int32).toBitVec.smod 32) = 1#32 := by decide
  have hm : (BitVec.ofNat 32 (2 * n)).toNat = 2 * n := by rw [BitVec.toNat_ofNat, Nat.mod_eq_of_lt (by omega)]
  rw [e1, BitVec.sshiftRight_eq']
  apply BitVec.eq_of_toNat_eq
  show ((BitVec.ofNat 32 (2 * n)).sshiftRight 1).toNat = (BitVec.ofNat 32 n).toNat
  rw [BitVec.toNat_sshiftRight_of_msb_false (by rw [BitVec.msb_eq_false_iff_two_mul_lt, hm]; omega), hm, BitVec.toNat_ofNat, Nat.shiftRight_eq_div_pow]
  omega
/-- charAt's cast of a byte read back -/
def chr8 (u : Int32) : Int32 := (u &&& 255).toUInt32.toUInt16.toUInt32.toInt32
theorem chr8_lo8 {c : Int32} (h0 : ¬ c < 0) (h1 : ¬ 255 < c) : chr8 (lo8 c) = c := by
  have t : ∀ k : Fin 256, (Int32.ofNat k.val).toUInt32.toUInt16.toUInt32.toInt32 = Int32.ofNat k.val := by decide +kernel
  unfold chr8
  rw [lo8_mask h0 h1]
  rw [Int32.lt_iff_toInt_lt] at h0 h1
  have e0 : (0 : Int32).toInt = 0 := rfl
  have e1 : (255 : Int32).toInt = 255 := rfl
  obtain ⟨k, hk⟩ : ∃ k : Nat, c.toInt = k := ⟨c.toInt.toNat, by omega⟩
  have hx : c = Int32.ofNat k := Int32.toInt_inj.mp (by rw [hk, Int32.toInt_ofNat_small (by omega)])
  rw [hx]
  exact t ⟨k, by omega⟩
theorem narrow_ch {c : Int32} (h0 : ¬ c < 0) (h1 : ¬ 65535 < c) : narrow .char (.int c) = .int c := by
  have q : narrow .char (.int (pairCh (lo8 c) (hi8 c))) = .int (pairCh (lo8 c) (hi8 c)) := narrow_c _
  rwa [pair_says h0 h1] at q
/-- the array's cell V codes the n chars f 0 .. f (n - 1) by the coder cd, as the JDK does: coder 1 just where some char is above 255 -/
def Cod (cd : Int32) (n : Nat) (f : Nat → Int32) (V : Cell) : Prop := (cd = 0 ∧ V.slots.size = n ∧ ∀ j, j < n → V.slots[j]? = some (.int (lo8 (f j))) ∧ ¬ 255 < f j) ∨ (cd = 1 ∧ V.slots.size = 2 * n ∧ (∀ j, j < n → V.slots[2 * j]? = some (.int (lo8 (f j))) ∧ V.slots[2 * j + 1]? = some (.int (hi8 (f j)))) ∧ ∃ j, j < n ∧ 255 < f j)
theorem Cod.cd {cd : Int32} {n : Nat} {f : Nat → Int32} {V : Cell} (h : Cod cd n f V) : cd = 0 ∨ cd = 1 := h.imp (fun q => q.1) fun q => q.1
theorem Cod.len {cd : Int32} {n : Nat} {f : Nat → Int32} {V : Cell} (h : Cod cd n f V) (hs : V.slots.size < 2 ^ 31) : Int32.ofNat V.slots.size >>> (cd &&& 31) = Int32.ofNat n := by
  rcases h with ⟨rfl, h, -⟩ | ⟨rfl, h, -⟩
  · rw [shr0, h]
  · rw [h, shr1 (by omega)]
/-- **x is a String of the n chars f 0 .. f (n - 1)**, Latin-1 or UTF-16; its array at t has the cell V -/
def Txt (x t : Addr) (V : Cell) (cd : Int32) (n : Nat) (f : Nat → Int32) (U : State) : Prop := Exact "java/lang/String" x U ∧ Has x "java/lang/String" "value" "[B" (.ref t) U ∧ Has x "java/lang/String" "coder" "B" (.int cd) U ∧ XT.Arr .byte t V U ∧ Cod cd n f V ∧ ∀ j, j < n → ¬ f j < 0 ∧ ¬ 65535 < f j
theorem Txt.mv {x t : Addr} {V : Cell} {cd : Int32} {n : Nat} {f : Nat → Int32} {U U' : State} (h : Txt x t V cd n f U) (hal : U.vm.Alike U'.vm) (hh : U'.heap = U.heap) : Txt x t V cd n f U' := ⟨h.1.mv hal hh, h.2.1.mv hal hh, h.2.2.1.mv hal hh, h.2.2.2.1.mv hal hh, h.2.2.2.2⟩
namespace Cdr
def yN : MethodName := ⟨"java/lang/String", "coder", "()B"⟩
abbrev yB : ByteArray := jdk_42_method_152_code
theorem d0 : decode yB 0 = .ok (.getstatic 38, 3) := by decide +kernel
theorem d3 : decode yB 3 = .ok (.ifCond (.eq) 10, 3) := by decide +kernel
theorem d6 : decode yB 6 = .ok (.aload_n 0, 1) := by decide +kernel
theorem d7 : decode yB 7 = .ok (.getfield 15, 3) := by decide +kernel
theorem d10 : decode yB 10 = .ok (.goto 4, 3) := by decide +kernel
theorem d14 : decode yB 14 = .ok (.ireturn, 1) := by decide +kernel
def site : List Cond := [.fieldLink "java/lang/String" 38 "java/lang/String" "COMPACT_STRINGS" "Z", .fieldLink "java/lang/String" 15 "java/lang/String" "coder" "B"]
def tab : Cond := tabOf yN yB 1 (some .byte) site
def P (x : Addr) (cd z : Int32) (args : Array Value) (s : State) : Prop := args = #[.ref x] ∧ Has x "java/lang/String" "coder" "B" (.int cd) s ∧ (cd = 0 ∨ cd = 1) ∧ StaticIs s "java/lang/String" "COMPACT_STRINGS" "Z" (.int z) ∧ ¬ z = 0
def E (cd : Int32) (r : Option Value) (s u : State) : Prop := XT.PureE (some (.int cd)) r s u
theorem law (l : Launch) (x : Addr) (cd z : Int32) : Law l yN 1 0 0 0 yB 1 (some .byte) site (P x cd z) (E cd) [] 0 0 := by
  refine Law.of_walk (plainFor_of_name (by decide +kernel)) (by decide +kernel) (by decide +kernel) (by decide) (fun _ _ h => by rw [h.1]; rfl) (fun _ U U' hal hh h => ⟨h.1, h.2.1.mv hal hh, h.2.2.1, h.2.2.2.1.there hal hh, h.2.2.2.2⟩) (fun r U U' V V' h1 hal h2 h => XT.PureE.mv r U U' V V' h1 hal h2 h) ?_
  intro p e s m args below meth c s₁ X0 hexec hbytes hml hret hlk hnm hown hh0 W hP
  obtain ⟨rfl, hx, hc, s1, hz⟩ := hP
  have c1 : Steps p.tables e below (s₁.setTop (entryFrame m #[.ref x] 1)) (s₁.setTop (mkF m 0 #[.val (.ref x)] [])) := entry rfl
  obtain ⟨T2, X2, q2, st2⟩ := X0.sget hexec hown (wk W (.fieldLink "java/lang/String" 38 "java/lang/String" "COMPACT_STRINGS" "Z")) s1 (fun _ _ h => by rw [hh0]; exact h) (g := (mkF m 0 #[.val (.ref x)] [])) rfl (hb hbytes d0)
  have hh2 := q2.trans hh0
  have c3 : Steps p.tables e below (s₁.setTop (entryFrame m #[.ref x] 1)) (T2.setTop (mkF m 7 #[.val (.ref x)] [.ref x])) := (c1.trans (st2 _ (Steps.refl _))).trans (by
    refine XS.ifNo X2.here hexec rfl (hb hbytes d3) rfl (i0_eq_f hz) ?_
    refine XS.aloadN X2.here hexec rfl (hb hbytes d6) rfl rfl ?_
    exact Steps.refl _)
  obtain ⟨T4, X4, q4, st4⟩ := X2.hget hexec hown (wk W (.fieldLink "java/lang/String" 15 "java/lang/String" "coder" "B")) (hx.mv X2.warmed.alike hh2) (g := (mkF m 7 #[.val (.ref x)] [.ref x])) rfl (rest := []) rfl (hb hbytes d7)
  have c5 : Steps p.tables e below (s₁.setTop (entryFrame m #[.ref x] 1)) (T4.setTop (mkF m 14 #[.val (.ref x)] [.int cd])) := (c3.trans (st4 _ (Steps.refl _))).trans (by
    refine XS.goto X4.here hexec rfl (pc0 := 10) rfl (hb hbytes d10) (by decide) rfl ?_
    exact Steps.refl _)
  exact ⟨T4, some (.int cd), _, _, _, X4, rfl, rfl, rfl, (fun h => by cases h), ⟨rfl, q4.trans hh2⟩, fun fs hl => c5.trans (X4.ireturnOut hexec hret (by rcases hc with rfl | rfl <;> rfl) (Or.inr (Or.inr (Or.inl rfl))) (hb hbytes d14) hl)⟩
end Cdr
namespace Len
def yN : MethodName := ⟨"java/lang/String", "length", "()I"⟩
abbrev yB : ByteArray := jdk_42_method_54_code
theorem d0 : decode yB 0 = .ok (.aload_n 0, 1) := by decide +kernel
theorem d1 : decode yB 1 = .ok (.getfield 9, 3) := by decide +kernel
theorem d4 : decode yB 4 = .ok (.arraylength, 1) := by decide +kernel
theorem d5 : decode yB 5 = .ok (.aload_n 0, 1) := by decide +kernel
theorem d6 : decode yB 6 = .ok (.invokevirtual 335, 3) := by decide +kernel
theorem d9 : decode yB 9 = .ok (.ishr, 1) := by decide +kernel
theorem d10 : decode yB 10 = .ok (.ireturn, 1) := by decide +kernel
def site : List Cond := [.fieldLink "java/lang/String" 9 "java/lang/String" "value" "[B", Cdr.tab] ++ virtW "java/lang/String" 335 "java/lang/String" Cdr.yN Cdr.yN
def tab : Cond := tabOf yN yB 1 (some .int) site
def P (x t : Addr) (V : Cell) (cd : Int32) (n : Nat) (f : Nat → Int32) (z : Int32) (args : Array Value) (s : State) : Prop := args = #[.ref x] ∧ Txt x t V cd n f s ∧ StaticIs s "java/lang/String" "COMPACT_STRINGS" "Z" (.int z) ∧ ¬ z = 0
def E (n : Nat) (r : Option Value) (s u : State) : Prop := XT.PureE (some (.int (Int32.ofNat n))) r s u
/-- length() of a String of n chars, in either coding -/
theorem law (l : Launch) (x t : Addr) (V : Cell) (cd : Int32) (n : Nat) (f : Nat → Int32) (z : Int32) : Law l yN 1 0 1 13 yB 1 (some .int) site (P x t V cd n f z) (E n) [] 0 0 := by
  refine Law.of_walk (plainFor_of_name (by decide +kernel)) (by decide +kernel) (by decide +kernel) (by decide) (fun _ _ h => by rw [h.1]; rfl) (fun _ U U' hal hh h => ⟨h.1, h.2.1.mv hal hh, h.2.2.1.there hal hh, h.2.2.2⟩) (fun r U U' V V' h1 hal h2 h => XT.PureE.mv r U U' V V' h1 hal h2 h) ?_
  intro p e s m args below meth c s₁ X0 hexec hbytes hml hret hlk hnm hown hh0 W hP
  obtain ⟨rfl, hx, s1, hz⟩ := hP
  have v31 := hx.2.2.2.1.2.2.2
  have c1 : Steps p.tables e below (s₁.setTop (entryFrame m #[.ref x] 1)) (s₁.setTop (mkF m 1 #[.val (.ref x)] [.ref x])) := Steps.trans (entry rfl) (by
    show Steps p.tables e below (s₁.setTop (mkF m 0 #[.val (.ref x)] [])) _
    refine XS.aloadN X0.here hexec rfl (hb hbytes d0) rfl rfl ?_
    exact Steps.refl _)
  obtain ⟨T2, X2, q2, st2⟩ := X0.hget hexec hown (wk W (.fieldLink "java/lang/String" 9 "java/lang/String" "value" "[B")) (hx.mv X0.warmed.alike hh0).2.1 (g := (mkF m 1 #[.val (.ref x)] [.ref x])) rfl (rest := []) rfl (hb hbytes d1)
  have hh2 := q2.trans hh0
  have hx2 := hx.mv X2.warmed.alike hh2
  have c3 : Steps p.tables e below (s₁.setTop (entryFrame m #[.ref x] 1)) (T2.setTop (mkF m 6 #[.val (.ref x)] [.ref x, .int (Int32.ofNat V.slots.size)])) := (c1.trans (st2 _ (Steps.refl _))).trans (by
    refine X2.alen hexec hx2.2.2.2.1 rfl rfl (hb hbytes d4) ?_
    refine XS.aloadN X2.here hexec rfl (hb hbytes d5) rfl rfl ?_
    exact Steps.refl _)
  obtain ⟨v4, T4, X4, E4, g4⟩ := X2.callV hexec (Cdr.law l x cd z) hown (wks W (virtW "java/lang/String" 335 "java/lang/String" Cdr.yN Cdr.yN)) rfl (by decide) (wk W Cdr.tab) (W := 1) (Nat.le_of_ble_eq_true rfl) (Nat.le_of_ble_eq_true rfl) (Nat.le_refl _) (Nat.le_refl _) (hx2.1.fc X2.warmed.alike) hx2.1.is (g := (mkF m 6 #[.val (.ref x)] [.ref x, .int (Int32.ofNat V.slots.size)])) rfl (by rw [hml]; rfl) c3 (argsL := []) (rest := [.int (Int32.ofNat V.slots.size)]) rfl rfl (by show 2 * 0 + (1 + 0) ≤ _; decide) (hb hbytes d6) (⟨rfl, hx2.2.2.1, hx.2.2.2.2.1.cd, s1.there X2.warmed.alike hh2, hz⟩)
  obtain ⟨rfl, q4⟩ := E4
  have c5 : Steps p.tables e below (s₁.setTop (entryFrame m #[.ref x] 1)) (T4.setTop (mkF m 10 #[.val (.ref x)] [.int (Int32.ofNat V.slots.size >>> (cd &&& 31))])) := Steps.trans g4 (by
    refine ishr X4.here hexec rfl (hb hbytes d9) rfl ?_
    exact Steps.refl _)
  rw [hx.2.2.2.2.1.len v31] at c5
  exact ⟨T4, some (.int (Int32.ofNat n)), _, _, _, X4, rfl, rfl, rfl, (fun h => by cases h), ⟨rfl, q4.trans hh2⟩, fun fs hl => c5.trans (X4.ireturnOut hexec hret rfl (Or.inl rfl) (hb hbytes d10) hl)⟩
theorem pays {l : Launch} {R : Room} {p : Program} {e : Env} {below : List Frame} {s : State} {sargs : Array Value} {len W : Nat} (x t : Addr) (V : Cell) (cd : Int32) (n : Nat) (f : Nat → Int32) (z : Int32) (htab : tab.before sargs s = true) (hfr : 2 ≤ R.frames) (hlo : W + 25 ≤ R.locals) :
    Back l R p e below s sargs yN len W (fun A₁ a₁ => A₁.cells + 0 ≤ R.cells ∧ A₁.slots + 0 ≤ R.slots ∧ P x t V cd n f z a₁ A₁.U) (fun A₁ _ v₁ B₁ => E n v₁ A₁.U B₁.U ∧ B₁.locs = A₁.locs ++ [] ∧ B₁.cells = A₁.cells + 0 ∧ B₁.slots = A₁.slots + 0) :=
  (law l x t V cd n f z).pays htab hfr (by omega)
end Len
namespace IsL
def yN : MethodName := ⟨"java/lang/String", "isLatin1", "()Z"⟩
abbrev yB : ByteArray := jdk_42_method_154_code
theorem d0 : decode yB 0 = .ok (.getstatic 38, 3) := by decide +kernel
theorem d3 : decode yB 3 = .ok (.ifCond (.eq) 14, 3) := by decide +kernel
theorem d6 : decode yB 6 = .ok (.aload_n 0, 1) := by decide +kernel
theorem d7 : decode yB 7 = .ok (.getfield 15, 3) := by decide +kernel
theorem d10 : decode yB 10 = .ok (.ifCond (.ne) 7, 3) := by decide +kernel
theorem d13 : decode yB 13 = .ok (.iconst 1, 1) := by decide +kernel
theorem d14 : decode yB 14 = .ok (.goto 4, 3) := by decide +kernel
theorem d17 : decode yB 17 = .ok (.iconst 0, 1) := by decide +kernel
theorem d18 : decode yB 18 = .ok (.ireturn, 1) := by decide +kernel
def site : List Cond := [.fieldLink "java/lang/String" 38 "java/lang/String" "COMPACT_STRINGS" "Z", .fieldLink "java/lang/String" 15 "java/lang/String" "coder" "B"]
def tab : Cond := tabOf yN yB 1 (some .boolean) site
def P (x : Addr) (cd z : Int32) (args : Array Value) (s : State) : Prop := args = #[.ref x] ∧ Has x "java/lang/String" "coder" "B" (.int cd) s ∧ (cd = 0 ∨ cd = 1) ∧ StaticIs s "java/lang/String" "COMPACT_STRINGS" "Z" (.int z) ∧ ¬ z = 0
def E (cd : Int32) (r : Option Value) (s u : State) : Prop := XT.PureE (some (.int (1 - cd))) r s u
theorem law (l : Launch) (x : Addr) (cd z : Int32) : Law l yN 1 0 0 0 yB 1 (some .boolean) site (P x cd z) (E cd) [] 0 0 := by
  refine Law.of_walk (plainFor_of_name (by decide +kernel)) (by decide +kernel) (by decide +kernel) (by decide) (fun _ _ h => by rw [h.1]; rfl) (fun _ U U' hal hh h => ⟨h.1, h.2.1.mv hal hh, h.2.2.1, h.2.2.2.1.there hal hh, h.2.2.2.2⟩) (fun r U U' V V' h1 hal h2 h => XT.PureE.mv r U U' V V' h1 hal h2 h) ?_
  intro p e s m args below meth c s₁ X0 hexec hbytes hml hret hlk hnm hown hh0 W hP
  obtain ⟨rfl, hx, hc, s1, hz⟩ := hP
  have c1 : Steps p.tables e below (s₁.setTop (entryFrame m #[.ref x] 1)) (s₁.setTop (mkF m 0 #[.val (.ref x)] [])) := entry rfl
  obtain ⟨T2, X2, q2, st2⟩ := X0.sget hexec hown (wk W (.fieldLink "java/lang/String" 38 "java/lang/String" "COMPACT_STRINGS" "Z")) s1 (fun _ _ h => by rw [hh0]; exact h) (g := (mkF m 0 #[.val (.ref x)] [])) rfl (hb hbytes d0)
  have hh2 := q2.trans hh0
  have c3 : Steps p.tables e below (s₁.setTop (entryFrame m #[.ref x] 1)) (T2.setTop (mkF m 7 #[.val (.ref x)] [.ref x])) := (c1.trans (st2 _ (Steps.refl _))).trans (by
    refine XS.ifNo X2.here hexec rfl (hb hbytes d3) rfl (i0_eq_f hz) ?_
    refine XS.aloadN X2.here hexec rfl (hb hbytes d6) rfl rfl ?_
    exact Steps.refl _)
  obtain ⟨T4, X4, q4, st4⟩ := X2.hget hexec hown (wk W (.fieldLink "java/lang/String" 15 "java/lang/String" "coder" "B")) (hx.mv X2.warmed.alike hh2) (g := (mkF m 7 #[.val (.ref x)] [.ref x])) rfl (rest := []) rfl (hb hbytes d7)
  have c5 : Steps p.tables e below (s₁.setTop (entryFrame m #[.ref x] 1)) (T4.setTop (mkF m 10 #[.val (.ref x)] [.int cd])) := c3.trans (st4 _ (Steps.refl _))
  have c6 : Steps p.tables e below (s₁.setTop (entryFrame m #[.ref x] 1)) (T4.setTop (mkF m 18 #[.val (.ref x)] [.int (1 - cd)])) := by
    rcases hc with rfl | rfl
    · exact c5.trans (by
        refine XS.ifNo X4.here hexec rfl (hb hbytes d10) rfl (i0_ne_f rfl) ?_
        refine iconstV X4.here hexec rfl 1 (hb hbytes d13) (by decide) ?_
        refine XS.goto X4.here hexec rfl (pc0 := 14) rfl (hb hbytes d14) (by decide) rfl ?_
        exact Steps.refl _)
    · exact c5.trans (by
        refine XS.ifYes X4.here hexec rfl (pc0 := 10) rfl (hb hbytes d10) rfl (i0_ne_t (by decide)) (by decide) rfl ?_
        refine iconstV X4.here hexec rfl 0 (hb hbytes d17) (by decide) ?_
        exact Steps.refl _)
  exact ⟨T4, some (.int (1 - cd)), _, _, _, X4, rfl, rfl, rfl, (fun h => by cases h), ⟨rfl, q4.trans hh2⟩, fun fs hl => c6.trans (X4.ireturnOut hexec hret (by rcases hc with rfl | rfl <;> rfl) (Or.inr (Or.inl rfl)) (hb hbytes d18) hl)⟩
end IsL
namespace LChA
def yN : MethodName := ⟨"java/lang/StringLatin1", "charAt", "([BI)C"⟩
abbrev yB : ByteArray := jdk_43_method_2_code
theorem d0 : decode yB 0 = .ok (.iload_n 1, 1) := by decide +kernel
theorem d1 : decode yB 1 = .ok (.aload_n 0, 1) := by decide +kernel
theorem d2 : decode yB 2 = .ok (.arraylength, 1) := by decide +kernel
theorem d3 : decode yB 3 = .ok (.invokestatic 9, 3) := by decide +kernel
theorem d6 : decode yB 6 = .ok (.aload_n 0, 1) := by decide +kernel
theorem d7 : decode yB 7 = .ok (.iload_n 1, 1) := by decide +kernel
theorem d8 : decode yB 8 = .ok (.baload, 1) := by decide +kernel
theorem d9 : decode yB 9 = .ok (.sipush 255, 3) := by decide +kernel
theorem d12 : decode yB 12 = .ok (.iand, 1) := by decide +kernel
theorem d13 : decode yB 13 = .ok (.i2c, 1) := by decide +kernel
theorem d14 : decode yB 14 = .ok (.ireturn, 1) := by decide +kernel
def site : List Cond := [JO.Str_checkIndex.tab] ++ staticW "java/lang/StringLatin1" 9 JO.Str_checkIndex.yN
def tab : Cond := tabOf yN yB 2 (some .char) site
def P (t : Addr) (V : Cell) (i : Nat) (u : Int32) (fm : Value) (args : Array Value) (s : State) : Prop := args = #[.ref t, .int (Int32.ofNat i)] ∧ XT.Arr .byte t V s ∧ V.slots[i]? = some (.int u) ∧ (StaticIs s "jdk/internal/util/Preconditions" "SIOOBE_FORMATTER" "Ljava/util/function/BiFunction;" fm ∧ fm.isRef = true)
def E (u : Int32) (r : Option Value) (s w : State) : Prop := XT.PureE (some (.int (chr8 u))) r s w
theorem law (l : Launch) (t : Addr) (V : Cell) (i : Nat) (u : Int32) (fm : Value) : Law l yN 2 2 2 27 yB 2 (some .char) site (P t V i u fm) (E u) [] 0 0 := by
  refine Law.of_walk (plainFor_of_name (by decide +kernel)) (by decide +kernel) (by decide +kernel) (by decide) (fun _ _ h => by rw [h.1]; rfl) (fun _ U U' hal hh h => ⟨h.1, h.2.1.mv hal hh, h.2.2.1, h.2.2.2.1.there hal hh, h.2.2.2.2⟩) (fun r U U' V V' h1 hal h2 h => XT.PureE.mv r U U' V V' h1 hal h2 h) ?_
  intro p e s m args below meth c s₁ X0 hexec hbytes hml hret hlk hnm hown hh0 W hP
  obtain ⟨rfl, hV, hu, s1, rf⟩ := hP
  have v31 := hV.2.2.2
  have hi : i < V.slots.size := (Array.getElem?_eq_some_iff.mp hu).1
  have c1 : Steps p.tables e below (s₁.setTop (entryFrame m #[.ref t, .int (Int32.ofNat i)] 2)) (s₁.setTop (mkF m 0 #[.val (.ref t), .val (.int (Int32.ofNat i))] [])) := entry rfl
  have c2 : Steps p.tables e below (s₁.setTop (entryFrame m #[.ref t, .int (Int32.ofNat i)] 2)) (s₁.setTop (mkF m 3 #[.val (.ref t), .val (.int (Int32.ofNat i))] [.int (Int32.ofNat V.slots.size), .int (Int32.ofNat i)])) := c1.trans (by
    refine XS.iloadN X0.here hexec rfl (hb hbytes d0) rfl ?_
    refine XS.aloadN X0.here hexec rfl (hb hbytes d1) rfl rfl ?_
    refine X0.alen hexec (hV.mv X0.warmed.alike hh0) rfl rfl (hb hbytes d2) ?_
    exact Steps.refl _)
  obtain ⟨v3, T3, X3, E3, g3⟩ := X0.callS hexec (JO.Str_checkIndex.law l (Int32.ofNat i) (Int32.ofNat V.slots.size) fm) hown (wks W (staticW "java/lang/StringLatin1" 9 JO.Str_checkIndex.yN)) (wk W JO.Str_checkIndex.tab) (W := 0) (Nat.le_of_ble_eq_true rfl) (Nat.le_of_ble_eq_true rfl) (Nat.le_refl _) (Nat.le_refl _) (g := (mkF m 3 #[.val (.ref t), .val (.int (Int32.ofNat i))] [.int (Int32.ofNat V.slots.size), .int (Int32.ofNat i)])) rfl (by rw [hml]; rfl) c2 (argsL := [.int (Int32.ofNat i), .int (Int32.ofNat V.slots.size)]) (rest := []) rfl rfl (by show 2 * 0 + 0 ≤ _; decide) (hb hbytes d3) (⟨rfl, rf, s1.there X0.warmed.alike hh0, Int32.ofNat_not_neg (by omega), lt32 v31 hi⟩)
  obtain ⟨rfl, q3⟩ := E3
  have hh3 := q3.trans hh0
  have c4 : Steps p.tables e below (s₁.setTop (entryFrame m #[.ref t, .int (Int32.ofNat i)] 2)) (T3.setTop (mkF m 14 #[.val (.ref t), .val (.int (Int32.ofNat i))] [.int (chr8 u)])) := Steps.trans g3 (by
    refine XS.aloadN X3.here hexec rfl (hb hbytes d6) rfl rfl ?_
    refine XS.iloadN X3.here hexec rfl (hb hbytes d7) rfl ?_
    refine X3.aget hexec (hV.mv X3.warmed.alike hh3) rfl hu rfl rfl (hb hbytes d8) ?_
    refine sipushV X3.here hexec rfl 255 (hb hbytes d9) (by decide) ?_
    refine XS.iand X3.here hexec rfl (hb hbytes d12) rfl ?_
    refine i2c X3.here hexec rfl (hb hbytes d13) rfl ?_
    exact Steps.refl _)
  exact ⟨T3, some (.int (chr8 u)), _, _, _, X3, rfl, rfl, rfl, (fun h => by cases h), ⟨rfl, hh3⟩, fun fs hl => c4.trans (X3.ireturnOut hexec hret (narrow_c _) (Or.inr (Or.inr (Or.inr (Or.inl rfl)))) (hb hbytes d14) hl)⟩
end LChA
end StrChars
namespace StrChars.Road
open Jvm Sem ClassFile Op Lib Jvm.Stand Jvm.Free Jvm.Free.XT
open Jvm.Lib.Cold (StaticIs)
theorem consq {a : Array Value} {s : State} {c : Jvm.Cond} {L : List Jvm.Cond} (h0 : c.before a s = true) (h : ∀ w ∈ L, w.before a s = true) : ∀ w ∈ c :: L, w.before a s = true := fun w hw => (List.mem_cons.mp hw).elim (fun e => e ▸ h0) (h w)
/-- the words of String.length(), either coding -/
abbrev wordsLen : List Jvm.Cond := [.code Len.yN Len.yB 1 (some .int), .initialized ST, .fieldLink ST 9 ST "value" "[B", .fieldLink ST 38 ST "COMPACT_STRINGS" "Z", .fieldLink ST 15 ST "coder" "B", .code Cdr.yN Cdr.yB 1 (some .byte), .methodLink ST 335 Cdr.yN, .declares Cdr.yN, .selects ST Cdr.yN Cdr.yN, .instanceMethod Cdr.yN]
theorem tabLen_of {a : Array Value} {s : State} (h : ∀ w ∈ wordsLen, w.before a s = true) : Len.tab.before a s = true := by
  have hc : Cdr.tab.before a s = true := unparts (wk h (.code Cdr.yN Cdr.yB 1 (some .byte))) (wks h (.initialized Cdr.yN.cls :: Cdr.site))
  have q := consq hc h
  exact unparts (wk q (.code Len.yN Len.yB 1 (some .int))) (wks q (.initialized Len.yN.cls :: Len.site))
theorem movedLen {Z s : State} {a0 args : Array Value} (hZ : Z.Warmed39 s.vm) (hw : ∀ d ∈ wordsLen, d.before a0 Z = true) : ∀ d ∈ wordsLen, d.before args s = true := fun d hd => by
  have q := hw d hd
  have t : ∀ d ∈ wordsLen, d = .arrayClass .byte ∨ (d.onTables && d.keepsFace) = true := by decide +kernel
  rcases t d hd with rfl | t
  · exact RoadKit.mvA hZ q
  · exact RoadKit.mv hZ q t
/-- the bytes of the chars cs, low before high -/
def wideBytes : List Int32 → List Value
  | [] => []
  | c :: cs => .int (lo8 c) :: .int (hi8 c) :: wideBytes cs
theorem wide_lo (d : Value) : ∀ (cs : List Int32) (j : Nat), j < cs.length → (wideBytes cs).getD (2 * j) d = .int (lo8 (cs.getD j 0))
  | [], j, h => absurd h (Nat.not_lt_zero j)
  | c :: cs, 0, _ => rfl
  | c :: cs, j + 1, h => by
    have q := wide_lo d cs j (by simpa using h)
    rw [show 2 * (j + 1) = 2 * j + 1 + 1 from by omega]
    simpa [wideBytes] using q
theorem wide_hi (d : Value) : ∀ (cs : List Int32) (j : Nat), j < cs.length → (wideBytes cs).getD (2 * j + 1) d = .int (hi8 (cs.getD j 0))
  | [], j, h => absurd h (Nat.not_lt_zero j)
  | c :: cs, 0, _ => rfl
  | c :: cs, j + 1, h => by
    have q := wide_hi d cs j (by simpa using h)
    rw [show 2 * (j + 1) + 1 = 2 * j + 1 + 1 + 1 from by omega]
    simpa [wideBytes] using q
theorem low_at (d : Value) (cs : List Int32) (j : Nat) (h : j < cs.length) : (cs.map fun c => Value.int (lo8 c)).getD j d = .int (lo8 (cs.getD j 0)) := by
  simp [List.getD_eq_getElem?_getD, h]
/-- an array of N2 bytes vs codes the chars cs by the coder cd -/
def CodA (cs : List Int32) (cd N2 : Int32) (vs : List Value) : Prop := (cd = 0 ∧ N2 = Int32.ofNat cs.length ∧ vs = (cs.map fun c => Value.int (lo8 c)) ∧ ∀ c ∈ cs, ¬ 255 < c) ∨ (cd = 1 ∧ N2 = Int32.ofNat (2 * cs.length) ∧ vs = wideBytes cs ∧ ∃ c ∈ cs, 255 < c)
theorem CodA.cod {cs : List Int32} {cd N2 : Int32} {vs : List Value} {V : Cell} (h : CodA cs cd N2 vs) (hn : 2 * cs.length < 2 ^ 31) (hs : V.slots.size = N2.toNatClampNeg) (hv : RoadKit.Has V vs (.int 0)) : Cod cd cs.length (fun j => cs.getD j 0) V := by
  rcases h with ⟨rfl, rfl, rfl, h⟩ | ⟨rfl, rfl, rfl, c, hc, hw⟩
  · rw [n32 (by omega)] at hs
    exact Or.inl ⟨rfl, hs, fun j hj => ⟨by rw [hv j (by omega), low_at _ _ _ hj], by
      have e : cs.getD j 0 = cs[j] := by simp [List.getD_eq_getElem?_getD, hj]
      show ¬ 255 < cs.getD j 0
      rw [e]; exact h _ (List.getElem_mem _)⟩⟩
  · rw [n32 (by omega)] at hs
    obtain ⟨j, hj, rfl⟩ := List.getElem_of_mem hc
    exact Or.inr ⟨rfl, hs, fun j hj => ⟨by rw [hv _ (by omega), wide_lo _ _ _ hj], by rw [hv _ (by omega), wide_hi _ _ _ hj]⟩, j, hj, by
      have e : cs.getD j 0 = cs[j] := by simp [List.getD_eq_getElem?_getD, hj]
      show 255 < cs.getD j 0
      rw [e]; exact hw⟩
/-- an object of exactly java/lang/String, its two fields found: as the laws ask it -/
theorem strObj {Z U : State} {a0 : Array Value} {kI : Nat} (wi : (Jvm.Cond.instantiable ST kI).before a0 Z = true) (al : Z.vm.Alike U.vm) {x : Addr} {v0 c0 : Value} (E : RoadKit.Exa Z U.heap x ST) (V : RoadKit.Fld Z U.heap x ST "value" "[B" v0) (C : RoadKit.Fld Z U.heap x ST "coder" "B" c0) :
    ∃ (D : Cell) (fV fC : Field), Blank ST x D U ∧ Found ST "value" "[B" fV U ∧ Found ST "coder" "B" fC U ∧ D.slots[fV.slot]? = some v0 ∧ D.slots[fC.slot]? = some c0 ∧ RoadKit.slotOf Z ST "value" "[B" = fV.slot ∧ RoadKit.slotOf Z ST "coder" "B" = fC.slot := by
  obtain ⟨D, cfV, kV, iV, fV, hD, gV, stV, knV, obV, asV, slV⟩ := V
  obtain ⟨D', cfC, kC, iC, fC, hD', gC, stC, -, -, asC, slC⟩ := C
  cases hD.symm.trans hD'
  obtain ⟨D2, kD, e1, e2, e3, e4, e5⟩ := E
  cases hD.symm.trans e1
  obtain ⟨c2, k2, i1, i2, i3, -⟩ := Cond.instantiable_spec wi
  cases e2.symm.trans i1
  cases e3.symm.trans i2
  obtain ⟨kU, u1, u2⟩ := al.2.2 _ _ e3
  exact ⟨D, fV, fC, ⟨hD, ⟨knV, fun q hq => by rw [hq] at obV; cases obV⟩, by rw [al.findClass]; exact e2, kU, u1, by rw [u2]; exact i3, by rw [u2]; exact e5 i3⟩, ⟨SBG.found_only al ⟨cfV, kV, iV, gV⟩, stV⟩, ⟨SBG.found_only al ⟨cfC, kC, iC, gC⟩, stC⟩, slV, slC, by simp [RoadKit.slotOf, gV], by simp [RoadKit.slotOf, gC]⟩
theorem sta_is {Z U : State} (al : Z.vm.Alike U.vm) {C n d : String} {v : Value} (S : RoadKit.Sta Z U.heap C n d v) : StaticIs U C n d v := by
  obtain ⟨cfS, iS, kS, fS, st, cS, t1, t2, t3, t4, t5, t6, t7⟩ := S
  exact StaticIs.there (s := { Z with heap := U.heap }) ⟨cfS, iS, kS, fS, st, cS, t1, t2, t3, t4, t5, (fun q => by rw [q] at t6; cases t6), t7⟩ al rfl
/-- **length() OF SUCH A STRING** -/
theorem lenW {p : Program} {l : Launch} {e : Env} {R : Room} {s : State} {args : Array Value} {below : List Frame} {len W : Nat} {Z : State} {a0 : Array Value} {h : Heap} (hZ : Z.Warmed39 s.vm) (hw : ∀ d ∈ wordsLen, d.before a0 Z = true) {kI : Nat} (wi : (Jvm.Cond.instantiable ST kI).before a0 Z = true)
    {x t : Addr} {kb : ClassId} {cs : List Int32} {cd N2 z : Int32} {vs : List Value} (E : RoadKit.Exa Z h x ST) (V : RoadKit.Fld Z h x ST "value" "[B" (.ref t)) (C : RoadKit.Fld Z h x ST "coder" "B" (.int cd)) (K : RoadKit.Arv Z h t kb .byte N2 vs (.int 0)) (hc : CodA cs cd N2 vs) (hb : ∀ c ∈ cs, ¬ c < 0 ∧ ¬ (65535 : Int32) < c)
    (S : RoadKit.Sta Z h ST "COMPACT_STRINGS" "Z" (.int z)) (hz : ¬ z = 0) (l2 : cs.length ≤ 4000) (hfr : 2 ≤ R.frames) (hlo : W + 25 ≤ R.locals) :
    Back l R p e below s args (⟨"java/lang/String", "length", "()I"⟩ : MethodName) len W (fun P a => a = #[.ref x] ∧ P.U.heap = h ∧ P.cells + 0 ≤ R.cells ∧ P.slots + 0 ≤ R.slots)
      (fun P _ v B => ∃ L, (v = some (.int (Int32.ofNat cs.length)) ∧ L = [] ∧ B.U.heap = h) ∧ B.locs = P.locs ++ L ∧ B.cells = P.cells + 0 ∧ B.slots = P.slots + 0) := by
  obtain ⟨A, K1, K2, K3, K4, K5, K6⟩ := K
  have hcod := hc.cod (by omega) K3 K5
  intro m meth c P g ig mk a X hg hsize hdg hW hn hp'
  obtain ⟨rfl, rfl, r1, r2⟩ := hp'
  have al : Z.vm.Alike P.U.vm := hZ.alike.trans X.warmed.alike
  obtain ⟨D, fV, fC, hB, F1, F2, g1, g2, -, -⟩ := strObj wi al E V C
  have hx : Txt x t A cd cs.length (fun j => cs.getD j 0) P.U := ⟨⟨_, hB.2.2.1, D, hB.1, rfl, by cases q : D.vm <;> first | rfl | exact absurd q (hB.2.1.2 _)⟩, Has.of hB F1 g1, Has.of hB F2 g2, ⟨K1.1, State.isArrayOf_alike al K1.2.1, K1.2.2, by rcases hcod with ⟨-, q, -⟩ | ⟨-, q, -⟩ <;> omega⟩, hcod, fun j hj => by
    have e : cs.getD j 0 = cs[j] := by simp [List.getD_eq_getElem?_getD, hj]
    show ¬ cs.getD j 0 < 0 ∧ ¬ 65535 < cs.getD j 0
    rw [e]; exact hb _ (List.getElem_mem _)⟩
  obtain ⟨v, B, X', ⟨⟨hv, hh⟩, hl, hk, hs⟩, st⟩ := Len.pays x t A cd cs.length (fun j => cs.getD j 0) z (tabLen_of (movedLen hZ hw)) hfr hlo m meth c P g ig mk _ X hg hsize hdg hW hn ⟨r1, r2, rfl, hx, sta_is al S, hz⟩
  exact ⟨v, B, X', ⟨[], ⟨hv, rfl, hh⟩, hl, hk, hs⟩, st⟩
end StrChars.Road
namespace StrChars.Road
open Jvm Sem ClassFile Op Lib Jvm.Stand Jvm.Free Jvm.Free.XT
open Jvm.Lib.Cold (StaticIs)
/-- the road's facts of a String, as the laws ask it -/
theorem txt_of {Z U : State} {a0 : Array Value} {kI : Nat} (wi : (Jvm.Cond.instantiable ST kI).before a0 Z = true) (al : Z.vm.Alike U.vm) {x t : Addr} {kb : ClassId} {cs : List Int32} {cd N2 : Int32} {vs : List Value} (E : RoadKit.Exa Z U.heap x ST) (V : RoadKit.Fld Z U.heap x ST "value" "[B" (.ref t)) (C : RoadKit.Fld Z U.heap x ST "coder" "B" (.int cd)) (K : RoadKit.Arv Z U.heap t kb .byte N2 vs (.int 0)) (hc : CodA cs cd N2 vs) (hb : ∀ c ∈ cs, ¬ c < 0 ∧ ¬ (65535 : Int32) < c) (l2 : cs.length ≤ 4000) :
    ∃ A, Txt x t A cd cs.length (fun j => cs.getD j 0) U := by
  obtain ⟨A, K1, K2, K3, K4, K5, K6⟩ := K
  have hcod := hc.cod (by omega) K3 K5
  obtain ⟨D, fV, fC, hB, F1, F2, g1, g2, -, -⟩ := strObj wi al E V C
  exact ⟨A, ⟨_, hB.2.2.1, D, hB.1, rfl, by cases q : D.vm <;> first | rfl | exact absurd q (hB.2.1.2 _)⟩, Has.of hB F1 g1, Has.of hB F2 g2, ⟨K1.1, State.isArrayOf_alike al K1.2.1, K1.2.2, by rcases hcod with ⟨-, q, -⟩ | ⟨-, q, -⟩ <;> omega⟩, hcod, fun j hj => by
    have e : cs.getD j 0 = cs[j] := by simp [List.getD_eq_getElem?_getD, hj]
    show ¬ cs.getD j 0 < 0 ∧ ¬ 65535 < cs.getD j 0
    rw [e]; exact hb _ (List.getElem_mem _)⟩
end StrChars.Road
namespace StrChars
open Jvm Sem ClassFile Op Lib Jvm.Stand Jvm.Free.XT Jvm.Free.ALB Jvm.Free.JM Jvm.Free
open Jvm.Lib.Cold (StaticIs)
namespace ChN
def yN : MethodName := ⟨"java/lang/String", "charAt", "(I)C"⟩
abbrev yB : ByteArray := jdk_42_method_56_code
theorem d0 : decode yB 0 = .ok (.aload_n 0, 1) := by decide +kernel
theorem d1 : decode yB 1 = .ok (.invokevirtual 492, 3) := by decide +kernel
theorem d4 : decode yB 4 = .ok (.ifCond (.eq) 12, 3) := by decide +kernel
theorem d7 : decode yB 7 = .ok (.aload_n 0, 1) := by decide +kernel
theorem d8 : decode yB 8 = .ok (.getfield 9, 3) := by decide +kernel
theorem d11 : decode yB 11 = .ok (.iload_n 1, 1) := by decide +kernel
theorem d12 : decode yB 12 = .ok (.invokestatic 495, 3) := by decide +kernel
theorem d15 : decode yB 15 = .ok (.ireturn, 1) := by decide +kernel
def site : List Cond := [.fieldLink "java/lang/String" 9 "java/lang/String" "value" "[B", IsL.tab, LChA.tab] ++ virtW "java/lang/String" 492 "java/lang/String" IsL.yN IsL.yN ++ staticW "java/lang/String" 495 LChA.yN
def tab : Cond := tabOf yN yB 2 (some .char) site
def P (x t : Addr) (V : Cell) (n : Nat) (f : Nat → Int32) (z : Int32) (fm : Value) (i : Nat) (args : Array Value) (s : State) : Prop := args = #[.ref x, .int (Int32.ofNat i)] ∧ Txt x t V 0 n f s ∧ i < n ∧ StaticIs s "java/lang/String" "COMPACT_STRINGS" "Z" (.int z) ∧ ¬ z = 0 ∧ StaticIs s "jdk/internal/util/Preconditions" "SIOOBE_FORMATTER" "Ljava/util/function/BiFunction;" fm ∧ fm.isRef = true
def E (f : Nat → Int32) (i : Nat) (r : Option Value) (s u : State) : Prop := XT.PureE (some (.int (f i))) r s u
/-- charAt(i) of a Latin-1 String of n chars, i < n: f i -/
theorem law (l : Launch) (x t : Addr) (V : Cell) (n : Nat) (f : Nat → Int32) (z : Int32) (fm : Value) (i : Nat) : Law l yN 2 1 3 40 yB 2 (some .char) site (P x t V n f z fm i) (E f i) [] 0 0 := by
  refine Law.of_walk (plainFor_of_name (by decide +kernel)) (by decide +kernel) (by decide +kernel) (by decide) (fun _ _ h => by rw [h.1]; rfl) (fun _ U U' hal hh h => ⟨h.1, h.2.1.mv hal hh, h.2.2.1, h.2.2.2.1.there hal hh, h.2.2.2.2.1, h.2.2.2.2.2.1.there hal hh, h.2.2.2.2.2.2⟩) (fun r U U' V V' h1 hal h2 h => XT.PureE.mv r U U' V V' h1 hal h2 h) ?_
  intro p e s m args below meth c s₁ X0 hexec hbytes hml hret hlk hnm hown hh0 W hP
  obtain ⟨rfl, hx, hi, s1, hz, s3, rf⟩ := hP
  have v31 := hx.2.2.2.1.2.2.2
  have hr := hx.2.2.2.2.2 i hi
  have hx0 := hx.mv X0.warmed.alike hh0
  have c1 : Steps p.tables e below (s₁.setTop (entryFrame m #[.ref x, .int (Int32.ofNat i)] 2)) (s₁.setTop (mkF m 1 #[.val (.ref x), .val (.int (Int32.ofNat i))] [.ref x])) := Steps.trans (entry rfl) (by
    show Steps p.tables e below (s₁.setTop (mkF m 0 #[.val (.ref x), .val (.int (Int32.ofNat i))] [])) _
    refine XS.aloadN X0.here hexec rfl (hb hbytes d0) rfl rfl ?_
    exact Steps.refl _)
  obtain ⟨v2, T2, X2, E2, g2⟩ := X0.callV hexec (IsL.law l x 0 z) hown (wks W (virtW "java/lang/String" 492 "java/lang/String" IsL.yN IsL.yN)) rfl (by decide) (wk W IsL.tab) (W := 0) (Nat.le_of_ble_eq_true rfl) (Nat.le_of_ble_eq_true rfl) (Nat.le_refl _) (Nat.le_refl _) (hx0.1.fc X0.warmed.alike) hx0.1.is (g := (mkF m 1 #[.val (.ref x), .val (.int (Int32.ofNat i))] [.ref x])) rfl (by rw [hml]; rfl) c1 (argsL := []) (rest := []) rfl rfl (by show 2 * 0 + 0 ≤ _; decide) (hb hbytes d1) (⟨rfl, hx0.2.2.1, hx.2.2.2.2.1.cd, s1.there X0.warmed.alike hh0, hz⟩)
  obtain ⟨rfl, q2⟩ := E2
  have hh2 := q2.trans hh0
  have hx2 := hx.mv X2.warmed.alike hh2
  obtain ⟨-, k1, k2⟩ | ⟨k0, -⟩ := hx.2.2.2.2.1
  · have c3 : Steps p.tables e below (s₁.setTop (entryFrame m #[.ref x, .int (Int32.ofNat i)] 2)) (T2.setTop (mkF m 8 #[.val (.ref x), .val (.int (Int32.ofNat i))] [.ref x])) := Steps.trans g2 (by
      refine XS.ifNo X2.here hexec rfl (hb hbytes d4) rfl (i0_eq_f (by decide)) ?_
      refine XS.aloadN X2.here hexec rfl (hb hbytes d7) rfl rfl ?_
      exact Steps.refl _)
    obtain ⟨T4, X4, q4, st4⟩ := X2.hget hexec hown (wk W (.fieldLink "java/lang/String" 9 "java/lang/String" "value" "[B")) hx2.2.1 (g := (mkF m 8 #[.val (.ref x), .val (.int (Int32.ofNat i))] [.ref x])) rfl (rest := []) rfl (hb hbytes d8)
    have hh4 := q4.trans hh2
    have c5 : Steps p.tables e below (s₁.setTop (entryFrame m #[.ref x, .int (Int32.ofNat i)] 2)) (T4.setTop (mkF m 12 #[.val (.ref x), .val (.int (Int32.ofNat i))] [.int (Int32.ofNat i), .ref t])) := (c3.trans (st4 _ (Steps.refl _))).trans (by
      refine XS.iloadN X4.here hexec rfl (hb hbytes d11) rfl ?_
      exact Steps.refl _)
    obtain ⟨v6, T6, X6, E6, g6⟩ := X4.callS hexec (LChA.law l t V i (lo8 (f i)) fm) hown (wks W (staticW "java/lang/String" 495 LChA.yN)) (wk W LChA.tab) (W := 0) (Nat.le_of_ble_eq_true rfl) (Nat.le_of_ble_eq_true rfl) (Nat.le_refl _) (Nat.le_refl _) (g := (mkF m 12 #[.val (.ref x), .val (.int (Int32.ofNat i))] [.int (Int32.ofNat i), .ref t])) rfl (by rw [hml]; rfl) c5 (argsL := [.ref t, .int (Int32.ofNat i)]) (rest := []) rfl rfl (by show 2 * 0 + 0 ≤ _; decide) (hb hbytes d12) (⟨rfl, hx.2.2.2.1.mv X4.warmed.alike hh4, (k2 i hi).1, s3.there X4.warmed.alike hh4, rf⟩)
    obtain ⟨rfl, q6⟩ := E6
    rw [chr8_lo8 hr.1 (k2 i hi).2] at g6
    exact ⟨T6, some (.int (f i)), _, _, _, X6, rfl, rfl, rfl, (fun h => by cases h), ⟨rfl, q6.trans hh4⟩, fun fs hl => Steps.trans g6 (X6.ireturnOut hexec hret (narrow_ch hr.1 hr.2) (Or.inr (Or.inr (Or.inr (Or.inl rfl)))) (hb hbytes d15) hl)⟩
  · exact absurd k0 (by decide)
theorem pays {l : Launch} {R : Room} {p : Program} {e : Env} {below : List Frame} {s : State} {sargs : Array Value} {len W : Nat} (x t : Addr) (V : Cell) (n : Nat) (f : Nat → Int32) (z : Int32) (fm : Value) (i : Nat) (htab : tab.before sargs s = true) (hfr : 4 ≤ R.frames) (hlo : W + 53 ≤ R.locals) :
    Back l R p e below s sargs yN len W (fun A₁ a₁ => A₁.cells + 0 ≤ R.cells ∧ A₁.slots + 0 ≤ R.slots ∧ P x t V n f z fm i a₁ A₁.U) (fun A₁ _ v₁ B₁ => E f i v₁ A₁.U B₁.U ∧ B₁.locs = A₁.locs ++ [] ∧ B₁.cells = A₁.cells + 0 ∧ B₁.slots = A₁.slots + 0) :=
  (law l x t V n f z fm i).pays htab hfr (by omega)
end ChN
end StrChars
namespace StrChars.Road
open Jvm Sem ClassFile Op Lib Jvm.Stand Jvm.Free Jvm.Free.XT
open Jvm.Lib.Cold (StaticIs)
/-- the words of String.charAt(int), the Latin-1 road alone -/
abbrev wordsChN : List Jvm.Cond := [.code ChN.yN ChN.yB 2 (some .char), .initialized ST, .fieldLink ST 9 ST "value" "[B", .fieldLink ST 38 ST "COMPACT_STRINGS" "Z", .fieldLink ST 15 ST "coder" "B", .code IsL.yN IsL.yB 1 (some .boolean), .methodLink ST 492 IsL.yN, .declares IsL.yN, .selects ST IsL.yN IsL.yN, .instanceMethod IsL.yN,
  .methodLink ST 495 LChA.yN, .static LChA.yN, .code LChA.yN LChA.yB 2 (some .char), .initialized "java/lang/StringLatin1", .methodLink "java/lang/StringLatin1" 9 JO.Str_checkIndex.yN, .static JO.Str_checkIndex.yN, .code JO.Str_checkIndex.yN JO.Str_checkIndex.yB 2 none,
  .fieldLink ST 1053 "jdk/internal/util/Preconditions" "SIOOBE_FORMATTER" "Ljava/util/function/BiFunction;", .methodLink ST 1059 JC.PreCheck.yN, .static JC.PreCheck.yN, .code JC.PreCheck.yN JC.PreCheck.yB 3 (some .int), .initialized "jdk/internal/util/Preconditions"]
theorem tabChN_of {a : Array Value} {s : State} (h : ∀ w ∈ wordsChN, w.before a s = true) : ChN.tab.before a s = true := by
  have hp : JC.PreCheck.tab.before a s = true := unparts (wk h (.code JC.PreCheck.yN JC.PreCheck.yB 3 (some .int))) (wks h (.initialized JC.PreCheck.yN.cls :: JC.PreCheck.site))
  have qk := consq hp h
  have hk : JO.Str_checkIndex.tab.before a s = true := unparts (wk qk (.code JO.Str_checkIndex.yN JO.Str_checkIndex.yB 2 none)) (wks qk (.initialized JO.Str_checkIndex.yN.cls :: JO.Str_checkIndex.site))
  have ql := consq hk h
  have hl : LChA.tab.before a s = true := unparts (wk ql (.code LChA.yN LChA.yB 2 (some .char))) (wks ql (.initialized LChA.yN.cls :: LChA.site))
  have hi : IsL.tab.before a s = true := unparts (wk h (.code IsL.yN IsL.yB 1 (some .boolean))) (wks h (.initialized IsL.yN.cls :: IsL.site))
  have q := consq hi (consq hl h)
  exact unparts (wk q (.code ChN.yN ChN.yB 2 (some .char))) (wks q (.initialized ChN.yN.cls :: ChN.site))
theorem movedChN {Z s : State} {a0 args : Array Value} (hZ : Z.Warmed39 s.vm) (hw : ∀ d ∈ wordsChN, d.before a0 Z = true) : ∀ d ∈ wordsChN, d.before args s = true := fun d hd => by
  have t : ∀ d ∈ wordsChN, (d.onTables && d.keepsFace) = true := by decide +kernel
  exact RoadKit.mv hZ (hw d hd) (t d hd)
/-- **charAt(i) OF A LATIN-1 STRING**, i < n: the char -/
theorem chN {p : Program} {l : Launch} {e : Env} {R : Room} {s : State} {args : Array Value} {below : List Frame} {len W : Nat} {Z : State} {a0 : Array Value} {h : Heap} (hZ : Z.Warmed39 s.vm) (hw : ∀ d ∈ wordsChN, d.before a0 Z = true) {kI : Nat} (wi : (Jvm.Cond.instantiable ST kI).before a0 Z = true)
    {x t : Addr} {kb : ClassId} {cs : List Int32} {N2 z : Int32} {vs : List Value} {fm : Value} {i : Nat} {j : Int32} (E : RoadKit.Exa Z h x ST) (V : RoadKit.Fld Z h x ST "value" "[B" (.ref t)) (C : RoadKit.Fld Z h x ST "coder" "B" (.int 0)) (K : RoadKit.Arv Z h t kb .byte N2 vs (.int 0)) (hc : CodA cs 0 N2 vs) (hb : ∀ c ∈ cs, ¬ c < 0 ∧ ¬ (65535 : Int32) < c)
    (S : RoadKit.Sta Z h ST "COMPACT_STRINGS" "Z" (.int z)) (hz : ¬ z = 0) (F : RoadKit.Sta Z h "jdk/internal/util/Preconditions" "SIOOBE_FORMATTER" "Ljava/util/function/BiFunction;" fm) (rf : fm.isRef = true) (l2 : cs.length ≤ 4000) (hi : i < cs.length) (hj : j = Int32.ofNat i) (hfr : 4 ≤ R.frames) (hlo : W + 53 ≤ R.locals) :
    Back l R p e below s args (⟨"java/lang/String", "charAt", "(I)C"⟩ : MethodName) len W (fun P a => a = #[.ref x, .int j] ∧ P.U.heap = h ∧ P.cells + 0 ≤ R.cells ∧ P.slots + 0 ≤ R.slots)
      (fun P _ v B => ∃ L, (v = some (.int (cs.getD i 0)) ∧ L = [] ∧ B.U.heap = h) ∧ B.locs = P.locs ++ L ∧ B.cells = P.cells + 0 ∧ B.slots = P.slots + 0) := by
  subst hj
  intro m meth c P g ig mk a X hg hsize hdg hW hn hp'
  obtain ⟨rfl, rfl, r1, r2⟩ := hp'
  have al : Z.vm.Alike P.U.vm := hZ.alike.trans X.warmed.alike
  obtain ⟨A, hx⟩ := txt_of wi al E V C K hc hb l2
  obtain ⟨v, B, X', ⟨⟨hv, hh⟩, hl, hk, hs⟩, st⟩ := ChN.pays x t A cs.length (fun j => cs.getD j 0) z fm i (tabChN_of (movedChN hZ hw)) hfr hlo m meth c P g ig mk _ X hg hsize hdg hW hn ⟨r1, r2, rfl, hx, hi, sta_is al S, hz, sta_is al F, rf⟩
  exact ⟨v, B, X', ⟨[], ⟨hv, rfl, hh⟩, hl, hk, hs⟩, st⟩
/-- what backV says of its String, as the contracts of this text ask it: cs's low bytes, coder 0 -/
theorem codOf {cs : List Int32} {n : Nat} (hn : cs.length = n) (hb : ∀ c ∈ cs, ¬ 255 < c) : CodA cs 0 (Int32.ofNat n) ((cs.map lo8).map Value.int) := Or.inl ⟨rfl, by rw [hn], by simp [List.map_map, Function.comp_def], hb⟩
end StrChars.Road
end Jvm.Pilot.@@N@@
namespace Jvm.Pilot.@@N@@
open Jvm Jvm.ClassFile Sem Op Lib Jvm.Free Jvm.Stand Jvm.LawKit Jvm.RoadKit Bundle Jvm.Pilot.@@N@@.Jvm.D
theorem own_w {Z : State} {a0 : Array Value} (hw : ∀ d ∈ tables_1, d.before a0 Z = true) (k : Nat) {d : Jvm.Cond} (h : tables_1[k]? = some d) : d.before a0 Z = true := hw _ (List.mem_of_getElem? h)
abbrev own_R (f c s l : Nat) : Room := { frames := f, cells := c, slots := s, locals := l }
abbrev vU : Slot := .unset
abbrev vS : Slot := .second
abbrev vN : Slot := .val .null
abbrev vI (x : Int32) : Slot := .val (.int x)
abbrev vJ (x : Int64) : Slot := .val (.long x)
abbrev vR (x : Addr) : Slot := .val (.ref x)
abbrev vV (x : Value) : Slot := .val x
abbrev Go (p : Program) (e : Env) (below : List Frame) (T : State) (f : JFrame) (t : State) : Prop := Steps p.tables e below (T.setTop f) t
theorem own_and255L (x : Int32) : ¬ (x &&& (255 : Int32)) < 0 ∧ ¬ (255 : Int32) < (x &&& (255 : Int32)) := by
  have h1 := c_mask x 255 8 (by decide) (by decide)
  have e1 : (255 : Int32).toInt = 255 := rfl
  rw [Int32.lt_iff_toInt_lt, Int32.lt_iff_toInt_lt, Int32.toInt_zero]
  constructor <;> omega
theorem own_narR {v : Value} (t : FieldType) (ht : t.isReference = true) (hv : v.isRef = true) : narrow t v = v := by cases t <;> cases v <;> simp_all [narrow, FieldType.isReference, Value.isRef]
abbrev OwnMet (l : Launch) (y : MethodName) (ws : List Jvm.Cond) (rm : Room) (A : Array Value) (Z : State) (h0 : Heap) (Q : Option Value → Heap → List Loc → Prop) : Prop :=
  MetFree l y (head1 ws rm) (fun a U => a = A ∧ Z.Warmed39 U.vm ∧ U.heap = h0) (fun _ _ _ _ _ => True) (fun _ U o U' => ∃ v L, o = .returned v ∧ Q v U'.heap L ∧ FrameEnd U o U' L rm.cells rm.slots)
theorem own_body {l : Launch} {y : MethodName} {ws : List Jvm.Cond} {rm : Room} {bytes : ByteArray} {maxL : Nat} {ret : Option FieldType} {A : Array Value} {Z : State} {h0 : Heap} {Q : Option Value → Heap → List Loc → Prop} (hp : plainFor y = true)
    (his : ∀ args (s : State) m, (head1 ws rm).pre.before args s = true → s.methodNamed? y = some m → ∃ meth c, s.vm.method? m = some meth ∧ meth.code = some c ∧ c.code = bytes ∧ c.maxLocals = maxL ∧ meth.sig.returnType = ret ∧ meth.locks = false)
    (body : ∀ (p : Program) (e : Env) (s : State) (m : MethodId) (below : List Frame) (meth : Method) (c : Code) (s₁ : State), p.tables.exec = Jvm.exec → c.code = bytes → c.maxLocals = maxL → s.vm.findClass y.cls = some m.cls → meth.name = y.name → meth.sig.returnType = ret → Z.Warmed39 s.vm → Stand p l e rm s m A below meth c s₁ [] 0 0 → s₁.heap = h0 →
      ∃ (v : Option Value) (T : State) (locs : List Loc) (cells slots : Nat) (f : JFrame), Stand p l e rm s m A below meth c T locs cells slots ∧ cells ≤ rm.cells ∧ slots ≤ rm.slots ∧ (ret = none → v = none) ∧ (∀ t, Go p e below T f t → Go p e below s₁ (entryFrame m A maxL) t) ∧
        (∀ fs, (∀ (f : JFrame) (acts : List Action), f.method = m → f.locked = none → f.entered = [] → (doReturn e (T.setTop f) acts v).1 = T.setFrames fs) → Go p e below T f (T.setFrames fs)) ∧ Q v T.heap locs) :
    MetFree l y (head1 ws rm) (fun a U => a = A ∧ Z.Warmed39 U.vm ∧ U.heap = h0) (fun _ _ _ _ _ => True) (fun _ U o U' => ∃ v L, o = .returned v ∧ Q v U'.heap L ∧ FrameEnd U o U' L rm.cells rm.slots) := by
  refine MetFree.of_bodySF hp his ?_
  intro p e s m args below meth c s₁ Bd hml0 hP hK
  obtain ⟨rfl, hZ, hh⟩ := hP
  obtain ⟨v, T, locs, cells, slots, f, X, hc, hs, hv, q, hf, hQ⟩ := body p e s m below meth c s₁ Bd.exec Bd.bytes hml0 (findClass_of_methodNamed Bd.named) (name_of_methodNamed Bd.named Bd.method).1 Bd.returns hZ (Stand.of_body Bd) (by rw [← hh, Bd.state]; rfl)
  obtain ⟨fs, hr, hrun, hended, hW, hsame⟩ := X.leave (v := v) (fun h => hv (Bd.returns ▸ h))
  exact ⟨_, _, q _ (hf fs hr), hrun, hended, v, locs, rfl, hQ, ⟨_, rfl⟩, hW, hsame.mono hc hs⟩
theorem own_eqI {args : Array Value} {Z : State} {t : Term} {k : Int32} (h : (Jvm.Cond.eq t (Term.int k)).value args Z none Z [] = some true) : t.eval args Z none [] Z = some (.int k) := by
  obtain ⟨x, y, e1, e2, k1, k2⟩ := cmp_v (Or.inl h)
  rw [Term.int_eval] at e2; cases Option.some.inj e2
  cases x <;> first | (obtain ⟨z, hz⟩ := k2; cases hz; simp [Cond.value, e1, Term.int_eval] at h; rw [e1, h]) | (obtain ⟨z, hz⟩ := k2; cases hz)
theorem own_fldI {args : Array Value} {Z : State} {t : Term} {k : Int32} {C n d : String} {w : Addr} (ht : t.eval args Z none [] Z = some (.ref w)) (h : (Jvm.Cond.eq (Term.field t C n d) (Term.int k)).value args Z none Z [] = some true) : Fld Z Z.heap w C n d (.int k) :=
  Fld.start ((fld_at ht).symm.trans (own_eqI h))
abbrev sk0 : String := "Ljava/lang/String;"
abbrev sk1 : String := "com/example/installwright/installwright/formats/Marker"
abbrev sk2 : String := "com/example/installwright/installwright/formats/MarkerToStringPinLaw"
abbrev sk3 : String := "java/lang/AbstractStringBuilder"
abbrev sk4 : String := "java/lang/String"
abbrev sk5 : String := "java/lang/StringBuilder"
theorem o4 {a b c d e : Prop} (h : e) : a ∨ b ∨ c ∨ d ∨ e := Or.inr (Or.inr (Or.inr (Or.inr h)))
theorem ox {Z : State} {a0 : Array Value} (hw : ∀ d ∈ tables_1, d.before a0 Z = true) (k : Nat) {d : Jvm.Cond} (h : tables_1[k]? = some d) : d.before a0 Z = true := hw _ (List.mem_of_getElem? h)
theorem ow {Z s : State} {a0 args : Array Value} (hZ : Z.Warmed39 s.vm) (hw : ∀ d ∈ tables_1, d.before a0 Z = true) (k : Nat) {d : Jvm.Cond} (h : tables_1[k]? = some d) (hd : (d.onTables && d.keepsFace) = true := by first | rfl | simp [Cond.onTables, Cond.keepsFace, Cond.keeps, Cond.steady]) : d.before args s = true := mvT hZ (own_w hw k h) hd
theorem own_le0 {n : Nat} : 2 * 0 + n ≤ n := Nat.le_of_eq (Nat.zero_add n)
abbrev ym0 : MethodName := ⟨"java/lang/String", "coder", "()B"⟩
abbrev ym1 : MethodName := ⟨"java/lang/String", "length", "()I"⟩
abbrev ym2 : MethodName := ⟨"java/lang/AbstractStringBuilder", "<init>", "(I)V"⟩
abbrev ym3 : MethodName := ⟨"java/lang/StringBuilder", "<init>", "()V"⟩
abbrev ym4 : MethodName := ⟨"java/lang/AbstractStringBuilder", "ensureCapacityInternal", "(I)V"⟩
abbrev ym5 : MethodName := ⟨"java/lang/AbstractStringBuilder", "inflateIfNeededFor", "(Ljava/lang/String;)V"⟩
abbrev ym6 : MethodName := ⟨"java/lang/String", "getBytes", "([BIB)V"⟩
abbrev ym7 : MethodName := ⟨"java/lang/AbstractStringBuilder", "putStringAt", "(ILjava/lang/String;)V"⟩
abbrev ym8 : MethodName := ⟨"java/lang/AbstractStringBuilder", "append", "(Ljava/lang/String;)Ljava/lang/AbstractStringBuilder;"⟩
abbrev ym9 : MethodName := ⟨"java/lang/StringBuilder", "append", "(Ljava/lang/String;)Ljava/lang/StringBuilder;"⟩
abbrev ym10 : MethodName := ⟨"java/lang/AbstractStringBuilder", "getValue", "()[B"⟩
abbrev ym11 : MethodName := ⟨"java/lang/AbstractStringBuilder", "length", "()I"⟩
abbrev ym12 : MethodName := ⟨"java/lang/StringBuilder", "length", "()I"⟩
abbrev ym13 : MethodName := ⟨"java/lang/AbstractStringBuilder", "isLatin1", "()Z"⟩
abbrev ym14 : MethodName := ⟨"java/util/Arrays", "checkLength", "(II)V"⟩
abbrev ym15 : MethodName := ⟨"java/lang/Math", "min", "(II)I"⟩
abbrev ym16 : MethodName := ⟨"java/util/Arrays", "copyOfRangeByte", "([BII)[B"⟩
abbrev ym17 : MethodName := ⟨"java/util/Arrays", "copyOfRange", "([BII)[B"⟩
abbrev ym18 : MethodName := ⟨"java/lang/String", "<init>", "(Ljava/lang/AbstractStringBuilder;Ljava/lang/Void;)V"⟩
abbrev ym19 : MethodName := ⟨"java/lang/String", "<init>", "(Ljava/lang/StringBuilder;)V"⟩
abbrev ym20 : MethodName := ⟨"java/lang/StringBuilder", "toString", "()Ljava/lang/String;"⟩
abbrev ym21 : MethodName := ⟨"java/lang/StringLatin1", "canEncode", "(C)Z"⟩
abbrev ym22 : MethodName := ⟨"java/lang/StringLatin1", "toBytes", "(C)[B"⟩
abbrev ym23 : MethodName := ⟨"java/lang/String", "<init>", "([BB)V"⟩
abbrev ym24 : MethodName := ⟨"java/lang/String", "valueOf", "(C)Ljava/lang/String;"⟩
abbrev ym25 : MethodName := ⟨"java/lang/String", "<init>", "([CIILjava/lang/Void;)V"⟩
abbrev ym26 : MethodName := ⟨"java/lang/String", "<init>", "([C)V"⟩
abbrev ym27 : MethodName := ⟨"com/example/installwright/installwright/formats/MarkerToStringPinLaw", "mk", "(ICC)Ljava/lang/String;"⟩
abbrev ym28 : MethodName := ⟨"java/lang/Record", "<init>", "()V"⟩
abbrev ym29 : MethodName := ⟨"com/example/installwright/installwright/formats/Marker", "<init>", "(Ljava/lang/String;Ljava/lang/String;Ljava/lang/String;)V"⟩
abbrev ym30 : MethodName := ⟨"com/example/installwright/installwright/formats/Marker", "toString", "()Ljava/lang/String;"⟩
abbrev ym31 : MethodName := ⟨"com/example/installwright/installwright/formats/MarkerToStringPinLaw", "put", "([CIICC)I"⟩
abbrev ym32 : MethodName := ⟨"com/example/installwright/installwright/formats/MarkerToStringPinLaw", "same", "(Ljava/lang/String;[CI)Z"⟩
abbrev ym33 : MethodName := ⟨"java/lang/String", "charAt", "(I)C"⟩
theorem own_up (cs : List Int32) (h : ∀ c ∈ cs, ¬ c < 0 ∧ ¬ (255 : Int32) < c) : ∀ c ∈ cs, ¬ c < 0 ∧ ¬ (65535 : Int32) < c := fun c hc => ⟨(h c hc).1, fun q => (h c hc).2 (by rw [Int32.lt_iff_toInt_lt] at q ⊢; have e1 : (65535 : Int32).toInt = 65535 := rfl; have e2 : (255 : Int32).toInt = 255 := rfl; omega)⟩
/-- x is a String that spells cs; its bytes lie at t -/
def Str (Z : State) (h : Heap) (x t : Addr) (cs : List Int32) : Prop := ∃ (kb : ClassId) (cd N2 : Int32) (vs : List Value), Exa Z h x "java/lang/String" ∧ Fld Z h x "java/lang/String" "value" "[B" (.ref t) ∧ Fld Z h x "java/lang/String" "coder" "B" (.int cd) ∧ Arv Z h t kb .byte N2 vs (.int 0) ∧ StrChars.Road.CodA cs cd N2 vs ∧ (∀ c ∈ cs, ¬ c < 0 ∧ ¬ (65535 : Int32) < c) ∧ cs.length ≤ 4000
theorem Str.ext {Z : State} {h h' : Heap} {x t : Addr} {cs : List Int32} (F : Str Z h x t cs) (E : Ext h h') : Str Z h' x t cs := by
  obtain ⟨kb, cd, N2, vs, a1, a2, a3, a4, r⟩ := F; exact ⟨kb, cd, N2, vs, a1.ext E, a2.ext E, a3.ext E, a4.ext E, r⟩
theorem Str.keep {Z : State} {h h' : Heap} {x t : Addr} {cs : List Int32} {ws : List Addr} (F : Str Z h x t cs) (K : Keep h h' ws) (q1 : x ∉ ws) (q2 : t ∉ ws) : Str Z h' x t cs := by
  obtain ⟨kb, cd, N2, vs, a1, a2, a3, a4, r⟩ := F; exact ⟨kb, cd, N2, vs, a1.keep K, a2.keep K q1, a3.keep K q1, a4.keep K q2, r⟩
theorem Str.lt {Z : State} {h : Heap} {x t : Addr} {cs : List Int32} (F : Str Z h x t cs) : x < h.size := by obtain ⟨_, _, _, _, a1, _⟩ := F; exact a1.lt
theorem Str.ltt {Z : State} {h : Heap} {x t : Addr} {cs : List Int32} (F : Str Z h x t cs) : t < h.size := by obtain ⟨_, _, _, _, _, _, _, a4, _⟩ := F; exact a4.lt
theorem Str.exa {Z : State} {h : Heap} {x t : Addr} {cs : List Int32} (F : Str Z h x t cs) : Exa Z h x "java/lang/String" := by obtain ⟨_, _, _, _, a1, _⟩ := F; exact a1
theorem own_narc {r : Int32} (h : ¬ r < 0 ∧ ¬ (255 : Int32) < r) : r.toUInt32.toUInt16.toUInt32.toInt32 = r := by
  have h1 := c_i2c r
  have h2 := h.1
  have h3 := h.2
  rw [Int32.lt_iff_toInt_lt] at h2 h3
  have e1 : (0 : Int32).toInt = 0 := by decide
  have e2 : (255 : Int32).toInt = 255 := by decide
  exact Int32.toInt_inj.mp (by omega)
theorem own_cod {cs : List Int32} {N2 : Int32} {vs : List Value} (h1 : N2 = Int32.ofNat cs.length ∧ vs = cs.map (fun c => Value.int (StrChars.lo8 c))) (h2 : ∀ c ∈ cs, ¬ 255 < c) : StrChars.Road.CodA cs 0 N2 vs := Or.inl ⟨rfl, h1.1, h1.2, h2⟩
theorem own_safe_null {Z : State} {EL : List (String × Nat)} {vm : Vm} {h : Heap} {x : Addr} (hal : Z.vm.Alike vm) (F : Fld Z h x "java/lang/String" "value" "[B" .null) (E : Exa Z h x "java/lang/String") : Safe Z EL vm h x := fun B => by
  obtain ⟨cell, cf, k, i, f, e1, e2, e3, e4, e5, e6, e7⟩ := F
  obtain ⟨cell', k', d1, d2, d3, d4, d5⟩ := E
  cases e1.symm.trans d1
  obtain ⟨p, -, u, a, -, q, -, G, rfl | rfl⟩ := B
  · have hc : q.sC = cell := Option.some.inj ((show h[q.sa]? = some q.sC from G.ha).symm.trans e1)
    obtain ⟨cS, ⟨⟨-, -, -, ⟨c1, k1, i1, f1, -⟩, -, -, -, v1, -⟩, -⟩, -⟩ := G
    obtain ⟨k3, e8, -⟩ := State.fieldFound?_setVm (s := ({ Z with heap := h } : State)) hal (show ({ Z with heap := h } : State).fieldFound? _ _ _ = _ from e2)
    have e9 := (show (Wst Z vm h).fieldFound? _ _ _ = _ from e8).symm.trans f1
    simp only [Option.some.injEq, Prod.mk.injEq] at e9
    rw [hc, ← e9.2.2.2, e7] at v1
    simp at v1
  · cases (show h[q.sd]? = some q.SA from G.hd).symm.trans e1
    obtain ⟨cS, -, -, g, -⟩ := G
    have g' : vm.findClass "[B" = some q.SA.cls := g
    rw [hal.findClass] at g'
    obtain ⟨k1, q1, q2⟩ := Vm.findClass_spec g'
    obtain ⟨k2, q3, q4⟩ := Vm.findClass_spec d2
    cases q1.symm.trans q3
    have := q2.symm.trans q4
    exact absurd this (by decide)
def Cx (Z : State) (z_cs : Int32) (v_sf : Value) : Prop := Sta Z Z.heap sk4 "COMPACT_STRINGS" "Z" (.int z_cs) ∧ ¬ (z_cs = (0 : Int32)) ∧ Sta Z Z.heap "jdk/internal/util/Preconditions" "SIOOBE_FORMATTER" "Ljava/util/function/BiFunction;" v_sf ∧ v_sf.isRef = true
def own_EL : List (String × Nat) := [("com/example/installwright/installwright/formats/Marker", 74), ("com/example/installwright/installwright/formats/Marker", 76), ("com/example/installwright/installwright/formats/Marker", 78), ("java/lang/String", 7)]
theorem own_EW {Z : State} {a0 : Array Value} (hw : ∀ d ∈ tables_1, d.before a0 Z = true) : EW Z a0 own_EL := (EW.cons (own_w hw 129 rfl) (by decide) (EW.cons (own_w hw 130 rfl) (by decide) (EW.cons (own_w hw 131 rfl) (by decide) (EW.cons (own_w hw 38 rfl) (by decide) EW.nil))))
def own_lo (x : Int32) : Int32 := x.toInt8.toInt32
def own_by (cs : List Int32) : List Value := cs.map (fun c => Value.int (own_lo c))
def own_sb (cs : List Int32) : List Value := own_by cs ++ List.replicate (16 - cs.length) (.int 0)
theorem own_by_len (cs : List Int32) : (own_by cs).length = cs.length := by simp [own_by]
theorem own_sb_len {cs : List Int32} (h : cs.length ≤ 16) : (own_sb cs).length = 16 := by simp [own_sb, own_by]; omega
theorem own_cl {n : Nat} (h : n ≤ 16) : (Int32.ofNat n).toNatClampNeg = n ∧ ¬ Int32.ofNat n < 0 ∧ ¬ ((0 : Int32) < Int32.ofNat n - (16 : Int32)) :=
  (by decide : ∀ n : Fin 17, (Int32.ofNat n.val).toNatClampNeg = n.val ∧ ¬ Int32.ofNat n.val < 0 ∧ ¬ ((0 : Int32) < Int32.ofNat n.val - (16 : Int32))) ⟨n, by omega⟩
theorem own_shl0 (x : Int32) : x <<< ((0 : Int32) &&& 31) = x := by
  have h := c_ishl x 0 0 (by decide)
  have r := rng32 x
  have r2 := rng32 (x <<< ((0 : Int32) &&& 31))
  have p0 : ((2 ^ 0 : Nat) : Int) = 1 := by decide
  rw [p0] at h
  exact Int32.toInt_inj.mp (by omega)
theorem own_shr0 (x : Int32) : x >>> ((0 : Int32) &&& 31) = x := by
  have h := c_ishr x 0 0 (by decide)
  have p0 : ((2 ^ 0 : Nat) : Int) = 1 := by decide
  rw [p0] at h
  exact Int32.toInt_inj.mp (by omega)
theorem own_sb_cat {cs ds : List Int32} (h : cs.length + ds.length ≤ 16) : (own_sb cs).take cs.length ++ own_by ds ++ (own_sb cs).drop (cs.length + ds.length) = own_sb (cs ++ ds) := by
  have e1 : (own_sb cs).take cs.length = own_by cs := by
    unfold own_sb
    rw [← own_by_len cs, List.take_left]
  have e2 : (own_sb cs).drop (cs.length + ds.length) = List.replicate (16 - (cs ++ ds).length) (.int 0) := by
    unfold own_sb
    rw [← List.drop_drop, ← own_by_len cs, List.drop_left, own_by_len, List.drop_replicate, List.length_append]
    congr 1; omega
  rw [e1, e2]
  unfold own_sb own_by
  rw [List.map_append]
theorem own_add {a b : Nat} (h : a + b ≤ 16) : Int32.ofNat a + Int32.ofNat b = Int32.ofNat (a + b) := by
  simp [Int32.ofNat_add]
theorem own_us (ds : List Int32) : own_by ds = (List.range ds.length).map (fun i => (own_by ds).getD (0 + i) (.int 0)) := by
  apply List.ext_getElem
  · simp [own_by]
  · intro i h1 h2
    simp [List.getD_eq_getElem?_getD, own_by]
    have : i < ds.length := by simpa [own_by] using h1
    simp [this]
def own_cs (n x y : Int32) : List Int32 := if n = 0 then [] else if n = 1 then [x] else [x, y]
theorem own_cs_len (n x y : Int32) : (own_cs n x y).length ≤ 2 := by
  unfold own_cs; split
  · simp
  · split <;> simp
theorem own_rem (a : Int32) : (a &&& (3 : Int32)) % (3 : Int32) = 0 ∨ (a &&& (3 : Int32)) % (3 : Int32) = 1 ∨ (a &&& (3 : Int32)) % (3 : Int32) = 2 := by
  have h1 := c_mask a 3 2 (by decide) (by decide)
  have h6 : ((2 ^ 2 : Nat) : Int) = 4 := by decide
  rw [h6] at h1
  have h3 : (a &&& 3).toInt = 0 ∨ (a &&& 3).toInt = 1 ∨ (a &&& 3).toInt = 2 ∨ (a &&& 3).toInt = 3 := by omega
  have h4 : (a &&& 3) = 0 ∨ (a &&& 3) = 1 ∨ (a &&& 3) = 2 ∨ (a &&& 3) = 3 := by
    rcases h3 with h | h | h | h
    · exact Or.inl (Int32.toInt_inj.mp (by rw [h]; decide))
    · exact Or.inr (Or.inl (Int32.toInt_inj.mp (by rw [h]; decide)))
    · exact Or.inr (Or.inr (Or.inl (Int32.toInt_inj.mp (by rw [h]; decide))))
    · exact Or.inr (Or.inr (Or.inr (Int32.toInt_inj.mp (by rw [h]; decide))))
  rcases h4 with h | h | h | h <;> rw [h] <;> decide
theorem own_rec {Z : State} {a0 : Array Value} {C : String} {y : MethodName} (w : (Cond.selects C y y).before a0 Z = true) : ∃ c k, Z.vm.findClass y.cls = some c ∧ Z.vm.classes[c]? = some k ∧ k.isInterface = false := by
  obtain ⟨c2, r2, m2, q1, q2, q3, q4, kP, hkP, hkPi⟩ := Cond.selects_spec w
  exact ⟨m2.cls, kP, findClass_of_methodNamed q3, hkP, hkPi⟩
theorem own_selP {Z : State} {a0 : Array Value} {C : String} {y : MethodName} (w : (Cond.selects C y y).before a0 Z = true) (wi : (Cond.instanceMethod y).before a0 Z = true) (wp : (Cond.privateMethod y).before a0 Z = true) (hy : y.cls ≠ "java/lang/invoke/MethodHandle" ∧ y.cls ≠ "java/lang/invoke/VarHandle") : (Cond.selects y.cls y y).before a0 Z = true := by
  obtain ⟨c, k, h1, h2, h3⟩ := own_rec w
  exact selects_self_of_private h1 h2 h3 (Cond.privateMethod_at wp) wi hy
theorem own_selP2 {Z : State} {a0 : Array Value} {C : String} {x y : MethodName} (w : (Cond.selects C x x).before a0 Z = true) (e : x.cls = y.cls) (wi : (Cond.instanceMethod y).before a0 Z = true) (wp : (Cond.privateMethod y).before a0 Z = true) (hy : y.cls ≠ "java/lang/invoke/MethodHandle" ∧ y.cls ≠ "java/lang/invoke/VarHandle") : (Cond.selects y.cls y y).before a0 Z = true := by
  obtain ⟨c, k, h1, h2, h3⟩ := own_rec w
  rw [e] at h1
  exact selects_self_of_private h1 h2 h3 (Cond.privateMethod_at wp) wi hy
theorem own_same {Z : State} {a0 : Array Value} {C : String} {x y : MethodName} (w : (Cond.selects C x x).before a0 Z = true) (e : x.cls = y.cls) (wi : (Cond.instanceMethod y).before a0 Z = true) (hy : y.cls ≠ "java/lang/invoke/MethodHandle" ∧ y.cls ≠ "java/lang/invoke/VarHandle") : (Cond.sameMethod y.cls y.cls y.name y.desc).before a0 Z = true := by
  obtain ⟨c, k, h1, h2, h3⟩ := own_rec w
  rw [e] at h1
  obtain ⟨mk, methM, hnamed, hmethM, -, -⟩ := Cond.instanceMethod_spec wi
  have hfound : Z.methodFound? y.cls y.name y.desc = some mk := State.methodFound?_of_named hnamed hy
  have hn2 : Z.methodNamed? ⟨y.cls, y.name, y.desc⟩ = some mk := hnamed
  simp only [Cond.before, Cond.holds, Cond.value, h1, hfound, hn2, h2]
  simp [h3]
theorem own_nf {s : State} {args : Array Value} {C : String} {x y : MethodName} (w : (Cond.selects C x x).before args s = true) (e : x.cls = y.cls) : NotFace s y := fun r0 h0 => by
  obtain ⟨c, k, h1, h2, h3⟩ := own_rec w
  have hc := findClass_of_methodNamed h0
  rw [← e, h1] at hc
  cases hc
  exact ⟨k, h2, h3⟩
theorem ef_17_R (m : MethodId) (x0 : Addr) : entryFrame m #[(.ref x0)] 1 = mkF m 0 #[.val (.ref x0)] [] := by first | (simp [entryFrame, mkF, argsToLocals, Value.category]; done) | rfl
theorem pn_17 : plainName "java/lang/String" = true := by first | (simp [plainName, overriddenIn]; done) | decide +kernel
theorem d17_0 : decode jdk_42_method_152_code 0 = .ok (.getstatic 38, 3) := by decide +kernel
theorem d17_3 : decode jdk_42_method_152_code 3 = .ok (.ifCond .eq 10, 3) := by decide +kernel
theorem d17_6 : decode jdk_42_method_152_code 6 = .ok (.aload_n 0, 1) := by decide +kernel
theorem d17_7 : decode jdk_42_method_152_code 7 = .ok (.getfield 15, 3) := by decide +kernel
theorem d17_10 : decode jdk_42_method_152_code 10 = .ok (.goto 4, 3) := by decide +kernel
theorem d17_14 : decode jdk_42_method_152_code 14 = .ok (.ireturn, 1) := by decide +kernel
def Q_rm17 (Z : State) (x : Addr) (z_cs : Int32) (v_sf : Value) (h0 : Heap) (n0 : Nat) (v : Option Value) (h : Heap) (L : List Loc) : Prop := v = some (.int 0) ∧ Fr n0 L ∧ h = h0
theorem rm17 (l : Launch) (Z : State) (a0 : Array Value) (hw : ∀ d ∈ tables_1, d.before a0 Z = true) (ws : List Jvm.Cond) {z_cs : Int32} {v_sf : Value} (cx : Cx Z z_cs v_sf) (x : Addr) (h0 : Heap) (n0 : Nat) (O0 : Old Z n0 h0) (G0 : Fld Z h0 x sk4 "coder" "B" (.int 0)) :
    OwnMet l ym0 (Jvm.Cond.code ym0 jdk_42_method_152_code 1 (some .byte) :: ws) (own_R 0 0 0 0) #[(.ref x)] Z h0 (Q_rm17 Z x z_cs v_sf h0 n0) := by
  refine own_body (plainFor_of_name pn_17) hisR fun p e s m below meth c s₁ hx hby hml hown hnm hret hZ X0 e0 => ?_
  have N0 := Fr.nil n0
  have pre0 : ∀ t, Go p e below s₁ (mkF m 0 #[vR x] []) t → Go p e below s₁ (entryFrame m #[(.ref x)] 1) t := fun t k => castTop (ef_17_R m x) k
  obtain ⟨T21, X21, e21, st21⟩ := getS2 X0 hx hZ hown (host := "") (Or.inl (ox hw 8 rfl)) Via.refl e0 (cx.1.ext O0.2) (g := (mkF m 0 #[vR x] [])) rfl (hb hby d17_0)
  have q22 := fun t (kt : Go p e below T21 (mkF m 7 #[vR x] [(.ref x)]) t) => pre0 t (st21 t (by
    show Go _ _ _ _ (mkF m 3 #[vR x] [(.int z_cs)]) _
    refine XS.ifNo X21.here hx rfl (hb hby d17_3) rfl ((if0 _ _).trans (feq cx.2.1).1) ?_
    show Go _ _ _ _ (mkF m 6 _ []) _
    refine XS.aloadN X21.here hx rfl (hb hby d17_6) rfl rfl ?_
    exact kt))
  obtain ⟨T23, X23, e23, st23⟩ := getF X21 hx hZ hown (host := "") (Or.inl (ox hw 28 rfl)) Via.refl e21 G0 (g := (mkF m 7 #[vR x] [(.ref x)])) rfl rfl (hb hby d17_7)
  have q24 := fun t (kt : Go p e below T23 (mkF m 14 #[vR x] [(.int 0)]) t) => q22 t (st23 t (by
    show Go _ _ _ _ (mkF m 10 #[vR x] [(.int 0)]) _
    refine XS.goto X23.here hx rfl (pc0 := 10) (pc' := 14) rfl (hb hby d17_10) (by decide) (by decide) ?_
    exact kt))
  exact ⟨some (.int 0), T23, _, _, _, _, X23, by decide, by decide, nofun, q24, fun fs hr => retN X23 hx (t := .byte) hret (by simp) (hb hby d17_14) hr, by rw [e23]; exact ⟨rfl, N0, rfl⟩⟩
theorem ef_16_R (m : MethodId) (x0 : Addr) : entryFrame m #[(.ref x0)] 1 = mkF m 0 #[.val (.ref x0)] [] := by first | (simp [entryFrame, mkF, argsToLocals, Value.category]; done) | rfl
theorem pn_16 : plainName "java/lang/String" = true := by first | (simp [plainName, overriddenIn]; done) | decide +kernel
theorem d16_0 : decode jdk_42_method_54_code 0 = .ok (.aload_n 0, 1) := by decide +kernel
theorem d16_1 : decode jdk_42_method_54_code 1 = .ok (.getfield 9, 3) := by decide +kernel
theorem d16_4 : decode jdk_42_method_54_code 4 = .ok (.arraylength, 1) := by decide +kernel
theorem d16_5 : decode jdk_42_method_54_code 5 = .ok (.aload_n 0, 1) := by decide +kernel
theorem d16_6 : decode jdk_42_method_54_code 6 = .ok (.invokevirtual 335, 3) := by decide +kernel
theorem pd_0 : parseMethodDescriptor "()B" = some ⟨[], some .byte⟩ := by decide +kernel
theorem d16_9 : decode jdk_42_method_54_code 9 = .ok (.ishr, 1) := by decide +kernel
theorem d16_10 : decode jdk_42_method_54_code 10 = .ok (.ireturn, 1) := by decide +kernel
def Q_rm16 (Z : State) (x : Addr) (ta : Addr) (kt : ClassId) (ds : List Int32) (z_cs : Int32) (v_sf : Value) (h0 : Heap) (n0 : Nat) (v : Option Value) (h : Heap) (L : List Loc) : Prop := v = some (.int (Int32.ofNat ds.length)) ∧ Fr n0 L ∧ h = h0
theorem rm16 (l : Launch) (Z : State) (a0 : Array Value) (hw : ∀ d ∈ tables_1, d.before a0 Z = true) (ws : List Jvm.Cond) {z_cs : Int32} {v_sf : Value} (cx : Cx Z z_cs v_sf) (x : Addr) (ta : Addr) (kt : ClassId) (ds : List Int32) (h0 : Heap) (n0 : Nat) (O0 : Old Z n0 h0) (G0 : Exa Z h0 x sk4) (G1 : Fld Z h0 x sk4 "value" "[B" (.ref ta)) (G2 : Fld Z h0 x sk4 "coder" "B" (.int 0)) (G3 : Arv Z h0 ta kt .byte (Int32.ofNat ds.length) (own_by ds) (.int 0)) :
    OwnMet l ym1 (Jvm.Cond.code ym1 jdk_42_method_54_code 1 (some .int) :: ws) (own_R 1 0 0 13) #[(.ref x)] Z h0 (Q_rm16 Z x ta kt ds z_cs v_sf h0 n0) := by
  refine own_body (plainFor_of_name pn_16) hisR fun p e s m below meth c s₁ hx hby hml hown hnm hret hZ X0 e0 => ?_
  have N0 := Fr.nil n0
  have pre0 : ∀ t, Go p e below s₁ (mkF m 0 #[vR x] []) t → Go p e below s₁ (entryFrame m #[(.ref x)] 1) t := fun t k => castTop (ef_16_R m x) k
  have q21 := fun t (kt : Go p e below s₁ (mkF m 1 #[vR x] [(.ref x)]) t) => pre0 t (by
    show Go _ _ _ _ (mkF m 0 #[vR x] []) _
    refine XS.aloadN X0.here hx rfl (hb hby d16_0) rfl rfl ?_
    exact kt)
  obtain ⟨T22, X22, e22, st22⟩ := getF X0 hx hZ hown (host := "") (Or.inl (ox hw 26 rfl)) Via.refl e0 G1 (g := (mkF m 1 #[vR x] [(.ref x)])) rfl rfl (hb hby d16_1)
  obtain ⟨c23, Ar23, -, S23, N23, -, -⟩ := id G3
  have q24 := fun t (kt : Go p e below T22 (mkF m 6 #[vR x] [(.ref x), (.int (Int32.ofNat ds.length))]) t) => q21 t (st22 t (by
    show Go _ _ _ _ (mkF m 4 #[vR x] [(.ref ta)]) _
    refine X22.arraylength hx (by rw [e22]; exact Ar23.1) (State.isArrayOf_alike hZ.alike Ar23.2.1) (g := (mkF m 4 #[vR x] [(.ref ta)])) rfl rfl (hb hby d16_4) _ ?_
    rw [len_of S23 N23]
    show Go _ _ _ _ (mkF m 5 _ [(.int (Int32.ofNat ds.length))]) _
    refine XS.aloadN X22.here hx rfl (hb hby d16_5) rfl rfl ?_
    exact kt))
  obtain ⟨cq26, kq26, q26a, q26b, q26c⟩ := isOf hZ e22 G0
  obtain ⟨_, _, ⟨T25, L25, k25, n25⟩, -, X25, ⟨_, hQ25, l25, y25, z25⟩, st25⟩ := X22.virtualBack hx (y := ym0) (z := ym0) hown (ow hZ hw 97 rfl) (ow hZ hw 98 rfl) (notFace_of_selects (args := #[]) (ow hZ hw 100 rfl)) (ow hZ hw 100 rfl) (ow hZ hw 99 rfl) (by decide) (backOf (W := 1) (rm17 l Z a0 hw [] cx x h0 n0 O0 G2) hZ (ox hw 101 rfl) (ox hw 6 rfl) (by decide) (by decide)) q26a q26c (g := (mkF m 6 #[vR x] [(.ref x), (.int (Int32.ofNat ds.length))])) rfl (by rw [hml]; rfl) (Steps.refl _) (argsL := []) (rest := [(.int (Int32.ofNat ds.length))]) (lenOf pd_0 rfl) rfl own_le0 (hb hby d16_6) (fun _ _ => ⟨rfl, e22, (by decide : 0 + 0 ≤ _), (by decide : 0 + 0 ≤ _)⟩)
  dsimp only [Pt.U, Pt.locs, Pt.cells, Pt.slots] at X25 l25 y25 z25 st25 hQ25
  subst l25 y25 z25
  obtain ⟨rfl, Nq25, eq25⟩ := hQ25
  have N27 := Fr.app N0 Nq25
  have q28 := fun t (kt : Go p e below T25 (mkF m 10 #[vR x] [(.int ((Int32.ofNat ds.length) >>> ((0 : Int32) &&& 31)))]) t) => q24 t (st25.trans (by
    show Go _ _ _ _ (mkF m 9 #[vR x] [(.int 0), (.int (Int32.ofNat ds.length))]) _
    refine XS.ishr X25.here hx rfl (hb hby d16_9) rfl ?_
    exact kt))
  exact ⟨some (.int ((Int32.ofNat ds.length) >>> ((0 : Int32) &&& 31))), T25, _, _, _, _, X25, by decide, by decide, nofun, q28, fun fs hr => retI X25 hx hret (hb hby d16_10) hr, by rw [eq25]; exact ⟨(by rw [own_shr0]), N27, rfl⟩⟩
theorem ef_13_RI (m : MethodId) (x0 : Addr) (x1 : Int32) : entryFrame m #[(.ref x0), (.int x1)] 2 = mkF m 0 #[.val (.ref x0), .val (.int x1)] [] := by first | (simp [entryFrame, mkF, argsToLocals, Value.category]; done) | rfl
theorem pn_13 : plainName "java/lang/AbstractStringBuilder" = true := by first | (simp [plainName, overriddenIn]; done) | decide +kernel
theorem d13_0 : decode jdk_68_method_2_code 0 = .ok (.aload_n 0, 1) := by decide +kernel
theorem d13_1 : decode jdk_68_method_2_code 1 = .ok (.invokespecial 3, 3) := by decide +kernel
theorem d13_4 : decode jdk_68_method_2_code 4 = .ok (.getstatic 18, 3) := by decide +kernel
theorem d13_7 : decode jdk_68_method_2_code 7 = .ok (.ifCond .eq 18, 3) := by decide +kernel
theorem d13_10 : decode jdk_68_method_2_code 10 = .ok (.aload_n 0, 1) := by decide +kernel
theorem d13_11 : decode jdk_68_method_2_code 11 = .ok (.iload_n 1, 1) := by decide +kernel
theorem d13_12 : decode jdk_68_method_2_code 12 = .ok (.newarray .byte, 2) := by decide +kernel
theorem d13_14 : decode jdk_68_method_2_code 14 = .ok (.putfield 15, 3) := by decide +kernel
theorem d13_17 : decode jdk_68_method_2_code 17 = .ok (.aload_n 0, 1) := by decide +kernel
theorem d13_18 : decode jdk_68_method_2_code 18 = .ok (.iconst 0, 1) := by decide +kernel
theorem d13_19 : decode jdk_68_method_2_code 19 = .ok (.putfield 22, 3) := by decide +kernel
theorem d13_22 : decode jdk_68_method_2_code 22 = .ok (.goto 16, 3) := by decide +kernel
theorem d13_38 : decode jdk_68_method_2_code 38 = .ok (.return_, 1) := by decide +kernel
def Q_rm13 (Z : State) (b : Addr) (z_cs : Int32) (v_sf : Value) (h0 : Heap) (n0 : Nat) (v : Option Value) (h : Heap) (L : List Loc) : Prop := ∃ (va : Addr) (kv : ClassId), v = none ∧ Fr n0 L ∧ Keep h0 h [b] ∧ h0.size ≤ va ∧ Fld Z h b sk3 "value" "[B" (.ref va) ∧ Fld Z h b sk3 "coder" "B" (.int 0) ∧ Fld Z h b sk3 "count" "I" (.int (Int32.ofNat ([] : List Int32).length)) ∧ Arv Z h va kv .byte (16 : Int32) (own_sb []) (.int 0)
theorem rm13 (l : Launch) (Z : State) (a0 : Array Value) (hw : ∀ d ∈ tables_1, d.before a0 Z = true) (ws : List Jvm.Cond) {z_cs : Int32} {v_sf : Value} (cx : Cx Z z_cs v_sf) (b : Addr) (h0 : Heap) (n0 : Nat) (O0 : Old Z n0 h0) (G0 : Exa Z h0 b sk5) (G1 : Fld Z h0 b sk3 "value" "[B" .null) (G2 : Fld Z h0 b sk3 "coder" "B" (.int 0)) (G3 : Fld Z h0 b sk3 "count" "I" (.int 0)) (g_b : n0 ≤ b) :
    OwnMet l ym2 (Jvm.Cond.code ym2 jdk_68_method_2_code 2 none :: ws) (own_R 1 1 16 12) #[(.ref b), (.int 16)] Z h0 (Q_rm13 Z b z_cs v_sf h0 n0) := by
  refine own_body (plainFor_of_name pn_13) hisR fun p e s m below meth c s₁ hx hby hml hown hnm hret hZ X0 e0 => ?_
  have N0 := Fr.nil n0
  have K0 : Keep h0 h0 [b] := Keep.refl _ _
  have pre0 : ∀ t, Go p e below s₁ (mkF m 0 #[vR b, vI 16] []) t → Go p e below s₁ (entryFrame m #[(.ref b), (.int 16)] 2) t := fun t k => castTop (ef_13_RI m b (16 : Int32)) k
  have q21 := fun t (kt : Go p e below s₁ (mkF m 1 #[vR b, vI 16] [(.ref b)]) t) => pre0 t (by
    show Go _ _ _ _ (mkF m 0 #[vR b, vI 16] []) _
    refine XS.aloadN X0.here hx rfl (hb hby d13_0) rfl rfl ?_
    exact kt)
  obtain ⟨T22, X22, e22, st22⟩ := initO X0 hx hZ hown (ox hw 76 rfl) (ox hw 24 rfl) (ox hw 25 rfl) e0 (g := (mkF m 1 #[vR b, vI 16] [(.ref b)])) rfl (by rw [hml]; rfl) rfl (hb hby d13_1) (by decide) (W := 0) own_le0 (by decide)
  obtain ⟨T23, X23, e23, st23⟩ := getS2 X22 hx hZ hown (host := "") (Or.inl (ox hw 77 rfl)) Via.refl e22 (cx.1.ext O0.2) (g := (mkF m 4 #[vR b, vI 16] [])) rfl (hb hby d13_4)
  have q24 := fun t (kt : Go p e below T23 (mkF m 12 #[vR b, vI 16] [(.int 16), (.ref b)]) t) => q21 t (st22 t (st23 t (by
    show Go _ _ _ _ (mkF m 7 #[vR b, vI 16] [(.int z_cs)]) _
    refine XS.ifNo X23.here hx rfl (hb hby d13_7) rfl ((if0 _ _).trans (feq cx.2.1).1) ?_
    show Go _ _ _ _ (mkF m 10 _ []) _
    refine XS.aloadN X23.here hx rfl (hb hby d13_10) rfl rfl ?_
    show Go _ _ _ _ (mkF m 11 _ [(.ref b)]) _
    refine XS.iloadN X23.here hx rfl (hb hby d13_11) rfl ?_
    exact kt)))
  obtain ⟨T25, h25, k25, X25, e25, E25, A25, st25⟩ := newP X23 hx hZ (ox hw 18 rfl) e23 (g := (mkF m 12 #[vR b, vI 16] [(.int 16), (.ref b)])) rfl (hb hby d13_12) rfl (by decide) (cap := 16) (by decide) (by decide) (by decide) (by decide)
  obtain ⟨b25, g25⟩ : ∃ z, z = h0.size := ⟨_, rfl⟩
  rw [← g25] at A25 st25
  have gg26 : n0 ≤ b25 := Nat.le_trans (O0.1 ▸ O0.2.1) (Nat.le_of_eq g25.symm)
  have sz27 : h0.size ≤ b25 := Nat.le_trans K0.1 (Nat.le_of_eq g25.symm)
  have O28 := O0.ext E25
  have K29 := K0.ext E25
  have V25 : Arv Z h25 b25 k25 .byte (16 : Int32) [(.int 0), (.int 0), (.int 0), (.int 0), (.int 0), (.int 0), (.int 0), (.int 0), (.int 0), (.int 0), (.int 0), (.int 0), (.int 0), (.int 0), (.int 0), (.int 0)] (.int 0) := (Arv.new A25 (by decide)).pad (pad_rep [] (.int 0) 16)
  have f30 := (G0.ext E25)
  have f31 := (G1.ext E25)
  obtain ⟨T32, h32, X32, e32, W32, st32⟩ := putF X25 hx hZ hown (host := "") (Or.inl (ox hw 78 rfl)) Via.refl e25 f31 f30 (Or.inl (ox hw 79 rfl)) (ox hw 65 rfl) (ty := (.array .byte)) (by decide) rfl rfl (g := (mkF m 14 #[vR b, vI 16] [(.ref b25), (.ref b)])) rfl rfl (hb hby d13_14)
  have f33 : Fld Z h32 b sk3 "value" "[B" (.ref b25) := f31.same W32
  have N34 := Fr.snoc X32 N0 g_b
  have O35 := O28.wr W32 g_b
  have K36 := K29.wr W32 (Or.inl (List.mem_of_getElem? (i := 0) rfl))
  have f37 := (f30.wr W32)
  have f38 := ((G2.ext E25).other W32 (Or.inr (slot_ne (Or.inl (ox hw 81 rfl)) (Or.inl (ox hw 79 rfl)) (by decide) (t := .byte) (t' := (.array .byte)) (by decide) (by decide))))
  have q39 := fun t (kt : Go p e below T32 (mkF m 19 #[vR b, vI 16] [(.int 0), (.ref b)]) t) => q24 t (st25 t (st32 t (by
    show Go _ _ _ _ (mkF m 17 #[vR b, vI 16] []) _
    refine XS.aloadN X32.here hx rfl (hb hby d13_17) rfl rfl ?_
    show Go _ _ _ _ (mkF m 18 _ [(.ref b)]) _
    refine XS.iconst X32.here hx rfl (hb hby d13_18) ?_
    exact kt)))
  obtain ⟨T40, h40, X40, e40, W40, st40⟩ := putFN X32 hx hZ hown (ox hw 80 rfl) Via.refl e32 f38 f37 (Or.inl (ox hw 81 rfl)) (ox hw 65 rfl) (ty := .byte) (v' := (.int 0)) (by decide) rfl rfl (g := (mkF m 19 #[vR b, vI 16] [(.int 0), (.ref b)])) rfl rfl (hb hby d13_19)
  have f41 : Fld Z h40 b sk3 "coder" "B" (.int 0) := f38.same W40
  have N42 := Fr.snoc X40 N34 g_b
  have O43 := O35.wr W40 g_b
  have K44 := K36.wr W40 (Or.inl (List.mem_of_getElem? (i := 0) rfl))
  have q45 := fun t (kt : Go p e below T40 (mkF m 38 #[vR b, vI 16] []) t) => q39 t (st40 t (by
    show Go _ _ _ _ (mkF m 22 #[vR b, vI 16] []) _
    refine XS.goto X40.here hx rfl (pc0 := 22) (pc' := 38) rfl (hb hby d13_22) (by decide) (by decide) ?_
    exact kt))
  have f46 := (f33.other W40 (Or.inr (slot_ne (Or.inl (ox hw 79 rfl)) (Or.inl (ox hw 81 rfl)) (by decide) (t := (.array .byte)) (t' := .byte) (by decide) (by decide))))
  have f47 := (((G3.ext E25).other W32 (Or.inr (slot_ne (Or.inl (ox hw 103 rfl)) (Or.inl (ox hw 79 rfl)) (by decide) (t := .int) (t' := (.array .byte)) (by decide) (by decide)))).other W40 (Or.inr (slot_ne (Or.inl (ox hw 103 rfl)) (Or.inl (ox hw 81 rfl)) (by decide) (t := .int) (t' := .byte) (by decide) (by decide))))
  have ne48 : b ≠ b25 := (Nat.ne_of_lt (Nat.lt_of_lt_of_le G0.lt (Nat.le_of_eq g25.symm)))
  have f49 := ((V25.other W32 (Ne.symm ne48)).other W40 (Ne.symm ne48))
  exact ⟨none, T40, _, _, _, _, X40, by decide, by decide, fun _ => rfl, q45, fun fs hr => X40.returnOut hx hret (hb hby d13_38) hr, by rw [e40]; exact ⟨b25, k25, rfl, N42, K44, sz27, f46, f41, f47, f49⟩⟩
theorem ef_12_R (m : MethodId) (x0 : Addr) : entryFrame m #[(.ref x0)] 1 = mkF m 0 #[.val (.ref x0)] [] := by first | (simp [entryFrame, mkF, argsToLocals, Value.category]; done) | rfl
theorem pn_12 : plainName "java/lang/StringBuilder" = true := by first | (simp [plainName, overriddenIn]; done) | decide +kernel
theorem d12_0 : decode jdk_67_method_1_code 0 = .ok (.aload_n 0, 1) := by decide +kernel
theorem d12_1 : decode jdk_67_method_1_code 1 = .ok (.bipush 16, 2) := by decide +kernel
theorem d12_3 : decode jdk_67_method_1_code 3 = .ok (.invokespecial 1, 3) := by decide +kernel
theorem pd_1 : parseMethodDescriptor "(I)V" = some ⟨[.int], none⟩ := by decide +kernel
theorem d12_6 : decode jdk_67_method_1_code 6 = .ok (.return_, 1) := by decide +kernel
def Q_rm12 (Z : State) (b : Addr) (z_cs : Int32) (v_sf : Value) (h0 : Heap) (n0 : Nat) (v : Option Value) (h : Heap) (L : List Loc) : Prop := ∃ (va : Addr) (kv : ClassId), v = none ∧ Fr n0 L ∧ Keep h0 h [b] ∧ h0.size ≤ va ∧ Fld Z h b sk3 "value" "[B" (.ref va) ∧ Fld Z h b sk3 "coder" "B" (.int 0) ∧ Fld Z h b sk3 "count" "I" (.int (Int32.ofNat ([] : List Int32).length)) ∧ Arv Z h va kv .byte (16 : Int32) (own_sb []) (.int 0)
theorem rm12 (l : Launch) (Z : State) (a0 : Array Value) (hw : ∀ d ∈ tables_1, d.before a0 Z = true) (ws : List Jvm.Cond) {z_cs : Int32} {v_sf : Value} (cx : Cx Z z_cs v_sf) (b : Addr) (h0 : Heap) (n0 : Nat) (O0 : Old Z n0 h0) (G0 : Exa Z h0 b sk5) (G1 : Fld Z h0 b sk3 "value" "[B" .null) (G2 : Fld Z h0 b sk3 "coder" "B" (.int 0)) (G3 : Fld Z h0 b sk3 "count" "I" (.int 0)) (g_b : n0 ≤ b) :
    OwnMet l ym3 (Jvm.Cond.code ym3 jdk_67_method_1_code 1 none :: ws) (own_R 2 1 16 25) #[(.ref b)] Z h0 (Q_rm12 Z b z_cs v_sf h0 n0) := by
  refine own_body (plainFor_of_name pn_12) hisR fun p e s m below meth c s₁ hx hby hml hown hnm hret hZ X0 e0 => ?_
  have N0 := Fr.nil n0
  have K0 : Keep h0 h0 [b] := Keep.refl _ _
  have pre0 : ∀ t, Go p e below s₁ (mkF m 0 #[vR b] []) t → Go p e below s₁ (entryFrame m #[(.ref b)] 1) t := fun t k => castTop (ef_12_R m b) k
  have q21 := fun t (kt : Go p e below s₁ (mkF m 3 #[vR b] [(.int 16), (.ref b)]) t) => pre0 t (by
    show Go _ _ _ _ (mkF m 0 #[vR b] []) _
    refine XS.aloadN X0.here hx rfl (hb hby d12_0) rfl rfl ?_
    show Go _ _ _ _ (mkF m 1 _ [(.ref b)]) _
    refine XS.bipush X0.here hx rfl (hb hby d12_1) ?_
    exact kt)
  obtain ⟨_, _, ⟨T22, L22, k22, n22⟩, -, X22, ⟨_, hQ22, l22, y22, z22⟩, st22⟩ := X0.specialBack hx (y := ym2) rfl hown (ow hZ hw 70 rfl) (ow hZ hw 71 rfl) (ow hZ hw 75 rfl) (by decide) (backOf (W := 0) (rm13 l Z a0 hw [] cx b h0 n0 O0 G0 G1 G2 G3 g_b) hZ (ox hw 75 rfl) (ox hw 74 rfl) (by decide) (by decide)) (g := (mkF m 3 #[vR b] [(.int 16), (.ref b)])) rfl (by rw [hml]; rfl) (Steps.refl _) (a := b) (argsL := [(.int 16)]) (rest := []) (lenOf pd_1 rfl) rfl own_le0 (hb hby d12_3) (fun _ _ => ⟨rfl, e0, (by decide : 0 + 1 ≤ _), (by decide : 0 + 16 ≤ _)⟩)
  dsimp only [Pt.U, Pt.locs, Pt.cells, Pt.slots] at X22 l22 y22 z22 st22 hQ22
  subst l22 y22 z22
  obtain ⟨va_22, kv_22, rfl, Nq22, Kq22, fr22_0, fq22_0, fq22_1, fq22_2, fq22_3⟩ := hQ22
  have N23 := Fr.app N0 Nq22
  have gg24 : n0 ≤ va_22 := Nat.le_trans (O0.1 ▸ O0.2.1) fr22_0
  have sz25 : h0.size ≤ va_22 := Nat.le_trans K0.1 fr22_0
  have O26 := O0.keep Kq22 (allS g_b all0)
  have K27 := K0.trans Kq22 (allS (Or.inl (List.mem_of_getElem? (i := 0) rfl)) all0)
  have q28 := fun t (kt : Go p e below T22 (mkF m 6 #[vR b] []) t) => q21 t (st22.trans kt)
  exact ⟨none, T22, _, _, _, _, X22, by decide, by decide, fun _ => rfl, q28, fun fs hr => X22.returnOut hx hret (hb hby d12_6) hr, ⟨va_22, kv_22, rfl, N23, K27, sz25, fq22_0, fq22_1, fq22_2, fq22_3⟩⟩
theorem ef_18_RI (m : MethodId) (x0 : Addr) (x1 : Int32) : entryFrame m #[(.ref x0), (.int x1)] 3 = mkF m 0 #[.val (.ref x0), .val (.int x1), .unset] [] := by first | (simp [entryFrame, mkF, argsToLocals, Value.category]; done) | rfl
theorem pn_18 : plainName "java/lang/AbstractStringBuilder" = true := by first | (simp [plainName, overriddenIn]; done) | decide +kernel
theorem d18_0 : decode jdk_68_method_9_code 0 = .ok (.aload_n 0, 1) := by decide +kernel
theorem d18_1 : decode jdk_68_method_9_code 1 = .ok (.getfield 15, 3) := by decide +kernel
theorem d18_4 : decode jdk_68_method_9_code 4 = .ok (.arraylength, 1) := by decide +kernel
theorem d18_5 : decode jdk_68_method_9_code 5 = .ok (.aload_n 0, 1) := by decide +kernel
theorem d18_6 : decode jdk_68_method_9_code 6 = .ok (.getfield 22, 3) := by decide +kernel
theorem d18_9 : decode jdk_68_method_9_code 9 = .ok (.ishr, 1) := by decide +kernel
theorem d18_10 : decode jdk_68_method_9_code 10 = .ok (.istore_n 2, 1) := by decide +kernel
theorem d18_11 : decode jdk_68_method_9_code 11 = .ok (.iload_n 1, 1) := by decide +kernel
theorem d18_12 : decode jdk_68_method_9_code 12 = .ok (.iload_n 2, 1) := by decide +kernel
theorem d18_13 : decode jdk_68_method_9_code 13 = .ok (.isub, 1) := by decide +kernel
theorem d18_14 : decode jdk_68_method_9_code 14 = .ok (.ifCond .le 24, 3) := by decide +kernel
theorem d18_38 : decode jdk_68_method_9_code 38 = .ok (.return_, 1) := by decide +kernel
def Q_rm18 (Z : State) (b : Addr) (va : Addr) (kv : ClassId) (pm : Int32) (vs : List Value) (z_cs : Int32) (v_sf : Value) (h0 : Heap) (n0 : Nat) (v : Option Value) (h : Heap) (L : List Loc) : Prop := v = none ∧ Fr n0 L ∧ h = h0
theorem rm18 (l : Launch) (Z : State) (a0 : Array Value) (hw : ∀ d ∈ tables_1, d.before a0 Z = true) (ws : List Jvm.Cond) {z_cs : Int32} {v_sf : Value} (cx : Cx Z z_cs v_sf) (b : Addr) (va : Addr) (kv : ClassId) (pm : Int32) (vs : List Value) (h0 : Heap) (n0 : Nat) (O0 : Old Z n0 h0) (G0 : Fld Z h0 b sk3 "value" "[B" (.ref va)) (G1 : Fld Z h0 b sk3 "coder" "B" (.int 0)) (G2 : Arv Z h0 va kv .byte (16 : Int32) vs (.int 0)) (hp : ¬ ((0 : Int32) < (pm - (16 : Int32)))) :
    OwnMet l ym4 (Jvm.Cond.code ym4 jdk_68_method_9_code 3 none :: ws) (own_R 0 0 0 0) #[(.ref b), (.int pm)] Z h0 (Q_rm18 Z b va kv pm vs z_cs v_sf h0 n0) := by
  refine own_body (plainFor_of_name pn_18) hisR fun p e s m below meth c s₁ hx hby hml hown hnm hret hZ X0 e0 => ?_
  have N0 := Fr.nil n0
  have pre0 : ∀ t, Go p e below s₁ (mkF m 0 #[vR b, vI pm, vU] []) t → Go p e below s₁ (entryFrame m #[(.ref b), (.int pm)] 3) t := fun t k => castTop (ef_18_RI m b pm) k
  have q21 := fun t (kt : Go p e below s₁ (mkF m 1 #[vR b, vI pm, vU] [(.ref b)]) t) => pre0 t (by
    show Go _ _ _ _ (mkF m 0 #[vR b, vI pm, vU] []) _
    refine XS.aloadN X0.here hx rfl (hb hby d18_0) rfl rfl ?_
    exact kt)
  obtain ⟨T22, X22, e22, st22⟩ := getF X0 hx hZ hown (host := "") (Or.inl (ox hw 78 rfl)) Via.refl e0 G0 (g := (mkF m 1 #[vR b, vI pm, vU] [(.ref b)])) rfl rfl (hb hby d18_1)
  obtain ⟨c23, Ar23, -, S23, N23, -, -⟩ := id G2
  have q24 := fun t (kt : Go p e below T22 (mkF m 6 #[vR b, vI pm, vU] [(.ref b), (.int 16)]) t) => q21 t (st22 t (by
    show Go _ _ _ _ (mkF m 4 #[vR b, vI pm, vU] [(.ref va)]) _
    refine X22.arraylength hx (by rw [e22]; exact Ar23.1) (State.isArrayOf_alike hZ.alike Ar23.2.1) (g := (mkF m 4 #[vR b, vI pm, vU] [(.ref va)])) rfl rfl (hb hby d18_4) _ ?_
    rw [len_of S23 N23]
    show Go _ _ _ _ (mkF m 5 _ [(.int 16)]) _
    refine XS.aloadN X22.here hx rfl (hb hby d18_5) rfl rfl ?_
    exact kt))
  obtain ⟨T25, X25, e25, st25⟩ := getF X22 hx hZ hown (host := "") (Or.inl (ox hw 80 rfl)) Via.refl e22 G1 (g := (mkF m 6 #[vR b, vI pm, vU] [(.ref b), (.int 16)])) rfl rfl (hb hby d18_6)
  have q26 := fun t (kt : Go p e below T25 (mkF m 38 #[vR b, vI pm, vI 16] []) t) => q24 t (st25 t (by
    show Go _ _ _ _ (mkF m 9 #[vR b, vI pm, vU] [(.int 0), (.int 16)]) _
    refine XS.ishr X25.here hx rfl (hb hby d18_9) rfl ?_
    show Go _ _ _ _ (mkF m 10 _ [(.int 16)]) _
    refine XS.istoreN X25.here hx rfl (hb hby d18_10) rfl (l' := #[vR b, vI pm, vI 16]) rfl ?_
    show Go _ _ _ _ (mkF m 11 #[vR b, vI pm, vI 16] []) _
    refine XS.iloadN X25.here hx rfl (hb hby d18_11) rfl ?_
    show Go _ _ _ _ (mkF m 12 _ [(.int pm)]) _
    refine XS.iloadN X25.here hx rfl (hb hby d18_12) rfl ?_
    show Go _ _ _ _ (mkF m 13 _ [(.int 16), (.int pm)]) _
    refine XS.isub X25.here hx rfl (hb hby d18_13) rfl ?_
    show Go _ _ _ _ (mkF m 14 _ [(.int (pm - (16 : Int32)))]) _
    refine XS.ifYes X25.here hx rfl (pc0 := 14) (pc' := 38) rfl (hb hby d18_14) rfl ((if0 _ _).trans (flt hp).2.2.2) (by decide) (by decide) ?_
    exact kt))
  exact ⟨none, T25, _, _, _, _, X25, by decide, by decide, fun _ => rfl, q26, fun fs hr => X25.returnOut hx hret (hb hby d18_38) hr, by rw [e25]; exact ⟨rfl, N0, rfl⟩⟩
theorem ef_20_RR (m : MethodId) (x0 : Addr) (x1 : Addr) : entryFrame m #[(.ref x0), (.ref x1)] 2 = mkF m 0 #[.val (.ref x0), .val (.ref x1)] [] := by first | (simp [entryFrame, mkF, argsToLocals, Value.category]; done) | rfl
theorem pn_20 : plainName "java/lang/AbstractStringBuilder" = true := by first | (simp [plainName, overriddenIn]; done) | decide +kernel
theorem d20_0 : decode jdk_68_method_71_code 0 = .ok (.getstatic 18, 3) := by decide +kernel
theorem d20_3 : decode jdk_68_method_71_code 3 = .ok (.ifCond .eq 18, 3) := by decide +kernel
theorem d20_6 : decode jdk_68_method_71_code 6 = .ok (.aload_n 0, 1) := by decide +kernel
theorem d20_7 : decode jdk_68_method_71_code 7 = .ok (.getfield 22, 3) := by decide +kernel
theorem d20_10 : decode jdk_68_method_71_code 10 = .ok (.aload_n 1, 1) := by decide +kernel
theorem d20_11 : decode jdk_68_method_71_code 11 = .ok (.invokevirtual 40, 3) := by decide +kernel
theorem d20_14 : decode jdk_68_method_71_code 14 = .ok (.if_icmp .eq 7, 3) := by decide +kernel
theorem d20_21 : decode jdk_68_method_71_code 21 = .ok (.return_, 1) := by decide +kernel
def Q_rm20 (Z : State) (b : Addr) (x : Addr) (z_cs : Int32) (v_sf : Value) (h0 : Heap) (n0 : Nat) (v : Option Value) (h : Heap) (L : List Loc) : Prop := v = none ∧ Fr n0 L ∧ h = h0
theorem rm20 (l : Launch) (Z : State) (a0 : Array Value) (hw : ∀ d ∈ tables_1, d.before a0 Z = true) (ws : List Jvm.Cond) {z_cs : Int32} {v_sf : Value} (cx : Cx Z z_cs v_sf) (b : Addr) (x : Addr) (h0 : Heap) (n0 : Nat) (O0 : Old Z n0 h0) (G0 : Fld Z h0 b sk3 "coder" "B" (.int 0)) (G1 : Exa Z h0 x sk4) (G2 : Fld Z h0 x sk4 "coder" "B" (.int 0)) :
    OwnMet l ym5 (Jvm.Cond.code ym5 jdk_68_method_71_code 2 none :: ws) (own_R 1 0 0 13) #[(.ref b), (.ref x)] Z h0 (Q_rm20 Z b x z_cs v_sf h0 n0) := by
  refine own_body (plainFor_of_name pn_20) hisR fun p e s m below meth c s₁ hx hby hml hown hnm hret hZ X0 e0 => ?_
  have N0 := Fr.nil n0
  have pre0 : ∀ t, Go p e below s₁ (mkF m 0 #[vR b, vR x] []) t → Go p e below s₁ (entryFrame m #[(.ref b), (.ref x)] 2) t := fun t k => castTop (ef_20_RR m b x) k
  obtain ⟨T21, X21, e21, st21⟩ := getS2 X0 hx hZ hown (host := "") (Or.inl (ox hw 77 rfl)) Via.refl e0 (cx.1.ext O0.2) (g := (mkF m 0 #[vR b, vR x] [])) rfl (hb hby d20_0)
  have q22 := fun t (kt : Go p e below T21 (mkF m 7 #[vR b, vR x] [(.ref b)]) t) => pre0 t (st21 t (by
    show Go _ _ _ _ (mkF m 3 #[vR b, vR x] [(.int z_cs)]) _
    refine XS.ifNo X21.here hx rfl (hb hby d20_3) rfl ((if0 _ _).trans (feq cx.2.1).1) ?_
    show Go _ _ _ _ (mkF m 6 _ []) _
    refine XS.aloadN X21.here hx rfl (hb hby d20_6) rfl rfl ?_
    exact kt))
  obtain ⟨T23, X23, e23, st23⟩ := getF X21 hx hZ hown (host := "") (Or.inl (ox hw 80 rfl)) Via.refl e21 G0 (g := (mkF m 7 #[vR b, vR x] [(.ref b)])) rfl rfl (hb hby d20_7)
  have q24 := fun t (kt : Go p e below T23 (mkF m 11 #[vR b, vR x] [(.ref x), (.int 0)]) t) => q22 t (st23 t (by
    show Go _ _ _ _ (mkF m 10 #[vR b, vR x] [(.int 0)]) _
    refine XS.aloadN X23.here hx rfl (hb hby d20_10) rfl rfl ?_
    exact kt))
  obtain ⟨cq26, kq26, q26a, q26b, q26c⟩ := isOf hZ e23 G1
  obtain ⟨_, _, ⟨T25, L25, k25, n25⟩, -, X25, ⟨_, hQ25, l25, y25, z25⟩, st25⟩ := X23.virtualBack hx (y := ym0) (z := ym0) hown (ow hZ hw 119 rfl) (ow hZ hw 98 rfl) (notFace_of_selects (args := #[]) (ow hZ hw 100 rfl)) (ow hZ hw 100 rfl) (ow hZ hw 99 rfl) (by decide) (backOf (W := 1) (rm17 l Z a0 hw [] cx x h0 n0 O0 G2) hZ (ox hw 101 rfl) (ox hw 6 rfl) (by decide) (by decide)) q26a q26c (g := (mkF m 11 #[vR b, vR x] [(.ref x), (.int 0)])) rfl (by rw [hml]; rfl) (Steps.refl _) (argsL := []) (rest := [(.int 0)]) (lenOf pd_0 rfl) rfl own_le0 (hb hby d20_11) (fun _ _ => ⟨rfl, e23, (by decide : 0 + 0 ≤ _), (by decide : 0 + 0 ≤ _)⟩)
  dsimp only [Pt.U, Pt.locs, Pt.cells, Pt.slots] at X25 l25 y25 z25 st25 hQ25
  subst l25 y25 z25
  obtain ⟨rfl, Nq25, eq25⟩ := hQ25
  have N27 := Fr.app N0 Nq25
  have q28 := fun t (kt : Go p e below T25 (mkF m 21 #[vR b, vR x] []) t) => q24 t (st25.trans (by
    show Go _ _ _ _ (mkF m 14 #[vR b, vR x] [(.int 0), (.int 0)]) _
    refine XS.icmpYes X25.here hx rfl (pc0 := 14) (pc' := 21) rfl (hb hby d20_14) rfl (teq (rfl : (0 : Int32) = (0 : Int32))).1 (by decide) (by decide) ?_
    exact kt))
  exact ⟨none, T25, _, _, _, _, X25, by decide, by decide, fun _ => rfl, q28, fun fs hr => X25.returnOut hx hret (hb hby d20_21) hr, by rw [eq25]; exact ⟨rfl, N27, rfl⟩⟩
theorem ef_21_RRII (m : MethodId) (x0 : Addr) (x1 : Addr) (x2 : Int32) (x3 : Int32) : entryFrame m #[(.ref x0), (.ref x1), (.int x2), (.int x3)] 4 = mkF m 0 #[.val (.ref x0), .val (.ref x1), .val (.int x2), .val (.int x3)] [] := by first | (simp [entryFrame, mkF, argsToLocals, Value.category]; done) | rfl
theorem pn_21 : plainName "java/lang/String" = true := by first | (simp [plainName, overriddenIn]; done) | decide +kernel
theorem d21_0 : decode jdk_42_method_147_code 0 = .ok (.aload_n 0, 1) := by decide +kernel
theorem d21_1 : decode jdk_42_method_147_code 1 = .ok (.invokevirtual 335, 3) := by decide +kernel
theorem d21_4 : decode jdk_42_method_147_code 4 = .ok (.iload_n 3, 1) := by decide +kernel
theorem d21_5 : decode jdk_42_method_147_code 5 = .ok (.if_icmp .ne 23, 3) := by decide +kernel
theorem d21_8 : decode jdk_42_method_147_code 8 = .ok (.aload_n 0, 1) := by decide +kernel
theorem d21_9 : decode jdk_42_method_147_code 9 = .ok (.getfield 9, 3) := by decide +kernel
theorem d21_12 : decode jdk_42_method_147_code 12 = .ok (.iconst 0, 1) := by decide +kernel
theorem d21_13 : decode jdk_42_method_147_code 13 = .ok (.aload_n 1, 1) := by decide +kernel
theorem d21_14 : decode jdk_42_method_147_code 14 = .ok (.iload_n 2, 1) := by decide +kernel
theorem d21_15 : decode jdk_42_method_147_code 15 = .ok (.iload_n 3, 1) := by decide +kernel
theorem d21_16 : decode jdk_42_method_147_code 16 = .ok (.ishl, 1) := by decide +kernel
theorem d21_17 : decode jdk_42_method_147_code 17 = .ok (.aload_n 0, 1) := by decide +kernel
theorem d21_18 : decode jdk_42_method_147_code 18 = .ok (.getfield 9, 3) := by decide +kernel
theorem d21_21 : decode jdk_42_method_147_code 21 = .ok (.arraylength, 1) := by decide +kernel
theorem d21_22 : decode jdk_42_method_147_code 22 = .ok (.invokestatic 212, 3) := by decide +kernel
theorem d21_25 : decode jdk_42_method_147_code 25 = .ok (.goto 18, 3) := by decide +kernel
theorem d21_43 : decode jdk_42_method_147_code 43 = .ok (.return_, 1) := by decide +kernel
def Q_rm21 (Z : State) (x : Addr) (ta : Addr) (va : Addr) (kt : ClassId) (kv : ClassId) (cs : List Int32) (ds : List Int32) (z_cs : Int32) (v_sf : Value) (h0 : Heap) (n0 : Nat) (v : Option Value) (h : Heap) (L : List Loc) : Prop := v = none ∧ Fr n0 L ∧ Keep h0 h [va] ∧ Arv Z h va kv .byte (16 : Int32) (own_sb (cs ++ ds)) (.int 0)
theorem rm21 (l : Launch) (Z : State) (a0 : Array Value) (hw : ∀ d ∈ tables_1, d.before a0 Z = true) (ws : List Jvm.Cond) {z_cs : Int32} {v_sf : Value} (cx : Cx Z z_cs v_sf) (x : Addr) (ta : Addr) (va : Addr) (kt : ClassId) (kv : ClassId) (cs : List Int32) (ds : List Int32) (h0 : Heap) (n0 : Nat) (O0 : Old Z n0 h0) (G0 : Exa Z h0 x sk4) (G1 : Fld Z h0 x sk4 "value" "[B" (.ref ta)) (G2 : Fld Z h0 x sk4 "coder" "B" (.int 0)) (G3 : Arv Z h0 ta kt .byte (Int32.ofNat ds.length) (own_by ds) (.int 0)) (G4 : Arv Z h0 va kv .byte (16 : Int32) (own_sb cs) (.int 0)) (g_va : n0 ≤ va) (hle : cs.length + ds.length ≤ 12) :
    OwnMet l ym6 (Jvm.Cond.code ym6 jdk_42_method_147_code 4 none :: ws) (own_R 1 0 0 48) #[(.ref x), (.ref va), (.int (Int32.ofNat cs.length)), (.int 0)] Z h0 (Q_rm21 Z x ta va kt kv cs ds z_cs v_sf h0 n0) := by
  refine own_body (plainFor_of_name pn_21) hisR fun p e s m below meth c s₁ hx hby hml hown hnm hret hZ X0 e0 => ?_
  have N0 := Fr.nil n0
  have K0 : Keep h0 h0 [va] := Keep.refl _ _
  have pre0 : ∀ t, Go p e below s₁ (mkF m 0 #[vR x, vR va, vI (Int32.ofNat cs.length), vI 0] []) t → Go p e below s₁ (entryFrame m #[(.ref x), (.ref va), (.int (Int32.ofNat cs.length)), (.int 0)] 4) t := fun t k => castTop (ef_21_RRII m x va (Int32.ofNat cs.length) (0 : Int32)) k
  have q21 := fun t (kt : Go p e below s₁ (mkF m 1 #[vR x, vR va, vI (Int32.ofNat cs.length), vI 0] [(.ref x)]) t) => pre0 t (by
    show Go _ _ _ _ (mkF m 0 #[vR x, vR va, vI (Int32.ofNat cs.length), vI 0] []) _
    refine XS.aloadN X0.here hx rfl (hb hby d21_0) rfl rfl ?_
    exact kt)
  obtain ⟨cq23, kq23, q23a, q23b, q23c⟩ := isOf hZ e0 G0
  obtain ⟨_, _, ⟨T22, L22, k22, n22⟩, -, X22, ⟨_, hQ22, l22, y22, z22⟩, st22⟩ := X0.virtualBack hx (y := ym0) (z := ym0) hown (ow hZ hw 97 rfl) (ow hZ hw 98 rfl) (notFace_of_selects (args := #[]) (ow hZ hw 100 rfl)) (ow hZ hw 100 rfl) (ow hZ hw 99 rfl) (by decide) (backOf (W := 0) (rm17 l Z a0 hw [] cx x h0 n0 O0 G2) hZ (ox hw 101 rfl) (ox hw 6 rfl) (by decide) (by decide)) q23a q23c (g := (mkF m 1 #[vR x, vR va, vI (Int32.ofNat cs.length), vI 0] [(.ref x)])) rfl (by rw [hml]; rfl) (Steps.refl _) (argsL := []) (rest := []) (lenOf pd_0 rfl) rfl own_le0 (hb hby d21_1) (fun _ _ => ⟨rfl, e0, (by decide : 0 + 0 ≤ _), (by decide : 0 + 0 ≤ _)⟩)
  dsimp only [Pt.U, Pt.locs, Pt.cells, Pt.slots] at X22 l22 y22 z22 st22 hQ22
  subst l22 y22 z22
  obtain ⟨rfl, Nq22, eq22⟩ := hQ22
  have N24 := Fr.app N0 Nq22
  have q25 := fun t (kt : Go p e below T22 (mkF m 9 #[vR x, vR va, vI (Int32.ofNat cs.length), vI 0] [(.ref x)]) t) => q21 t (st22.trans (by
    show Go _ _ _ _ (mkF m 4 #[vR x, vR va, vI (Int32.ofNat cs.length), vI 0] [(.int 0)]) _
    refine XS.iloadN X22.here hx rfl (hb hby d21_4) rfl ?_
    show Go _ _ _ _ (mkF m 5 _ [(.int 0), (.int 0)]) _
    refine XS.icmpNo X22.here hx rfl (hb hby d21_5) rfl (teq (rfl : (0 : Int32) = (0 : Int32))).2 ?_
    show Go _ _ _ _ (mkF m 8 _ []) _
    refine XS.aloadN X22.here hx rfl (hb hby d21_8) rfl rfl ?_
    exact kt))
  obtain ⟨T26, X26, e26, st26⟩ := getF X22 hx hZ hown (host := "") (Or.inl (ox hw 26 rfl)) Via.refl eq22 G1 (g := (mkF m 9 #[vR x, vR va, vI (Int32.ofNat cs.length), vI 0] [(.ref x)])) rfl rfl (hb hby d21_9)
  have q27 := fun t (kt : Go p e below T26 (mkF m 17 #[vR x, vR va, vI (Int32.ofNat cs.length), vI 0] [(.int ((Int32.ofNat cs.length) <<< ((0 : Int32) &&& 31))), (.ref va), (.int 0), (.ref ta)]) t) => q25 t (st26 t (by
    show Go _ _ _ _ (mkF m 12 #[vR x, vR va, vI (Int32.ofNat cs.length), vI 0] [(.ref ta)]) _
    refine XS.iconst X26.here hx rfl (hb hby d21_12) ?_
    show Go _ _ _ _ (mkF m 13 _ [(.int 0), (.ref ta)]) _
    refine XS.aloadN X26.here hx rfl (hb hby d21_13) rfl rfl ?_
    show Go _ _ _ _ (mkF m 14 _ [(.ref va), (.int 0), (.ref ta)]) _
    refine XS.iloadN X26.here hx rfl (hb hby d21_14) rfl ?_
    show Go _ _ _ _ (mkF m 15 _ [(.int (Int32.ofNat cs.length)), (.ref va), (.int 0), (.ref ta)]) _
    refine XS.iloadN X26.here hx rfl (hb hby d21_15) rfl ?_
    show Go _ _ _ _ (mkF m 16 _ [(.int 0), (.int (Int32.ofNat cs.length)), (.ref va), (.int 0), (.ref ta)]) _
    refine XS.ishl X26.here hx rfl (hb hby d21_16) rfl ?_
    exact kt))
  have q28 := fun t (kt : Go p e below T26 (mkF m 17 #[vR x, vR va, vI (Int32.ofNat cs.length), vI 0] [(.int (Int32.ofNat cs.length)), (.ref va), (.int 0), (.ref ta)]) t) => q27 t (by rw [(own_shl0 _)]; exact kt)
  have q29 := fun t (kt : Go p e below T26 (mkF m 18 #[vR x, vR va, vI (Int32.ofNat cs.length), vI 0] [(.ref x), (.int (Int32.ofNat cs.length)), (.ref va), (.int 0), (.ref ta)]) t) => q28 t (by
    show Go _ _ _ _ (mkF m 17 #[vR x, vR va, vI (Int32.ofNat cs.length), vI 0] [(.int (Int32.ofNat cs.length)), (.ref va), (.int 0), (.ref ta)]) _
    refine XS.aloadN X26.here hx rfl (hb hby d21_17) rfl rfl ?_
    exact kt)
  obtain ⟨T30, X30, e30, st30⟩ := getF X26 hx hZ hown (host := "") (Or.inl (ox hw 26 rfl)) Via.refl e26 G1 (g := (mkF m 18 #[vR x, vR va, vI (Int32.ofNat cs.length), vI 0] [(.ref x), (.int (Int32.ofNat cs.length)), (.ref va), (.int 0), (.ref ta)])) rfl rfl (hb hby d21_18)
  obtain ⟨c31, Ar31, -, S31, N31, -, -⟩ := id G3
  have q33 := fun t (kt : Go p e below T30 (mkF m 22 #[vR x, vR va, vI (Int32.ofNat cs.length), vI 0] [(.int (Int32.ofNat ds.length)), (.int (Int32.ofNat cs.length)), (.ref va), (.int 0), (.ref ta)]) t) => q29 t (st30 t (by
    show Go _ _ _ _ (mkF m 21 #[vR x, vR va, vI (Int32.ofNat cs.length), vI 0] [(.ref ta), (.int (Int32.ofNat cs.length)), (.ref va), (.int 0), (.ref ta)]) _
    refine X30.arraylength hx (by rw [e30]; exact Ar31.1) (State.isArrayOf_alike hZ.alike Ar31.2.1) (g := (mkF m 21 #[vR x, vR va, vI (Int32.ofNat cs.length), vI 0] [(.ref ta), (.int (Int32.ofNat cs.length)), (.ref va), (.int 0), (.ref ta)])) rfl rfl (hb hby d21_21) _ ?_
    rw [len_of S31 N31]
    exact kt))
  obtain ⟨T34, h34, L34, X34, e34, N34, K34, V34, st34⟩ := cpA X30 hx hZ hown (ox hw 125 rfl) (ox hw 128 rfl) (ox hw 126 rfl) (ox hw 127 rfl) e30 G3 G4 (us := own_by ds) (Or.inl ⟨rfl, rfl⟩) (by decide) (own_cl (by omega)).2.1 (own_cl (by omega)).2.1 (by rw [(own_cl (by omega : ds.length ≤ 16)).1]; exact Nat.le_of_eq (Nat.zero_add _)) (by rw [(own_cl (by omega : ds.length ≤ 16)).1, (own_cl (by omega : cs.length ≤ 16)).1]; show _ ≤ 16; omega) (by rw [(own_cl (by omega : ds.length ≤ 16)).1]; exact own_us ds) (by rw [(own_cl (by omega : ds.length ≤ 16)).1, (own_cl (by omega : cs.length ≤ 16)).1, own_sb_len (by omega)]; omega) N24 g_va (g := (mkF m 22 #[vR x, vR va, vI (Int32.ofNat cs.length), vI 0] [(.int (Int32.ofNat ds.length)), (.int (Int32.ofNat cs.length)), (.ref va), (.int 0), (.ref ta)])) rfl (by rw [hml]; rfl) rfl (hb hby d21_22) (by decide) (W := 0) own_le0 (by decide)
  have O35 := O0.keep K34 (allS g_va all0)
  have K36 := K0.trans K34 (allS (Or.inl (List.mem_of_getElem? (i := 0) rfl)) all0)
  have Vv34 : Arv Z h34 va kv .byte (16 : Int32) (own_sb (cs ++ ds)) (.int 0) := by
    have vv := V34
    rw [(own_cl (by omega : ds.length ≤ 16)).1, (own_cl (by omega : cs.length ≤ 16)).1, own_sb_cat (by omega)] at vv
    exact vv
  have q37 := fun t (kt : Go p e below T34 (mkF m 43 #[vR x, vR va, vI (Int32.ofNat cs.length), vI 0] []) t) => q33 t (st34 t (by
    show Go _ _ _ _ (mkF m 25 #[vR x, vR va, vI (Int32.ofNat cs.length), vI 0] []) _
    refine XS.goto X34.here hx rfl (pc0 := 25) (pc' := 43) rfl (hb hby d21_25) (by decide) (by decide) ?_
    exact kt))
  exact ⟨none, T34, _, _, _, _, X34, by decide, by decide, fun _ => rfl, q37, fun fs hr => X34.returnOut hx hret (hb hby d21_43) hr, by rw [e34]; exact ⟨rfl, N34, K36, Vv34⟩⟩
theorem ef_19_RIR (m : MethodId) (x0 : Addr) (x1 : Int32) (x2 : Addr) : entryFrame m #[(.ref x0), (.int x1), (.ref x2)] 3 = mkF m 0 #[.val (.ref x0), .val (.int x1), .val (.ref x2)] [] := by first | (simp [entryFrame, mkF, argsToLocals, Value.category]; done) | rfl
theorem pn_19 : plainName "java/lang/AbstractStringBuilder" = true := by first | (simp [plainName, overriddenIn]; done) | decide +kernel
theorem d19_0 : decode jdk_68_method_73_code 0 = .ok (.aload_n 0, 1) := by decide +kernel
theorem d19_1 : decode jdk_68_method_73_code 1 = .ok (.aload_n 2, 1) := by decide +kernel
theorem d19_2 : decode jdk_68_method_73_code 2 = .ok (.invokevirtual 397, 3) := by decide +kernel
theorem pd_2 : parseMethodDescriptor "(Ljava/lang/String;)V" = some ⟨[(.object "java/lang/String")], none⟩ := by decide +kernel
theorem d19_5 : decode jdk_68_method_73_code 5 = .ok (.aload_n 2, 1) := by decide +kernel
theorem d19_6 : decode jdk_68_method_73_code 6 = .ok (.aload_n 0, 1) := by decide +kernel
theorem d19_7 : decode jdk_68_method_73_code 7 = .ok (.getfield 15, 3) := by decide +kernel
theorem d19_10 : decode jdk_68_method_73_code 10 = .ok (.iload_n 1, 1) := by decide +kernel
theorem d19_11 : decode jdk_68_method_73_code 11 = .ok (.aload_n 0, 1) := by decide +kernel
theorem d19_12 : decode jdk_68_method_73_code 12 = .ok (.getfield 22, 3) := by decide +kernel
theorem d19_15 : decode jdk_68_method_73_code 15 = .ok (.invokevirtual 399, 3) := by decide +kernel
theorem pd_3 : parseMethodDescriptor "([BIB)V" = some ⟨[(.array .byte), .int, .byte], none⟩ := by decide +kernel
theorem d19_18 : decode jdk_68_method_73_code 18 = .ok (.return_, 1) := by decide +kernel
def Q_rm19 (Z : State) (b : Addr) (x : Addr) (ta : Addr) (va : Addr) (kt : ClassId) (kv : ClassId) (cs : List Int32) (ds : List Int32) (z_cs : Int32) (v_sf : Value) (h0 : Heap) (n0 : Nat) (v : Option Value) (h : Heap) (L : List Loc) : Prop := v = none ∧ Fr n0 L ∧ Keep h0 h [va] ∧ Arv Z h va kv .byte (16 : Int32) (own_sb (cs ++ ds)) (.int 0)
theorem rm19 (l : Launch) (Z : State) (a0 : Array Value) (hw : ∀ d ∈ tables_1, d.before a0 Z = true) (ws : List Jvm.Cond) {z_cs : Int32} {v_sf : Value} (cx : Cx Z z_cs v_sf) (b : Addr) (x : Addr) (ta : Addr) (va : Addr) (kt : ClassId) (kv : ClassId) (cs : List Int32) (ds : List Int32) (h0 : Heap) (n0 : Nat) (O0 : Old Z n0 h0) (G0 : Exa Z h0 b sk5) (G1 : Fld Z h0 b sk3 "value" "[B" (.ref va)) (G2 : Fld Z h0 b sk3 "coder" "B" (.int 0)) (G3 : Fld Z h0 b sk3 "count" "I" (.int (Int32.ofNat cs.length))) (G4 : Arv Z h0 va kv .byte (16 : Int32) (own_sb cs) (.int 0)) (G5 : Exa Z h0 x sk4) (G6 : Fld Z h0 x sk4 "value" "[B" (.ref ta)) (G7 : Fld Z h0 x sk4 "coder" "B" (.int 0)) (G8 : Arv Z h0 ta kt .byte (Int32.ofNat ds.length) (own_by ds) (.int 0)) (g_va : n0 ≤ va) (hle : cs.length + ds.length ≤ 12) (n1 : b ≠ va) (n2 : x ≠ va) (n3 : ta ≠ va) (n4 : b ≠ ta) (n5 : b ≠ x) :
    OwnMet l ym7 (Jvm.Cond.code ym7 jdk_68_method_73_code 3 none :: ws) (own_R 2 0 0 63) #[(.ref b), (.int (Int32.ofNat cs.length)), (.ref x)] Z h0 (Q_rm19 Z b x ta va kt kv cs ds z_cs v_sf h0 n0) := by
  refine own_body (plainFor_of_name pn_19) hisR fun p e s m below meth c s₁ hx hby hml hown hnm hret hZ X0 e0 => ?_
  have N0 := Fr.nil n0
  have K0 : Keep h0 h0 [va] := Keep.refl _ _
  have pre0 : ∀ t, Go p e below s₁ (mkF m 0 #[vR b, vI (Int32.ofNat cs.length), vR x] []) t → Go p e below s₁ (entryFrame m #[(.ref b), (.int (Int32.ofNat cs.length)), (.ref x)] 3) t := fun t k => castTop (ef_19_RIR m b (Int32.ofNat cs.length) x) k
  have q21 := fun t (kt : Go p e below s₁ (mkF m 2 #[vR b, vI (Int32.ofNat cs.length), vR x] [(.ref x), (.ref b)]) t) => pre0 t (by
    show Go _ _ _ _ (mkF m 0 #[vR b, vI (Int32.ofNat cs.length), vR x] []) _
    refine XS.aloadN X0.here hx rfl (hb hby d19_0) rfl rfl ?_
    show Go _ _ _ _ (mkF m 1 _ [(.ref b)]) _
    refine XS.aloadN X0.here hx rfl (hb hby d19_1) rfl rfl ?_
    exact kt)
  obtain ⟨cq23, q23, q23'⟩ := G0.cell
  obtain ⟨_, _, ⟨T22, L22, k22, n22⟩, -, X22, ⟨_, hQ22, l22, y22, z22⟩, st22⟩ := X0.privateBack hx (y := ym5) hown (ow hZ hw 114 rfl) (ow hZ hw 115 rfl) (mvT hZ (own_selP (ox hw 117 rfl) (ox hw 115 rfl) (ox hw 116 rfl) (by decide))) (Cond.privateMethod_at (mvP hZ (ox hw 116 rfl) (args := #[]))) (ow hZ hw 118 rfl) (by decide) (backOf (W := 0) (rm20 l Z a0 hw [] cx b x h0 n0 O0 G2 G5 G7) hZ (ox hw 118 rfl) (ox hw 74 rfl) (by decide) (by decide)) (g := (mkF m 2 #[vR b, vI (Int32.ofNat cs.length), vR x] [(.ref x), (.ref b)])) rfl (by rw [hml]; rfl) (Steps.refl _) (a := b) (by rw [e0]; exact q23) q23' (argsL := [(.ref x)]) (rest := []) (lenOf pd_2 rfl) rfl own_le0 (hb hby d19_2) (fun _ _ => ⟨rfl, e0, (by decide : 0 + 0 ≤ _), (by decide : 0 + 0 ≤ _)⟩)
  dsimp only [Pt.U, Pt.locs, Pt.cells, Pt.slots] at X22 l22 y22 z22 st22 hQ22
  subst l22 y22 z22
  obtain ⟨rfl, Nq22, eq22⟩ := hQ22
  have N24 := Fr.app N0 Nq22
  have q25 := fun t (kt : Go p e below T22 (mkF m 7 #[vR b, vI (Int32.ofNat cs.length), vR x] [(.ref b), (.ref x)]) t) => q21 t (st22.trans (by
    show Go _ _ _ _ (mkF m 5 #[vR b, vI (Int32.ofNat cs.length), vR x] []) _
    refine XS.aloadN X22.here hx rfl (hb hby d19_5) rfl rfl ?_
    show Go _ _ _ _ (mkF m 6 _ [(.ref x)]) _
    refine XS.aloadN X22.here hx rfl (hb hby d19_6) rfl rfl ?_
    exact kt))
  obtain ⟨T26, X26, e26, st26⟩ := getF X22 hx hZ hown (host := "") (Or.inl (ox hw 78 rfl)) Via.refl eq22 G1 (g := (mkF m 7 #[vR b, vI (Int32.ofNat cs.length), vR x] [(.ref b), (.ref x)])) rfl rfl (hb hby d19_7)
  have q27 := fun t (kt : Go p e below T26 (mkF m 12 #[vR b, vI (Int32.ofNat cs.length), vR x] [(.ref b), (.int (Int32.ofNat cs.length)), (.ref va), (.ref x)]) t) => q25 t (st26 t (by
    show Go _ _ _ _ (mkF m 10 #[vR b, vI (Int32.ofNat cs.length), vR x] [(.ref va), (.ref x)]) _
    refine XS.iloadN X26.here hx rfl (hb hby d19_10) rfl ?_
    show Go _ _ _ _ (mkF m 11 _ [(.int (Int32.ofNat cs.length)), (.ref va), (.ref x)]) _
    refine XS.aloadN X26.here hx rfl (hb hby d19_11) rfl rfl ?_
    exact kt))
  obtain ⟨T28, X28, e28, st28⟩ := getF X26 hx hZ hown (host := "") (Or.inl (ox hw 80 rfl)) Via.refl e26 G2 (g := (mkF m 12 #[vR b, vI (Int32.ofNat cs.length), vR x] [(.ref b), (.int (Int32.ofNat cs.length)), (.ref va), (.ref x)])) rfl rfl (hb hby d19_12)
  obtain ⟨cq30, kq30, q30a, q30b, q30c⟩ := isOf hZ e28 G5
  obtain ⟨_, _, ⟨T29, L29, k29, n29⟩, -, X29, ⟨_, hQ29, l29, y29, z29⟩, st29⟩ := X28.virtualBack hx (y := ym6) (z := ym6) hown (ow hZ hw 120 rfl) (ow hZ hw 121 rfl) (notFace_of_selects (args := #[]) (ow hZ hw 123 rfl)) (ow hZ hw 123 rfl) (ow hZ hw 122 rfl) (by decide) (backOf (W := 0) (rm21 l Z a0 hw [] cx x ta va kt kv cs ds h0 n0 O0 G5 G6 G7 G8 G4 g_va hle) hZ (ox hw 124 rfl) (ox hw 6 rfl) (by decide) (by decide)) q30a q30c (g := (mkF m 15 #[vR b, vI (Int32.ofNat cs.length), vR x] [(.int 0), (.int (Int32.ofNat cs.length)), (.ref va), (.ref x)])) rfl (by rw [hml]; rfl) (Steps.refl _) (argsL := [(.ref va), (.int (Int32.ofNat cs.length)), (.int 0)]) (rest := []) (lenOf pd_3 rfl) rfl own_le0 (hb hby d19_15) (fun _ _ => ⟨rfl, e28, (by decide : 0 + 0 ≤ _), (by decide : 0 + 0 ≤ _)⟩)
  dsimp only [Pt.U, Pt.locs, Pt.cells, Pt.slots] at X29 l29 y29 z29 st29 hQ29
  subst l29 y29 z29
  obtain ⟨rfl, Nq29, Kq29, fq29_0⟩ := hQ29
  have N31 := Fr.app N24 Nq29
  have O32 := O0.keep Kq29 (allS g_va all0)
  have K33 := K0.trans Kq29 (allS (Or.inl (List.mem_of_getElem? (i := 0) rfl)) all0)
  have q34 := fun t (kt : Go p e below T29 (mkF m 18 #[vR b, vI (Int32.ofNat cs.length), vR x] []) t) => q27 t (st28 t (st29.trans kt))
  exact ⟨none, T29, _, _, _, _, X29, by decide, by decide, fun _ => rfl, q34, fun fs hr => X29.returnOut hx hret (hb hby d19_18) hr, ⟨rfl, N31, K33, fq29_0⟩⟩
theorem own_addL {cs ds : List Int32} (h : cs.length + ds.length ≤ 16) : Int32.ofNat cs.length + Int32.ofNat ds.length = Int32.ofNat (cs ++ ds).length := by rw [own_add h, List.length_append]
theorem ef_15_RR (m : MethodId) (x0 : Addr) (x1 : Addr) : entryFrame m #[(.ref x0), (.ref x1)] 3 = mkF m 0 #[.val (.ref x0), .val (.ref x1), .unset] [] := by first | (simp [entryFrame, mkF, argsToLocals, Value.category]; done) | rfl
theorem pn_15 : plainName "java/lang/AbstractStringBuilder" = true := by first | (simp [plainName, overriddenIn]; done) | decide +kernel
theorem d15_0 : decode jdk_68_method_22_code 0 = .ok (.aload_n 1, 1) := by decide +kernel
theorem d15_1 : decode jdk_68_method_22_code 1 = .ok (.ifnonnull 8, 3) := by decide +kernel
theorem d15_9 : decode jdk_68_method_22_code 9 = .ok (.aload_n 1, 1) := by decide +kernel
theorem d15_10 : decode jdk_68_method_22_code 10 = .ok (.invokevirtual 32, 3) := by decide +kernel
theorem pd_4 : parseMethodDescriptor "()I" = some ⟨[], some .int⟩ := by decide +kernel
theorem d15_13 : decode jdk_68_method_22_code 13 = .ok (.istore_n 2, 1) := by decide +kernel
theorem d15_14 : decode jdk_68_method_22_code 14 = .ok (.aload_n 0, 1) := by decide +kernel
theorem d15_15 : decode jdk_68_method_22_code 15 = .ok (.aload_n 0, 1) := by decide +kernel
theorem d15_16 : decode jdk_68_method_22_code 16 = .ok (.getfield 79, 3) := by decide +kernel
theorem d15_19 : decode jdk_68_method_22_code 19 = .ok (.iload_n 2, 1) := by decide +kernel
theorem d15_20 : decode jdk_68_method_22_code 20 = .ok (.iadd, 1) := by decide +kernel
theorem d15_21 : decode jdk_68_method_22_code 21 = .ok (.invokevirtual 100, 3) := by decide +kernel
theorem d15_24 : decode jdk_68_method_22_code 24 = .ok (.aload_n 0, 1) := by decide +kernel
theorem d15_25 : decode jdk_68_method_22_code 25 = .ok (.aload_n 0, 1) := by decide +kernel
theorem d15_26 : decode jdk_68_method_22_code 26 = .ok (.getfield 79, 3) := by decide +kernel
theorem d15_29 : decode jdk_68_method_22_code 29 = .ok (.aload_n 1, 1) := by decide +kernel
theorem d15_30 : decode jdk_68_method_22_code 30 = .ok (.invokevirtual 208, 3) := by decide +kernel
theorem pd_5 : parseMethodDescriptor "(ILjava/lang/String;)V" = some ⟨[.int, (.object "java/lang/String")], none⟩ := by decide +kernel
theorem d15_33 : decode jdk_68_method_22_code 33 = .ok (.aload_n 0, 1) := by decide +kernel
theorem d15_34 : decode jdk_68_method_22_code 34 = .ok (.dup, 1) := by decide +kernel
theorem d15_35 : decode jdk_68_method_22_code 35 = .ok (.getfield 79, 3) := by decide +kernel
theorem d15_38 : decode jdk_68_method_22_code 38 = .ok (.iload_n 2, 1) := by decide +kernel
theorem d15_39 : decode jdk_68_method_22_code 39 = .ok (.iadd, 1) := by decide +kernel
theorem d15_40 : decode jdk_68_method_22_code 40 = .ok (.putfield 79, 3) := by decide +kernel
theorem d15_43 : decode jdk_68_method_22_code 43 = .ok (.aload_n 0, 1) := by decide +kernel
theorem d15_44 : decode jdk_68_method_22_code 44 = .ok (.areturn, 1) := by decide +kernel
def Q_rm15 (Z : State) (b : Addr) (x : Addr) (ta : Addr) (va : Addr) (kt : ClassId) (kv : ClassId) (cs : List Int32) (ds : List Int32) (z_cs : Int32) (v_sf : Value) (h0 : Heap) (n0 : Nat) (v : Option Value) (h : Heap) (L : List Loc) : Prop := v = some (.ref b) ∧ Fr n0 L ∧ Keep h0 h [b, va] ∧ Fld Z h b sk3 "value" "[B" (.ref va) ∧ Fld Z h b sk3 "coder" "B" (.int 0) ∧ Fld Z h b sk3 "count" "I" (.int (Int32.ofNat (cs ++ ds).length)) ∧ Arv Z h va kv .byte (16 : Int32) (own_sb (cs ++ ds)) (.int 0)
theorem rm15 (l : Launch) (Z : State) (a0 : Array Value) (hw : ∀ d ∈ tables_1, d.before a0 Z = true) (ws : List Jvm.Cond) {z_cs : Int32} {v_sf : Value} (cx : Cx Z z_cs v_sf) (b : Addr) (x : Addr) (ta : Addr) (va : Addr) (kt : ClassId) (kv : ClassId) (cs : List Int32) (ds : List Int32) (h0 : Heap) (n0 : Nat) (O0 : Old Z n0 h0) (G0 : Exa Z h0 b sk5) (G1 : Fld Z h0 b sk3 "value" "[B" (.ref va)) (G2 : Fld Z h0 b sk3 "coder" "B" (.int 0)) (G3 : Fld Z h0 b sk3 "count" "I" (.int (Int32.ofNat cs.length))) (G4 : Arv Z h0 va kv .byte (16 : Int32) (own_sb cs) (.int 0)) (G5 : Exa Z h0 x sk4) (G6 : Fld Z h0 x sk4 "value" "[B" (.ref ta)) (G7 : Fld Z h0 x sk4 "coder" "B" (.int 0)) (G8 : Arv Z h0 ta kt .byte (Int32.ofNat ds.length) (own_by ds) (.int 0)) (g_b : n0 ≤ b) (g_va : n0 ≤ va) (hle : cs.length + ds.length ≤ 12) (n1 : b ≠ va) (n2 : x ≠ va) (n3 : ta ≠ va) (n4 : b ≠ ta) (n5 : b ≠ x) :
    OwnMet l ym8 (Jvm.Cond.code ym8 jdk_68_method_22_code 3 (some (.object sk3)) :: ws) (own_R 3 0 0 77) #[(.ref b), (.ref x)] Z h0 (Q_rm15 Z b x ta va kt kv cs ds z_cs v_sf h0 n0) := by
  refine own_body (plainFor_of_name pn_15) hisR fun p e s m below meth c s₁ hx hby hml hown hnm hret hZ X0 e0 => ?_
  have N0 := Fr.nil n0
  have K0 : Keep h0 h0 [b, va] := Keep.refl _ _
  have pre0 : ∀ t, Go p e below s₁ (mkF m 0 #[vR b, vR x, vU] []) t → Go p e below s₁ (entryFrame m #[(.ref b), (.ref x)] 3) t := fun t k => castTop (ef_15_RR m b x) k
  have q21 := fun t (kt : Go p e below s₁ (mkF m 10 #[vR b, vR x, vU] [(.ref x)]) t) => pre0 t (by
    show Go _ _ _ _ (mkF m 0 #[vR b, vR x, vU] []) _
    refine XS.aloadN X0.here hx rfl (hb hby d15_0) rfl rfl ?_
    show Go _ _ _ _ (mkF m 1 _ [(.ref x)]) _
    refine XS.ifnonnullYes X0.here hx rfl (pc0 := 1) (pc' := 9) rfl (hb hby d15_1) rfl (by decide) (by decide) ?_
    show Go _ _ _ _ (mkF m 9 _ []) _
    refine XS.aloadN X0.here hx rfl (hb hby d15_9) rfl rfl ?_
    exact kt)
  obtain ⟨cq23, kq23, q23a, q23b, q23c⟩ := isOf hZ e0 G5
  obtain ⟨_, _, ⟨T22, L22, k22, n22⟩, -, X22, ⟨_, hQ22, l22, y22, z22⟩, st22⟩ := X0.virtualBack hx (y := ym1) (z := ym1) hown (ow hZ hw 92 rfl) (ow hZ hw 93 rfl) (notFace_of_selects (args := #[]) (ow hZ hw 95 rfl)) (ow hZ hw 95 rfl) (ow hZ hw 94 rfl) (by decide) (backOf (W := 0) (rm16 l Z a0 hw [] cx x ta kt ds h0 n0 O0 G5 G6 G7 G8) hZ (ox hw 96 rfl) (ox hw 6 rfl) (by decide) (by decide)) q23a q23c (g := (mkF m 10 #[vR b, vR x, vU] [(.ref x)])) rfl (by rw [hml]; rfl) (Steps.refl _) (argsL := []) (rest := []) (lenOf pd_4 rfl) rfl own_le0 (hb hby d15_10) (fun _ _ => ⟨rfl, e0, (by decide : 0 + 0 ≤ _), (by decide : 0 + 0 ≤ _)⟩)
  dsimp only [Pt.U, Pt.locs, Pt.cells, Pt.slots] at X22 l22 y22 z22 st22 hQ22
  subst l22 y22 z22
  obtain ⟨rfl, Nq22, eq22⟩ := hQ22
  have N24 := Fr.app N0 Nq22
  have q25 := fun t (kt : Go p e below T22 (mkF m 16 #[vR b, vR x, vI (Int32.ofNat ds.length)] [(.ref b), (.ref b)]) t) => q21 t (st22.trans (by
    show Go _ _ _ _ (mkF m 13 #[vR b, vR x, vU] [(.int (Int32.ofNat ds.length))]) _
    refine XS.istoreN X22.here hx rfl (hb hby d15_13) rfl (l' := #[vR b, vR x, vI (Int32.ofNat ds.length)]) rfl ?_
    show Go _ _ _ _ (mkF m 14 #[vR b, vR x, vI (Int32.ofNat ds.length)] []) _
    refine XS.aloadN X22.here hx rfl (hb hby d15_14) rfl rfl ?_
    show Go _ _ _ _ (mkF m 15 _ [(.ref b)]) _
    refine XS.aloadN X22.here hx rfl (hb hby d15_15) rfl rfl ?_
    exact kt))
  obtain ⟨T26, X26, e26, st26⟩ := getF X22 hx hZ hown (host := "") (Or.inl (ox hw 102 rfl)) Via.refl eq22 G3 (g := (mkF m 16 #[vR b, vR x, vI (Int32.ofNat ds.length)] [(.ref b), (.ref b)])) rfl rfl (hb hby d15_16)
  have q27 := fun t (kt : Go p e below T26 (mkF m 21 #[vR b, vR x, vI (Int32.ofNat ds.length)] [(.int ((Int32.ofNat cs.length) + (Int32.ofNat ds.length))), (.ref b)]) t) => q25 t (st26 t (by
    show Go _ _ _ _ (mkF m 19 #[vR b, vR x, vI (Int32.ofNat ds.length)] [(.int (Int32.ofNat cs.length)), (.ref b)]) _
    refine XS.iloadN X26.here hx rfl (hb hby d15_19) rfl ?_
    show Go _ _ _ _ (mkF m 20 _ [(.int (Int32.ofNat ds.length)), (.int (Int32.ofNat cs.length)), (.ref b)]) _
    refine XS.iadd X26.here hx rfl (hb hby d15_20) rfl ?_
    exact kt))
  have q28 := fun t (kt : Go p e below T26 (mkF m 21 #[vR b, vR x, vI (Int32.ofNat ds.length)] [(.int (Int32.ofNat (cs ++ ds).length)), (.ref b)]) t) => q27 t (by rw [(own_addL (by omega))]; exact kt)
  obtain ⟨cq30, q30, q30'⟩ := G0.cell
  obtain ⟨_, _, ⟨T29, L29, k29, n29⟩, -, X29, ⟨_, hQ29, l29, y29, z29⟩, st29⟩ := X26.privateBack hx (y := ym4) hown (ow hZ hw 104 rfl) (ow hZ hw 105 rfl) (mvT hZ (own_selP (ox hw 107 rfl) (ox hw 105 rfl) (ox hw 106 rfl) (by decide))) (Cond.privateMethod_at (mvP hZ (ox hw 106 rfl) (args := #[]))) (ow hZ hw 108 rfl) (by decide) (backOf (W := 0) (rm18 l Z a0 hw [] cx b va kv (Int32.ofNat (cs ++ ds).length) (own_sb cs) h0 n0 O0 G1 G2 G4 (own_cl (by rw [List.length_append]; omega)).2.2) hZ (ox hw 108 rfl) (ox hw 74 rfl) (by decide) (by decide)) (g := (mkF m 21 #[vR b, vR x, vI (Int32.ofNat ds.length)] [(.int (Int32.ofNat (cs ++ ds).length)), (.ref b)])) rfl (by rw [hml]; rfl) (Steps.refl _) (a := b) (by rw [e26]; exact q30) q30' (argsL := [(.int (Int32.ofNat (cs ++ ds).length))]) (rest := []) (lenOf pd_1 rfl) rfl own_le0 (hb hby d15_21) (fun _ _ => ⟨rfl, e26, (by decide : 0 + 0 ≤ _), (by decide : 0 + 0 ≤ _)⟩)
  dsimp only [Pt.U, Pt.locs, Pt.cells, Pt.slots] at X29 l29 y29 z29 st29 hQ29
  subst l29 y29 z29
  obtain ⟨rfl, Nq29, eq29⟩ := hQ29
  have N31 := Fr.app N24 Nq29
  have q32 := fun t (kt : Go p e below T29 (mkF m 26 #[vR b, vR x, vI (Int32.ofNat ds.length)] [(.ref b), (.ref b)]) t) => q28 t (st29.trans (by
    show Go _ _ _ _ (mkF m 24 #[vR b, vR x, vI (Int32.ofNat ds.length)] []) _
    refine XS.aloadN X29.here hx rfl (hb hby d15_24) rfl rfl ?_
    show Go _ _ _ _ (mkF m 25 _ [(.ref b)]) _
    refine XS.aloadN X29.here hx rfl (hb hby d15_25) rfl rfl ?_
    exact kt))
  obtain ⟨T33, X33, e33, st33⟩ := getF X29 hx hZ hown (host := "") (Or.inl (ox hw 102 rfl)) Via.refl eq29 G3 (g := (mkF m 26 #[vR b, vR x, vI (Int32.ofNat ds.length)] [(.ref b), (.ref b)])) rfl rfl (hb hby d15_26)
  have q34 := fun t (kt : Go p e below T33 (mkF m 30 #[vR b, vR x, vI (Int32.ofNat ds.length)] [(.ref x), (.int (Int32.ofNat cs.length)), (.ref b)]) t) => q32 t (st33 t (by
    show Go _ _ _ _ (mkF m 29 #[vR b, vR x, vI (Int32.ofNat ds.length)] [(.int (Int32.ofNat cs.length)), (.ref b)]) _
    refine XS.aloadN X33.here hx rfl (hb hby d15_29) rfl rfl ?_
    exact kt))
  obtain ⟨cq36, q36, q36'⟩ := G0.cell
  obtain ⟨_, _, ⟨T35, L35, k35, n35⟩, -, X35, ⟨_, hQ35, l35, y35, z35⟩, st35⟩ := X33.privateBack hx (y := ym7) hown (ow hZ hw 109 rfl) (ow hZ hw 110 rfl) (mvT hZ (own_selP (ox hw 112 rfl) (ox hw 110 rfl) (ox hw 111 rfl) (by decide))) (Cond.privateMethod_at (mvP hZ (ox hw 111 rfl) (args := #[]))) (ow hZ hw 113 rfl) (by decide) (backOf (W := 0) (rm19 l Z a0 hw [] cx b x ta va kt kv cs ds h0 n0 O0 G0 G1 G2 G3 G4 G5 G6 G7 G8 g_va hle n1 n2 n3 n4 n5) hZ (ox hw 113 rfl) (ox hw 74 rfl) (by decide) (by decide)) (g := (mkF m 30 #[vR b, vR x, vI (Int32.ofNat ds.length)] [(.ref x), (.int (Int32.ofNat cs.length)), (.ref b)])) rfl (by rw [hml]; rfl) (Steps.refl _) (a := b) (by rw [e33]; exact q36) q36' (argsL := [(.int (Int32.ofNat cs.length)), (.ref x)]) (rest := []) (lenOf pd_5 rfl) rfl own_le0 (hb hby d15_30) (fun _ _ => ⟨rfl, e33, (by decide : 0 + 0 ≤ _), (by decide : 0 + 0 ≤ _)⟩)
  dsimp only [Pt.U, Pt.locs, Pt.cells, Pt.slots] at X35 l35 y35 z35 st35 hQ35
  subst l35 y35 z35
  obtain ⟨rfl, Nq35, Kq35, fq35_0⟩ := hQ35
  have N37 := Fr.app N31 Nq35
  have O38 := O0.keep Kq35 (allS g_va all0)
  have K39 := K0.trans Kq35 (allS (Or.inl (List.mem_of_getElem? (i := 1) rfl)) all0)
  have f40 := (G3.keep Kq35 (ninS n1 nin0))
  have q41 := fun t (kt : Go p e below T35 (mkF m 35 #[vR b, vR x, vI (Int32.ofNat ds.length)] [(.ref b), (.ref b)]) t) => q34 t (st35.trans (by
    show Go _ _ _ _ (mkF m 33 #[vR b, vR x, vI (Int32.ofNat ds.length)] []) _
    refine XS.aloadN X35.here hx rfl (hb hby d15_33) rfl rfl ?_
    show Go _ _ _ _ (mkF m 34 _ [(.ref b)]) _
    refine XS.dup X35.here hx rfl (hb hby d15_34) rfl rfl ?_
    exact kt))
  obtain ⟨T42, X42, e42, st42⟩ := getF X35 hx hZ hown (host := "") (Or.inl (ox hw 102 rfl)) Via.refl rfl f40 (g := (mkF m 35 #[vR b, vR x, vI (Int32.ofNat ds.length)] [(.ref b), (.ref b)])) rfl rfl (hb hby d15_35)
  have q43 := fun t (kt : Go p e below T42 (mkF m 40 #[vR b, vR x, vI (Int32.ofNat ds.length)] [(.int ((Int32.ofNat cs.length) + (Int32.ofNat ds.length))), (.ref b)]) t) => q41 t (st42 t (by
    show Go _ _ _ _ (mkF m 38 #[vR b, vR x, vI (Int32.ofNat ds.length)] [(.int (Int32.ofNat cs.length)), (.ref b)]) _
    refine XS.iloadN X42.here hx rfl (hb hby d15_38) rfl ?_
    show Go _ _ _ _ (mkF m 39 _ [(.int (Int32.ofNat ds.length)), (.int (Int32.ofNat cs.length)), (.ref b)]) _
    refine XS.iadd X42.here hx rfl (hb hby d15_39) rfl ?_
    exact kt))
  have q44 := fun t (kt : Go p e below T42 (mkF m 40 #[vR b, vR x, vI (Int32.ofNat ds.length)] [(.int (Int32.ofNat (cs ++ ds).length)), (.ref b)]) t) => q43 t (by rw [(own_addL (by omega))]; exact kt)
  have f45 := (G0.keep Kq35)
  obtain ⟨T46, h46, X46, e46, W46, st46⟩ := putF X42 hx hZ hown (host := "") (Or.inl (ox hw 102 rfl)) Via.refl e42 f40 f45 (Or.inl (ox hw 103 rfl)) (ox hw 65 rfl) (ty := .int) (by decide) rfl rfl (g := (mkF m 40 #[vR b, vR x, vI (Int32.ofNat ds.length)] [(.int (Int32.ofNat (cs ++ ds).length)), (.ref b)])) rfl rfl (hb hby d15_40)
  have f47 : Fld Z h46 b sk3 "count" "I" (.int (Int32.ofNat (cs ++ ds).length)) := f40.same W46
  have N48 := Fr.snoc X46 N37 g_b
  have O49 := O38.wr W46 g_b
  have K50 := K39.wr W46 (Or.inl (List.mem_of_getElem? (i := 0) rfl))
  have q51 := fun t (kt : Go p e below T46 (mkF m 44 #[vR b, vR x, vI (Int32.ofNat ds.length)] [(.ref b)]) t) => q44 t (st46 t (by
    show Go _ _ _ _ (mkF m 43 #[vR b, vR x, vI (Int32.ofNat ds.length)] []) _
    refine XS.aloadN X46.here hx rfl (hb hby d15_43) rfl rfl ?_
    exact kt))
  have f52 := ((G1.keep Kq35 (ninS n1 nin0)).other W46 (Or.inr (slot_ne (Or.inl (ox hw 79 rfl)) (Or.inl (ox hw 103 rfl)) (by decide) (t := (.array .byte)) (t' := .int) (by decide) (by decide))))
  have f53 := ((G2.keep Kq35 (ninS n1 nin0)).other W46 (Or.inr (slot_ne (Or.inl (ox hw 81 rfl)) (Or.inl (ox hw 103 rfl)) (by decide) (t := .byte) (t' := .int) (by decide) (by decide))))
  have f54 := (fq35_0.other W46 (Ne.symm n1))
  exact ⟨some (.ref b), T46, _, _, _, _, X46, by decide, by decide, nofun, q51, fun fs hr => retOut X46 hx hret rfl (o4 ⟨rfl, rfl, rfl⟩) (hb hby d15_44) hr, by rw [e46]; exact ⟨rfl, N48, K50, f52, f53, f47, f54⟩⟩
theorem ef_14_RR (m : MethodId) (x0 : Addr) (x1 : Addr) : entryFrame m #[(.ref x0), (.ref x1)] 2 = mkF m 0 #[.val (.ref x0), .val (.ref x1)] [] := by first | (simp [entryFrame, mkF, argsToLocals, Value.category]; done) | rfl
theorem pn_14 : plainName "java/lang/StringBuilder" = true := by first | (simp [plainName, overriddenIn]; done) | decide +kernel
theorem d14_0 : decode jdk_67_method_7_code 0 = .ok (.aload_n 0, 1) := by decide +kernel
theorem d14_1 : decode jdk_67_method_7_code 1 = .ok (.aload_n 1, 1) := by decide +kernel
theorem d14_2 : decode jdk_67_method_7_code 2 = .ok (.invokespecial 29, 3) := by decide +kernel
theorem pd_6 : parseMethodDescriptor "(Ljava/lang/String;)Ljava/lang/AbstractStringBuilder;" = some ⟨[(.object "java/lang/String")], some (.object "java/lang/AbstractStringBuilder")⟩ := by decide +kernel
theorem d14_5 : decode jdk_67_method_7_code 5 = .ok (.pop, 1) := by decide +kernel
theorem d14_6 : decode jdk_67_method_7_code 6 = .ok (.aload_n 0, 1) := by decide +kernel
theorem d14_7 : decode jdk_67_method_7_code 7 = .ok (.areturn, 1) := by decide +kernel
def Q_rm14 (Z : State) (b : Addr) (x : Addr) (ta : Addr) (va : Addr) (kt : ClassId) (kv : ClassId) (cs : List Int32) (ds : List Int32) (z_cs : Int32) (v_sf : Value) (h0 : Heap) (n0 : Nat) (v : Option Value) (h : Heap) (L : List Loc) : Prop := v = some (.ref b) ∧ Fr n0 L ∧ Keep h0 h [b, va] ∧ Fld Z h b sk3 "value" "[B" (.ref va) ∧ Fld Z h b sk3 "coder" "B" (.int 0) ∧ Fld Z h b sk3 "count" "I" (.int (Int32.ofNat (cs ++ ds).length)) ∧ Arv Z h va kv .byte (16 : Int32) (own_sb (cs ++ ds)) (.int 0)
theorem rm14 (l : Launch) (Z : State) (a0 : Array Value) (hw : ∀ d ∈ tables_1, d.before a0 Z = true) (ws : List Jvm.Cond) {z_cs : Int32} {v_sf : Value} (cx : Cx Z z_cs v_sf) (b : Addr) (x : Addr) (ta : Addr) (va : Addr) (kt : ClassId) (kv : ClassId) (cs : List Int32) (ds : List Int32) (h0 : Heap) (n0 : Nat) (O0 : Old Z n0 h0) (G0 : Exa Z h0 b sk5) (G1 : Fld Z h0 b sk3 "value" "[B" (.ref va)) (G2 : Fld Z h0 b sk3 "coder" "B" (.int 0)) (G3 : Fld Z h0 b sk3 "count" "I" (.int (Int32.ofNat cs.length))) (G4 : Arv Z h0 va kv .byte (16 : Int32) (own_sb cs) (.int 0)) (G5 : Exa Z h0 x sk4) (G6 : Fld Z h0 x sk4 "value" "[B" (.ref ta)) (G7 : Fld Z h0 x sk4 "coder" "B" (.int 0)) (G8 : Arv Z h0 ta kt .byte (Int32.ofNat ds.length) (own_by ds) (.int 0)) (g_b : n0 ≤ b) (g_va : n0 ≤ va) (hle : cs.length + ds.length ≤ 12) (n1 : b ≠ va) (n2 : x ≠ va) (n3 : ta ≠ va) (n4 : b ≠ ta) (n5 : b ≠ x) :
    OwnMet l ym9 (Jvm.Cond.code ym9 jdk_67_method_7_code 2 (some (.object sk5)) :: ws) (own_R 4 0 0 91) #[(.ref b), (.ref x)] Z h0 (Q_rm14 Z b x ta va kt kv cs ds z_cs v_sf h0 n0) := by
  refine own_body (plainFor_of_name pn_14) hisR fun p e s m below meth c s₁ hx hby hml hown hnm hret hZ X0 e0 => ?_
  have N0 := Fr.nil n0
  have K0 : Keep h0 h0 [b, va] := Keep.refl _ _
  have pre0 : ∀ t, Go p e below s₁ (mkF m 0 #[vR b, vR x] []) t → Go p e below s₁ (entryFrame m #[(.ref b), (.ref x)] 2) t := fun t k => castTop (ef_14_RR m b x) k
  have q21 := fun t (kt : Go p e below s₁ (mkF m 2 #[vR b, vR x] [(.ref x), (.ref b)]) t) => pre0 t (by
    show Go _ _ _ _ (mkF m 0 #[vR b, vR x] []) _
    refine XS.aloadN X0.here hx rfl (hb hby d14_0) rfl rfl ?_
    show Go _ _ _ _ (mkF m 1 _ [(.ref b)]) _
    refine XS.aloadN X0.here hx rfl (hb hby d14_1) rfl rfl ?_
    exact kt)
  obtain ⟨_, _, ⟨T22, L22, k22, n22⟩, -, X22, ⟨_, hQ22, l22, y22, z22⟩, st22⟩ := superBack X0 hx hZ (y := ym8) hown (ox hw 87 rfl) (own_same (ox hw 107 rfl) rfl (ox hw 88 rfl) (by decide)) (ox hw 88 rfl) (ox hw 89 rfl) (by decide) (backOf (W := 0) (rm15 l Z a0 hw [] cx b x ta va kt kv cs ds h0 n0 O0 G0 G1 G2 G3 G4 G5 G6 G7 G8 g_b g_va hle n1 n2 n3 n4 n5) hZ (ox hw 91 rfl) (ox hw 74 rfl) (by decide) (by decide)) e0 (Ins.self G0) (g := (mkF m 2 #[vR b, vR x] [(.ref x), (.ref b)])) rfl (by rw [hml]; rfl) (ox hw 91 rfl) (argsL := [(.ref x)]) (rest := []) (lenOf pd_6 rfl) rfl own_le0 (hb hby d14_2) (fun _ _ => ⟨rfl, e0, (by decide : 0 + 0 ≤ _), (by decide : 0 + 0 ≤ _)⟩)
  dsimp only [Pt.U, Pt.locs, Pt.cells, Pt.slots] at X22 l22 y22 z22 st22 hQ22
  subst l22 y22 z22
  obtain ⟨rfl, Nq22, Kq22, fq22_0, fq22_1, fq22_2, fq22_3⟩ := hQ22
  have N23 := Fr.app N0 Nq22
  have O24 := O0.keep Kq22 (allS g_b (allS g_va all0))
  have K25 := K0.trans Kq22 (allS (Or.inl (List.mem_of_getElem? (i := 0) rfl)) (allS (Or.inl (List.mem_of_getElem? (i := 1) rfl)) all0))
  have q26 := fun t (kt : Go p e below T22 (mkF m 7 #[vR b, vR x] [(.ref b)]) t) => q21 t (st22.trans (by
    show Go _ _ _ _ (mkF m 5 #[vR b, vR x] [(.ref b)]) _
    refine XS.pop X22.here hx rfl (hb hby d14_5) rfl rfl ?_
    show Go _ _ _ _ (mkF m 6 _ []) _
    refine XS.aloadN X22.here hx rfl (hb hby d14_6) rfl rfl ?_
    exact kt))
  exact ⟨some (.ref b), T22, _, _, _, _, X22, by decide, by decide, nofun, q26, fun fs hr => retOut X22 hx hret rfl (o4 ⟨rfl, rfl, rfl⟩) (hb hby d14_7) hr, ⟨rfl, N23, K25, fq22_0, fq22_1, fq22_2, fq22_3⟩⟩
theorem ef_25_R (m : MethodId) (x0 : Addr) : entryFrame m #[(.ref x0)] 1 = mkF m 0 #[.val (.ref x0)] [] := by first | (simp [entryFrame, mkF, argsToLocals, Value.category]; done) | rfl
theorem pn_25 : plainName "java/lang/AbstractStringBuilder" = true := by first | (simp [plainName, overriddenIn]; done) | decide +kernel
theorem d25_0 : decode jdk_68_method_64_code 0 = .ok (.aload_n 0, 1) := by decide +kernel
theorem d25_1 : decode jdk_68_method_64_code 1 = .ok (.getfield 15, 3) := by decide +kernel
theorem d25_4 : decode jdk_68_method_64_code 4 = .ok (.areturn, 1) := by decide +kernel
def Q_rm25 (Z : State) (b : Addr) (va : Addr) (z_cs : Int32) (v_sf : Value) (h0 : Heap) (n0 : Nat) (v : Option Value) (h : Heap) (L : List Loc) : Prop := v = some (.ref va) ∧ Fr n0 L ∧ h = h0
theorem rm25 (l : Launch) (Z : State) (a0 : Array Value) (hw : ∀ d ∈ tables_1, d.before a0 Z = true) (ws : List Jvm.Cond) {z_cs : Int32} {v_sf : Value} (cx : Cx Z z_cs v_sf) (b : Addr) (va : Addr) (h0 : Heap) (n0 : Nat) (O0 : Old Z n0 h0) (G0 : Fld Z h0 b sk3 "value" "[B" (.ref va)) :
    OwnMet l ym10 (Jvm.Cond.code ym10 jdk_68_method_64_code 1 (some (.array .byte)) :: ws) (own_R 0 0 0 0) #[(.ref b)] Z h0 (Q_rm25 Z b va z_cs v_sf h0 n0) := by
  refine own_body (plainFor_of_name pn_25) hisR fun p e s m below meth c s₁ hx hby hml hown hnm hret hZ X0 e0 => ?_
  have N0 := Fr.nil n0
  have pre0 : ∀ t, Go p e below s₁ (mkF m 0 #[vR b] []) t → Go p e below s₁ (entryFrame m #[(.ref b)] 1) t := fun t k => castTop (ef_25_R m b) k
  have q21 := fun t (kt : Go p e below s₁ (mkF m 1 #[vR b] [(.ref b)]) t) => pre0 t (by
    show Go _ _ _ _ (mkF m 0 #[vR b] []) _
    refine XS.aloadN X0.here hx rfl (hb hby d25_0) rfl rfl ?_
    exact kt)
  obtain ⟨T22, X22, e22, st22⟩ := getF X0 hx hZ hown (host := "") (Or.inl (ox hw 78 rfl)) Via.refl e0 G0 (g := (mkF m 1 #[vR b] [(.ref b)])) rfl rfl (hb hby d25_1)
  have q23 := fun t (kt : Go p e below T22 (mkF m 4 #[vR b] [(.ref va)]) t) => q21 t (st22 t kt)
  exact ⟨some (.ref va), T22, _, _, _, _, X22, by decide, by decide, nofun, q23, fun fs hr => retOut X22 hx hret rfl (o4 ⟨rfl, rfl, rfl⟩) (hb hby d25_4) hr, by rw [e22]; exact ⟨rfl, N0, rfl⟩⟩
theorem ef_27_R (m : MethodId) (x0 : Addr) : entryFrame m #[(.ref x0)] 1 = mkF m 0 #[.val (.ref x0)] [] := by first | (simp [entryFrame, mkF, argsToLocals, Value.category]; done) | rfl
theorem pn_27 : plainName "java/lang/AbstractStringBuilder" = true := by first | (simp [plainName, overriddenIn]; done) | decide +kernel
theorem d27_0 : decode jdk_68_method_6_code 0 = .ok (.aload_n 0, 1) := by decide +kernel
theorem d27_1 : decode jdk_68_method_6_code 1 = .ok (.getfield 79, 3) := by decide +kernel
theorem d27_4 : decode jdk_68_method_6_code 4 = .ok (.ireturn, 1) := by decide +kernel
def Q_rm27 (Z : State) (b : Addr) (pn : Int32) (z_cs : Int32) (v_sf : Value) (h0 : Heap) (n0 : Nat) (v : Option Value) (h : Heap) (L : List Loc) : Prop := v = some (.int pn) ∧ Fr n0 L ∧ h = h0
theorem rm27 (l : Launch) (Z : State) (a0 : Array Value) (hw : ∀ d ∈ tables_1, d.before a0 Z = true) (ws : List Jvm.Cond) {z_cs : Int32} {v_sf : Value} (cx : Cx Z z_cs v_sf) (b : Addr) (pn : Int32) (h0 : Heap) (n0 : Nat) (O0 : Old Z n0 h0) (G0 : Fld Z h0 b sk3 "count" "I" (.int pn)) :
    OwnMet l ym11 (Jvm.Cond.code ym11 jdk_68_method_6_code 1 (some .int) :: ws) (own_R 0 0 0 0) #[(.ref b)] Z h0 (Q_rm27 Z b pn z_cs v_sf h0 n0) := by
  refine own_body (plainFor_of_name pn_27) hisR fun p e s m below meth c s₁ hx hby hml hown hnm hret hZ X0 e0 => ?_
  have N0 := Fr.nil n0
  have pre0 : ∀ t, Go p e below s₁ (mkF m 0 #[vR b] []) t → Go p e below s₁ (entryFrame m #[(.ref b)] 1) t := fun t k => castTop (ef_27_R m b) k
  have q21 := fun t (kt : Go p e below s₁ (mkF m 1 #[vR b] [(.ref b)]) t) => pre0 t (by
    show Go _ _ _ _ (mkF m 0 #[vR b] []) _
    refine XS.aloadN X0.here hx rfl (hb hby d27_0) rfl rfl ?_
    exact kt)
  obtain ⟨T22, X22, e22, st22⟩ := getF X0 hx hZ hown (host := "") (Or.inl (ox hw 102 rfl)) Via.refl e0 G0 (g := (mkF m 1 #[vR b] [(.ref b)])) rfl rfl (hb hby d27_1)
  have q23 := fun t (kt : Go p e below T22 (mkF m 4 #[vR b] [(.int pn)]) t) => q21 t (st22 t kt)
  exact ⟨some (.int pn), T22, _, _, _, _, X22, by decide, by decide, nofun, q23, fun fs hr => retI X22 hx hret (hb hby d27_4) hr, by rw [e22]; exact ⟨rfl, N0, rfl⟩⟩
theorem ef_26_R (m : MethodId) (x0 : Addr) : entryFrame m #[(.ref x0)] 1 = mkF m 0 #[.val (.ref x0)] [] := by first | (simp [entryFrame, mkF, argsToLocals, Value.category]; done) | rfl
theorem pn_26 : plainName "java/lang/StringBuilder" = true := by first | (simp [plainName, overriddenIn]; done) | decide +kernel
theorem d26_0 : decode jdk_67_method_93_code 0 = .ok (.aload_n 0, 1) := by decide +kernel
theorem d26_1 : decode jdk_67_method_93_code 1 = .ok (.invokespecial 343, 3) := by decide +kernel
theorem d26_4 : decode jdk_67_method_93_code 4 = .ok (.ireturn, 1) := by decide +kernel
def Q_rm26 (Z : State) (b : Addr) (pn : Int32) (z_cs : Int32) (v_sf : Value) (h0 : Heap) (n0 : Nat) (v : Option Value) (h : Heap) (L : List Loc) : Prop := v = some (.int pn) ∧ Fr n0 L ∧ h = h0
theorem rm26 (l : Launch) (Z : State) (a0 : Array Value) (hw : ∀ d ∈ tables_1, d.before a0 Z = true) (ws : List Jvm.Cond) {z_cs : Int32} {v_sf : Value} (cx : Cx Z z_cs v_sf) (b : Addr) (pn : Int32) (h0 : Heap) (n0 : Nat) (O0 : Old Z n0 h0) (G0 : Exa Z h0 b sk5) (G1 : Fld Z h0 b sk3 "count" "I" (.int pn)) :
    OwnMet l ym12 (Jvm.Cond.code ym12 jdk_67_method_93_code 1 (some .int) :: ws) (own_R 1 0 0 12) #[(.ref b)] Z h0 (Q_rm26 Z b pn z_cs v_sf h0 n0) := by
  refine own_body (plainFor_of_name pn_26) hisR fun p e s m below meth c s₁ hx hby hml hown hnm hret hZ X0 e0 => ?_
  have N0 := Fr.nil n0
  have pre0 : ∀ t, Go p e below s₁ (mkF m 0 #[vR b] []) t → Go p e below s₁ (entryFrame m #[(.ref b)] 1) t := fun t k => castTop (ef_26_R m b) k
  have q21 := fun t (kt : Go p e below s₁ (mkF m 1 #[vR b] [(.ref b)]) t) => pre0 t (by
    show Go _ _ _ _ (mkF m 0 #[vR b] []) _
    refine XS.aloadN X0.here hx rfl (hb hby d26_0) rfl rfl ?_
    exact kt)
  obtain ⟨_, _, ⟨T22, L22, k22, n22⟩, -, X22, ⟨_, hQ22, l22, y22, z22⟩, st22⟩ := superBack X0 hx hZ (y := ym11) hown (ox hw 155 rfl) (own_same (ox hw 107 rfl) rfl (ox hw 151 rfl) (by decide)) (ox hw 151 rfl) (ox hw 89 rfl) (by decide) (backOf (W := 0) (rm27 l Z a0 hw [] cx b pn h0 n0 O0 G1) hZ (ox hw 156 rfl) (ox hw 74 rfl) (by decide) (by decide)) e0 (Ins.self G0) (g := (mkF m 1 #[vR b] [(.ref b)])) rfl (by rw [hml]; rfl) (ox hw 156 rfl) (argsL := []) (rest := []) (lenOf pd_4 rfl) rfl own_le0 (hb hby d26_1) (fun _ _ => ⟨rfl, e0, (by decide : 0 + 0 ≤ _), (by decide : 0 + 0 ≤ _)⟩)
  dsimp only [Pt.U, Pt.locs, Pt.cells, Pt.slots] at X22 l22 y22 z22 st22 hQ22
  subst l22 y22 z22
  obtain ⟨rfl, Nq22, eq22⟩ := hQ22
  have N23 := Fr.app N0 Nq22
  have q24 := fun t (kt : Go p e below T22 (mkF m 4 #[vR b] [(.int pn)]) t) => q21 t (st22.trans kt)
  exact ⟨some (.int pn), T22, _, _, _, _, X22, by decide, by decide, nofun, q24, fun fs hr => retI X22 hx hret (hb hby d26_4) hr, by rw [eq22]; exact ⟨rfl, N23, rfl⟩⟩
theorem ef_28_R (m : MethodId) (x0 : Addr) : entryFrame m #[(.ref x0)] 1 = mkF m 0 #[.val (.ref x0)] [] := by first | (simp [entryFrame, mkF, argsToLocals, Value.category]; done) | rfl
theorem pn_28 : plainName "java/lang/AbstractStringBuilder" = true := by first | (simp [plainName, overriddenIn]; done) | decide +kernel
theorem d28_0 : decode jdk_68_method_68_code 0 = .ok (.getstatic 18, 3) := by decide +kernel
theorem d28_3 : decode jdk_68_method_68_code 3 = .ok (.ifCond .eq 14, 3) := by decide +kernel
theorem d28_6 : decode jdk_68_method_68_code 6 = .ok (.aload_n 0, 1) := by decide +kernel
theorem d28_7 : decode jdk_68_method_68_code 7 = .ok (.getfield 22, 3) := by decide +kernel
theorem d28_10 : decode jdk_68_method_68_code 10 = .ok (.ifCond .ne 7, 3) := by decide +kernel
theorem d28_13 : decode jdk_68_method_68_code 13 = .ok (.iconst 1, 1) := by decide +kernel
theorem d28_14 : decode jdk_68_method_68_code 14 = .ok (.goto 4, 3) := by decide +kernel
theorem d28_18 : decode jdk_68_method_68_code 18 = .ok (.ireturn, 1) := by decide +kernel
def Q_rm28 (Z : State) (b : Addr) (z_cs : Int32) (v_sf : Value) (h0 : Heap) (n0 : Nat) (v : Option Value) (h : Heap) (L : List Loc) : Prop := v = some (.int 1) ∧ Fr n0 L ∧ h = h0
theorem rm28 (l : Launch) (Z : State) (a0 : Array Value) (hw : ∀ d ∈ tables_1, d.before a0 Z = true) (ws : List Jvm.Cond) {z_cs : Int32} {v_sf : Value} (cx : Cx Z z_cs v_sf) (b : Addr) (h0 : Heap) (n0 : Nat) (O0 : Old Z n0 h0) (G0 : Fld Z h0 b sk3 "coder" "B" (.int 0)) :
    OwnMet l ym13 (Jvm.Cond.code ym13 jdk_68_method_68_code 1 (some .boolean) :: ws) (own_R 0 0 0 0) #[(.ref b)] Z h0 (Q_rm28 Z b z_cs v_sf h0 n0) := by
  refine own_body (plainFor_of_name pn_28) hisR fun p e s m below meth c s₁ hx hby hml hown hnm hret hZ X0 e0 => ?_
  have N0 := Fr.nil n0
  have pre0 : ∀ t, Go p e below s₁ (mkF m 0 #[vR b] []) t → Go p e below s₁ (entryFrame m #[(.ref b)] 1) t := fun t k => castTop (ef_28_R m b) k
  obtain ⟨T21, X21, e21, st21⟩ := getS2 X0 hx hZ hown (host := "") (Or.inl (ox hw 77 rfl)) Via.refl e0 (cx.1.ext O0.2) (g := (mkF m 0 #[vR b] [])) rfl (hb hby d28_0)
  have q22 := fun t (kt : Go p e below T21 (mkF m 7 #[vR b] [(.ref b)]) t) => pre0 t (st21 t (by
    show Go _ _ _ _ (mkF m 3 #[vR b] [(.int z_cs)]) _
    refine XS.ifNo X21.here hx rfl (hb hby d28_3) rfl ((if0 _ _).trans (feq cx.2.1).1) ?_
    show Go _ _ _ _ (mkF m 6 _ []) _
    refine XS.aloadN X21.here hx rfl (hb hby d28_6) rfl rfl ?_
    exact kt))
  obtain ⟨T23, X23, e23, st23⟩ := getF X21 hx hZ hown (host := "") (Or.inl (ox hw 80 rfl)) Via.refl e21 G0 (g := (mkF m 7 #[vR b] [(.ref b)])) rfl rfl (hb hby d28_7)
  have q24 := fun t (kt : Go p e below T23 (mkF m 18 #[vR b] [(.int 1)]) t) => q22 t (st23 t (by
    show Go _ _ _ _ (mkF m 10 #[vR b] [(.int 0)]) _
    refine XS.ifNo X23.here hx rfl (hb hby d28_10) rfl ((if0 _ _).trans (teq (rfl : (0 : Int32) = (0 : Int32))).2) ?_
    show Go _ _ _ _ (mkF m 13 _ []) _
    refine XS.iconst X23.here hx rfl (hb hby d28_13) ?_
    show Go _ _ _ _ (mkF m 14 _ [(.int 1)]) _
    refine XS.goto X23.here hx rfl (pc0 := 14) (pc' := 18) rfl (hb hby d28_14) (by decide) (by decide) ?_
    exact kt))
  exact ⟨some (.int 1), T23, _, _, _, _, X23, by decide, by decide, nofun, q24, fun fs hr => retN X23 hx (t := .boolean) hret (by simp) (hb hby d28_18) hr, by rw [e23]; exact ⟨rfl, N0, rfl⟩⟩
theorem ef_31_II (m : MethodId) (x0 : Int32) (x1 : Int32) : entryFrame m #[(.int x0), (.int x1)] 2 = mkF m 0 #[.val (.int x0), .val (.int x1)] [] := by first | (simp [entryFrame, mkF, argsToLocals, Value.category]; done) | rfl
theorem pn_31 : plainName "java/util/Arrays" = true := by first | (simp [plainName, overriddenIn]; done) | decide +kernel
theorem d31_0 : decode jdk_65_method_131_code 0 = .ok (.iload_n 1, 1) := by decide +kernel
theorem d31_1 : decode jdk_65_method_131_code 1 = .ok (.iload_n 0, 1) := by decide +kernel
theorem d31_2 : decode jdk_65_method_131_code 2 = .ok (.if_icmp .ge 35, 3) := by decide +kernel
theorem d31_37 : decode jdk_65_method_131_code 37 = .ok (.return_, 1) := by decide +kernel
def Q_rm31 (Z : State) (pn : Int32) (z_cs : Int32) (v_sf : Value) (h0 : Heap) (n0 : Nat) (v : Option Value) (h : Heap) (L : List Loc) : Prop := v = none ∧ Fr n0 L ∧ h = h0
theorem rm31 (l : Launch) (Z : State) (a0 : Array Value) (hw : ∀ d ∈ tables_1, d.before a0 Z = true) (ws : List Jvm.Cond) {z_cs : Int32} {v_sf : Value} (cx : Cx Z z_cs v_sf) (pn : Int32) (h0 : Heap) (n0 : Nat) (O0 : Old Z n0 h0) (h1 : ¬ (pn < (0 : Int32))) :
    OwnMet l ym14 (Jvm.Cond.code ym14 jdk_65_method_131_code 2 none :: ws) (own_R 0 0 0 0) #[(.int 0), (.int pn)] Z h0 (Q_rm31 Z pn z_cs v_sf h0 n0) := by
  refine own_body (plainFor_of_name pn_31) hisR fun p e s m below meth c s₁ hx hby hml hown hnm hret hZ X0 e0 => ?_
  have N0 := Fr.nil n0
  have pre0 : ∀ t, Go p e below s₁ (mkF m 0 #[vI 0, vI pn] []) t → Go p e below s₁ (entryFrame m #[(.int 0), (.int pn)] 2) t := fun t k => castTop (ef_31_II m (0 : Int32) pn) k
  have q21 := fun t (kt : Go p e below s₁ (mkF m 37 #[vI 0, vI pn] []) t) => pre0 t (by
    show Go _ _ _ _ (mkF m 0 #[vI 0, vI pn] []) _
    refine XS.iloadN X0.here hx rfl (hb hby d31_0) rfl ?_
    show Go _ _ _ _ (mkF m 1 _ [(.int pn)]) _
    refine XS.iloadN X0.here hx rfl (hb hby d31_1) rfl ?_
    show Go _ _ _ _ (mkF m 2 _ [(.int 0), (.int pn)]) _
    refine XS.icmpYes X0.here hx rfl (pc0 := 2) (pc' := 37) rfl (hb hby d31_2) rfl (flt h1).2.1 (by decide) (by decide) ?_
    exact kt)
  exact ⟨none, s₁, _, _, _, _, X0, by decide, by decide, fun _ => rfl, q21, fun fs hr => X0.returnOut hx hret (hb hby d31_37) hr, by rw [e0]; exact ⟨rfl, N0, rfl⟩⟩
theorem ef_32_II (m : MethodId) (x0 : Int32) (x1 : Int32) : entryFrame m #[(.int x0), (.int x1)] 2 = mkF m 0 #[.val (.int x0), .val (.int x1)] [] := by first | (simp [entryFrame, mkF, argsToLocals, Value.category]; done) | rfl
theorem d32_0 : decode jdk_29_method_69_code 0 = .ok (.iload_n 0, 1) := by decide +kernel
theorem d32_1 : decode jdk_29_method_69_code 1 = .ok (.iload_n 1, 1) := by decide +kernel
theorem d32_2 : decode jdk_29_method_69_code 2 = .ok (.if_icmp .gt 7, 3) := by decide +kernel
theorem d32_9 : decode jdk_29_method_69_code 9 = .ok (.iload_n 1, 1) := by decide +kernel
theorem d32_10 : decode jdk_29_method_69_code 10 = .ok (.ireturn, 1) := by decide +kernel
def Q_rm32 (Z : State) (pn : Int32) (z_cs : Int32) (v_sf : Value) (h0 : Heap) (n0 : Nat) (v : Option Value) (h : Heap) (L : List Loc) : Prop := v = some (.int pn) ∧ Fr n0 L ∧ h = h0
theorem rm32 (l : Launch) (Z : State) (a0 : Array Value) (hw : ∀ d ∈ tables_1, d.before a0 Z = true) (ws : List Jvm.Cond) {z_cs : Int32} {v_sf : Value} (cx : Cx Z z_cs v_sf) (pn : Int32) (h0 : Heap) (n0 : Nat) (O0 : Old Z n0 h0) (h1 : ¬ ((16 : Int32) = pn)) (h2 : pn < (16 : Int32)) :
    OwnMet l ym15 (Jvm.Cond.code ym15 jdk_29_method_69_code 2 (some .int) :: ws) (own_R 0 0 0 0) #[(.int 16), (.int pn)] Z h0 (Q_rm32 Z pn z_cs v_sf h0 n0) := by
  refine own_body (Jvm.Free.JP.mathPlain rfl (by decide +kernel)) hisR fun p e s m below meth c s₁ hx hby hml hown hnm hret hZ X0 e0 => ?_
  have N0 := Fr.nil n0
  have pre0 : ∀ t, Go p e below s₁ (mkF m 0 #[vI 16, vI pn] []) t → Go p e below s₁ (entryFrame m #[(.int 16), (.int pn)] 2) t := fun t k => castTop (ef_32_II m (16 : Int32) pn) k
  have q21 := fun t (kt : Go p e below s₁ (mkF m 10 #[vI 16, vI pn] [(.int pn)]) t) => pre0 t (by
    show Go _ _ _ _ (mkF m 0 #[vI 16, vI pn] []) _
    refine XS.iloadN X0.here hx rfl (hb hby d32_0) rfl ?_
    show Go _ _ _ _ (mkF m 1 _ [(.int 16)]) _
    refine XS.iloadN X0.here hx rfl (hb hby d32_1) rfl ?_
    show Go _ _ _ _ (mkF m 2 _ [(.int pn), (.int 16)]) _
    refine XS.icmpYes X0.here hx rfl (pc0 := 2) (pc' := 9) rfl (hb hby d32_2) rfl (tlt h2).2.2.1 (by decide) (by decide) ?_
    show Go _ _ _ _ (mkF m 9 _ []) _
    refine XS.iloadN X0.here hx rfl (hb hby d32_9) rfl ?_
    exact kt)
  exact ⟨some (.int pn), s₁, _, _, _, _, X0, by decide, by decide, nofun, q21, fun fs hr => retI X0 hx hret (hb hby d32_10) hr, by rw [e0]; exact ⟨rfl, N0, rfl⟩⟩
theorem own_lt16 {n : Nat} (h : n ≤ 12) : Int32.ofNat n < (16 : Int32) ∧ ¬ ((16 : Int32) = Int32.ofNat n) ∧ ¬ (Int32.ofNat n = (16 : Int32)) :=
  (by decide : ∀ n : Fin 13, Int32.ofNat n.val < (16 : Int32) ∧ ¬ ((16 : Int32) = Int32.ofNat n.val) ∧ ¬ (Int32.ofNat n.val = (16 : Int32))) ⟨n, by omega⟩
theorem own_us2 {cs : List Int32} : own_by cs = (List.range cs.length).map (fun i => (own_sb cs).getD (0 + i) (.int 0)) := by
  apply List.ext_getElem
  · simp [own_by]
  · intro i h1 h2
    have h3 : i < cs.length := by simpa [own_by] using h1
    simp [List.getD_eq_getElem?_getD, own_sb, own_by, List.getElem?_append, h3]
theorem own_rep (n : Nat) (l : List Value) (h : l.length = n) : (List.replicate n (Value.int 0)).take 0 ++ l ++ (List.replicate n (Value.int 0)).drop (0 + n) = l := by simp
theorem ef_30_RII (m : MethodId) (x0 : Addr) (x1 : Int32) (x2 : Int32) : entryFrame m #[(.ref x0), (.int x1), (.int x2)] 5 = mkF m 0 #[.val (.ref x0), .val (.int x1), .val (.int x2), .unset, .unset] [] := by first | (simp [entryFrame, mkF, argsToLocals, Value.category]; done) | rfl
theorem pn_30 : plainName "java/util/Arrays" = true := by first | (simp [plainName, overriddenIn]; done) | decide +kernel
theorem d30_0 : decode jdk_65_method_133_code 0 = .ok (.iload_n 1, 1) := by decide +kernel
theorem d30_1 : decode jdk_65_method_133_code 1 = .ok (.iload_n 2, 1) := by decide +kernel
theorem d30_2 : decode jdk_65_method_133_code 2 = .ok (.invokestatic 343, 3) := by decide +kernel
theorem pd_7 : parseMethodDescriptor "(II)V" = some ⟨[.int, .int], none⟩ := by decide +kernel
theorem d30_5 : decode jdk_65_method_133_code 5 = .ok (.iload_n 2, 1) := by decide +kernel
theorem d30_6 : decode jdk_65_method_133_code 6 = .ok (.iload_n 1, 1) := by decide +kernel
theorem d30_7 : decode jdk_65_method_133_code 7 = .ok (.isub, 1) := by decide +kernel
theorem d30_8 : decode jdk_65_method_133_code 8 = .ok (.istore_n 3, 1) := by decide +kernel
theorem d30_9 : decode jdk_65_method_133_code 9 = .ok (.iload_n 3, 1) := by decide +kernel
theorem d30_10 : decode jdk_65_method_133_code 10 = .ok (.newarray .byte, 2) := by decide +kernel
theorem d30_12 : decode jdk_65_method_133_code 12 = .ok (.astore 4, 2) := by decide +kernel
theorem d30_14 : decode jdk_65_method_133_code 14 = .ok (.aload_n 0, 1) := by decide +kernel
theorem d30_15 : decode jdk_65_method_133_code 15 = .ok (.iload_n 1, 1) := by decide +kernel
theorem d30_16 : decode jdk_65_method_133_code 16 = .ok (.aload 4, 2) := by decide +kernel
theorem d30_18 : decode jdk_65_method_133_code 18 = .ok (.iconst 0, 1) := by decide +kernel
theorem d30_19 : decode jdk_65_method_133_code 19 = .ok (.aload_n 0, 1) := by decide +kernel
theorem d30_20 : decode jdk_65_method_133_code 20 = .ok (.arraylength, 1) := by decide +kernel
theorem d30_21 : decode jdk_65_method_133_code 21 = .ok (.iload_n 1, 1) := by decide +kernel
theorem d30_22 : decode jdk_65_method_133_code 22 = .ok (.isub, 1) := by decide +kernel
theorem d30_23 : decode jdk_65_method_133_code 23 = .ok (.iload_n 3, 1) := by decide +kernel
theorem d30_24 : decode jdk_65_method_133_code 24 = .ok (.invokestatic 304, 3) := by decide +kernel
theorem pd_8 : parseMethodDescriptor "(II)I" = some ⟨[.int, .int], some .int⟩ := by decide +kernel
theorem d30_27 : decode jdk_65_method_133_code 27 = .ok (.invokestatic 150, 3) := by decide +kernel
theorem d30_30 : decode jdk_65_method_133_code 30 = .ok (.aload 4, 2) := by decide +kernel
theorem d30_32 : decode jdk_65_method_133_code 32 = .ok (.areturn, 1) := by decide +kernel
def Q_rm30 (Z : State) (va : Addr) (kv : ClassId) (cs : List Int32) (z_cs : Int32) (v_sf : Value) (h0 : Heap) (n0 : Nat) (v : Option Value) (h : Heap) (L : List Loc) : Prop := ∃ (r : Addr) (kr : ClassId), v = some (.ref r) ∧ Fr n0 L ∧ Keep h0 h [] ∧ h0.size ≤ r ∧ Arv Z h r kr .byte (Int32.ofNat cs.length) (own_by cs) (.int 0)
theorem rm30 (l : Launch) (Z : State) (a0 : Array Value) (hw : ∀ d ∈ tables_1, d.before a0 Z = true) (ws : List Jvm.Cond) {z_cs : Int32} {v_sf : Value} (cx : Cx Z z_cs v_sf) (va : Addr) (kv : ClassId) (cs : List Int32) (h0 : Heap) (n0 : Nat) (O0 : Old Z n0 h0) (G0 : Arv Z h0 va kv .byte (16 : Int32) (own_sb cs) (.int 0)) (hle : cs.length ≤ 12) :
    OwnMet l ym16 (Jvm.Cond.code ym16 jdk_65_method_133_code 5 (some (.array .byte)) :: ws) (own_R 1 1 16 48) #[(.ref va), (.int 0), (.int (Int32.ofNat cs.length))] Z h0 (Q_rm30 Z va kv cs z_cs v_sf h0 n0) := by
  refine own_body (plainFor_of_name pn_30) hisR fun p e s m below meth c s₁ hx hby hml hown hnm hret hZ X0 e0 => ?_
  have N0 := Fr.nil n0
  have K0 : Keep h0 h0 [] := Keep.refl _ _
  have pre0 : ∀ t, Go p e below s₁ (mkF m 0 #[vR va, vI 0, vI (Int32.ofNat cs.length), vU, vU] []) t → Go p e below s₁ (entryFrame m #[(.ref va), (.int 0), (.int (Int32.ofNat cs.length))] 5) t := fun t k => castTop (ef_30_RII m va (0 : Int32) (Int32.ofNat cs.length)) k
  have q21 := fun t (kt : Go p e below s₁ (mkF m 2 #[vR va, vI 0, vI (Int32.ofNat cs.length), vU, vU] [(.int (Int32.ofNat cs.length)), (.int 0)]) t) => pre0 t (by
    show Go _ _ _ _ (mkF m 0 #[vR va, vI 0, vI (Int32.ofNat cs.length), vU, vU] []) _
    refine XS.iloadN X0.here hx rfl (hb hby d30_0) rfl ?_
    show Go _ _ _ _ (mkF m 1 _ [(.int 0)]) _
    refine XS.iloadN X0.here hx rfl (hb hby d30_1) rfl ?_
    exact kt)
  obtain ⟨_, _, ⟨T22, L22, k22, n22⟩, -, X22, ⟨_, hQ22, l22, y22, z22⟩, st22⟩ := Jvm.LawKit.callS X0 hx (y := ym14) hown (ow hZ hw 169 rfl) (ow hZ hw 170 rfl) (ow hZ hw 164 rfl) (ow hZ hw 171 rfl) (by decide) (backOf (W := 0) (rm31 l Z a0 hw [] cx (Int32.ofNat cs.length) h0 n0 O0 (own_cl (by omega)).2.1) hZ (ox hw 171 rfl) (ox hw 164 rfl) (by decide) (by decide)) (g := (mkF m 2 #[vR va, vI 0, vI (Int32.ofNat cs.length), vU, vU] [(.int (Int32.ofNat cs.length)), (.int 0)])) rfl (by rw [hml]; rfl) (argsL := [(.int 0), (.int (Int32.ofNat cs.length))]) (rest := []) (lenOf pd_7 rfl) rfl own_le0 (hb hby d30_2) (fun _ _ => ⟨rfl, e0, (by decide : 0 + 0 ≤ _), (by decide : 0 + 0 ≤ _)⟩)
  dsimp only [Pt.U, Pt.locs, Pt.cells, Pt.slots] at X22 l22 y22 z22 st22 hQ22
  subst l22 y22 z22
  obtain ⟨rfl, Nq22, eq22⟩ := hQ22
  have N23 := Fr.app N0 Nq22
  have q24 := fun t (kt : Go p e below T22 (mkF m 8 #[vR va, vI 0, vI (Int32.ofNat cs.length), vU, vU] [(.int ((Int32.ofNat cs.length) - (0 : Int32)))]) t) => q21 t (st22 t (by
    show Go _ _ _ _ (mkF m 5 #[vR va, vI 0, vI (Int32.ofNat cs.length), vU, vU] []) _
    refine XS.iloadN X22.here hx rfl (hb hby d30_5) rfl ?_
    show Go _ _ _ _ (mkF m 6 _ [(.int (Int32.ofNat cs.length))]) _
    refine XS.iloadN X22.here hx rfl (hb hby d30_6) rfl ?_
    show Go _ _ _ _ (mkF m 7 _ [(.int 0), (.int (Int32.ofNat cs.length))]) _
    refine XS.isub X22.here hx rfl (hb hby d30_7) rfl ?_
    exact kt))
  have q25 := fun t (kt : Go p e below T22 (mkF m 8 #[vR va, vI 0, vI (Int32.ofNat cs.length), vU, vU] [(.int (Int32.ofNat cs.length))]) t) => q24 t (by rw [(Int32.sub_zero _)]; exact kt)
  have q26 := fun t (kt : Go p e below T22 (mkF m 10 #[vR va, vI 0, vI (Int32.ofNat cs.length), vI (Int32.ofNat cs.length), vU] [(.int (Int32.ofNat cs.length))]) t) => q25 t (by
    show Go _ _ _ _ (mkF m 8 #[vR va, vI 0, vI (Int32.ofNat cs.length), vU, vU] [(.int (Int32.ofNat cs.length))]) _
    refine XS.istoreN X22.here hx rfl (hb hby d30_8) rfl (l' := #[vR va, vI 0, vI (Int32.ofNat cs.length), vI (Int32.ofNat cs.length), vU]) rfl ?_
    show Go _ _ _ _ (mkF m 9 #[vR va, vI 0, vI (Int32.ofNat cs.length), vI (Int32.ofNat cs.length), vU] []) _
    refine XS.iloadN X22.here hx rfl (hb hby d30_9) rfl ?_
    exact kt)
  obtain ⟨T27, h27, k27, X27, e27, E27, A27, st27⟩ := newP X22 hx hZ (ox hw 18 rfl) eq22 (g := (mkF m 10 #[vR va, vI 0, vI (Int32.ofNat cs.length), vI (Int32.ofNat cs.length), vU] [(.int (Int32.ofNat cs.length))])) rfl (hb hby d30_10) rfl (own_cl (by omega)).2.1 (cap := 16) (by rw [(own_cl (by omega : cs.length ≤ 16)).1]; omega) (by decide) (by decide) (by decide)
  obtain ⟨b27, g27⟩ : ∃ z, z = h0.size := ⟨_, rfl⟩
  rw [← g27] at A27 st27
  have gg28 : n0 ≤ b27 := Nat.le_trans (O0.1 ▸ O0.2.1) (Nat.le_of_eq g27.symm)
  have sz29 : h0.size ≤ b27 := Nat.le_trans K0.1 (Nat.le_of_eq g27.symm)
  have O30 := O0.ext E27
  have K31 := K0.ext E27
  have V27 : Arv Z h27 b27 k27 .byte (Int32.ofNat cs.length) (List.replicate cs.length (.int 0)) (.int 0) := (Arv.new A27 (own_cl (by omega)).2.1).pad (pad_rep [] (.int 0) cs.length)
  have f32 := (G0.ext E27)
  have q34 := fun t (kt : Go p e below T27 (mkF m 20 #[vR va, vI 0, vI (Int32.ofNat cs.length), vI (Int32.ofNat cs.length), vR b27] [(.ref va), (.int 0), (.ref b27), (.int 0), (.ref va)]) t) => q26 t (st27 t (by
    show Go _ _ _ _ (mkF m 12 #[vR va, vI 0, vI (Int32.ofNat cs.length), vI (Int32.ofNat cs.length), vU] [(.ref b27)]) _
    refine XS.astore X27.here hx rfl (hb hby d30_12) rfl rfl (l' := #[vR va, vI 0, vI (Int32.ofNat cs.length), vI (Int32.ofNat cs.length), vR b27]) rfl ?_
    show Go _ _ _ _ (mkF m 14 #[vR va, vI 0, vI (Int32.ofNat cs.length), vI (Int32.ofNat cs.length), vR b27] []) _
    refine XS.aloadN X27.here hx rfl (hb hby d30_14) rfl rfl ?_
    show Go _ _ _ _ (mkF m 15 _ [(.ref va)]) _
    refine XS.iloadN X27.here hx rfl (hb hby d30_15) rfl ?_
    show Go _ _ _ _ (mkF m 16 _ [(.int 0), (.ref va)]) _
    refine XS.aload X27.here hx rfl (hb hby d30_16) rfl rfl ?_
    show Go _ _ _ _ (mkF m 18 _ [(.ref b27), (.int 0), (.ref va)]) _
    refine XS.iconst X27.here hx rfl (hb hby d30_18) ?_
    show Go _ _ _ _ (mkF m 19 _ [(.int 0), (.ref b27), (.int 0), (.ref va)]) _
    refine XS.aloadN X27.here hx rfl (hb hby d30_19) rfl rfl ?_
    exact kt))
  obtain ⟨c33, Ar33, -, S33, N33, -, -⟩ := id f32
  have q35 := fun t (kt : Go p e below T27 (mkF m 24 #[vR va, vI 0, vI (Int32.ofNat cs.length), vI (Int32.ofNat cs.length), vR b27] [(.int (Int32.ofNat cs.length)), (.int 16), (.int 0), (.ref b27), (.int 0), (.ref va)]) t) => q34 t (by
    show Go _ _ _ _ (mkF m 20 #[vR va, vI 0, vI (Int32.ofNat cs.length), vI (Int32.ofNat cs.length), vR b27] [(.ref va), (.int 0), (.ref b27), (.int 0), (.ref va)]) _
    refine X27.arraylength hx (by rw [e27]; exact Ar33.1) (State.isArrayOf_alike hZ.alike Ar33.2.1) (g := (mkF m 20 #[vR va, vI 0, vI (Int32.ofNat cs.length), vI (Int32.ofNat cs.length), vR b27] [(.ref va), (.int 0), (.ref b27), (.int 0), (.ref va)])) rfl rfl (hb hby d30_20) _ ?_
    rw [len_of S33 N33]
    show Go _ _ _ _ (mkF m 21 _ [(.int 16), (.int 0), (.ref b27), (.int 0), (.ref va)]) _
    refine XS.iloadN X27.here hx rfl (hb hby d30_21) rfl ?_
    show Go _ _ _ _ (mkF m 22 _ [(.int 0), (.int 16), (.int 0), (.ref b27), (.int 0), (.ref va)]) _
    refine XS.isub X27.here hx rfl (hb hby d30_22) rfl ?_
    show Go _ _ _ _ (mkF m 23 _ [(.int 16), (.int 0), (.ref b27), (.int 0), (.ref va)]) _
    refine XS.iloadN X27.here hx rfl (hb hby d30_23) rfl ?_
    exact kt)
  obtain ⟨_, _, ⟨T36, L36, k36, n36⟩, -, X36, ⟨_, hQ36, l36, y36, z36⟩, st36⟩ := Jvm.LawKit.callS X27 hx (y := ym15) hown (ow hZ hw 172 rfl) (ow hZ hw 173 rfl) (ow hZ hw 174 rfl) (ow hZ hw 175 rfl) (by decide) (backOf (W := 4) (rm32 l Z a0 hw [] cx (Int32.ofNat cs.length) h27 n0 O30 (own_lt16 hle).2.1 (own_lt16 hle).1) hZ (ox hw 175 rfl) (ox hw 174 rfl) (by decide) (by decide)) (g := (mkF m 24 #[vR va, vI 0, vI (Int32.ofNat cs.length), vI (Int32.ofNat cs.length), vR b27] [(.int (Int32.ofNat cs.length)), (.int 16), (.int 0), (.ref b27), (.int 0), (.ref va)])) rfl (by rw [hml]; rfl) (argsL := [(.int 16), (.int (Int32.ofNat cs.length))]) (rest := [(.int 0), (.ref b27), (.int 0), (.ref va)]) (lenOf pd_8 rfl) rfl own_le0 (hb hby d30_24) (fun _ _ => ⟨rfl, e27, (by decide : 1 + 0 ≤ _), (by decide : 16 + 0 ≤ _)⟩)
  dsimp only [Pt.U, Pt.locs, Pt.cells, Pt.slots] at X36 l36 y36 z36 st36 hQ36
  subst l36 y36 z36
  obtain ⟨rfl, Nq36, eq36⟩ := hQ36
  have N37 := Fr.app N23 Nq36
  obtain ⟨T39, h39, L39, X39, e39, N39, K39, V39, st39⟩ := cpA X36 hx hZ hown (ox hw 176 rfl) (ox hw 128 rfl) (ox hw 126 rfl) (ox hw 127 rfl) eq36 f32 V27 (us := own_by cs) (Or.inl ⟨rfl, rfl⟩) (by decide) (by decide) (own_cl (by omega)).2.1 (by rw [(own_cl (by omega : cs.length ≤ 16)).1]; show 0 + _ ≤ 16; omega) (by rw [(own_cl (by omega : cs.length ≤ 16)).1]; exact Nat.le_of_eq (Nat.zero_add _)) (by rw [(own_cl (by omega : cs.length ≤ 16)).1]; exact own_us2) (by rw [(own_cl (by omega : cs.length ≤ 16)).1, List.length_replicate]; exact Nat.le_of_eq (Nat.zero_add _)) N37 gg28 (g := (mkF m 27 #[vR va, vI 0, vI (Int32.ofNat cs.length), vI (Int32.ofNat cs.length), vR b27] [(.int (Int32.ofNat cs.length)), (.int 0), (.ref b27), (.int 0), (.ref va)])) rfl (by rw [hml]; rfl) rfl (hb hby d30_27) (by decide) (W := 0) own_le0 (by decide)
  have O40 := O30.keep K39 (allS gg28 all0)
  have K41 := K31.trans K39 (allS (Or.inr sz29) all0)
  have Vv39 : Arv Z h39 b27 k27 .byte (Int32.ofNat cs.length) (own_by cs) (.int 0) := by
    have vv := V39
    rw [(own_cl (by omega : cs.length ≤ 16)).1, show ((0 : Int32)).toNatClampNeg = 0 from rfl, own_rep _ _ (own_by_len cs)] at vv
    exact vv
  have q42 := fun t (kt : Go p e below T39 (mkF m 32 #[vR va, vI 0, vI (Int32.ofNat cs.length), vI (Int32.ofNat cs.length), vR b27] [(.ref b27)]) t) => q35 t (st36 t (st39 t (by
    show Go _ _ _ _ (mkF m 30 #[vR va, vI 0, vI (Int32.ofNat cs.length), vI (Int32.ofNat cs.length), vR b27] []) _
    refine XS.aload X39.here hx rfl (hb hby d30_30) rfl rfl ?_
    exact kt)))
  exact ⟨some (.ref b27), T39, _, _, _, _, X39, by decide, by decide, nofun, q42, fun fs hr => retOut X39 hx hret rfl (o4 ⟨rfl, rfl, rfl⟩) (hb hby d30_32) hr, by rw [e39]; exact ⟨b27, k27, rfl, N39, K41, sz29, Vv39⟩⟩
theorem ef_29_RII (m : MethodId) (x0 : Addr) (x1 : Int32) (x2 : Int32) : entryFrame m #[(.ref x0), (.int x1), (.int x2)] 3 = mkF m 0 #[.val (.ref x0), .val (.int x1), .val (.int x2)] [] := by first | (simp [entryFrame, mkF, argsToLocals, Value.category]; done) | rfl
theorem pn_29 : plainName "java/util/Arrays" = true := by first | (simp [plainName, overriddenIn]; done) | decide +kernel
theorem d29_0 : decode jdk_65_method_132_code 0 = .ok (.iload_n 1, 1) := by decide +kernel
theorem d29_1 : decode jdk_65_method_132_code 1 = .ok (.ifCond .ne 9, 3) := by decide +kernel
theorem d29_4 : decode jdk_65_method_132_code 4 = .ok (.iload_n 2, 1) := by decide +kernel
theorem d29_5 : decode jdk_65_method_132_code 5 = .ok (.aload_n 0, 1) := by decide +kernel
theorem d29_6 : decode jdk_65_method_132_code 6 = .ok (.arraylength, 1) := by decide +kernel
theorem d29_7 : decode jdk_65_method_132_code 7 = .ok (.if_icmp .eq 10, 3) := by decide +kernel
theorem d29_10 : decode jdk_65_method_132_code 10 = .ok (.aload_n 0, 1) := by decide +kernel
theorem d29_11 : decode jdk_65_method_132_code 11 = .ok (.iload_n 1, 1) := by decide +kernel
theorem d29_12 : decode jdk_65_method_132_code 12 = .ok (.iload_n 2, 1) := by decide +kernel
theorem d29_13 : decode jdk_65_method_132_code 13 = .ok (.invokestatic 339, 3) := by decide +kernel
theorem pd_9 : parseMethodDescriptor "([BII)[B" = some ⟨[(.array .byte), .int, .int], some (.array .byte)⟩ := by decide +kernel
theorem d29_16 : decode jdk_65_method_132_code 16 = .ok (.areturn, 1) := by decide +kernel
def Q_rm29 (Z : State) (va : Addr) (kv : ClassId) (cs : List Int32) (z_cs : Int32) (v_sf : Value) (h0 : Heap) (n0 : Nat) (v : Option Value) (h : Heap) (L : List Loc) : Prop := ∃ (r : Addr) (kr : ClassId), v = some (.ref r) ∧ Fr n0 L ∧ Keep h0 h [] ∧ h0.size ≤ r ∧ Arv Z h r kr .byte (Int32.ofNat cs.length) (own_by cs) (.int 0)
theorem rm29 (l : Launch) (Z : State) (a0 : Array Value) (hw : ∀ d ∈ tables_1, d.before a0 Z = true) (ws : List Jvm.Cond) {z_cs : Int32} {v_sf : Value} (cx : Cx Z z_cs v_sf) (va : Addr) (kv : ClassId) (cs : List Int32) (h0 : Heap) (n0 : Nat) (O0 : Old Z n0 h0) (G0 : Arv Z h0 va kv .byte (16 : Int32) (own_sb cs) (.int 0)) (hle : cs.length ≤ 12) :
    OwnMet l ym17 (Jvm.Cond.code ym17 jdk_65_method_132_code 3 (some (.array .byte)) :: ws) (own_R 2 1 16 64) #[(.ref va), (.int 0), (.int (Int32.ofNat cs.length))] Z h0 (Q_rm29 Z va kv cs z_cs v_sf h0 n0) := by
  refine own_body (plainFor_of_name pn_29) hisR fun p e s m below meth c s₁ hx hby hml hown hnm hret hZ X0 e0 => ?_
  have N0 := Fr.nil n0
  have K0 : Keep h0 h0 [] := Keep.refl _ _
  have pre0 : ∀ t, Go p e below s₁ (mkF m 0 #[vR va, vI 0, vI (Int32.ofNat cs.length)] []) t → Go p e below s₁ (entryFrame m #[(.ref va), (.int 0), (.int (Int32.ofNat cs.length))] 3) t := fun t k => castTop (ef_29_RII m va (0 : Int32) (Int32.ofNat cs.length)) k
  have q22 := fun t (kt : Go p e below s₁ (mkF m 6 #[vR va, vI 0, vI (Int32.ofNat cs.length)] [(.ref va), (.int (Int32.ofNat cs.length))]) t) => pre0 t (by
    show Go _ _ _ _ (mkF m 0 #[vR va, vI 0, vI (Int32.ofNat cs.length)] []) _
    refine XS.iloadN X0.here hx rfl (hb hby d29_0) rfl ?_
    show Go _ _ _ _ (mkF m 1 _ [(.int 0)]) _
    refine XS.ifNo X0.here hx rfl (hb hby d29_1) rfl ((if0 _ _).trans (teq (rfl : (0 : Int32) = (0 : Int32))).2) ?_
    show Go _ _ _ _ (mkF m 4 _ []) _
    refine XS.iloadN X0.here hx rfl (hb hby d29_4) rfl ?_
    show Go _ _ _ _ (mkF m 5 _ [(.int (Int32.ofNat cs.length))]) _
    refine XS.aloadN X0.here hx rfl (hb hby d29_5) rfl rfl ?_
    exact kt)
  obtain ⟨c21, Ar21, -, S21, N21, -, -⟩ := id G0
  have q23 := fun t (kt : Go p e below s₁ (mkF m 13 #[vR va, vI 0, vI (Int32.ofNat cs.length)] [(.int (Int32.ofNat cs.length)), (.int 0), (.ref va)]) t) => q22 t (by
    show Go _ _ _ _ (mkF m 6 #[vR va, vI 0, vI (Int32.ofNat cs.length)] [(.ref va), (.int (Int32.ofNat cs.length))]) _
    refine X0.arraylength hx (by rw [e0]; exact Ar21.1) (State.isArrayOf_alike hZ.alike Ar21.2.1) (g := (mkF m 6 #[vR va, vI 0, vI (Int32.ofNat cs.length)] [(.ref va), (.int (Int32.ofNat cs.length))])) rfl rfl (hb hby d29_6) _ ?_
    rw [len_of S21 N21]
    show Go _ _ _ _ (mkF m 7 _ [(.int 16), (.int (Int32.ofNat cs.length))]) _
    refine XS.icmpNo X0.here hx rfl (hb hby d29_7) rfl (feq (own_lt16 hle).2.2).1 ?_
    show Go _ _ _ _ (mkF m 10 _ []) _
    refine XS.aloadN X0.here hx rfl (hb hby d29_10) rfl rfl ?_
    show Go _ _ _ _ (mkF m 11 _ [(.ref va)]) _
    refine XS.iloadN X0.here hx rfl (hb hby d29_11) rfl ?_
    show Go _ _ _ _ (mkF m 12 _ [(.int 0), (.ref va)]) _
    refine XS.iloadN X0.here hx rfl (hb hby d29_12) rfl ?_
    exact kt)
  obtain ⟨_, _, ⟨T24, L24, k24, n24⟩, -, X24, ⟨_, hQ24, l24, y24, z24⟩, st24⟩ := Jvm.LawKit.callS X0 hx (y := ym16) hown (ow hZ hw 166 rfl) (ow hZ hw 167 rfl) (ow hZ hw 164 rfl) (ow hZ hw 168 rfl) (by decide) (backOf (W := 0) (rm30 l Z a0 hw [] cx va kv cs h0 n0 O0 G0 hle) hZ (ox hw 168 rfl) (ox hw 164 rfl) (by decide) (by decide)) (g := (mkF m 13 #[vR va, vI 0, vI (Int32.ofNat cs.length)] [(.int (Int32.ofNat cs.length)), (.int 0), (.ref va)])) rfl (by rw [hml]; rfl) (argsL := [(.ref va), (.int 0), (.int (Int32.ofNat cs.length))]) (rest := []) (lenOf pd_9 rfl) rfl own_le0 (hb hby d29_13) (fun _ _ => ⟨rfl, e0, (by decide : 0 + 1 ≤ _), (by decide : 0 + 16 ≤ _)⟩)
  dsimp only [Pt.U, Pt.locs, Pt.cells, Pt.slots] at X24 l24 y24 z24 st24 hQ24
  subst l24 y24 z24
  obtain ⟨r_24, kr_24, rfl, Nq24, Kq24, fr24_0, fq24_0⟩ := hQ24
  have N25 := Fr.app N0 Nq24
  have gg26 : n0 ≤ r_24 := Nat.le_trans (O0.1 ▸ O0.2.1) fr24_0
  have sz27 : h0.size ≤ r_24 := Nat.le_trans K0.1 fr24_0
  have O28 := O0.keep Kq24 all0
  have K29 := K0.trans Kq24 all0
  have q30 := fun t (kt : Go p e below T24 (mkF m 16 #[vR va, vI 0, vI (Int32.ofNat cs.length)] [(.ref r_24)]) t) => q23 t (st24 t kt)
  exact ⟨some (.ref r_24), T24, _, _, _, _, X24, by decide, by decide, nofun, q30, fun fs hr => retOut X24 hx hret rfl (o4 ⟨rfl, rfl, rfl⟩) (hb hby d29_16) hr, ⟨r_24, kr_24, rfl, N25, K29, sz27, fq24_0⟩⟩
theorem ef_24_RRN (m : MethodId) (x0 : Addr) (x1 : Addr) : entryFrame m #[(.ref x0), (.ref x1), .null] 5 = mkF m 0 #[.val (.ref x0), .val (.ref x1), .val .null, .unset, .unset] [] := by first | (simp [entryFrame, mkF, argsToLocals, Value.category]; done) | rfl
theorem pn_24 : plainName "java/lang/String" = true := by first | (simp [plainName, overriddenIn]; done) | decide +kernel
theorem d24_0 : decode jdk_42_method_150_code 0 = .ok (.aload_n 0, 1) := by decide +kernel
theorem d24_1 : decode jdk_42_method_150_code 1 = .ok (.invokespecial 1, 3) := by decide +kernel
theorem d24_4 : decode jdk_42_method_150_code 4 = .ok (.aload_n 1, 1) := by decide +kernel
theorem d24_5 : decode jdk_42_method_150_code 5 = .ok (.invokevirtual 552, 3) := by decide +kernel
theorem pd_10 : parseMethodDescriptor "()[B" = some ⟨[], some (.array .byte)⟩ := by decide +kernel
theorem d24_8 : decode jdk_42_method_150_code 8 = .ok (.astore_n 3, 1) := by decide +kernel
theorem d24_9 : decode jdk_42_method_150_code 9 = .ok (.aload_n 1, 1) := by decide +kernel
theorem d24_10 : decode jdk_42_method_150_code 10 = .ok (.invokevirtual 549, 3) := by decide +kernel
theorem d24_13 : decode jdk_42_method_150_code 13 = .ok (.istore 4, 2) := by decide +kernel
theorem d24_15 : decode jdk_42_method_150_code 15 = .ok (.aload_n 1, 1) := by decide +kernel
theorem d24_16 : decode jdk_42_method_150_code 16 = .ok (.invokevirtual 1047, 3) := by decide +kernel
theorem pd_11 : parseMethodDescriptor "()Z" = some ⟨[], some .boolean⟩ := by decide +kernel
theorem d24_19 : decode jdk_42_method_150_code 19 = .ok (.ifCond .eq 22, 3) := by decide +kernel
theorem d24_22 : decode jdk_42_method_150_code 22 = .ok (.aload_n 0, 1) := by decide +kernel
theorem d24_23 : decode jdk_42_method_150_code 23 = .ok (.iconst 0, 1) := by decide +kernel
theorem d24_24 : decode jdk_42_method_150_code 24 = .ok (.putfield 15, 3) := by decide +kernel
theorem d24_27 : decode jdk_42_method_150_code 27 = .ok (.aload_n 0, 1) := by decide +kernel
theorem d24_28 : decode jdk_42_method_150_code 28 = .ok (.aload_n 3, 1) := by decide +kernel
theorem d24_29 : decode jdk_42_method_150_code 29 = .ok (.iconst 0, 1) := by decide +kernel
theorem d24_30 : decode jdk_42_method_150_code 30 = .ok (.iload 4, 2) := by decide +kernel
theorem d24_32 : decode jdk_42_method_150_code 32 = .ok (.invokestatic 54, 3) := by decide +kernel
theorem d24_35 : decode jdk_42_method_150_code 35 = .ok (.putfield 9, 3) := by decide +kernel
theorem d24_38 : decode jdk_42_method_150_code 38 = .ok (.goto 59, 3) := by decide +kernel
theorem d24_97 : decode jdk_42_method_150_code 97 = .ok (.return_, 1) := by decide +kernel
def Q_rm24 (Z : State) (a1 : Addr) (b : Addr) (va : Addr) (kv : ClassId) (cs : List Int32) (z_cs : Int32) (v_sf : Value) (h0 : Heap) (n0 : Nat) (v : Option Value) (h : Heap) (L : List Loc) : Prop := ∃ (ta : Addr) (kt : ClassId), v = none ∧ Fr n0 L ∧ Keep h0 h [a1] ∧ h0.size ≤ ta ∧ Fld Z h a1 sk4 "value" "[B" (.ref ta) ∧ Fld Z h a1 sk4 "coder" "B" (.int 0) ∧ Arv Z h ta kt .byte (Int32.ofNat cs.length) (own_by cs) (.int 0)
theorem rm24 (l : Launch) (Z : State) (a0 : Array Value) (hw : ∀ d ∈ tables_1, d.before a0 Z = true) (ws : List Jvm.Cond) {z_cs : Int32} {v_sf : Value} (cx : Cx Z z_cs v_sf) (a1 : Addr) (b : Addr) (va : Addr) (kv : ClassId) (cs : List Int32) (h0 : Heap) (n0 : Nat) (O0 : Old Z n0 h0) (G0 : Exa Z h0 a1 sk4) (G1 : Fld Z h0 a1 sk4 "value" "[B" .null) (G2 : Fld Z h0 a1 sk4 "coder" "B" (.int 0)) (G3 : Exa Z h0 b sk5) (G4 : Fld Z h0 b sk3 "value" "[B" (.ref va)) (G5 : Fld Z h0 b sk3 "coder" "B" (.int 0)) (G6 : Fld Z h0 b sk3 "count" "I" (.int (Int32.ofNat cs.length))) (G7 : Arv Z h0 va kv .byte (16 : Int32) (own_sb cs) (.int 0)) (g_a1 : n0 ≤ a1) (hle : cs.length ≤ 12) (n1 : a1 ≠ b) (n2 : a1 ≠ va) :
    OwnMet l ym18 (Jvm.Cond.code ym18 jdk_42_method_150_code 5 none :: ws) (own_R 3 1 16 79) #[(.ref a1), (.ref b), .null] Z h0 (Q_rm24 Z a1 b va kv cs z_cs v_sf h0 n0) := by
  refine own_body (plainFor_of_name pn_24) hisR fun p e s m below meth c s₁ hx hby hml hown hnm hret hZ X0 e0 => ?_
  have N0 := Fr.nil n0
  have K0 : Keep h0 h0 [a1] := Keep.refl _ _
  have pre0 : ∀ t, Go p e below s₁ (mkF m 0 #[vR a1, vR b, vN, vU, vU] []) t → Go p e below s₁ (entryFrame m #[(.ref a1), (.ref b), .null] 5) t := fun t k => castTop (ef_24_RRN m a1 b) k
  have q21 := fun t (kt : Go p e below s₁ (mkF m 1 #[vR a1, vR b, vN, vU, vU] [(.ref a1)]) t) => pre0 t (by
    show Go _ _ _ _ (mkF m 0 #[vR a1, vR b, vN, vU, vU] []) _
    refine XS.aloadN X0.here hx rfl (hb hby d24_0) rfl rfl ?_
    exact kt)
  obtain ⟨T22, X22, e22, st22⟩ := initO X0 hx hZ hown (ox hw 23 rfl) (ox hw 24 rfl) (ox hw 25 rfl) e0 (g := (mkF m 1 #[vR a1, vR b, vN, vU, vU] [(.ref a1)])) rfl (by rw [hml]; rfl) rfl (hb hby d24_1) (by decide) (W := 0) own_le0 (by decide)
  have q23 := fun t (kt : Go p e below T22 (mkF m 5 #[vR a1, vR b, vN, vU, vU] [(.ref b)]) t) => q21 t (st22 t (by
    show Go _ _ _ _ (mkF m 4 #[vR a1, vR b, vN, vU, vU] []) _
    refine XS.aloadN X22.here hx rfl (hb hby d24_4) rfl rfl ?_
    exact kt))
  obtain ⟨cq25, kq25, q25a, q25b, q25c⟩ := isOf hZ e22 G3
  obtain ⟨_, _, ⟨T24, L24, k24, n24⟩, -, X24, ⟨_, hQ24, l24, y24, z24⟩, st24⟩ := X22.virtualBack hx (y := ym10) (z := ym10) hown (ow hZ hw 144 rfl) (ow hZ hw 145 rfl) (notFace_of_selects (args := #[]) (ow hZ hw 147 rfl)) (ow hZ hw 147 rfl) (ow hZ hw 146 rfl) (by decide) (backOf (W := 0) (rm25 l Z a0 hw [] cx b va h0 n0 O0 G4) hZ (ox hw 148 rfl) (ox hw 74 rfl) (by decide) (by decide)) q25a q25c (g := (mkF m 5 #[vR a1, vR b, vN, vU, vU] [(.ref b)])) rfl (by rw [hml]; rfl) (Steps.refl _) (argsL := []) (rest := []) (lenOf pd_10 rfl) rfl own_le0 (hb hby d24_5) (fun _ _ => ⟨rfl, e22, (by decide : 0 + 0 ≤ _), (by decide : 0 + 0 ≤ _)⟩)
  dsimp only [Pt.U, Pt.locs, Pt.cells, Pt.slots] at X24 l24 y24 z24 st24 hQ24
  subst l24 y24 z24
  obtain ⟨rfl, Nq24, eq24⟩ := hQ24
  have N26 := Fr.app N0 Nq24
  have q27 := fun t (kt : Go p e below T24 (mkF m 10 #[vR a1, vR b, vN, vR va, vU] [(.ref b)]) t) => q23 t (st24.trans (by
    show Go _ _ _ _ (mkF m 8 #[vR a1, vR b, vN, vU, vU] [(.ref va)]) _
    refine XS.astoreN X24.here hx rfl (hb hby d24_8) rfl rfl (l' := #[vR a1, vR b, vN, vR va, vU]) rfl ?_
    show Go _ _ _ _ (mkF m 9 #[vR a1, vR b, vN, vR va, vU] []) _
    refine XS.aloadN X24.here hx rfl (hb hby d24_9) rfl rfl ?_
    exact kt))
  obtain ⟨cq29, kq29, q29a, q29b, q29c⟩ := isOf hZ eq24 G3
  obtain ⟨_, _, ⟨T28, L28, k28, n28⟩, -, X28, ⟨_, hQ28, l28, y28, z28⟩, st28⟩ := X24.virtualBack hx (y := ym11) (z := ym12) hown (ow hZ hw 149 rfl) (ow hZ hw 150 rfl) (own_nf (args := #[]) (ow hZ hw 107 rfl) rfl) (ow hZ hw 152 rfl) (ow hZ hw 153 rfl) (by decide) (backOf (W := 0) (rm26 l Z a0 hw [] cx b (Int32.ofNat cs.length) h0 n0 O0 G3 G6) hZ (ox hw 154 rfl) (ox hw 66 rfl) (by decide) (by decide)) q29a q29c (g := (mkF m 10 #[vR a1, vR b, vN, vR va, vU] [(.ref b)])) rfl (by rw [hml]; rfl) (Steps.refl _) (argsL := []) (rest := []) (lenOf pd_4 rfl) rfl own_le0 (hb hby d24_10) (fun _ _ => ⟨rfl, eq24, (by decide : 0 + 0 ≤ _), (by decide : 0 + 0 ≤ _)⟩)
  dsimp only [Pt.U, Pt.locs, Pt.cells, Pt.slots] at X28 l28 y28 z28 st28 hQ28
  subst l28 y28 z28
  obtain ⟨rfl, Nq28, eq28⟩ := hQ28
  have N30 := Fr.app N26 Nq28
  have q31 := fun t (kt : Go p e below T28 (mkF m 16 #[vR a1, vR b, vN, vR va, vI (Int32.ofNat cs.length)] [(.ref b)]) t) => q27 t (st28.trans (by
    show Go _ _ _ _ (mkF m 13 #[vR a1, vR b, vN, vR va, vU] [(.int (Int32.ofNat cs.length))]) _
    refine XS.istore X28.here hx rfl (hb hby d24_13) rfl (l' := #[vR a1, vR b, vN, vR va, vI (Int32.ofNat cs.length)]) rfl ?_
    show Go _ _ _ _ (mkF m 15 #[vR a1, vR b, vN, vR va, vI (Int32.ofNat cs.length)] []) _
    refine XS.aloadN X28.here hx rfl (hb hby d24_15) rfl rfl ?_
    exact kt))
  obtain ⟨cq33, kq33, q33a, q33b, q33c⟩ := isOf hZ eq28 G3
  obtain ⟨_, _, ⟨T32, L32, k32, n32⟩, -, X32, ⟨_, hQ32, l32, y32, z32⟩, st32⟩ := X28.virtualBack hx (y := ym13) (z := ym13) hown (ow hZ hw 157 rfl) (ow hZ hw 158 rfl) (notFace_of_selects (args := #[]) (ow hZ hw 160 rfl)) (ow hZ hw 160 rfl) (ow hZ hw 159 rfl) (by decide) (backOf (W := 0) (rm28 l Z a0 hw [] cx b h0 n0 O0 G5) hZ (ox hw 161 rfl) (ox hw 74 rfl) (by decide) (by decide)) q33a q33c (g := (mkF m 16 #[vR a1, vR b, vN, vR va, vI (Int32.ofNat cs.length)] [(.ref b)])) rfl (by rw [hml]; rfl) (Steps.refl _) (argsL := []) (rest := []) (lenOf pd_11 rfl) rfl own_le0 (hb hby d24_16) (fun _ _ => ⟨rfl, eq28, (by decide : 0 + 0 ≤ _), (by decide : 0 + 0 ≤ _)⟩)
  dsimp only [Pt.U, Pt.locs, Pt.cells, Pt.slots] at X32 l32 y32 z32 st32 hQ32
  subst l32 y32 z32
  obtain ⟨rfl, Nq32, eq32⟩ := hQ32
  have N34 := Fr.app N30 Nq32
  have q35 := fun t (kt : Go p e below T32 (mkF m 24 #[vR a1, vR b, vN, vR va, vI (Int32.ofNat cs.length)] [(.int 0), (.ref a1)]) t) => q31 t (st32.trans (by
    show Go _ _ _ _ (mkF m 19 #[vR a1, vR b, vN, vR va, vI (Int32.ofNat cs.length)] [(.int 1)]) _
    refine XS.ifNo X32.here hx rfl (hb hby d24_19) rfl ((if0 _ _).trans (feq (by decide : ¬ ((1 : Int32) = (0 : Int32)))).1) ?_
    show Go _ _ _ _ (mkF m 22 _ []) _
    refine XS.aloadN X32.here hx rfl (hb hby d24_22) rfl rfl ?_
    show Go _ _ _ _ (mkF m 23 _ [(.ref a1)]) _
    refine XS.iconst X32.here hx rfl (hb hby d24_23) ?_
    exact kt))
  obtain ⟨T36, h36, X36, e36, W36, st36⟩ := putFN X32 hx hZ hown (ox hw 28 rfl) Via.refl eq32 G2 G0 (Or.inr ⟨(ox hw 29 rfl), rfl, hnm⟩) (ox hw 14 rfl) (ty := .byte) (v' := (.int 0)) (by decide) rfl rfl (g := (mkF m 24 #[vR a1, vR b, vN, vR va, vI (Int32.ofNat cs.length)] [(.int 0), (.ref a1)])) rfl rfl (hb hby d24_24)
  have f37 : Fld Z h36 a1 sk4 "coder" "B" (.int 0) := G2.same W36
  have N38 := Fr.snoc X36 N34 g_a1
  have O39 := O0.wr W36 g_a1
  have K40 := K0.wr W36 (Or.inl (List.mem_of_getElem? (i := 0) rfl))
  have f41 := (G7.other W36 (Ne.symm n2))
  have q42 := fun t (kt : Go p e below T36 (mkF m 32 #[vR a1, vR b, vN, vR va, vI (Int32.ofNat cs.length)] [(.int (Int32.ofNat cs.length)), (.int 0), (.ref va), (.ref a1)]) t) => q35 t (st36 t (by
    show Go _ _ _ _ (mkF m 27 #[vR a1, vR b, vN, vR va, vI (Int32.ofNat cs.length)] []) _
    refine XS.aloadN X36.here hx rfl (hb hby d24_27) rfl rfl ?_
    show Go _ _ _ _ (mkF m 28 _ [(.ref a1)]) _
    refine XS.aloadN X36.here hx rfl (hb hby d24_28) rfl rfl ?_
    show Go _ _ _ _ (mkF m 29 _ [(.ref va), (.ref a1)]) _
    refine XS.iconst X36.here hx rfl (hb hby d24_29) ?_
    show Go _ _ _ _ (mkF m 30 _ [(.int 0), (.ref va), (.ref a1)]) _
    refine XS.iload X36.here hx rfl (hb hby d24_30) rfl ?_
    exact kt))
  obtain ⟨_, _, ⟨T43, L43, k43, n43⟩, -, X43, ⟨_, hQ43, l43, y43, z43⟩, st43⟩ := Jvm.LawKit.callS X36 hx (y := ym17) hown (ow hZ hw 162 rfl) (ow hZ hw 163 rfl) (ow hZ hw 164 rfl) (ow hZ hw 165 rfl) (by decide) (backOf (W := 1) (rm29 l Z a0 hw [] cx va kv cs h36 n0 O39 f41 hle) hZ (ox hw 165 rfl) (ox hw 164 rfl) (by decide) (by decide)) (g := (mkF m 32 #[vR a1, vR b, vN, vR va, vI (Int32.ofNat cs.length)] [(.int (Int32.ofNat cs.length)), (.int 0), (.ref va), (.ref a1)])) rfl (by rw [hml]; rfl) (argsL := [(.ref va), (.int 0), (.int (Int32.ofNat cs.length))]) (rest := [(.ref a1)]) (lenOf pd_9 rfl) rfl own_le0 (hb hby d24_32) (fun _ _ => ⟨rfl, e36, (by decide : 0 + 1 ≤ _), (by decide : 0 + 16 ≤ _)⟩)
  dsimp only [Pt.U, Pt.locs, Pt.cells, Pt.slots] at X43 l43 y43 z43 st43 hQ43
  subst l43 y43 z43
  obtain ⟨r_43, kr_43, rfl, Nq43, Kq43, fr43_0, fq43_0⟩ := hQ43
  have N44 := Fr.app N38 Nq43
  have gg45 : n0 ≤ r_43 := Nat.le_trans (O39.1 ▸ O39.2.1) fr43_0
  have sz46 : h0.size ≤ r_43 := Nat.le_trans K40.1 fr43_0
  have O47 := O39.keep Kq43 all0
  have K48 := K40.trans Kq43 all0
  have f49 := ((G0.wr W36).keep Kq43)
  have f50 := ((G1.other W36 (Or.inr (slot_ne (Or.inr (ox hw 27 rfl)) (Or.inr (ox hw 29 rfl)) (by decide) (t := (.array .byte)) (t' := .byte) (by decide) (by decide)))).keep Kq43 nin0)
  obtain ⟨T51, h51, X51, e51, W51, st51⟩ := putF X43 hx hZ hown (host := "") (Or.inl (ox hw 26 rfl)) Via.refl rfl f50 f49 (Or.inr ⟨(ox hw 27 rfl), rfl, hnm⟩) (ox hw 14 rfl) (ty := (.array .byte)) (by decide) rfl rfl (g := (mkF m 35 #[vR a1, vR b, vN, vR va, vI (Int32.ofNat cs.length)] [(.ref r_43), (.ref a1)])) rfl rfl (hb hby d24_35)
  have f52 : Fld Z h51 a1 sk4 "value" "[B" (.ref r_43) := f50.same W51
  have N53 := Fr.snoc X51 N44 g_a1
  have O54 := O47.wr W51 g_a1
  have K55 := K48.wr W51 (Or.inl (List.mem_of_getElem? (i := 0) rfl))
  have q56 := fun t (kt : Go p e below T51 (mkF m 97 #[vR a1, vR b, vN, vR va, vI (Int32.ofNat cs.length)] []) t) => q42 t (st43 t (st51 t (by
    show Go _ _ _ _ (mkF m 38 #[vR a1, vR b, vN, vR va, vI (Int32.ofNat cs.length)] []) _
    refine XS.goto X51.here hx rfl (pc0 := 38) (pc' := 97) rfl (hb hby d24_38) (by decide) (by decide) ?_
    exact kt)))
  have f57 := ((f37.keep Kq43 nin0).other W51 (Or.inr (slot_ne (Or.inr (ox hw 29 rfl)) (Or.inr (ox hw 27 rfl)) (by decide) (t := .byte) (t' := (.array .byte)) (by decide) (by decide))))
  have ne58 : a1 ≠ r_43 := (Nat.ne_of_lt (Nat.lt_of_lt_of_le (G0.wr W36).lt fr43_0))
  have f59 := (fq43_0.other W51 (Ne.symm ne58))
  exact ⟨none, T51, _, _, _, _, X51, by decide, by decide, fun _ => rfl, q56, fun fs hr => X51.returnOut hx hret (hb hby d24_97) hr, by rw [e51]; exact ⟨r_43, kr_43, rfl, N53, K55, sz46, f52, f57, f59⟩⟩
theorem ef_23_RR (m : MethodId) (x0 : Addr) (x1 : Addr) : entryFrame m #[(.ref x0), (.ref x1)] 2 = mkF m 0 #[.val (.ref x0), .val (.ref x1)] [] := by first | (simp [entryFrame, mkF, argsToLocals, Value.category]; done) | rfl
theorem pn_23 : plainName "java/lang/String" = true := by first | (simp [plainName, overriddenIn]; done) | decide +kernel
theorem d23_0 : decode jdk_42_method_53_code 0 = .ok (.aload_n 0, 1) := by decide +kernel
theorem d23_1 : decode jdk_42_method_53_code 1 = .ok (.aload_n 1, 1) := by decide +kernel
theorem d23_2 : decode jdk_42_method_53_code 2 = .ok (.aconst_null, 1) := by decide +kernel
theorem d23_3 : decode jdk_42_method_53_code 3 = .ok (.invokespecial 489, 3) := by decide +kernel
theorem pd_12 : parseMethodDescriptor "(Ljava/lang/AbstractStringBuilder;Ljava/lang/Void;)V" = some ⟨[(.object "java/lang/AbstractStringBuilder"), (.object "java/lang/Void")], none⟩ := by decide +kernel
theorem d23_6 : decode jdk_42_method_53_code 6 = .ok (.return_, 1) := by decide +kernel
def Q_rm23 (Z : State) (a1 : Addr) (b : Addr) (va : Addr) (kv : ClassId) (cs : List Int32) (z_cs : Int32) (v_sf : Value) (h0 : Heap) (n0 : Nat) (v : Option Value) (h : Heap) (L : List Loc) : Prop := ∃ (ta : Addr) (kt : ClassId), v = none ∧ Fr n0 L ∧ Keep h0 h [a1] ∧ h0.size ≤ ta ∧ Fld Z h a1 sk4 "value" "[B" (.ref ta) ∧ Fld Z h a1 sk4 "coder" "B" (.int 0) ∧ Arv Z h ta kt .byte (Int32.ofNat cs.length) (own_by cs) (.int 0)
theorem rm23 (l : Launch) (Z : State) (a0 : Array Value) (hw : ∀ d ∈ tables_1, d.before a0 Z = true) (ws : List Jvm.Cond) {z_cs : Int32} {v_sf : Value} (cx : Cx Z z_cs v_sf) (a1 : Addr) (b : Addr) (va : Addr) (kv : ClassId) (cs : List Int32) (h0 : Heap) (n0 : Nat) (O0 : Old Z n0 h0) (G0 : Exa Z h0 a1 sk4) (G1 : Fld Z h0 a1 sk4 "value" "[B" .null) (G2 : Fld Z h0 a1 sk4 "coder" "B" (.int 0)) (G3 : Exa Z h0 b sk5) (G4 : Fld Z h0 b sk3 "value" "[B" (.ref va)) (G5 : Fld Z h0 b sk3 "coder" "B" (.int 0)) (G6 : Fld Z h0 b sk3 "count" "I" (.int (Int32.ofNat cs.length))) (G7 : Arv Z h0 va kv .byte (16 : Int32) (own_sb cs) (.int 0)) (g_a1 : n0 ≤ a1) (hle : cs.length ≤ 12) (n1 : a1 ≠ b) (n2 : a1 ≠ va) :
    OwnMet l ym19 (Jvm.Cond.code ym19 jdk_42_method_53_code 2 none :: ws) (own_R 4 1 16 95) #[(.ref a1), (.ref b)] Z h0 (Q_rm23 Z a1 b va kv cs z_cs v_sf h0 n0) := by
  refine own_body (plainFor_of_name pn_23) hisR fun p e s m below meth c s₁ hx hby hml hown hnm hret hZ X0 e0 => ?_
  have N0 := Fr.nil n0
  have K0 : Keep h0 h0 [a1] := Keep.refl _ _
  have pre0 : ∀ t, Go p e below s₁ (mkF m 0 #[vR a1, vR b] []) t → Go p e below s₁ (entryFrame m #[(.ref a1), (.ref b)] 2) t := fun t k => castTop (ef_23_RR m a1 b) k
  have q21 := fun t (kt : Go p e below s₁ (mkF m 3 #[vR a1, vR b] [.null, (.ref b), (.ref a1)]) t) => pre0 t (by
    show Go _ _ _ _ (mkF m 0 #[vR a1, vR b] []) _
    refine XS.aloadN X0.here hx rfl (hb hby d23_0) rfl rfl ?_
    show Go _ _ _ _ (mkF m 1 _ [(.ref a1)]) _
    refine XS.aloadN X0.here hx rfl (hb hby d23_1) rfl rfl ?_
    show Go _ _ _ _ (mkF m 2 _ [(.ref b), (.ref a1)]) _
    refine XS.aconstNull X0.here hx rfl (hb hby d23_2) ?_
    exact kt)
  obtain ⟨_, _, ⟨T22, L22, k22, n22⟩, -, X22, ⟨_, hQ22, l22, y22, z22⟩, st22⟩ := X0.specialBack hx (y := ym18) rfl hown (ow hZ hw 141 rfl) (ow hZ hw 142 rfl) (ow hZ hw 143 rfl) (by decide) (backOf (W := 0) (rm24 l Z a0 hw [] cx a1 b va kv cs h0 n0 O0 G0 G1 G2 G3 G4 G5 G6 G7 g_a1 hle n1 n2) hZ (ox hw 143 rfl) (ox hw 6 rfl) (by decide) (by decide)) (g := (mkF m 3 #[vR a1, vR b] [.null, (.ref b), (.ref a1)])) rfl (by rw [hml]; rfl) (Steps.refl _) (a := a1) (argsL := [(.ref b), .null]) (rest := []) (lenOf pd_12 rfl) rfl own_le0 (hb hby d23_3) (fun _ _ => ⟨rfl, e0, (by decide : 0 + 1 ≤ _), (by decide : 0 + 16 ≤ _)⟩)
  dsimp only [Pt.U, Pt.locs, Pt.cells, Pt.slots] at X22 l22 y22 z22 st22 hQ22
  subst l22 y22 z22
  obtain ⟨ta_22, kt_22, rfl, Nq22, Kq22, fr22_0, fq22_0, fq22_1, fq22_2⟩ := hQ22
  have N23 := Fr.app N0 Nq22
  have gg24 : n0 ≤ ta_22 := Nat.le_trans (O0.1 ▸ O0.2.1) fr22_0
  have sz25 : h0.size ≤ ta_22 := Nat.le_trans K0.1 fr22_0
  have O26 := O0.keep Kq22 (allS g_a1 all0)
  have K27 := K0.trans Kq22 (allS (Or.inl (List.mem_of_getElem? (i := 0) rfl)) all0)
  have q28 := fun t (kt : Go p e below T22 (mkF m 6 #[vR a1, vR b] []) t) => q21 t (st22.trans kt)
  exact ⟨none, T22, _, _, _, _, X22, by decide, by decide, fun _ => rfl, q28, fun fs hr => X22.returnOut hx hret (hb hby d23_6) hr, ⟨ta_22, kt_22, rfl, N23, K27, sz25, fq22_0, fq22_1, fq22_2⟩⟩
theorem ef_22_R (m : MethodId) (x0 : Addr) : entryFrame m #[(.ref x0)] 1 = mkF m 0 #[.val (.ref x0)] [] := by first | (simp [entryFrame, mkF, argsToLocals, Value.category]; done) | rfl
theorem pn_22 : plainName "java/lang/StringBuilder" = true := by first | (simp [plainName, overriddenIn]; done) | decide +kernel
theorem d22_0 : decode jdk_67_method_42_code 0 = .ok (.new 18, 3) := by decide +kernel
theorem d22_3 : decode jdk_67_method_42_code 3 = .ok (.dup, 1) := by decide +kernel
theorem d22_4 : decode jdk_67_method_42_code 4 = .ok (.aload_n 0, 1) := by decide +kernel
theorem d22_5 : decode jdk_67_method_42_code 5 = .ok (.invokespecial 137, 3) := by decide +kernel
theorem pd_13 : parseMethodDescriptor "(Ljava/lang/StringBuilder;)V" = some ⟨[(.object "java/lang/StringBuilder")], none⟩ := by decide +kernel
theorem d22_8 : decode jdk_67_method_42_code 8 = .ok (.areturn, 1) := by decide +kernel
def Q_rm22 (Z : State) (b : Addr) (va : Addr) (kv : ClassId) (cs : List Int32) (z_cs : Int32) (v_sf : Value) (h0 : Heap) (n0 : Nat) (v : Option Value) (h : Heap) (L : List Loc) : Prop := ∃ (x : Addr) (ta : Addr) (kt : ClassId), v = some (.ref x) ∧ Fr n0 L ∧ Keep h0 h [] ∧ h0.size ≤ x ∧ h0.size ≤ ta ∧ Exa Z h x sk4 ∧ Fld Z h x sk4 "value" "[B" (.ref ta) ∧ Fld Z h x sk4 "coder" "B" (.int 0) ∧ Arv Z h ta kt .byte (Int32.ofNat cs.length) (own_by cs) (.int 0)
theorem rm22 (l : Launch) (Z : State) (a0 : Array Value) (hw : ∀ d ∈ tables_1, d.before a0 Z = true) (ws : List Jvm.Cond) {z_cs : Int32} {v_sf : Value} (cx : Cx Z z_cs v_sf) (b : Addr) (va : Addr) (kv : ClassId) (cs : List Int32) (h0 : Heap) (n0 : Nat) (O0 : Old Z n0 h0) (G0 : Exa Z h0 b sk5) (G1 : Fld Z h0 b sk3 "value" "[B" (.ref va)) (G2 : Fld Z h0 b sk3 "coder" "B" (.int 0)) (G3 : Fld Z h0 b sk3 "count" "I" (.int (Int32.ofNat cs.length))) (G4 : Arv Z h0 va kv .byte (16 : Int32) (own_sb cs) (.int 0)) (hle : cs.length ≤ 12) :
    OwnMet l ym20 (Jvm.Cond.code ym20 jdk_67_method_42_code 1 (some (.object sk4)) :: ws) (own_R 5 2 20 109) #[(.ref b)] Z h0 (Q_rm22 Z b va kv cs z_cs v_sf h0 n0) := by
  refine own_body (plainFor_of_name pn_22) hisR fun p e s m below meth c s₁ hx hby hml hown hnm hret hZ X0 e0 => ?_
  have N0 := Fr.nil n0
  have K0 : Keep h0 h0 [] := Keep.refl _ _
  have pre0 : ∀ t, Go p e below s₁ (mkF m 0 #[vR b] []) t → Go p e below s₁ (entryFrame m #[(.ref b)] 1) t := fun t k => castTop (ef_22_R m b) k
  obtain ⟨T21, h21, X21, e21, E21, A21, D21, U21, st21⟩ := newO X0 hx hZ hown (ox hw 137 rfl) (ox hw 14 rfl) (ox hw 6 rfl) e0 (g := (mkF m 0 #[vR b] [])) rfl (hb hby d22_0) (by decide) (by decide)
  obtain ⟨b21, g21⟩ : ∃ z, z = h0.size := ⟨_, rfl⟩
  rw [← g21] at A21 D21 st21
  have gg22 : n0 ≤ b21 := Nat.le_trans (O0.1 ▸ O0.2.1) (Nat.le_of_eq g21.symm)
  have sz23 : h0.size ≤ b21 := Nat.le_trans K0.1 (Nat.le_of_eq g21.symm)
  have O24 := O0.ext E21
  have K25 := K0.ext E21
  have F21_value : Fld Z h21 b21 sk4 "value" "[B" .null := D21 (Or.inr (ox hw 27 rfl)) (ty := (.array .byte)) (by decide)
  have F21_coder : Fld Z h21 b21 sk4 "coder" "B" (.int 0) := D21 (Or.inr (ox hw 29 rfl)) (ty := .byte) (by decide)
  have f26 := (G0.ext E21)
  have f27 := (G1.ext E21)
  have f28 := (G2.ext E21)
  have f29 := (G3.ext E21)
  have f30 := (G4.ext E21)
  have ne31 : b ≠ b21 := (Nat.ne_of_lt (Nat.lt_of_lt_of_le G0.lt (Nat.le_of_eq g21.symm)))
  have ne32 : va ≠ b21 := (Nat.ne_of_lt (Nat.lt_of_lt_of_le G4.lt (Nat.le_of_eq g21.symm)))
  have q33 := fun t (kt : Go p e below T21 (mkF m 5 #[vR b] [(.ref b), (.ref b21), (.ref b21)]) t) => pre0 t (st21 t (by
    show Go _ _ _ _ (mkF m 3 #[vR b] [(.ref b21)]) _
    refine XS.dup X21.here hx rfl (hb hby d22_3) rfl rfl ?_
    show Go _ _ _ _ (mkF m 4 _ [(.ref b21), (.ref b21)]) _
    refine XS.aloadN X21.here hx rfl (hb hby d22_4) rfl rfl ?_
    exact kt))
  obtain ⟨_, _, ⟨T34, L34, k34, n34⟩, -, X34, ⟨_, hQ34, l34, y34, z34⟩, st34⟩ := X21.specialBack hx (y := ym19) rfl hown (ow hZ hw 138 rfl) (ow hZ hw 139 rfl) (ow hZ hw 140 rfl) (by decide) (backOf (W := 1) (rm23 l Z a0 hw [] cx b21 b va kv cs h21 n0 O24 A21 F21_value F21_coder f26 f27 f28 f29 f30 gg22 hle (Ne.symm ne31) (Ne.symm ne32)) hZ (ox hw 140 rfl) (ox hw 6 rfl) (by decide) (by decide)) (g := (mkF m 5 #[vR b] [(.ref b), (.ref b21), (.ref b21)])) rfl (by rw [hml]; rfl) (Steps.refl _) (a := b21) (argsL := [(.ref b)]) (rest := [(.ref b21)]) (lenOf pd_13 rfl) rfl own_le0 (hb hby d22_5) (fun _ _ => ⟨rfl, e21, (by decide : 1 + 1 ≤ _), (by decide : 4 + 16 ≤ _)⟩)
  dsimp only [Pt.U, Pt.locs, Pt.cells, Pt.slots] at X34 l34 y34 z34 st34 hQ34
  subst l34 y34 z34
  obtain ⟨ta_34, kt_34, rfl, Nq34, Kq34, fr34_0, fq34_0, fq34_1, fq34_2⟩ := hQ34
  have N35 := Fr.app N0 Nq34
  have gg36 : n0 ≤ ta_34 := Nat.le_trans (O24.1 ▸ O24.2.1) fr34_0
  have sz37 : h0.size ≤ ta_34 := Nat.le_trans K25.1 fr34_0
  have O38 := O24.keep Kq34 (allS gg22 all0)
  have K39 := K25.trans Kq34 (allS (Or.inr sz23) all0)
  have q40 := fun t (kt : Go p e below T34 (mkF m 8 #[vR b] [(.ref b21)]) t) => q33 t (st34.trans kt)
  have f41 := (A21.keep Kq34)
  exact ⟨some (.ref b21), T34, _, _, _, _, X34, by decide, by decide, nofun, q40, fun fs hr => retOut X34 hx hret rfl (o4 ⟨rfl, rfl, rfl⟩) (hb hby d22_8) hr, ⟨b21, ta_34, kt_34, rfl, N35, K39, sz23, sz37, f41, fq34_0, fq34_1, fq34_2⟩⟩
theorem own_lo8 (c : Int32) : nar .byte (c.toInt8.toInt32) = own_lo c := by
  have b1 := c_i2b c
  have b2 := c_i2b (c.toInt8.toInt32)
  show c.toInt8.toInt32.toInt8.toInt32 = c.toInt8.toInt32
  exact Int32.toInt_inj.mp (by omega)
theorem ef_3_I (m : MethodId) (x0 : Int32) : entryFrame m #[(.int x0)] 1 = mkF m 0 #[.val (.int x0)] [] := by first | (simp [entryFrame, mkF, argsToLocals, Value.category]; done) | rfl
theorem pn_3 : plainName "java/lang/StringLatin1" = true := by first | (simp [plainName, overriddenIn]; done) | decide +kernel
theorem d3_0 : decode jdk_43_method_3_code 0 = .ok (.iload_n 0, 1) := by decide +kernel
theorem d3_1 : decode jdk_43_method_3_code 1 = .ok (.sipush 255, 3) := by decide +kernel
theorem d3_4 : decode jdk_43_method_3_code 4 = .ok (.if_icmp .gt 7, 3) := by decide +kernel
theorem d3_7 : decode jdk_43_method_3_code 7 = .ok (.iconst 1, 1) := by decide +kernel
theorem d3_8 : decode jdk_43_method_3_code 8 = .ok (.goto 4, 3) := by decide +kernel
theorem d3_12 : decode jdk_43_method_3_code 12 = .ok (.ireturn, 1) := by decide +kernel
def Q_rm3 (Z : State) (p1 : Int32) (z_cs : Int32) (v_sf : Value) (h0 : Heap) (n0 : Nat) (v : Option Value) (h : Heap) (L : List Loc) : Prop := v = some (.int 1) ∧ Fr n0 L ∧ h = h0
theorem rm3 (l : Launch) (Z : State) (a0 : Array Value) (hw : ∀ d ∈ tables_1, d.before a0 Z = true) (ws : List Jvm.Cond) {z_cs : Int32} {v_sf : Value} (cx : Cx Z z_cs v_sf) (p1 : Int32) (h0 : Heap) (n0 : Nat) (O0 : Old Z n0 h0) (hp : ¬ ((255 : Int32) < p1)) :
    OwnMet l ym21 (Jvm.Cond.code ym21 jdk_43_method_3_code 1 (some .boolean) :: ws) (own_R 0 0 0 0) #[(.int p1)] Z h0 (Q_rm3 Z p1 z_cs v_sf h0 n0) := by
  refine own_body (plainFor_of_name pn_3) hisR fun p e s m below meth c s₁ hx hby hml hown hnm hret hZ X0 e0 => ?_
  have N0 := Fr.nil n0
  have pre0 : ∀ t, Go p e below s₁ (mkF m 0 #[vI p1] []) t → Go p e below s₁ (entryFrame m #[(.int p1)] 1) t := fun t k => castTop (ef_3_I m p1) k
  have q21 := fun t (kt : Go p e below s₁ (mkF m 12 #[vI p1] [(.int 1)]) t) => pre0 t (by
    show Go _ _ _ _ (mkF m 0 #[vI p1] []) _
    refine XS.iloadN X0.here hx rfl (hb hby d3_0) rfl ?_
    show Go _ _ _ _ (mkF m 1 _ [(.int p1)]) _
    refine XS.sipush X0.here hx rfl (hb hby d3_1) ?_
    show Go _ _ _ _ (mkF m 4 _ [(.int 255), (.int p1)]) _
    refine XS.icmpNo X0.here hx rfl (hb hby d3_4) rfl (flt hp).2.2.1 ?_
    show Go _ _ _ _ (mkF m 7 _ []) _
    refine XS.iconst X0.here hx rfl (hb hby d3_7) ?_
    show Go _ _ _ _ (mkF m 8 _ [(.int 1)]) _
    refine XS.goto X0.here hx rfl (pc0 := 8) (pc' := 12) rfl (hb hby d3_8) (by decide) (by decide) ?_
    exact kt)
  exact ⟨some (.int 1), s₁, _, _, _, _, X0, by decide, by decide, nofun, q21, fun fs hr => retN X0 hx (t := .boolean) hret (by simp) (hb hby d3_12) hr, by rw [e0]; exact ⟨rfl, N0, rfl⟩⟩
theorem ef_4_I (m : MethodId) (x0 : Int32) : entryFrame m #[(.int x0)] 1 = mkF m 0 #[.val (.int x0)] [] := by first | (simp [entryFrame, mkF, argsToLocals, Value.category]; done) | rfl
theorem pn_4 : plainName "java/lang/StringLatin1" = true := by first | (simp [plainName, overriddenIn]; done) | decide +kernel
theorem d4_0 : decode jdk_43_method_46_code 0 = .ok (.iconst 1, 1) := by decide +kernel
theorem d4_1 : decode jdk_43_method_46_code 1 = .ok (.newarray .byte, 2) := by decide +kernel
theorem d4_3 : decode jdk_43_method_46_code 3 = .ok (.dup, 1) := by decide +kernel
theorem d4_4 : decode jdk_43_method_46_code 4 = .ok (.iconst 0, 1) := by decide +kernel
theorem d4_5 : decode jdk_43_method_46_code 5 = .ok (.iload_n 0, 1) := by decide +kernel
theorem d4_6 : decode jdk_43_method_46_code 6 = .ok (.i2b, 1) := by decide +kernel
theorem d4_7 : decode jdk_43_method_46_code 7 = .ok (.bastore, 1) := by decide +kernel
theorem d4_8 : decode jdk_43_method_46_code 8 = .ok (.areturn, 1) := by decide +kernel
def Q_rm4 (Z : State) (p1 : Int32) (z_cs : Int32) (v_sf : Value) (h0 : Heap) (n0 : Nat) (v : Option Value) (h : Heap) (L : List Loc) : Prop := ∃ (r : Addr) (kr : ClassId), v = some (.ref r) ∧ Fr n0 L ∧ Keep h0 h [] ∧ h0.size ≤ r ∧ Arv Z h r kr .byte (Int32.ofNat [p1].length) (own_by [p1]) (.int 0)
theorem rm4 (l : Launch) (Z : State) (a0 : Array Value) (hw : ∀ d ∈ tables_1, d.before a0 Z = true) (ws : List Jvm.Cond) {z_cs : Int32} {v_sf : Value} (cx : Cx Z z_cs v_sf) (p1 : Int32) (h0 : Heap) (n0 : Nat) (O0 : Old Z n0 h0) :
    OwnMet l ym22 (Jvm.Cond.code ym22 jdk_43_method_46_code 1 (some (.array .byte)) :: ws) (own_R 0 1 1 0) #[(.int p1)] Z h0 (Q_rm4 Z p1 z_cs v_sf h0 n0) := by
  refine own_body (plainFor_of_name pn_4) hisR fun p e s m below meth c s₁ hx hby hml hown hnm hret hZ X0 e0 => ?_
  have N0 := Fr.nil n0
  have K0 : Keep h0 h0 [] := Keep.refl _ _
  have pre0 : ∀ t, Go p e below s₁ (mkF m 0 #[vI p1] []) t → Go p e below s₁ (entryFrame m #[(.int p1)] 1) t := fun t k => castTop (ef_4_I m p1) k
  have q21 := fun t (kt : Go p e below s₁ (mkF m 1 #[vI p1] [(.int 1)]) t) => pre0 t (by
    show Go _ _ _ _ (mkF m 0 #[vI p1] []) _
    refine XS.iconst X0.here hx rfl (hb hby d4_0) ?_
    exact kt)
  obtain ⟨T22, h22, k22, X22, e22, E22, A22, st22⟩ := newP X0 hx hZ (ox hw 18 rfl) e0 (g := (mkF m 1 #[vI p1] [(.int 1)])) rfl (hb hby d4_1) rfl (by decide) (cap := 1) (by decide) (by decide) (by decide) (by decide)
  obtain ⟨b22, g22⟩ : ∃ z, z = h0.size := ⟨_, rfl⟩
  rw [← g22] at A22 st22
  have gg23 : n0 ≤ b22 := Nat.le_trans (O0.1 ▸ O0.2.1) (Nat.le_of_eq g22.symm)
  have sz24 : h0.size ≤ b22 := Nat.le_trans K0.1 (Nat.le_of_eq g22.symm)
  have O25 := O0.ext E22
  have K26 := K0.ext E22
  have V22 : Arv Z h22 b22 k22 .byte (1 : Int32) [(.int 0)] (.int 0) := (Arv.new A22 (by decide)).pad (pad_rep [] (.int 0) 1)
  have q28 := fun t (kt : Go p e below T22 (mkF m 7 #[vI p1] [(.int (p1.toInt8.toInt32)), (.int 0), (.ref b22), (.ref b22)]) t) => q21 t (st22 t (by
    show Go _ _ _ _ (mkF m 3 #[vI p1] [(.ref b22)]) _
    refine XS.dup X22.here hx rfl (hb hby d4_3) rfl rfl ?_
    show Go _ _ _ _ (mkF m 4 _ [(.ref b22), (.ref b22)]) _
    refine XS.iconst X22.here hx rfl (hb hby d4_4) ?_
    show Go _ _ _ _ (mkF m 5 _ [(.int 0), (.ref b22), (.ref b22)]) _
    refine XS.iloadN X22.here hx rfl (hb hby d4_5) rfl ?_
    show Go _ _ _ _ (mkF m 6 _ [(.int p1), (.int 0), (.ref b22), (.ref b22)]) _
    refine XS.i2b X22.here hx rfl (hb hby d4_6) rfl ?_
    exact kt))
  obtain ⟨c27, Ar27, q27, S27, N27, H27, G27⟩ := id V22
  have hi27 : ¬ ((0 : Int32) < 0 ∨ c27.slots.size ≤ ((0 : Int32)).toNatClampNeg) := inb_of S27 ⟨by decide, by decide⟩
  obtain ⟨T29, h29, X29, e29, W29, st29⟩ := stB X22 hx hZ e22 Ar27 (j := (0 : Int32)) hi27 (g := (mkF m 7 #[vI p1] [(.int (p1.toInt8.toInt32)), (.int 0), (.ref b22), (.ref b22)])) rfl rfl (hb hby d4_7)
  have V29 : Arv Z h29 b22 k22 .byte (1 : Int32) [(.int (nar .byte (p1.toInt8.toInt32)))] (.int 0) := Arv.set Ar27 q27 S27 N27 H27 G27 (fits_nar_byte _) W29 0 rfl (Nat.le_of_ble_eq_true rfl)
  have N30 := Fr.snoc X29 N0 gg23
  have O31 := O25.wr W29 gg23
  have K32 := K26.wr W29 (Or.inr sz24)
  have q33 := fun t (kt : Go p e below T29 (mkF m 8 #[vI p1] [(.ref b22)]) t) => q28 t (st29 t kt)
  exact ⟨some (.ref b22), T29, _, _, _, _, X29, by decide, by decide, nofun, q33, fun fs hr => retOut X29 hx hret rfl (o4 ⟨rfl, rfl, rfl⟩) (hb hby d4_8) hr, by rw [e29]; exact ⟨b22, k22, rfl, N30, K32, sz24, (by have z := V29; rw [own_lo8] at z; exact z)⟩⟩
theorem ef_5_RRI (m : MethodId) (x0 : Addr) (x1 : Addr) (x2 : Int32) : entryFrame m #[(.ref x0), (.ref x1), (.int x2)] 3 = mkF m 0 #[.val (.ref x0), .val (.ref x1), .val (.int x2)] [] := by first | (simp [entryFrame, mkF, argsToLocals, Value.category]; done) | rfl
theorem pn_5 : plainName "java/lang/String" = true := by first | (simp [plainName, overriddenIn]; done) | decide +kernel
theorem d5_0 : decode jdk_42_method_151_code 0 = .ok (.aload_n 0, 1) := by decide +kernel
theorem d5_1 : decode jdk_42_method_151_code 1 = .ok (.invokespecial 1, 3) := by decide +kernel
theorem d5_4 : decode jdk_42_method_151_code 4 = .ok (.aload_n 0, 1) := by decide +kernel
theorem d5_5 : decode jdk_42_method_151_code 5 = .ok (.aload_n 1, 1) := by decide +kernel
theorem d5_6 : decode jdk_42_method_151_code 6 = .ok (.putfield 9, 3) := by decide +kernel
theorem d5_9 : decode jdk_42_method_151_code 9 = .ok (.aload_n 0, 1) := by decide +kernel
theorem d5_10 : decode jdk_42_method_151_code 10 = .ok (.iload_n 2, 1) := by decide +kernel
theorem d5_11 : decode jdk_42_method_151_code 11 = .ok (.putfield 15, 3) := by decide +kernel
theorem d5_14 : decode jdk_42_method_151_code 14 = .ok (.return_, 1) := by decide +kernel
def Q_rm5 (Z : State) (a1 : Addr) (a2 : Addr) (z_cs : Int32) (v_sf : Value) (h0 : Heap) (n0 : Nat) (v : Option Value) (h : Heap) (L : List Loc) : Prop := v = none ∧ Fr n0 L ∧ Keep h0 h [a1] ∧ Fld Z h a1 sk4 "value" "[B" (.ref a2) ∧ Fld Z h a1 sk4 "coder" "B" (.int 0)
theorem rm5 (l : Launch) (Z : State) (a0 : Array Value) (hw : ∀ d ∈ tables_1, d.before a0 Z = true) (ws : List Jvm.Cond) {z_cs : Int32} {v_sf : Value} (cx : Cx Z z_cs v_sf) (a1 : Addr) (a2 : Addr) (h0 : Heap) (n0 : Nat) (O0 : Old Z n0 h0) (G0 : Exa Z h0 a1 sk4) (G1 : Fld Z h0 a1 sk4 "value" "[B" .null) (G2 : Fld Z h0 a1 sk4 "coder" "B" (.int 0)) (g_a1 : n0 ≤ a1) :
    OwnMet l ym23 (Jvm.Cond.code ym23 jdk_42_method_151_code 3 none :: ws) (own_R 1 0 0 12) #[(.ref a1), (.ref a2), (.int 0)] Z h0 (Q_rm5 Z a1 a2 z_cs v_sf h0 n0) := by
  refine own_body (plainFor_of_name pn_5) hisR fun p e s m below meth c s₁ hx hby hml hown hnm hret hZ X0 e0 => ?_
  have N0 := Fr.nil n0
  have K0 : Keep h0 h0 [a1] := Keep.refl _ _
  have pre0 : ∀ t, Go p e below s₁ (mkF m 0 #[vR a1, vR a2, vI 0] []) t → Go p e below s₁ (entryFrame m #[(.ref a1), (.ref a2), (.int 0)] 3) t := fun t k => castTop (ef_5_RRI m a1 a2 (0 : Int32)) k
  have q21 := fun t (kt : Go p e below s₁ (mkF m 1 #[vR a1, vR a2, vI 0] [(.ref a1)]) t) => pre0 t (by
    show Go _ _ _ _ (mkF m 0 #[vR a1, vR a2, vI 0] []) _
    refine XS.aloadN X0.here hx rfl (hb hby d5_0) rfl rfl ?_
    exact kt)
  obtain ⟨T22, X22, e22, st22⟩ := initO X0 hx hZ hown (ox hw 23 rfl) (ox hw 24 rfl) (ox hw 25 rfl) e0 (g := (mkF m 1 #[vR a1, vR a2, vI 0] [(.ref a1)])) rfl (by rw [hml]; rfl) rfl (hb hby d5_1) (by decide) (W := 0) own_le0 (by decide)
  have q23 := fun t (kt : Go p e below T22 (mkF m 6 #[vR a1, vR a2, vI 0] [(.ref a2), (.ref a1)]) t) => q21 t (st22 t (by
    show Go _ _ _ _ (mkF m 4 #[vR a1, vR a2, vI 0] []) _
    refine XS.aloadN X22.here hx rfl (hb hby d5_4) rfl rfl ?_
    show Go _ _ _ _ (mkF m 5 _ [(.ref a1)]) _
    refine XS.aloadN X22.here hx rfl (hb hby d5_5) rfl rfl ?_
    exact kt))
  obtain ⟨T24, h24, X24, e24, W24, st24⟩ := putF X22 hx hZ hown (host := "") (Or.inl (ox hw 26 rfl)) Via.refl e22 G1 G0 (Or.inr ⟨(ox hw 27 rfl), rfl, hnm⟩) (ox hw 14 rfl) (ty := (.array .byte)) (by decide) rfl rfl (g := (mkF m 6 #[vR a1, vR a2, vI 0] [(.ref a2), (.ref a1)])) rfl rfl (hb hby d5_6)
  have f25 : Fld Z h24 a1 sk4 "value" "[B" (.ref a2) := G1.same W24
  have N26 := Fr.snoc X24 N0 g_a1
  have O27 := O0.wr W24 g_a1
  have K28 := K0.wr W24 (Or.inl (List.mem_of_getElem? (i := 0) rfl))
  have f29 := (G0.wr W24)
  have f30 := (G2.other W24 (Or.inr (slot_ne (Or.inr (ox hw 29 rfl)) (Or.inr (ox hw 27 rfl)) (by decide) (t := .byte) (t' := (.array .byte)) (by decide) (by decide))))
  have q31 := fun t (kt : Go p e below T24 (mkF m 11 #[vR a1, vR a2, vI 0] [(.int 0), (.ref a1)]) t) => q23 t (st24 t (by
    show Go _ _ _ _ (mkF m 9 #[vR a1, vR a2, vI 0] []) _
    refine XS.aloadN X24.here hx rfl (hb hby d5_9) rfl rfl ?_
    show Go _ _ _ _ (mkF m 10 _ [(.ref a1)]) _
    refine XS.iloadN X24.here hx rfl (hb hby d5_10) rfl ?_
    exact kt))
  obtain ⟨T32, h32, X32, e32, W32, st32⟩ := putFN X24 hx hZ hown (ox hw 28 rfl) Via.refl e24 f30 f29 (Or.inr ⟨(ox hw 29 rfl), rfl, hnm⟩) (ox hw 14 rfl) (ty := .byte) (v' := (.int 0)) (by decide) rfl rfl (g := (mkF m 11 #[vR a1, vR a2, vI 0] [(.int 0), (.ref a1)])) rfl rfl (hb hby d5_11)
  have f33 : Fld Z h32 a1 sk4 "coder" "B" (.int 0) := f30.same W32
  have N34 := Fr.snoc X32 N26 g_a1
  have O35 := O27.wr W32 g_a1
  have K36 := K28.wr W32 (Or.inl (List.mem_of_getElem? (i := 0) rfl))
  have q37 := fun t (kt : Go p e below T32 (mkF m 14 #[vR a1, vR a2, vI 0] []) t) => q31 t (st32 t kt)
  have f38 := (f25.other W32 (Or.inr (slot_ne (Or.inr (ox hw 27 rfl)) (Or.inr (ox hw 29 rfl)) (by decide) (t := (.array .byte)) (t' := .byte) (by decide) (by decide))))
  exact ⟨none, T32, _, _, _, _, X32, by decide, by decide, fun _ => rfl, q37, fun fs hr => X32.returnOut hx hret (hb hby d5_14) hr, by rw [e32]; exact ⟨rfl, N34, K36, f38, f33⟩⟩
theorem ef_2_I (m : MethodId) (x0 : Int32) : entryFrame m #[(.int x0)] 1 = mkF m 0 #[.val (.int x0)] [] := by first | (simp [entryFrame, mkF, argsToLocals, Value.category]; done) | rfl
theorem pn_2 : plainName "java/lang/String" = true := by first | (simp [plainName, overriddenIn]; done) | decide +kernel
theorem d2_0 : decode jdk_42_method_139_code 0 = .ok (.getstatic 38, 3) := by decide +kernel
theorem d2_3 : decode jdk_42_method_139_code 3 = .ok (.ifCond .eq 23, 3) := by decide +kernel
theorem d2_6 : decode jdk_42_method_139_code 6 = .ok (.iload_n 0, 1) := by decide +kernel
theorem d2_7 : decode jdk_42_method_139_code 7 = .ok (.invokestatic 1015, 3) := by decide +kernel
theorem pd_14 : parseMethodDescriptor "(C)Z" = some ⟨[.char], some .boolean⟩ := by decide +kernel
theorem d2_10 : decode jdk_42_method_139_code 10 = .ok (.ifCond .eq 16, 3) := by decide +kernel
theorem d2_13 : decode jdk_42_method_139_code 13 = .ok (.new 10, 3) := by decide +kernel
theorem d2_16 : decode jdk_42_method_139_code 16 = .ok (.dup, 1) := by decide +kernel
theorem d2_17 : decode jdk_42_method_139_code 17 = .ok (.iload_n 0, 1) := by decide +kernel
theorem d2_18 : decode jdk_42_method_139_code 18 = .ok (.invokestatic 1018, 3) := by decide +kernel
theorem pd_15 : parseMethodDescriptor "(C)[B" = some ⟨[.char], some (.array .byte)⟩ := by decide +kernel
theorem d2_21 : decode jdk_42_method_139_code 21 = .ok (.iconst 0, 1) := by decide +kernel
theorem d2_22 : decode jdk_42_method_139_code 22 = .ok (.invokespecial 209, 3) := by decide +kernel
theorem pd_16 : parseMethodDescriptor "([BB)V" = some ⟨[(.array .byte), .byte], none⟩ := by decide +kernel
theorem d2_25 : decode jdk_42_method_139_code 25 = .ok (.areturn, 1) := by decide +kernel
def Q_rm2 (Z : State) (p1 : Int32) (z_cs : Int32) (v_sf : Value) (h0 : Heap) (n0 : Nat) (v : Option Value) (h : Heap) (L : List Loc) : Prop := ∃ (x : Addr) (ta : Addr) (kt : ClassId), v = some (.ref x) ∧ Fr n0 L ∧ Keep h0 h [] ∧ h0.size ≤ x ∧ h0.size ≤ ta ∧ Exa Z h x sk4 ∧ Fld Z h x sk4 "value" "[B" (.ref ta) ∧ Fld Z h x sk4 "coder" "B" (.int 0) ∧ Arv Z h ta kt .byte (Int32.ofNat [p1].length) (own_by [p1]) (.int 0)
theorem rm2 (l : Launch) (Z : State) (a0 : Array Value) (hw : ∀ d ∈ tables_1, d.before a0 Z = true) (ws : List Jvm.Cond) {z_cs : Int32} {v_sf : Value} (cx : Cx Z z_cs v_sf) (p1 : Int32) (h0 : Heap) (n0 : Nat) (O0 : Old Z n0 h0) (hp : ¬ ((255 : Int32) < p1)) :
    OwnMet l ym24 (Jvm.Cond.code ym24 jdk_42_method_139_code 1 (some (.object sk4)) :: ws) (own_R 2 2 5 27) #[(.int p1)] Z h0 (Q_rm2 Z p1 z_cs v_sf h0 n0) := by
  refine own_body (plainFor_of_name pn_2) hisR fun p e s m below meth c s₁ hx hby hml hown hnm hret hZ X0 e0 => ?_
  have N0 := Fr.nil n0
  have K0 : Keep h0 h0 [] := Keep.refl _ _
  have pre0 : ∀ t, Go p e below s₁ (mkF m 0 #[vI p1] []) t → Go p e below s₁ (entryFrame m #[(.int p1)] 1) t := fun t k => castTop (ef_2_I m p1) k
  obtain ⟨T21, X21, e21, st21⟩ := getS2 X0 hx hZ hown (host := "") (Or.inl (ox hw 8 rfl)) Via.refl e0 (cx.1.ext O0.2) (g := (mkF m 0 #[vI p1] [])) rfl (hb hby d2_0)
  have q22 := fun t (kt : Go p e below T21 (mkF m 7 #[vI p1] [(.int p1)]) t) => pre0 t (st21 t (by
    show Go _ _ _ _ (mkF m 3 #[vI p1] [(.int z_cs)]) _
    refine XS.ifNo X21.here hx rfl (hb hby d2_3) rfl ((if0 _ _).trans (feq cx.2.1).1) ?_
    show Go _ _ _ _ (mkF m 6 _ []) _
    refine XS.iloadN X21.here hx rfl (hb hby d2_6) rfl ?_
    exact kt))
  obtain ⟨_, _, ⟨T23, L23, k23, n23⟩, -, X23, ⟨_, hQ23, l23, y23, z23⟩, st23⟩ := Jvm.LawKit.callS X21 hx (y := ym21) hown (ow hZ hw 9 rfl) (ow hZ hw 10 rfl) (ow hZ hw 11 rfl) (ow hZ hw 12 rfl) (by decide) (backOf (W := 0) (rm3 l Z a0 hw [] cx p1 h0 n0 O0 hp) hZ (ox hw 12 rfl) (ox hw 11 rfl) (by decide) (by decide)) (g := (mkF m 7 #[vI p1] [(.int p1)])) rfl (by rw [hml]; rfl) (argsL := [(.int p1)]) (rest := []) (lenOf pd_14 rfl) rfl own_le0 (hb hby d2_7) (fun _ _ => ⟨rfl, e21, (by decide : 0 + 0 ≤ _), (by decide : 0 + 0 ≤ _)⟩)
  dsimp only [Pt.U, Pt.locs, Pt.cells, Pt.slots] at X23 l23 y23 z23 st23 hQ23
  subst l23 y23 z23
  obtain ⟨rfl, Nq23, eq23⟩ := hQ23
  have N24 := Fr.app N0 Nq23
  have q25 := fun t (kt : Go p e below T23 (mkF m 13 #[vI p1] []) t) => q22 t (st23 t (by
    show Go _ _ _ _ (mkF m 10 #[vI p1] [(.int 1)]) _
    refine XS.ifNo X23.here hx rfl (hb hby d2_10) rfl ((if0 _ _).trans (feq (by decide : ¬ ((1 : Int32) = (0 : Int32)))).1) ?_
    exact kt))
  obtain ⟨T26, h26, X26, e26, E26, A26, D26, U26, st26⟩ := newO X23 hx hZ hown (ox hw 13 rfl) (ox hw 14 rfl) (ox hw 6 rfl) eq23 (g := (mkF m 13 #[vI p1] [])) rfl (hb hby d2_13) (by decide) (by decide)
  obtain ⟨b26, g26⟩ : ∃ z, z = h0.size := ⟨_, rfl⟩
  rw [← g26] at A26 D26 st26
  have gg27 : n0 ≤ b26 := Nat.le_trans (O0.1 ▸ O0.2.1) (Nat.le_of_eq g26.symm)
  have sz28 : h0.size ≤ b26 := Nat.le_trans K0.1 (Nat.le_of_eq g26.symm)
  have O29 := O0.ext E26
  have K30 := K0.ext E26
  have F26_value : Fld Z h26 b26 sk4 "value" "[B" .null := D26 (Or.inr (ox hw 27 rfl)) (ty := (.array .byte)) (by decide)
  have F26_coder : Fld Z h26 b26 sk4 "coder" "B" (.int 0) := D26 (Or.inr (ox hw 29 rfl)) (ty := .byte) (by decide)
  have q31 := fun t (kt : Go p e below T26 (mkF m 18 #[vI p1] [(.int p1), (.ref b26), (.ref b26)]) t) => q25 t (st26 t (by
    show Go _ _ _ _ (mkF m 16 #[vI p1] [(.ref b26)]) _
    refine XS.dup X26.here hx rfl (hb hby d2_16) rfl rfl ?_
    show Go _ _ _ _ (mkF m 17 _ [(.ref b26), (.ref b26)]) _
    refine XS.iloadN X26.here hx rfl (hb hby d2_17) rfl ?_
    exact kt))
  obtain ⟨_, _, ⟨T32, L32, k32, n32⟩, -, X32, ⟨_, hQ32, l32, y32, z32⟩, st32⟩ := Jvm.LawKit.callS X26 hx (y := ym22) hown (ow hZ hw 15 rfl) (ow hZ hw 16 rfl) (ow hZ hw 11 rfl) (ow hZ hw 17 rfl) (by decide) (backOf (W := 2) (rm4 l Z a0 hw [] cx p1 h26 n0 O29 ) hZ (ox hw 17 rfl) (ox hw 11 rfl) (by decide) (by decide)) (g := (mkF m 18 #[vI p1] [(.int p1), (.ref b26), (.ref b26)])) rfl (by rw [hml]; rfl) (argsL := [(.int p1)]) (rest := [(.ref b26), (.ref b26)]) (lenOf pd_15 rfl) rfl own_le0 (hb hby d2_18) (fun _ _ => ⟨rfl, e26, (by decide : 1 + 1 ≤ _), (by decide : 4 + 1 ≤ _)⟩)
  dsimp only [Pt.U, Pt.locs, Pt.cells, Pt.slots] at X32 l32 y32 z32 st32 hQ32
  subst l32 y32 z32
  obtain ⟨r_32, kr_32, rfl, Nq32, Kq32, fr32_0, fq32_0⟩ := hQ32
  have N33 := Fr.app N24 Nq32
  have gg34 : n0 ≤ r_32 := Nat.le_trans (O29.1 ▸ O29.2.1) fr32_0
  have sz35 : h0.size ≤ r_32 := Nat.le_trans K30.1 fr32_0
  have O36 := O29.keep Kq32 all0
  have K37 := K30.trans Kq32 all0
  have f38 := (A26.keep Kq32)
  have f39 := (F26_value.keep Kq32 nin0)
  have f40 := (F26_coder.keep Kq32 nin0)
  have q41 := fun t (kt : Go p e below T32 (mkF m 22 #[vI p1] [(.int 0), (.ref r_32), (.ref b26), (.ref b26)]) t) => q31 t (st32 t (by
    show Go _ _ _ _ (mkF m 21 #[vI p1] [(.ref r_32), (.ref b26), (.ref b26)]) _
    refine XS.iconst X32.here hx rfl (hb hby d2_21) ?_
    exact kt))
  obtain ⟨_, _, ⟨T42, L42, k42, n42⟩, -, X42, ⟨_, hQ42, l42, y42, z42⟩, st42⟩ := X32.specialBack hx (y := ym23) rfl hown (ow hZ hw 19 rfl) (ow hZ hw 20 rfl) (ow hZ hw 22 rfl) (by decide) (backOf (W := 1) (rm5 l Z a0 hw [] cx b26 r_32 T32.heap n0 O36 f38 f39 f40 gg27) hZ (ox hw 22 rfl) (ox hw 6 rfl) (by decide) (by decide)) (g := (mkF m 22 #[vI p1] [(.int 0), (.ref r_32), (.ref b26), (.ref b26)])) rfl (by rw [hml]; rfl) (Steps.refl _) (a := b26) (argsL := [(.ref r_32), (.int 0)]) (rest := [(.ref b26)]) (lenOf pd_16 rfl) rfl own_le0 (hb hby d2_22) (fun _ _ => ⟨rfl, rfl, (by decide : 2 + 0 ≤ _), (by decide : 5 + 0 ≤ _)⟩)
  dsimp only [Pt.U, Pt.locs, Pt.cells, Pt.slots] at X42 l42 y42 z42 st42 hQ42
  subst l42 y42 z42
  obtain ⟨rfl, Nq42, Kq42, fq42_0, fq42_1⟩ := hQ42
  have N43 := Fr.app N33 Nq42
  have O44 := O36.keep Kq42 (allS gg27 all0)
  have K45 := K37.trans Kq42 (allS (Or.inr sz28) all0)
  have q46 := fun t (kt : Go p e below T42 (mkF m 25 #[vI p1] [(.ref b26)]) t) => q41 t (st42.trans kt)
  have f47 := (f38.keep Kq42)
  have ne48 : b26 ≠ r_32 := (Nat.ne_of_lt (Nat.lt_of_lt_of_le A26.lt fr32_0))
  have f49 := (fq32_0.keep Kq42 (ninS (Ne.symm ne48) nin0))
  exact ⟨some (.ref b26), T42, _, _, _, _, X42, by decide, by decide, nofun, q46, fun fs hr => retOut X42 hx hret rfl (o4 ⟨rfl, rfl, rfl⟩) (hb hby d2_25) hr, ⟨b26, r_32, kr_32, rfl, N43, K45, sz28, sz35, f47, fq42_0, fq42_1, f49⟩⟩
theorem ef_8_RRIIN (m : MethodId) (x0 : Addr) (x1 : Addr) (x2 : Int32) (x3 : Int32) : entryFrame m #[(.ref x0), (.ref x1), (.int x2), (.int x3), .null] 6 = mkF m 0 #[.val (.ref x0), .val (.ref x1), .val (.int x2), .val (.int x3), .val .null, .unset] [] := by first | (simp [entryFrame, mkF, argsToLocals, Value.category]; done) | rfl
theorem pn_8 : plainName "java/lang/String" = true := by first | (simp [plainName, overriddenIn]; done) | decide +kernel
theorem d8_0 : decode jdk_42_method_149_code 0 = .ok (.aload_n 0, 1) := by decide +kernel
theorem d8_1 : decode jdk_42_method_149_code 1 = .ok (.invokespecial 1, 3) := by decide +kernel
theorem d8_4 : decode jdk_42_method_149_code 4 = .ok (.iload_n 3, 1) := by decide +kernel
theorem d8_5 : decode jdk_42_method_149_code 5 = .ok (.ifCond .ne 22, 3) := by decide +kernel
theorem d8_8 : decode jdk_42_method_149_code 8 = .ok (.aload_n 0, 1) := by decide +kernel
theorem d8_9 : decode jdk_42_method_149_code 9 = .ok (.ldc 7, 2) := by decide +kernel
theorem d8_11 : decode jdk_42_method_149_code 11 = .ok (.getfield 9, 3) := by decide +kernel
theorem d8_14 : decode jdk_42_method_149_code 14 = .ok (.putfield 9, 3) := by decide +kernel
theorem d8_17 : decode jdk_42_method_149_code 17 = .ok (.aload_n 0, 1) := by decide +kernel
theorem d8_18 : decode jdk_42_method_149_code 18 = .ok (.ldc 7, 2) := by decide +kernel
theorem d8_20 : decode jdk_42_method_149_code 20 = .ok (.getfield 15, 3) := by decide +kernel
theorem d8_23 : decode jdk_42_method_149_code 23 = .ok (.putfield 15, 3) := by decide +kernel
theorem d8_26 : decode jdk_42_method_149_code 26 = .ok (.return_, 1) := by decide +kernel
def Q_rm8 (Z : State) (a1 : Addr) (a2 : Addr) (z_cs : Int32) (v_sf : Value) (h0 : Heap) (n0 : Nat) (v : Option Value) (h : Heap) (L : List Loc) : Prop := ∃ (ta : Addr) (kt : ClassId), v = none ∧ Fr n0 L ∧ Keep h0 h [a1] ∧ Fld Z h a1 sk4 "value" "[B" (.ref ta) ∧ Fld Z h a1 sk4 "coder" "B" (.int 0) ∧ Arv Z h ta kt .byte (Int32.ofNat ([] : List Int32).length) (own_by []) (.int 0)
theorem rm8 (l : Launch) (Z : State) (a0 : Array Value) (hw : ∀ d ∈ tables_1, d.before a0 Z = true) (ws : List Jvm.Cond) {z_cs : Int32} {v_sf : Value} (cx : Cx Z z_cs v_sf) (a1 : Addr) (a2 : Addr) (h0 : Heap) (n0 : Nat) (O0 : Old Z n0 h0) (G0 : Exa Z h0 a1 sk4) (G1 : Fld Z h0 a1 sk4 "value" "[B" .null) (G2 : Fld Z h0 a1 sk4 "coder" "B" (.int 0)) (g_a1 : n0 ≤ a1) :
    MetFree l ym25 (head1 (Jvm.Cond.code ym25 jdk_42_method_149_code 6 none :: ws) (own_R 1 4 8 12)) (fun a U => a = #[(.ref a1), (.ref a2), (.int 0), (.int 0), .null] ∧ Z.Warmed39 U.vm ∧ U.heap = h0 ∧ CHv Z own_EL U.vm h0) (fun _ _ _ _ _ => True) (fun _ U o U' => ∃ v L, o = .returned v ∧ Q_rm8 Z a1 a2 z_cs v_sf h0 n0 v U'.heap L ∧ CHr Z own_EL U.vm U.heap U'.vm U'.heap ∧ ReturnedEndW U o U' L (own_R 1 4 8 12).cells (own_R 1 4 8 12).slots) := by
  refine MetFree.of_bodySF (plainFor_of_name pn_8) hisR ?_
  intro p e s m args below meth c s₁ Bd hml0 hP hK
  obtain ⟨rfl, hZ, hh, hCH⟩ := hP
  have hx := Bd.exec
  have hby := Bd.bytes
  have hml : c.maxLocals = 6 := hml0
  have hown : s.vm.findClass sk4 = some m.cls := findClass_of_methodNamed Bd.named
  have hnm := (name_of_methodNamed Bd.named Bd.method).1
  have hS0 : s.Since s.vm 0 := (State.WarmedH.refl s).since 0
  have hk0 : 0 ≤ h0.size := Nat.zero_le _
  have hwS : ∀ d ∈ Bundle.stringAtoms, d.before a0 Z = true := fun d hd => hw d ((by decide +kernel : ∀ d ∈ Bundle.stringAtoms, d ∈ tables_1) d hd)
  have X0 : Stand p l e (own_R 1 4 8 12) (s.setVm s.vm) m #[(.ref a1), (.ref a2), (.int 0), (.int 0), .null] below meth c s₁ [] 0 0 := Stand.of_body Bd
  have e0 : s₁.heap = h0 := by rw [← hh, Bd.state]; rfl
  have N0 := Fr.nil n0
  have R0 : CHr Z own_EL s.vm h0 s.vm h0 := CHr.refl hCH
  have hEW : EW Z a0 own_EL := own_EW hw
  have K0 : Keep h0 h0 [a1] := Keep.refl _ _
  have pre0 : ∀ t, Go p e below s₁ (mkF m 0 #[vR a1, vR a2, vI 0, vI 0, vN, vU] []) t → Go p e below s₁ (entryFrame m #[(.ref a1), (.ref a2), (.int 0), (.int 0), .null] 6) t := fun t k => castTop (ef_8_RRIIN m a1 a2 (0 : Int32) (0 : Int32)) k
  have sf_a1 : Safe Z own_EL s.vm h0 a1 := own_safe_null hZ.alike G1 G0
  have q21 := fun t (kt : Go p e below s₁ (mkF m 1 #[vR a1, vR a2, vI 0, vI 0, vN, vU] [(.ref a1)]) t) => pre0 t (by
    show Go _ _ _ _ (mkF m 0 #[vR a1, vR a2, vI 0, vI 0, vN, vU] []) _
    refine XS.aloadN X0.here hx rfl (hb hby d8_0) rfl rfl ?_
    exact kt)
  obtain ⟨T22, X22, e22, st22⟩ := initO X0 hx hZ hown (ox hw 23 rfl) (ox hw 24 rfl) (ox hw 25 rfl) e0 (g := (mkF m 1 #[vR a1, vR a2, vI 0, vI 0, vN, vU] [(.ref a1)])) rfl (by rw [hml]; rfl) rfl (hb hby d8_1) (by decide) (W := 0) own_le0 (by decide)
  have q23 := fun t (kt : Go p e below T22 (mkF m 9 #[vR a1, vR a2, vI 0, vI 0, vN, vU] [(.ref a1)]) t) => q21 t (st22 t (by
    show Go _ _ _ _ (mkF m 4 #[vR a1, vR a2, vI 0, vI 0, vN, vU] []) _
    refine XS.iloadN X22.here hx rfl (hb hby d8_4) rfl ?_
    show Go _ _ _ _ (mkF m 5 _ [(.int 0)]) _
    refine XS.ifNo X22.here hx rfl (hb hby d8_5) rfl ((if0 _ _).trans (teq (rfl : (0 : Int32) = (0 : Int32))).2) ?_
    show Go _ _ _ _ (mkF m 8 _ []) _
    refine XS.aloadN X22.here hx rfl (hb hby d8_8) rfl rfl ?_
    exact kt))
  obtain ⟨b24, T24, h24, k24, tb24, kb24, X24, e24, E24, hS24, hkk24, hZ, hown, lE24, lC24, lV24, lA24, la24, lb24, lR24, lL24, lS24, st24⟩ := ldcCH (vm0 := s.vm) (EL := own_EL) X22 hx hZ hown (ox hw 38 rfl) hwS e22 hS0 hk0 hEW (by decide) R0.1 (vs := []) (z := (0 : Int32)) ⟨by decide, by decide⟩ (by decide) (by decide) (g := (mkF m 9 #[vR a1, vR a2, vI 0, vI 0, vN, vU] [(.ref a1)])) rfl (hb hby d8_9) (n := 0) (by decide) (by decide) (by decide) (by decide)
  have O25 := O0.ext E24
  have sf27 : Safe Z own_EL T24.vm h24 a1 := CHr.safe lR24 G0.lt sf_a1
  have R26 : CHr Z own_EL s.vm h0 T24.vm h24 := R0.trans lR24
  have K28 := K0.ext E24
  have Sr24 : Str Z h24 b24 tb24 ([] : List Int32) := ⟨_, _, _, _, lE24, lV24, lC24, lA24, own_cod (by decide) (by decide), by decide, by decide⟩
  have nl29 := lS24 a1 sf27
  obtain ⟨T30, X30, e30, st30⟩ := getF X24 hx hZ hown (host := "") (Or.inl (ox hw 26 rfl)) Via.refl e24 lV24 (g := (mkF m 11 #[vR a1, vR a2, vI 0, vI 0, vN, vU] [(.ref b24), (.ref a1)])) rfl rfl (hb hby d8_11)
  have f31 := (G0.ext E24)
  have f32 := (G1.ext E24)
  obtain ⟨T33, h33, X33, e33, W33, st33⟩ := putF X30 hx hZ hown (host := "") (Or.inl (ox hw 26 rfl)) Via.refl e30 f32 f31 (Or.inr ⟨(ox hw 27 rfl), rfl, hnm⟩) (ox hw 14 rfl) (ty := (.array .byte)) (by decide) rfl rfl (g := (mkF m 14 #[vR a1, vR a2, vI 0, vI 0, vN, vU] [(.ref tb24), (.ref a1)])) rfl rfl (hb hby d8_14)
  have f34 : Fld Z h33 a1 sk4 "value" "[B" (.ref tb24) := f32.same W33
  have N35 := Fr.snoc X33 N0 g_a1
  have O36 := O25.wr W33 g_a1
  have sf38 : Safe Z own_EL T24.vm h33 a1 := Safe.wr W33 sf27 R26.1 sf27
  have R37 : CHr Z own_EL s.vm h0 T24.vm h33 := R26.trans (CHr.wr W33 sf27 R26.1)
  have hk39 : _ ≤ h33.size := Nat.le_trans hkk24 (Keep.of_wr W33).1
  have K40 := K28.wr W33 (Or.inl (List.mem_of_getElem? (i := 0) rfl))
  have q41 := fun t (kt : Go p e below T33 (mkF m 18 #[vR a1, vR a2, vI 0, vI 0, vN, vU] [(.ref a1)]) t) => q23 t (st24 t (st30 t (st33 t (by
    show Go _ _ _ _ (mkF m 17 #[vR a1, vR a2, vI 0, vI 0, vN, vU] []) _
    refine XS.aloadN X33.here hx rfl (hb hby d8_17) rfl rfl ?_
    exact kt))))
  obtain ⟨b42, T42, h42, k42, tb42, kb42, X42, e42, E42, hS42, hkk42, hZ, hown, lE42, lC42, lV42, lA42, la42, lb42, lR42, lL42, lS42, st42⟩ := ldcCH (vm0 := T24.vm) (EL := own_EL) X33 hx hZ hown (ox hw 38 rfl) hwS e33 hS24 hk39 hEW (by decide) R37.1 (vs := []) (z := (0 : Int32)) ⟨by decide, by decide⟩ (by decide) (by decide) (g := (mkF m 18 #[vR a1, vR a2, vI 0, vI 0, vN, vU] [(.ref a1)])) rfl (hb hby d8_18) (n := 0) (by decide) (by decide) (by decide) (by decide)
  have O43 := O36.ext E42
  have sf45 : Safe Z own_EL T42.vm h42 a1 := CHr.safe lR42 (f31.wr W33).lt sf38
  have R44 : CHr Z own_EL s.vm h0 T42.vm h42 := R37.trans lR42
  have K46 := K40.ext E42
  have Sr42 : Str Z h42 b42 tb42 ([] : List Int32) := ⟨_, _, _, _, lE42, lV42, lC42, lA42, own_cod (by decide) (by decide), by decide, by decide⟩
  have nl47 := lS42 a1 sf45
  obtain ⟨T48, X48, e48, st48⟩ := getF X42 hx hZ hown (host := "") (Or.inl (ox hw 28 rfl)) Via.refl e42 lC42 (g := (mkF m 20 #[vR a1, vR a2, vI 0, vI 0, vN, vU] [(.ref b42), (.ref a1)])) rfl rfl (hb hby d8_20)
  have f49 := ((f31.wr W33).ext E42)
  have f50 := (((G2.ext E24).other W33 (Or.inr (slot_ne (Or.inr (ox hw 29 rfl)) (Or.inr (ox hw 27 rfl)) (by decide) (t := .byte) (t' := (.array .byte)) (by decide) (by decide)))).ext E42)
  obtain ⟨T51, h51, X51, e51, W51, st51⟩ := putFN X48 hx hZ hown (ox hw 28 rfl) Via.refl e48 f50 f49 (Or.inr ⟨(ox hw 29 rfl), rfl, hnm⟩) (ox hw 14 rfl) (ty := .byte) (v' := (.int 0)) (by decide) rfl rfl (g := (mkF m 23 #[vR a1, vR a2, vI 0, vI 0, vN, vU] [(.int 0), (.ref a1)])) rfl rfl (hb hby d8_23)
  have f52 : Fld Z h51 a1 sk4 "coder" "B" (.int 0) := f50.same W51
  have N53 := Fr.snoc X51 N35 g_a1
  have O54 := O43.wr W51 g_a1
  have sf56 : Safe Z own_EL T42.vm h51 a1 := Safe.wr W51 sf45 R44.1 sf45
  have R55 : CHr Z own_EL s.vm h0 T42.vm h51 := R44.trans (CHr.wr W51 sf45 R44.1)
  have hk57 : _ ≤ h51.size := Nat.le_trans hkk42 (Keep.of_wr W51).1
  have K58 := K46.wr W51 (Or.inl (List.mem_of_getElem? (i := 0) rfl))
  have q59 := fun t (kt : Go p e below T51 (mkF m 26 #[vR a1, vR a2, vI 0, vI 0, vN, vU] []) t) => q41 t (st42 t (st48 t (st51 t kt)))
  obtain ⟨fs, hr, hrun, hended, hRE⟩ := X51.leaveW hS42 (by rw [e51]; exact hk57) (v := none) (fun _ => rfl)
  refine ⟨_, _, q59 _ ?_, hrun, hended, _, _, rfl, ?_, ?_, hRE.1, hRE.2.1, hRE.2.2.1, hRE.2.2.2.mono (by decide) (by decide)⟩
  · show Go p e below T51 (mkF m 26 #[vR a1, vR a2, vI 0, vI 0, vN, vU] []) _
    exact X51.returnOut hx Bd.returns (hb hby d8_26) hr
  · show Q_rm8 Z a1 a2 z_cs v_sf h0 n0 _ T51.heap _
    rw [e51]
    have f60 := ((f34.ext E42).other W51 (Or.inr (slot_ne (Or.inr (ox hw 27 rfl)) (Or.inr (ox hw 29 rfl)) (by decide) (t := (.array .byte)) (t' := .byte) (by decide) (by decide))))
    have f61 := (((lA24.other W33 (Ne.symm nl29.2)).ext E42).other W51 (Ne.symm nl29.2))
    exact ⟨tb24, kb24, rfl, N53, K58, f60, f52, f61⟩
  · show CHr Z own_EL s.vm s.heap T51.vm T51.heap
    rw [hh, e51]
    exact R55.trans (CHv.at X51 hZ hEW R55.1)
theorem ef_7_RR (m : MethodId) (x0 : Addr) (x1 : Addr) : entryFrame m #[(.ref x0), (.ref x1)] 2 = mkF m 0 #[.val (.ref x0), .val (.ref x1)] [] := by first | (simp [entryFrame, mkF, argsToLocals, Value.category]; done) | rfl
theorem pn_7 : plainName "java/lang/String" = true := by first | (simp [plainName, overriddenIn]; done) | decide +kernel
theorem d7_0 : decode jdk_42_method_3_code 0 = .ok (.aload_n 0, 1) := by decide +kernel
theorem d7_1 : decode jdk_42_method_3_code 1 = .ok (.aload_n 1, 1) := by decide +kernel
theorem d7_2 : decode jdk_42_method_3_code 2 = .ok (.iconst 0, 1) := by decide +kernel
theorem d7_3 : decode jdk_42_method_3_code 3 = .ok (.aload_n 1, 1) := by decide +kernel
theorem d7_4 : decode jdk_42_method_3_code 4 = .ok (.arraylength, 1) := by decide +kernel
theorem d7_5 : decode jdk_42_method_3_code 5 = .ok (.aconst_null, 1) := by decide +kernel
theorem d7_6 : decode jdk_42_method_3_code 6 = .ok (.invokespecial 27, 3) := by decide +kernel
theorem pd_17 : parseMethodDescriptor "([CIILjava/lang/Void;)V" = some ⟨[(.array .char), .int, .int, (.object "java/lang/Void")], none⟩ := by decide +kernel
theorem d7_9 : decode jdk_42_method_3_code 9 = .ok (.return_, 1) := by decide +kernel
def Q_rm7 (Z : State) (a1 : Addr) (a2 : Addr) (ka : ClassId) (z_cs : Int32) (v_sf : Value) (h0 : Heap) (n0 : Nat) (v : Option Value) (h : Heap) (L : List Loc) : Prop := ∃ (ta : Addr) (kt : ClassId), v = none ∧ Fr n0 L ∧ Keep h0 h [a1] ∧ Fld Z h a1 sk4 "value" "[B" (.ref ta) ∧ Fld Z h a1 sk4 "coder" "B" (.int 0) ∧ Arv Z h ta kt .byte (Int32.ofNat ([] : List Int32).length) (own_by []) (.int 0)
theorem rm7 (l : Launch) (Z : State) (a0 : Array Value) (hw : ∀ d ∈ tables_1, d.before a0 Z = true) (ws : List Jvm.Cond) {z_cs : Int32} {v_sf : Value} (cx : Cx Z z_cs v_sf) (a1 : Addr) (a2 : Addr) (ka : ClassId) (h0 : Heap) (n0 : Nat) (O0 : Old Z n0 h0) (G0 : Exa Z h0 a1 sk4) (G1 : Fld Z h0 a1 sk4 "value" "[B" .null) (G2 : Fld Z h0 a1 sk4 "coder" "B" (.int 0)) (V2 : Arv Z h0 a2 ka .char (0 : Int32) [] (.int 0)) (g_a1 : n0 ≤ a1) :
    MetFree l ym26 (head1 (Jvm.Cond.code ym26 jdk_42_method_3_code 2 none :: ws) (own_R 2 4 8 29)) (fun a U => a = #[(.ref a1), (.ref a2)] ∧ Z.Warmed39 U.vm ∧ U.heap = h0 ∧ CHv Z own_EL U.vm h0) (fun _ _ _ _ _ => True) (fun _ U o U' => ∃ v L, o = .returned v ∧ Q_rm7 Z a1 a2 ka z_cs v_sf h0 n0 v U'.heap L ∧ CHr Z own_EL U.vm U.heap U'.vm U'.heap ∧ ReturnedEndW U o U' L (own_R 2 4 8 29).cells (own_R 2 4 8 29).slots) := by
  refine MetFree.of_bodySF (plainFor_of_name pn_7) hisR ?_
  intro p e s m args below meth c s₁ Bd hml0 hP hK
  obtain ⟨rfl, hZ, hh, hCH⟩ := hP
  have hx := Bd.exec
  have hby := Bd.bytes
  have hml : c.maxLocals = 2 := hml0
  have hown : s.vm.findClass sk4 = some m.cls := findClass_of_methodNamed Bd.named
  have hnm := (name_of_methodNamed Bd.named Bd.method).1
  have hS0 : s.Since s.vm 0 := (State.WarmedH.refl s).since 0
  have hk0 : 0 ≤ h0.size := Nat.zero_le _
  have hwS : ∀ d ∈ Bundle.stringAtoms, d.before a0 Z = true := fun d hd => hw d ((by decide +kernel : ∀ d ∈ Bundle.stringAtoms, d ∈ tables_1) d hd)
  have X0 : Stand p l e (own_R 2 4 8 29) (s.setVm s.vm) m #[(.ref a1), (.ref a2)] below meth c s₁ [] 0 0 := Stand.of_body Bd
  have e0 : s₁.heap = h0 := by rw [← hh, Bd.state]; rfl
  have N0 := Fr.nil n0
  have R0 : CHr Z own_EL s.vm h0 s.vm h0 := CHr.refl hCH
  have hEW : EW Z a0 own_EL := own_EW hw
  have K0 : Keep h0 h0 [a1] := Keep.refl _ _
  have pre0 : ∀ t, Go p e below s₁ (mkF m 0 #[vR a1, vR a2] []) t → Go p e below s₁ (entryFrame m #[(.ref a1), (.ref a2)] 2) t := fun t k => castTop (ef_7_RR m a1 a2) k
  have sf_a1 : Safe Z own_EL s.vm h0 a1 := own_safe_null hZ.alike G1 G0
  have q22 := fun t (kt : Go p e below s₁ (mkF m 4 #[vR a1, vR a2] [(.ref a2), (.int 0), (.ref a2), (.ref a1)]) t) => pre0 t (by
    show Go _ _ _ _ (mkF m 0 #[vR a1, vR a2] []) _
    refine XS.aloadN X0.here hx rfl (hb hby d7_0) rfl rfl ?_
    show Go _ _ _ _ (mkF m 1 _ [(.ref a1)]) _
    refine XS.aloadN X0.here hx rfl (hb hby d7_1) rfl rfl ?_
    show Go _ _ _ _ (mkF m 2 _ [(.ref a2), (.ref a1)]) _
    refine XS.iconst X0.here hx rfl (hb hby d7_2) ?_
    show Go _ _ _ _ (mkF m 3 _ [(.int 0), (.ref a2), (.ref a1)]) _
    refine XS.aloadN X0.here hx rfl (hb hby d7_3) rfl rfl ?_
    exact kt)
  obtain ⟨c21, Ar21, -, S21, N21, -, -⟩ := id V2
  have q23 := fun t (kt : Go p e below s₁ (mkF m 6 #[vR a1, vR a2] [.null, (.int 0), (.int 0), (.ref a2), (.ref a1)]) t) => q22 t (by
    show Go _ _ _ _ (mkF m 4 #[vR a1, vR a2] [(.ref a2), (.int 0), (.ref a2), (.ref a1)]) _
    refine X0.arraylength hx (by rw [e0]; exact Ar21.1) (State.isArrayOf_alike hZ.alike Ar21.2.1) (g := (mkF m 4 #[vR a1, vR a2] [(.ref a2), (.int 0), (.ref a2), (.ref a1)])) rfl rfl (hb hby d7_4) _ ?_
    rw [len_of S21 N21]
    show Go _ _ _ _ (mkF m 5 _ [(.int 0), (.int 0), (.ref a2), (.ref a1)]) _
    refine XS.aconstNull X0.here hx rfl (hb hby d7_5) ?_
    exact kt)
  obtain ⟨_, _, ⟨T24, L24, k24, n24⟩, -, X24, hSn24, hgn24, ⟨_, hQ24, l24, y24, z24, cR24⟩, st24⟩ := X0.specialBackS hx (y := ym25) rfl hown (ow hZ hw 35 rfl) (ow hZ hw 36 rfl) (ow hZ hw 37 rfl) (by decide) (backOfSH (EL := own_EL) (vm0 := s.vm) (W := 0) (rm8 l Z a0 hw [] cx a1 a2 h0 n0 O0 G0 G1 G2 g_a1) hZ (ox hw 37 rfl) (ox hw 6 rfl) (by decide) (by decide) hEW R0.1) (g := (mkF m 6 #[vR a1, vR a2] [.null, (.int 0), (.int 0), (.ref a2), (.ref a1)])) rfl (by rw [hml]; rfl) (Steps.refl _) (a := a1) (argsL := [(.ref a2), (.int 0), (.int 0), .null]) (rest := []) (lenOf pd_17 rfl) rfl own_le0 (hb hby d7_6) (fun _ _ => ⟨rfl, e0, (by decide : 0 + 4 ≤ _), (by decide : 0 + 8 ≤ _)⟩)
  dsimp only [Pt.U, Pt.locs, Pt.cells, Pt.slots] at X24 l24 y24 z24 st24 hQ24 hSn24 hgn24 cR24
  subst l24 y24 z24
  have hS24 := foldS (vm0 := s.vm) hS0 (by rw [e0]; exact hk0) hSn24 hgn24
  have hZ : Z.Warmed39 (s.setVm T24.vm).vm := State.Warmed39.trans (t := s.setVm s.vm) hZ hSn24.1
  have hown : (s.setVm T24.vm).vm.findClass sk4 = some m.cls := by
    show T24.vm.findClass _ = _
    rw [hSn24.1.alike.findClass]; exact hown
  have X24 : Stand p l e (own_R 2 4 8 29) (s.setVm T24.vm) m #[(.ref a1), (.ref a2)] below meth c T24 _ _ _ := X24
  have hkk24 : T24.heap.size ≤ T24.heap.size := Nat.le_refl _
  obtain ⟨ta_24, kt_24, rfl, Nq24, Kq24, fq24_0, fq24_1, fq24_2⟩ := hQ24
  have N25 := Fr.app N0 Nq24
  have O26 := O0.keep Kq24 (allS g_a1 all0)
  have sf28 : Safe Z own_EL T24.vm T24.heap a1 := CHr.safe cR24 G0.lt sf_a1
  have R27 : CHr Z own_EL s.vm h0 T24.vm T24.heap := R0.trans cR24
  have K29 := K0.trans Kq24 (allS (Or.inl (List.mem_of_getElem? (i := 0) rfl)) all0)
  have q30 := fun t (kt : Go p e below T24 (mkF m 9 #[vR a1, vR a2] []) t) => q23 t (st24.trans kt)
  obtain ⟨fs, hr, hrun, hended, hRE⟩ := X24.leaveW hS24 hkk24 (v := none) (fun _ => rfl)
  refine ⟨_, _, q30 _ ?_, hrun, hended, _, _, rfl, ?_, ?_, hRE.1, hRE.2.1, hRE.2.2.1, hRE.2.2.2.mono (by decide) (by decide)⟩
  · show Go p e below T24 (mkF m 9 #[vR a1, vR a2] []) _
    exact X24.returnOut hx Bd.returns (hb hby d7_9) hr
  · show Q_rm7 Z a1 a2 ka z_cs v_sf h0 n0 _ T24.heap _
    exact ⟨ta_24, kt_24, rfl, N25, K29, fq24_0, fq24_1, fq24_2⟩
  · show CHr Z own_EL s.vm s.heap T24.vm T24.heap
    rw [hh]
    exact R27.trans (CHv.at X24 hZ hEW R27.1)
theorem ef_1_III (m : MethodId) (x0 : Int32) (x1 : Int32) (x2 : Int32) : entryFrame m #[(.int x0), (.int x1), (.int x2)] 4 = mkF m 0 #[.val (.int x0), .val (.int x1), .val (.int x2), .unset] [] := by first | (simp [entryFrame, mkF, argsToLocals, Value.category]; done) | rfl
theorem pn_1 : plainName "com/example/installwright/installwright/formats/MarkerToStringPinLaw" = true := by first | (simp [plainName, overriddenIn]; done) | decide +kernel
theorem d1_0 : decode method_3_code 0 = .ok (.iload_n 0, 1) := by decide +kernel
theorem d1_1 : decode method_3_code 1 = .ok (.ifCond .ne 14, 3) := by decide +kernel
theorem d1_4 : decode method_3_code 4 = .ok (.new 27, 3) := by decide +kernel
theorem d1_7 : decode method_3_code 7 = .ok (.dup, 1) := by decide +kernel
theorem d1_8 : decode method_3_code 8 = .ok (.iconst 0, 1) := by decide +kernel
theorem d1_9 : decode method_3_code 9 = .ok (.newarray .char, 2) := by decide +kernel
theorem d1_11 : decode method_3_code 11 = .ok (.invokespecial 36, 3) := by decide +kernel
theorem pd_18 : parseMethodDescriptor "([C)V" = some ⟨[(.array .char)], none⟩ := by decide +kernel
theorem d1_14 : decode method_3_code 14 = .ok (.areturn, 1) := by decide +kernel
theorem d1_15 : decode method_3_code 15 = .ok (.iload_n 0, 1) := by decide +kernel
theorem d1_16 : decode method_3_code 16 = .ok (.iconst 1, 1) := by decide +kernel
theorem d1_17 : decode method_3_code 17 = .ok (.if_icmp .ne 8, 3) := by decide +kernel
theorem d1_20 : decode method_3_code 20 = .ok (.iload_n 1, 1) := by decide +kernel
theorem d1_21 : decode method_3_code 21 = .ok (.invokestatic 39, 3) := by decide +kernel
theorem pd_19 : parseMethodDescriptor "(C)Ljava/lang/String;" = some ⟨[.char], some (.object "java/lang/String")⟩ := by decide +kernel
theorem d1_24 : decode method_3_code 24 = .ok (.areturn, 1) := by decide +kernel
theorem d1_25 : decode method_3_code 25 = .ok (.iconst 2, 1) := by decide +kernel
theorem d1_26 : decode method_3_code 26 = .ok (.newarray .char, 2) := by decide +kernel
theorem d1_28 : decode method_3_code 28 = .ok (.astore_n 3, 1) := by decide +kernel
theorem d1_29 : decode method_3_code 29 = .ok (.aload_n 3, 1) := by decide +kernel
theorem d1_30 : decode method_3_code 30 = .ok (.iconst 0, 1) := by decide +kernel
theorem d1_31 : decode method_3_code 31 = .ok (.iload_n 1, 1) := by decide +kernel
theorem d1_32 : decode method_3_code 32 = .ok (.castore, 1) := by decide +kernel
theorem d1_33 : decode method_3_code 33 = .ok (.aload_n 3, 1) := by decide +kernel
theorem d1_34 : decode method_3_code 34 = .ok (.iconst 1, 1) := by decide +kernel
theorem d1_35 : decode method_3_code 35 = .ok (.iload_n 2, 1) := by decide +kernel
theorem d1_36 : decode method_3_code 36 = .ok (.castore, 1) := by decide +kernel
theorem d1_37 : decode method_3_code 37 = .ok (.new 27, 3) := by decide +kernel
theorem d1_40 : decode method_3_code 40 = .ok (.dup, 1) := by decide +kernel
theorem d1_41 : decode method_3_code 41 = .ok (.aload_n 3, 1) := by decide +kernel
theorem d1_42 : decode method_3_code 42 = .ok (.invokespecial 36, 3) := by decide +kernel
theorem d1_45 : decode method_3_code 45 = .ok (.areturn, 1) := by decide +kernel
def Q_rm1 (Z : State) (p1 : Int32) (p2 : Int32) (p3 : Int32) (z_cs : Int32) (v_sf : Value) (h0 : Heap) (n0 : Nat) (v : Option Value) (h : Heap) (L : List Loc) : Prop := ∃ (x : Addr) (ta : Addr) (kt : ClassId), v = some (.ref x) ∧ Fr n0 L ∧ Keep h0 h [] ∧ h0.size ≤ x ∧ Exa Z h x sk4 ∧ Fld Z h x sk4 "value" "[B" (.ref ta) ∧ Fld Z h x sk4 "coder" "B" (.int 0) ∧ Arv Z h ta kt .byte (Int32.ofNat (own_cs p1 p2 p3).length) (own_by (own_cs p1 p2 p3)) (.int 0)
theorem rm1 (l : Launch) (Z : State) (a0 : Array Value) (hw : ∀ d ∈ tables_1, d.before a0 Z = true) (ws : List Jvm.Cond) {z_cs : Int32} {v_sf : Value} (cx : Cx Z z_cs v_sf) (p1 : Int32) (p2 : Int32) (p3 : Int32) (h0 : Heap) (n0 : Nat) (O0 : Old Z n0 h0) (hp : ¬ ((255 : Int32) < p2)) (h2 : ¬ p2 < 0 ∧ ¬ (255 : Int32) < p2) (h3 : ¬ p3 < 0 ∧ ¬ (255 : Int32) < p3) :
    MetFree l ym27 (head1 (Jvm.Cond.code ym27 method_3_code 4 (some (.object sk4)) :: ws) (own_R 4 6 12 66)) (fun a U => a = #[(.int p1), (.int p2), (.int p3)] ∧ Z.Warmed39 U.vm ∧ U.heap = h0 ∧ CHv Z own_EL U.vm h0) (fun _ _ _ _ _ => True) (fun _ U o U' => ∃ v L, o = .returned v ∧ Q_rm1 Z p1 p2 p3 z_cs v_sf h0 n0 v U'.heap L ∧ CHr Z own_EL U.vm U.heap U'.vm U'.heap ∧ ReturnedEndW U o U' L (own_R 4 6 12 66).cells (own_R 4 6 12 66).slots) := by
  refine MetFree.of_bodySF (plainFor_of_name pn_1) hisR ?_
  intro p e s m args below meth c s₁ Bd hml0 hP hK
  obtain ⟨rfl, hZ, hh, hCH⟩ := hP
  have hx := Bd.exec
  have hby := Bd.bytes
  have hml : c.maxLocals = 4 := hml0
  have hown : s.vm.findClass sk2 = some m.cls := findClass_of_methodNamed Bd.named
  have hnm := (name_of_methodNamed Bd.named Bd.method).1
  have hS0 : s.Since s.vm 0 := (State.WarmedH.refl s).since 0
  have hk0 : 0 ≤ h0.size := Nat.zero_le _
  have hwS : ∀ d ∈ Bundle.stringAtoms, d.before a0 Z = true := fun d hd => hw d ((by decide +kernel : ∀ d ∈ Bundle.stringAtoms, d ∈ tables_1) d hd)
  have X0 : Stand p l e (own_R 4 6 12 66) (s.setVm s.vm) m #[(.int p1), (.int p2), (.int p3)] below meth c s₁ [] 0 0 := Stand.of_body Bd
  have e0 : s₁.heap = h0 := by rw [← hh, Bd.state]; rfl
  have N0 := Fr.nil n0
  have R0 : CHr Z own_EL s.vm h0 s.vm h0 := CHr.refl hCH
  have hEW : EW Z a0 own_EL := own_EW hw
  have K0 : Keep h0 h0 [] := Keep.refl _ _
  have pre0 : ∀ t, Go p e below s₁ (mkF m 0 #[vI p1, vI p2, vI p3, vU] []) t → Go p e below s₁ (entryFrame m #[(.int p1), (.int p2), (.int p3)] 4) t := fun t k => castTop (ef_1_III m p1 p2 p3) k
  have q21 := fun t (kt : Go p e below s₁ (mkF m 1 #[vI p1, vI p2, vI p3, vU] [(.int p1)]) t) => pre0 t (by
    show Go _ _ _ _ (mkF m 0 #[vI p1, vI p2, vI p3, vU] []) _
    refine XS.iloadN X0.here hx rfl (hb hby d1_0) rfl ?_
    exact kt)
  by_cases hc22 : p1 = (0 : Int32)
  · have q23 := fun t (kt : Go p e below s₁ (mkF m 4 #[vI p1, vI p2, vI p3, vU] []) t) => q21 t (by
      show Go _ _ _ _ (mkF m 1 #[vI p1, vI p2, vI p3, vU] [(.int p1)]) _
      refine XS.ifNo X0.here hx rfl (hb hby d1_1) rfl ((if0 _ _).trans (teq hc22).2) ?_
      exact kt)
    obtain ⟨T24, h24, X24, e24, E24, A24, D24, U24, st24⟩ := newO X0 hx hZ hown (ox hw 30 rfl) (ox hw 14 rfl) (ox hw 6 rfl) e0 (g := (mkF m 4 #[vI p1, vI p2, vI p3, vU] [])) rfl (hb hby d1_4) (by decide) (by decide)
    obtain ⟨b24, g24⟩ : ∃ z, z = h0.size := ⟨_, rfl⟩
    rw [← g24] at A24 D24 st24
    have gg25 : n0 ≤ b24 := Nat.le_trans (O0.1 ▸ O0.2.1) (Nat.le_of_eq g24.symm)
    have sz26 : h0.size ≤ b24 := Nat.le_trans K0.1 (Nat.le_of_eq g24.symm)
    have sf27 : Safe Z own_EL s.vm h0 b24 := Safe.new (Nat.le_of_eq g24.symm)
    have O28 := O0.ext E24
    have sf30 : Safe Z own_EL s.vm h24 b24 := Safe.ext E24 R0.1 sf27
    have R29 : CHr Z own_EL s.vm h0 s.vm h24 := R0.trans (CHr.ext E24 R0.1)
    have hk31 : _ ≤ h24.size := Nat.le_trans hk0 E24.1
    have K32 := K0.ext E24
    have F24_value : Fld Z h24 b24 sk4 "value" "[B" .null := D24 (Or.inr (ox hw 27 rfl)) (ty := (.array .byte)) (by decide)
    have F24_coder : Fld Z h24 b24 sk4 "coder" "B" (.int 0) := D24 (Or.inr (ox hw 29 rfl)) (ty := .byte) (by decide)
    have q33 := fun t (kt : Go p e below T24 (mkF m 9 #[vI p1, vI p2, vI p3, vU] [(.int 0), (.ref b24), (.ref b24)]) t) => q23 t (st24 t (by
      show Go _ _ _ _ (mkF m 7 #[vI p1, vI p2, vI p3, vU] [(.ref b24)]) _
      refine XS.dup X24.here hx rfl (hb hby d1_7) rfl rfl ?_
      show Go _ _ _ _ (mkF m 8 _ [(.ref b24), (.ref b24)]) _
      refine XS.iconst X24.here hx rfl (hb hby d1_8) ?_
      exact kt))
    obtain ⟨T34, h34, k34, X34, e34, E34, A34, st34⟩ := newP X24 hx hZ (ox hw 31 rfl) e24 (g := (mkF m 9 #[vI p1, vI p2, vI p3, vU] [(.int 0), (.ref b24), (.ref b24)])) rfl (hb hby d1_9) rfl (by decide) (cap := 0) (by decide) (by decide) (by decide) (by decide)
    obtain ⟨b34, g34⟩ : ∃ z, z = h24.size := ⟨_, rfl⟩
    rw [← g34] at A34 st34
    have gg35 : n0 ≤ b34 := Nat.le_trans (O28.1 ▸ O28.2.1) (Nat.le_of_eq g34.symm)
    have sz36 : h0.size ≤ b34 := Nat.le_trans K32.1 (Nat.le_of_eq g34.symm)
    have O37 := O28.ext E34
    have sf39 : Safe Z own_EL s.vm h34 b24 := Safe.ext E34 R29.1 sf30
    have R38 : CHr Z own_EL s.vm h0 s.vm h34 := R29.trans (CHr.ext E34 R29.1)
    have hk40 : _ ≤ h34.size := Nat.le_trans hk31 E34.1
    have K41 := K32.ext E34
    have V34 : Arv Z h34 b34 k34 .char (0 : Int32) [] (.int 0) := (Arv.new A34 (by decide))
    have f42 := (A24.ext E34)
    have f43 := (F24_value.ext E34)
    have f44 := (F24_coder.ext E34)
    obtain ⟨_, _, ⟨T45, L45, k45, n45⟩, -, X45, hSn45, hgn45, ⟨_, hQ45, l45, y45, z45, cR45⟩, st45⟩ := X34.specialBackS hx (y := ym26) rfl hown (ow hZ hw 32 rfl) (ow hZ hw 33 rfl) (ow hZ hw 34 rfl) (by decide) (backOfSH (EL := own_EL) (vm0 := s.vm) (W := 1) (rm7 l Z a0 hw [] cx b24 b34 k34 h34 n0 O37 f42 f43 f44 V34 gg25) hZ (ox hw 34 rfl) (ox hw 6 rfl) (by decide) (by decide) hEW R38.1) (g := (mkF m 11 #[vI p1, vI p2, vI p3, vU] [(.ref b34), (.ref b24), (.ref b24)])) rfl (by rw [hml]; rfl) (Steps.refl _) (a := b24) (argsL := [(.ref b34)]) (rest := [(.ref b24)]) (lenOf pd_18 rfl) rfl own_le0 (hb hby d1_11) (fun _ _ => ⟨rfl, e34, (by decide : 2 + 4 ≤ _), (by decide : 4 + 8 ≤ _)⟩)
    dsimp only [Pt.U, Pt.locs, Pt.cells, Pt.slots] at X45 l45 y45 z45 st45 hQ45 hSn45 hgn45 cR45
    subst l45 y45 z45
    have hS45 := foldS (vm0 := s.vm) hS0 (by rw [e34]; exact hk40) hSn45 hgn45
    have hZ : Z.Warmed39 (s.setVm T45.vm).vm := State.Warmed39.trans (t := s.setVm s.vm) hZ hSn45.1
    have hown : (s.setVm T45.vm).vm.findClass sk2 = some m.cls := by
      show T45.vm.findClass _ = _
      rw [hSn45.1.alike.findClass]; exact hown
    have X45 : Stand p l e (own_R 4 6 12 66) (s.setVm T45.vm) m #[(.int p1), (.int p2), (.int p3)] below meth c T45 _ _ _ := X45
    have hkk45 : T45.heap.size ≤ T45.heap.size := Nat.le_refl _
    obtain ⟨ta_45, kt_45, rfl, Nq45, Kq45, fq45_0, fq45_1, fq45_2⟩ := hQ45
    have N46 := Fr.app N0 Nq45
    have O47 := O37.keep Kq45 (allS gg25 all0)
    have sf49 : Safe Z own_EL T45.vm T45.heap b24 := CHr.safe cR45 f42.lt sf39
    have R48 : CHr Z own_EL s.vm h0 T45.vm T45.heap := R38.trans cR45
    have K50 := K41.trans Kq45 (allS (Or.inr sz26) all0)
    have q51 := fun t (kt : Go p e below T45 (mkF m 14 #[vI p1, vI p2, vI p3, vU] [(.ref b24)]) t) => q33 t (st34 t (st45.trans kt))
    obtain ⟨fs, hr, hrun, hended, hRE⟩ := X45.leaveW hS45 hkk45 (v := some (.ref b24)) (fun h => by rw [Bd.returns] at h; cases h)
    refine ⟨_, _, q51 _ ?_, hrun, hended, _, _, rfl, ?_, ?_, hRE.1, hRE.2.1, hRE.2.2.1, hRE.2.2.2.mono (by decide) (by decide)⟩
    · show Go p e below T45 (mkF m 14 #[vI p1, vI p2, vI p3, vU] [(.ref b24)]) _
      jvm_step X45.here [X45.here.top, hx, (hb hby d1_14), X45.method', Bd.returns, Value.isRef, FieldType.isReference]
      first | (intro acts; rw [hr _ acts rfl rfl rfl]) | rw [hr _ _ rfl rfl rfl]
      exact Steps.refl _
    · show Q_rm1 Z p1 p2 p3 z_cs v_sf h0 n0 _ T45.heap _
      have f52 := (f42.keep Kq45)
      exact ⟨b24, ta_45, kt_45, rfl, N46, K50, sz26, f52, fq45_0, fq45_1, (by rw [show own_cs p1 p2 p3 = ([] : List Int32) from by simp [own_cs, hc22]]; exact fq45_2)⟩
    · show CHr Z own_EL s.vm s.heap T45.vm T45.heap
      rw [hh]
      exact R48.trans (CHv.at X45 hZ hEW R48.1)
  · have q53 := fun t (kt : Go p e below s₁ (mkF m 17 #[vI p1, vI p2, vI p3, vU] [(.int 1), (.int p1)]) t) => q21 t (by
      show Go _ _ _ _ (mkF m 1 #[vI p1, vI p2, vI p3, vU] [(.int p1)]) _
      refine XS.ifYes X0.here hx rfl (pc0 := 1) (pc' := 15) rfl (hb hby d1_1) rfl ((if0 _ _).trans (feq hc22).2) (by decide) (by decide) ?_
      show Go _ _ _ _ (mkF m 15 _ []) _
      refine XS.iloadN X0.here hx rfl (hb hby d1_15) rfl ?_
      show Go _ _ _ _ (mkF m 16 _ [(.int p1)]) _
      refine XS.iconst X0.here hx rfl (hb hby d1_16) ?_
      exact kt)
    by_cases hc54 : p1 = (1 : Int32)
    · have q55 := fun t (kt : Go p e below s₁ (mkF m 21 #[vI p1, vI p2, vI p3, vU] [(.int p2)]) t) => q53 t (by
        show Go _ _ _ _ (mkF m 17 #[vI p1, vI p2, vI p3, vU] [(.int 1), (.int p1)]) _
        refine XS.icmpNo X0.here hx rfl (hb hby d1_17) rfl (teq hc54).2 ?_
        show Go _ _ _ _ (mkF m 20 _ []) _
        refine XS.iloadN X0.here hx rfl (hb hby d1_20) rfl ?_
        exact kt)
      obtain ⟨_, _, ⟨T56, L56, k56, n56⟩, -, X56, ⟨_, hQ56, l56, y56, z56⟩, st56⟩ := Jvm.LawKit.callS X0 hx (y := ym24) hown (ow hZ hw 4 rfl) (ow hZ hw 5 rfl) (ow hZ hw 6 rfl) (ow hZ hw 7 rfl) (by decide) (backOf (W := 0) (rm2 l Z a0 hw [] cx p2 h0 n0 O0 hp) hZ (ox hw 7 rfl) (ox hw 6 rfl) (by decide) (by decide)) (g := (mkF m 21 #[vI p1, vI p2, vI p3, vU] [(.int p2)])) rfl (by rw [hml]; rfl) (argsL := [(.int p2)]) (rest := []) (lenOf pd_19 rfl) rfl own_le0 (hb hby d1_21) (fun _ _ => ⟨rfl, e0, (by decide : 0 + 2 ≤ _), (by decide : 0 + 5 ≤ _)⟩)
      dsimp only [Pt.U, Pt.locs, Pt.cells, Pt.slots] at X56 l56 y56 z56 st56 hQ56
      subst l56 y56 z56
      obtain ⟨x_56, ta_56, kt_56, rfl, Nq56, Kq56, fr56_0, fr56_1, fq56_0, fq56_1, fq56_2, fq56_3⟩ := hQ56
      have N57 := Fr.app N0 Nq56
      have gg58 : n0 ≤ x_56 := Nat.le_trans (O0.1 ▸ O0.2.1) fr56_0
      have sz59 : h0.size ≤ x_56 := Nat.le_trans K0.1 fr56_0
      have gg60 : n0 ≤ ta_56 := Nat.le_trans (O0.1 ▸ O0.2.1) fr56_1
      have sz61 : h0.size ≤ ta_56 := Nat.le_trans K0.1 fr56_1
      have O62 := O0.keep Kq56 all0
      have R63 : CHr Z own_EL s.vm h0 s.vm T56.heap := R0.trans (CHr.keep Kq56 sf0 R0.1)
      have hk64 : _ ≤ T56.heap.size := Nat.le_trans hk0 Kq56.1
      have K65 := K0.trans Kq56 all0
      have q66 := fun t (kt : Go p e below T56 (mkF m 24 #[vI p1, vI p2, vI p3, vU] [(.ref x_56)]) t) => q55 t (st56 t kt)
      obtain ⟨fs, hr, hrun, hended, hRE⟩ := X56.leaveW hS0 hk64 (v := some (.ref x_56)) (fun h => by rw [Bd.returns] at h; cases h)
      refine ⟨_, _, q66 _ ?_, hrun, hended, _, _, rfl, ?_, ?_, hRE.1, hRE.2.1, hRE.2.2.1, hRE.2.2.2.mono (by decide) (by decide)⟩
      · show Go p e below T56 (mkF m 24 #[vI p1, vI p2, vI p3, vU] [(.ref x_56)]) _
        jvm_step X56.here [X56.here.top, hx, (hb hby d1_24), X56.method', Bd.returns, Value.isRef, FieldType.isReference]
        first | (intro acts; rw [hr _ acts rfl rfl rfl]) | rw [hr _ _ rfl rfl rfl]
        exact Steps.refl _
      · show Q_rm1 Z p1 p2 p3 z_cs v_sf h0 n0 _ T56.heap _
        exact ⟨x_56, ta_56, kt_56, rfl, N57, K65, sz59, fq56_0, fq56_1, fq56_2, (by rw [show own_cs p1 p2 p3 = [p2] from by simp [own_cs, hc22, hc54]]; exact fq56_3)⟩
      · show CHr Z own_EL s.vm s.heap T56.vm T56.heap
        rw [hh]
        exact R63.trans (CHv.at X56 hZ hEW R63.1)
    · have q67 := fun t (kt : Go p e below s₁ (mkF m 26 #[vI p1, vI p2, vI p3, vU] [(.int 2)]) t) => q53 t (by
        show Go _ _ _ _ (mkF m 17 #[vI p1, vI p2, vI p3, vU] [(.int 1), (.int p1)]) _
        refine XS.icmpYes X0.here hx rfl (pc0 := 17) (pc' := 25) rfl (hb hby d1_17) rfl (feq hc54).2 (by decide) (by decide) ?_
        show Go _ _ _ _ (mkF m 25 _ []) _
        refine XS.iconst X0.here hx rfl (hb hby d1_25) ?_
        exact kt)
      obtain ⟨T68, h68, k68, X68, e68, E68, A68, st68⟩ := newP X0 hx hZ (ox hw 31 rfl) e0 (g := (mkF m 26 #[vI p1, vI p2, vI p3, vU] [(.int 2)])) rfl (hb hby d1_26) rfl (by decide) (cap := 2) (by decide) (by decide) (by decide) (by decide)
      obtain ⟨b68, g68⟩ : ∃ z, z = h0.size := ⟨_, rfl⟩
      rw [← g68] at A68 st68
      have gg69 : n0 ≤ b68 := Nat.le_trans (O0.1 ▸ O0.2.1) (Nat.le_of_eq g68.symm)
      have sz70 : h0.size ≤ b68 := Nat.le_trans K0.1 (Nat.le_of_eq g68.symm)
      have O71 := O0.ext E68
      have R72 : CHr Z own_EL s.vm h0 s.vm h68 := R0.trans (CHr.ext E68 R0.1)
      have hk73 : _ ≤ h68.size := Nat.le_trans hk0 E68.1
      have K74 := K0.ext E68
      have V68 : Arv Z h68 b68 k68 .char (2 : Int32) [(.int 0), (.int 0)] (.int 0) := (Arv.new A68 (by decide)).pad (pad_rep [] (.int 0) 2)
      have q76 := fun t (kt : Go p e below T68 (mkF m 32 #[vI p1, vI p2, vI p3, vR b68] [(.int p2), (.int 0), (.ref b68)]) t) => q67 t (st68 t (by
        show Go _ _ _ _ (mkF m 28 #[vI p1, vI p2, vI p3, vU] [(.ref b68)]) _
        refine XS.astoreN X68.here hx rfl (hb hby d1_28) rfl rfl (l' := #[vI p1, vI p2, vI p3, vR b68]) rfl ?_
        show Go _ _ _ _ (mkF m 29 #[vI p1, vI p2, vI p3, vR b68] []) _
        refine XS.aloadN X68.here hx rfl (hb hby d1_29) rfl rfl ?_
        show Go _ _ _ _ (mkF m 30 _ [(.ref b68)]) _
        refine XS.iconst X68.here hx rfl (hb hby d1_30) ?_
        show Go _ _ _ _ (mkF m 31 _ [(.int 0), (.ref b68)]) _
        refine XS.iloadN X68.here hx rfl (hb hby d1_31) rfl ?_
        exact kt))
      obtain ⟨c75, Ar75, q75, S75, N75, H75, G75⟩ := id V68
      have hi75 : ¬ ((0 : Int32) < 0 ∨ c75.slots.size ≤ ((0 : Int32)).toNatClampNeg) := inb_of S75 ⟨by decide, by decide⟩
      obtain ⟨T77, h77, X77, e77, W77, st77⟩ := stC X68 hx hZ e68 Ar75 (j := (0 : Int32)) hi75 (g := (mkF m 32 #[vI p1, vI p2, vI p3, vR b68] [(.int p2), (.int 0), (.ref b68)])) rfl rfl (hb hby d1_32)
      have V77 : Arv Z h77 b68 k68 .char (2 : Int32) [(.int p2), (.int 0)] (.int 0) := by
        have vv := Arv.set Ar75 q75 S75 N75 H75 G75 (fits_nar_char _) W77 0 rfl (Nat.le_of_ble_eq_true rfl)
        rw [show nar .char p2 = p2 from (own_narc h2)] at vv
        exact vv
      have N78 := Fr.snoc X77 N0 gg69
      have O79 := O71.wr W77 gg69
      have R80 : CHr Z own_EL s.vm h0 s.vm h77 := R72.trans (CHr.wr W77 (Safe.arv hZ.alike V68 (by decide)) R72.1)
      have hk81 : _ ≤ h77.size := Nat.le_trans hk73 (Keep.of_wr W77).1
      have K82 := K74.wr W77 (Or.inr sz70)
      have q84 := fun t (kt : Go p e below T77 (mkF m 36 #[vI p1, vI p2, vI p3, vR b68] [(.int p3), (.int 1), (.ref b68)]) t) => q76 t (st77 t (by
        show Go _ _ _ _ (mkF m 33 #[vI p1, vI p2, vI p3, vR b68] []) _
        refine XS.aloadN X77.here hx rfl (hb hby d1_33) rfl rfl ?_
        show Go _ _ _ _ (mkF m 34 _ [(.ref b68)]) _
        refine XS.iconst X77.here hx rfl (hb hby d1_34) ?_
        show Go _ _ _ _ (mkF m 35 _ [(.int 1), (.ref b68)]) _
        refine XS.iloadN X77.here hx rfl (hb hby d1_35) rfl ?_
        exact kt))
      obtain ⟨c83, Ar83, q83, S83, N83, H83, G83⟩ := id V77
      have hi83 : ¬ ((1 : Int32) < 0 ∨ c83.slots.size ≤ ((1 : Int32)).toNatClampNeg) := inb_of S83 ⟨by decide, by decide⟩
      obtain ⟨T85, h85, X85, e85, W85, st85⟩ := stC X77 hx hZ e77 Ar83 (j := (1 : Int32)) hi83 (g := (mkF m 36 #[vI p1, vI p2, vI p3, vR b68] [(.int p3), (.int 1), (.ref b68)])) rfl rfl (hb hby d1_36)
      have V85 : Arv Z h85 b68 k68 .char (2 : Int32) [(.int p2), (.int p3)] (.int 0) := by
        have vv := Arv.set Ar83 q83 S83 N83 H83 G83 (fits_nar_char _) W85 1 rfl (Nat.le_of_ble_eq_true rfl)
        rw [show nar .char p3 = p3 from (own_narc h3)] at vv
        exact vv
      have N86 := Fr.snoc X85 N78 gg69
      have O87 := O79.wr W85 gg69
      have R88 : CHr Z own_EL s.vm h0 s.vm h85 := R80.trans (CHr.wr W85 (Safe.arv hZ.alike V77 (by decide)) R80.1)
      have hk89 : _ ≤ h85.size := Nat.le_trans hk81 (Keep.of_wr W85).1
      have K90 := K82.wr W85 (Or.inr sz70)
      obtain ⟨T91, h91, X91, e91, E91, A91, D91, U91, st91⟩ := newO X85 hx hZ hown (ox hw 30 rfl) (ox hw 14 rfl) (ox hw 6 rfl) e85 (g := (mkF m 37 #[vI p1, vI p2, vI p3, vR b68] [])) rfl (hb hby d1_37) (by decide) (by decide)
      obtain ⟨b91, g91⟩ : ∃ z, z = h85.size := ⟨_, rfl⟩
      rw [← g91] at A91 D91 st91
      have gg92 : n0 ≤ b91 := Nat.le_trans (O87.1 ▸ O87.2.1) (Nat.le_of_eq g91.symm)
      have sz93 : h0.size ≤ b91 := Nat.le_trans K90.1 (Nat.le_of_eq g91.symm)
      have sf94 : Safe Z own_EL s.vm h85 b91 := Safe.new (Nat.le_of_eq g91.symm)
      have O95 := O87.ext E91
      have sf97 : Safe Z own_EL s.vm h91 b91 := Safe.ext E91 R88.1 sf94
      have R96 : CHr Z own_EL s.vm h0 s.vm h91 := R88.trans (CHr.ext E91 R88.1)
      have hk98 : _ ≤ h91.size := Nat.le_trans hk89 E91.1
      have K99 := K90.ext E91
      have F91_value : Fld Z h91 b91 sk4 "value" "[B" .null := D91 (Or.inr (ox hw 27 rfl)) (ty := (.array .byte)) (by decide)
      have F91_coder : Fld Z h91 b91 sk4 "coder" "B" (.int 0) := D91 (Or.inr (ox hw 29 rfl)) (ty := .byte) (by decide)
      have q100 := fun t (kt : Go p e below T91 (mkF m 42 #[vI p1, vI p2, vI p3, vR b68] [(.ref b68), (.ref b91), (.ref b91)]) t) => q84 t (st85 t (st91 t (by
        show Go _ _ _ _ (mkF m 40 #[vI p1, vI p2, vI p3, vR b68] [(.ref b91)]) _
        refine XS.dup X91.here hx rfl (hb hby d1_40) rfl rfl ?_
        show Go _ _ _ _ (mkF m 41 _ [(.ref b91), (.ref b91)]) _
        refine XS.aloadN X91.here hx rfl (hb hby d1_41) rfl rfl ?_
        exact kt)))
      have f101 := (V85.ext E91)
      have hws102 : ∀ d ∈ StrChars.Road.words, d.before a0 Z = true := fun d hd => hw d ((by decide +kernel : ∀ d ∈ StrChars.Road.words, d ∈ tables_1) d hd)
      have hlt102 : ∀ c ∈ ([p2, p3] : List Int32), ¬ c < 0 ∧ ¬ (255 : Int32) < c := by
        intro c hc
        simp only [List.mem_cons, List.not_mem_nil, or_false] at hc
        rcases hc with rfl | rfl
        · exact h2
        · exact h3
      obtain ⟨_, _, ⟨T103, L103, k103, n103⟩, -, X103, ⟨_, hQ103, l103, y103, z103⟩, st103⟩ := X91.specialBack hx (y := ym26) rfl hown (ow hZ hw 32 rfl) (ow hZ hw 33 rfl) (ow hZ hw 34 rfl) (by decide) (StrChars.Road.backV (W := 1) hZ hws102 (kI := 4) (ox hw 14 rfl) (cs := [p2, p3]) (bs := (([p2, p3] : List Int32).map (fun c => c.toInt8.toInt32))) (n := 2) gg92 (O95.1 ▸ O95.2.1) A91 F91_value F91_coder f101 (cx.1.ext O95.2) cx.2.1 rfl rfl (by decide) (by decide) hlt102 rfl (by decide) (by decide)) (g := (mkF m 42 #[vI p1, vI p2, vI p3, vR b68] [(.ref b68), (.ref b91), (.ref b91)])) rfl (by rw [hml]; rfl) (Steps.refl _) (a := b91) (argsL := [(.ref b68)]) (rest := [(.ref b91)]) (lenOf pd_18 rfl) rfl own_le0 (hb hby d1_42) (fun _ _ => ⟨rfl, e91, (by decide : 2 + 1 ≤ _), (by decide : 6 + 2 ≤ _)⟩)
      dsimp only [Pt.U, Pt.locs, Pt.cells, Pt.slots] at X103 l103 y103 z103 st103 hQ103
      subst l103 y103 z103
      obtain ⟨rfl, Nq103, Kq103, Ex103, Co103, t103, kt103, gt103, ht103, nt103, Va103, Vb103⟩ := hQ103
      have N104 := Fr.app N86 Nq103
      have gg105 : n0 ≤ t103 := Nat.le_trans (O95.1 ▸ O95.2.1) ht103
      have sz106 : h0.size ≤ t103 := Nat.le_trans K99.1 ht103
      have O107 := O95.keep Kq103 (allS gg92 all0)
      have sf109 : Safe Z own_EL s.vm T103.heap b91 := Safe.keep Kq103 (sfS sf97 sf0) R96.1 sf97
      have R108 : CHr Z own_EL s.vm h0 s.vm T103.heap := R96.trans (CHr.keep Kq103 (sfS sf97 sf0) R96.1)
      have hk110 : _ ≤ T103.heap.size := Nat.le_trans hk98 Kq103.1
      have K111 := K99.trans Kq103 (allS (Or.inr sz93) all0)
      have Sr103 : Str Z T103.heap b91 t103 [p2, p3] := ⟨_, _, _, _, Ex103, Va103, Co103, Vb103, StrChars.Road.codOf (n := 2) rfl (fun c hc => (hlt102 c hc).2), own_up _ hlt102, Nat.le_of_ble_eq_true rfl⟩
      have Vo112 : Arv Z T103.heap t103 kt103 .byte (Int32.ofNat [p2, p3].length) (own_by [p2, p3]) (.int 0) := Vb103
      have q113 := fun t (kt : Go p e below T103 (mkF m 45 #[vI p1, vI p2, vI p3, vR b68] [(.ref b91)]) t) => q100 t (st103.trans kt)
      obtain ⟨fs, hr, hrun, hended, hRE⟩ := X103.leaveW hS0 hk110 (v := some (.ref b91)) (fun h => by rw [Bd.returns] at h; cases h)
      refine ⟨_, _, q113 _ ?_, hrun, hended, _, _, rfl, ?_, ?_, hRE.1, hRE.2.1, hRE.2.2.1, hRE.2.2.2.mono (by decide) (by decide)⟩
      · show Go p e below T103 (mkF m 45 #[vI p1, vI p2, vI p3, vR b68] [(.ref b91)]) _
        jvm_step X103.here [X103.here.top, hx, (hb hby d1_45), X103.method', Bd.returns, Value.isRef, FieldType.isReference]
        first | (intro acts; rw [hr _ acts rfl rfl rfl]) | rw [hr _ _ rfl rfl rfl]
        exact Steps.refl _
      · show Q_rm1 Z p1 p2 p3 z_cs v_sf h0 n0 _ T103.heap _
        exact ⟨b91, t103, kt103, rfl, N104, K111, sz93, Ex103, Va103, Co103, (by rw [show own_cs p1 p2 p3 = [p2, p3] from by simp [own_cs, hc22, hc54]]; exact Vo112)⟩
      · show CHr Z own_EL s.vm s.heap T103.vm T103.heap
        rw [hh]
        exact R108.trans (CHv.at X103 hZ hEW R108.1)
theorem ef_10_R (m : MethodId) (x0 : Addr) : entryFrame m #[(.ref x0)] 1 = mkF m 0 #[.val (.ref x0)] [] := by first | (simp [entryFrame, mkF, argsToLocals, Value.category]; done) | rfl
theorem pn_10 : plainName "java/lang/Record" = true := by first | (simp [plainName, overriddenIn]; done) | decide +kernel
theorem d10_0 : decode jdk_30_method_1_code 0 = .ok (.aload_n 0, 1) := by decide +kernel
theorem d10_1 : decode jdk_30_method_1_code 1 = .ok (.invokespecial 1, 3) := by decide +kernel
theorem d10_4 : decode jdk_30_method_1_code 4 = .ok (.return_, 1) := by decide +kernel
def Q_rm10 (Z : State) (a1 : Addr) (z_cs : Int32) (v_sf : Value) (h0 : Heap) (n0 : Nat) (v : Option Value) (h : Heap) (L : List Loc) : Prop := v = none ∧ Fr n0 L ∧ h = h0
theorem rm10 (l : Launch) (Z : State) (a0 : Array Value) (hw : ∀ d ∈ tables_1, d.before a0 Z = true) (ws : List Jvm.Cond) {z_cs : Int32} {v_sf : Value} (cx : Cx Z z_cs v_sf) (a1 : Addr) (h0 : Heap) (n0 : Nat) (O0 : Old Z n0 h0) :
    OwnMet l ym28 (Jvm.Cond.code ym28 jdk_30_method_1_code 1 none :: ws) (own_R 1 0 0 12) #[(.ref a1)] Z h0 (Q_rm10 Z a1 z_cs v_sf h0 n0) := by
  refine own_body (plainFor_of_name pn_10) hisR fun p e s m below meth c s₁ hx hby hml hown hnm hret hZ X0 e0 => ?_
  have N0 := Fr.nil n0
  have pre0 : ∀ t, Go p e below s₁ (mkF m 0 #[vR a1] []) t → Go p e below s₁ (entryFrame m #[(.ref a1)] 1) t := fun t k => castTop (ef_10_R m a1) k
  have q21 := fun t (kt : Go p e below s₁ (mkF m 1 #[vR a1] [(.ref a1)]) t) => pre0 t (by
    show Go _ _ _ _ (mkF m 0 #[vR a1] []) _
    refine XS.aloadN X0.here hx rfl (hb hby d10_0) rfl rfl ?_
    exact kt)
  obtain ⟨T22, X22, e22, st22⟩ := initO X0 hx hZ hown (ox hw 52 rfl) (ox hw 24 rfl) (ox hw 25 rfl) e0 (g := (mkF m 1 #[vR a1] [(.ref a1)])) rfl (by rw [hml]; rfl) rfl (hb hby d10_1) (by decide) (W := 0) own_le0 (by decide)
  have q23 := fun t (kt : Go p e below T22 (mkF m 4 #[vR a1] []) t) => q21 t (st22 t kt)
  exact ⟨none, T22, _, _, _, _, X22, by decide, by decide, fun _ => rfl, q23, fun fs hr => X22.returnOut hx hret (hb hby d10_4) hr, by rw [e22]; exact ⟨rfl, N0, rfl⟩⟩
theorem ef_9_RRRR (m : MethodId) (x0 : Addr) (x1 : Addr) (x2 : Addr) (x3 : Addr) : entryFrame m #[(.ref x0), (.ref x1), (.ref x2), (.ref x3)] 4 = mkF m 0 #[.val (.ref x0), .val (.ref x1), .val (.ref x2), .val (.ref x3)] [] := by first | (simp [entryFrame, mkF, argsToLocals, Value.category]; done) | rfl
theorem pn_9 : plainName "com/example/installwright/installwright/formats/Marker" = true := by first | (simp [plainName, overriddenIn]; done) | decide +kernel
theorem d9_0 : decode prog_70_method_1_code 0 = .ok (.aload_n 0, 1) := by decide +kernel
theorem d9_1 : decode prog_70_method_1_code 1 = .ok (.invokespecial 1, 3) := by decide +kernel
theorem pd_20 : parseMethodDescriptor "()V" = some ⟨[], none⟩ := by decide +kernel
theorem d9_4 : decode prog_70_method_1_code 4 = .ok (.aload_n 0, 1) := by decide +kernel
theorem d9_5 : decode prog_70_method_1_code 5 = .ok (.aload_n 1, 1) := by decide +kernel
theorem d9_6 : decode prog_70_method_1_code 6 = .ok (.putfield 7, 3) := by decide +kernel
theorem d9_9 : decode prog_70_method_1_code 9 = .ok (.aload_n 0, 1) := by decide +kernel
theorem d9_10 : decode prog_70_method_1_code 10 = .ok (.aload_n 2, 1) := by decide +kernel
theorem d9_11 : decode prog_70_method_1_code 11 = .ok (.putfield 13, 3) := by decide +kernel
theorem d9_14 : decode prog_70_method_1_code 14 = .ok (.aload_n 0, 1) := by decide +kernel
theorem d9_15 : decode prog_70_method_1_code 15 = .ok (.aload_n 3, 1) := by decide +kernel
theorem d9_16 : decode prog_70_method_1_code 16 = .ok (.putfield 16, 3) := by decide +kernel
theorem d9_19 : decode prog_70_method_1_code 19 = .ok (.return_, 1) := by decide +kernel
def Q_rm9 (Z : State) (a1 : Addr) (a2 : Addr) (a3 : Addr) (a4 : Addr) (z_cs : Int32) (v_sf : Value) (h0 : Heap) (n0 : Nat) (v : Option Value) (h : Heap) (L : List Loc) : Prop := v = none ∧ Fr n0 L ∧ Keep h0 h [a1] ∧ Fld Z h a1 sk1 "name" sk0 (.ref a2) ∧ Fld Z h a1 sk1 "id" sk0 (.ref a3) ∧ Fld Z h a1 sk1 "version" sk0 (.ref a4)
theorem rm9 (l : Launch) (Z : State) (a0 : Array Value) (hw : ∀ d ∈ tables_1, d.before a0 Z = true) (ws : List Jvm.Cond) {z_cs : Int32} {v_sf : Value} (cx : Cx Z z_cs v_sf) (a1 : Addr) (a2 : Addr) (a3 : Addr) (a4 : Addr) (h0 : Heap) (n0 : Nat) (O0 : Old Z n0 h0) (G0 : Exa Z h0 a1 sk1) (G1 : Fld Z h0 a1 sk1 "name" sk0 .null) (G2 : Fld Z h0 a1 sk1 "id" sk0 .null) (G3 : Fld Z h0 a1 sk1 "version" sk0 .null) (g_a1 : n0 ≤ a1) :
    OwnMet l ym29 (Jvm.Cond.code ym29 prog_70_method_1_code 4 none :: ws) (own_R 2 0 0 24) #[(.ref a1), (.ref a2), (.ref a3), (.ref a4)] Z h0 (Q_rm9 Z a1 a2 a3 a4 z_cs v_sf h0 n0) := by
  refine own_body (plainFor_of_name pn_9) hisR fun p e s m below meth c s₁ hx hby hml hown hnm hret hZ X0 e0 => ?_
  have N0 := Fr.nil n0
  have K0 : Keep h0 h0 [a1] := Keep.refl _ _
  have pre0 : ∀ t, Go p e below s₁ (mkF m 0 #[vR a1, vR a2, vR a3, vR a4] []) t → Go p e below s₁ (entryFrame m #[(.ref a1), (.ref a2), (.ref a3), (.ref a4)] 4) t := fun t k => castTop (ef_9_RRRR m a1 a2 a3 a4) k
  have q21 := fun t (kt : Go p e below s₁ (mkF m 1 #[vR a1, vR a2, vR a3, vR a4] [(.ref a1)]) t) => pre0 t (by
    show Go _ _ _ _ (mkF m 0 #[vR a1, vR a2, vR a3, vR a4] []) _
    refine XS.aloadN X0.here hx rfl (hb hby d9_0) rfl rfl ?_
    exact kt)
  obtain ⟨_, _, ⟨T22, L22, k22, n22⟩, -, X22, ⟨_, hQ22, l22, y22, z22⟩, st22⟩ := X0.specialBack hx (y := ym28) rfl hown (ow hZ hw 47 rfl) (ow hZ hw 48 rfl) (ow hZ hw 51 rfl) (by decide) (backOf (W := 0) (rm10 l Z a0 hw [] cx a1 h0 n0 O0 ) hZ (ox hw 51 rfl) (ox hw 50 rfl) (by decide) (by decide)) (g := (mkF m 1 #[vR a1, vR a2, vR a3, vR a4] [(.ref a1)])) rfl (by rw [hml]; rfl) (Steps.refl _) (a := a1) (argsL := []) (rest := []) (lenOf pd_20 rfl) rfl own_le0 (hb hby d9_1) (fun _ _ => ⟨rfl, e0, (by decide : 0 + 0 ≤ _), (by decide : 0 + 0 ≤ _)⟩)
  dsimp only [Pt.U, Pt.locs, Pt.cells, Pt.slots] at X22 l22 y22 z22 st22 hQ22
  subst l22 y22 z22
  obtain ⟨rfl, Nq22, eq22⟩ := hQ22
  have N23 := Fr.app N0 Nq22
  have q24 := fun t (kt : Go p e below T22 (mkF m 6 #[vR a1, vR a2, vR a3, vR a4] [(.ref a2), (.ref a1)]) t) => q21 t (st22.trans (by
    show Go _ _ _ _ (mkF m 4 #[vR a1, vR a2, vR a3, vR a4] []) _
    refine XS.aloadN X22.here hx rfl (hb hby d9_4) rfl rfl ?_
    show Go _ _ _ _ (mkF m 5 _ [(.ref a1)]) _
    refine XS.aloadN X22.here hx rfl (hb hby d9_5) rfl rfl ?_
    exact kt))
  obtain ⟨T25, h25, X25, e25, W25, st25⟩ := putF X22 hx hZ hown (host := "") (Or.inl (ox hw 53 rfl)) Via.refl eq22 G1 G0 (Or.inr ⟨(ox hw 54 rfl), rfl, hnm⟩) (ox hw 42 rfl) (ty := (.object sk4)) (by decide) rfl rfl (g := (mkF m 6 #[vR a1, vR a2, vR a3, vR a4] [(.ref a2), (.ref a1)])) rfl rfl (hb hby d9_6)
  have f26 : Fld Z h25 a1 sk1 "name" sk0 (.ref a2) := G1.same W25
  have N27 := Fr.snoc X25 N23 g_a1
  have O28 := O0.wr W25 g_a1
  have K29 := K0.wr W25 (Or.inl (List.mem_of_getElem? (i := 0) rfl))
  have f30 := (G0.wr W25)
  have f31 := (G2.other W25 (Or.inr (slot_ne (Or.inr (ox hw 56 rfl)) (Or.inr (ox hw 54 rfl)) (by decide) (t := (.object sk4)) (t' := (.object sk4)) (by decide) (by decide))))
  have q32 := fun t (kt : Go p e below T25 (mkF m 11 #[vR a1, vR a2, vR a3, vR a4] [(.ref a3), (.ref a1)]) t) => q24 t (st25 t (by
    show Go _ _ _ _ (mkF m 9 #[vR a1, vR a2, vR a3, vR a4] []) _
    refine XS.aloadN X25.here hx rfl (hb hby d9_9) rfl rfl ?_
    show Go _ _ _ _ (mkF m 10 _ [(.ref a1)]) _
    refine XS.aloadN X25.here hx rfl (hb hby d9_10) rfl rfl ?_
    exact kt))
  obtain ⟨T33, h33, X33, e33, W33, st33⟩ := putF X25 hx hZ hown (host := "") (Or.inl (ox hw 55 rfl)) Via.refl e25 f31 f30 (Or.inr ⟨(ox hw 56 rfl), rfl, hnm⟩) (ox hw 42 rfl) (ty := (.object sk4)) (by decide) rfl rfl (g := (mkF m 11 #[vR a1, vR a2, vR a3, vR a4] [(.ref a3), (.ref a1)])) rfl rfl (hb hby d9_11)
  have f34 : Fld Z h33 a1 sk1 "id" sk0 (.ref a3) := f31.same W33
  have N35 := Fr.snoc X33 N27 g_a1
  have O36 := O28.wr W33 g_a1
  have K37 := K29.wr W33 (Or.inl (List.mem_of_getElem? (i := 0) rfl))
  have f38 := (f30.wr W33)
  have f39 := ((G3.other W25 (Or.inr (slot_ne (Or.inr (ox hw 58 rfl)) (Or.inr (ox hw 54 rfl)) (by decide) (t := (.object sk4)) (t' := (.object sk4)) (by decide) (by decide)))).other W33 (Or.inr (slot_ne (Or.inr (ox hw 58 rfl)) (Or.inr (ox hw 56 rfl)) (by decide) (t := (.object sk4)) (t' := (.object sk4)) (by decide) (by decide))))
  have q40 := fun t (kt : Go p e below T33 (mkF m 16 #[vR a1, vR a2, vR a3, vR a4] [(.ref a4), (.ref a1)]) t) => q32 t (st33 t (by
    show Go _ _ _ _ (mkF m 14 #[vR a1, vR a2, vR a3, vR a4] []) _
    refine XS.aloadN X33.here hx rfl (hb hby d9_14) rfl rfl ?_
    show Go _ _ _ _ (mkF m 15 _ [(.ref a1)]) _
    refine XS.aloadN X33.here hx rfl (hb hby d9_15) rfl rfl ?_
    exact kt))
  obtain ⟨T41, h41, X41, e41, W41, st41⟩ := putF X33 hx hZ hown (host := "") (Or.inl (ox hw 57 rfl)) Via.refl e33 f39 f38 (Or.inr ⟨(ox hw 58 rfl), rfl, hnm⟩) (ox hw 42 rfl) (ty := (.object sk4)) (by decide) rfl rfl (g := (mkF m 16 #[vR a1, vR a2, vR a3, vR a4] [(.ref a4), (.ref a1)])) rfl rfl (hb hby d9_16)
  have f42 : Fld Z h41 a1 sk1 "version" sk0 (.ref a4) := f39.same W41
  have N43 := Fr.snoc X41 N35 g_a1
  have O44 := O36.wr W41 g_a1
  have K45 := K37.wr W41 (Or.inl (List.mem_of_getElem? (i := 0) rfl))
  have q46 := fun t (kt : Go p e below T41 (mkF m 19 #[vR a1, vR a2, vR a3, vR a4] []) t) => q40 t (st41 t kt)
  have f47 := ((f26.other W33 (Or.inr (slot_ne (Or.inr (ox hw 54 rfl)) (Or.inr (ox hw 56 rfl)) (by decide) (t := (.object sk4)) (t' := (.object sk4)) (by decide) (by decide)))).other W41 (Or.inr (slot_ne (Or.inr (ox hw 54 rfl)) (Or.inr (ox hw 58 rfl)) (by decide) (t := (.object sk4)) (t' := (.object sk4)) (by decide) (by decide))))
  have f48 := (f34.other W41 (Or.inr (slot_ne (Or.inr (ox hw 56 rfl)) (Or.inr (ox hw 58 rfl)) (by decide) (t := (.object sk4)) (t' := (.object sk4)) (by decide) (by decide))))
  exact ⟨none, T41, _, _, _, _, X41, by decide, by decide, fun _ => rfl, q46, fun fs hr => X41.returnOut hx hret (hb hby d9_19) hr, by rw [e41]; exact ⟨rfl, N43, K45, f47, f48, f42⟩⟩
theorem ef_11_R (m : MethodId) (x0 : Addr) : entryFrame m #[(.ref x0)] 1 = mkF m 0 #[.val (.ref x0)] [] := by first | (simp [entryFrame, mkF, argsToLocals, Value.category]; done) | rfl
theorem pn_11 : plainName "com/example/installwright/installwright/formats/Marker" = true := by first | (simp [plainName, overriddenIn]; done) | decide +kernel
theorem d11_0 : decode prog_70_method_5_code 0 = .ok (.new 45, 3) := by decide +kernel
theorem d11_3 : decode prog_70_method_5_code 3 = .ok (.dup, 1) := by decide +kernel
theorem d11_4 : decode prog_70_method_5_code 4 = .ok (.invokespecial 47, 3) := by decide +kernel
theorem d11_7 : decode prog_70_method_5_code 7 = .ok (.aload_n 0, 1) := by decide +kernel
theorem d11_8 : decode prog_70_method_5_code 8 = .ok (.getfield 7, 3) := by decide +kernel
theorem d11_11 : decode prog_70_method_5_code 11 = .ok (.invokevirtual 48, 3) := by decide +kernel
theorem pd_21 : parseMethodDescriptor "(Ljava/lang/String;)Ljava/lang/StringBuilder;" = some ⟨[(.object "java/lang/String")], some (.object "java/lang/StringBuilder")⟩ := by decide +kernel
theorem d11_14 : decode prog_70_method_5_code 14 = .ok (.ldc 74, 2) := by decide +kernel
theorem d11_16 : decode prog_70_method_5_code 16 = .ok (.invokevirtual 48, 3) := by decide +kernel
theorem d11_19 : decode prog_70_method_5_code 19 = .ok (.aload_n 0, 1) := by decide +kernel
theorem d11_20 : decode prog_70_method_5_code 20 = .ok (.getfield 13, 3) := by decide +kernel
theorem d11_23 : decode prog_70_method_5_code 23 = .ok (.invokevirtual 48, 3) := by decide +kernel
theorem d11_26 : decode prog_70_method_5_code 26 = .ok (.ldc 76, 2) := by decide +kernel
theorem d11_28 : decode prog_70_method_5_code 28 = .ok (.invokevirtual 48, 3) := by decide +kernel
theorem d11_31 : decode prog_70_method_5_code 31 = .ok (.aload_n 0, 1) := by decide +kernel
theorem d11_32 : decode prog_70_method_5_code 32 = .ok (.getfield 16, 3) := by decide +kernel
theorem d11_35 : decode prog_70_method_5_code 35 = .ok (.invokevirtual 48, 3) := by decide +kernel
theorem d11_38 : decode prog_70_method_5_code 38 = .ok (.ldc 78, 2) := by decide +kernel
theorem d11_40 : decode prog_70_method_5_code 40 = .ok (.invokevirtual 48, 3) := by decide +kernel
theorem d11_43 : decode prog_70_method_5_code 43 = .ok (.invokevirtual 56, 3) := by decide +kernel
theorem pd_22 : parseMethodDescriptor "()Ljava/lang/String;" = some ⟨[], some (.object "java/lang/String")⟩ := by decide +kernel
theorem d11_46 : decode prog_70_method_5_code 46 = .ok (.areturn, 1) := by decide +kernel
def Q_rm11 (Z : State) (a1 : Addr) (x1 : Addr) (t1 : Addr) (x2 : Addr) (t2 : Addr) (x3 : Addr) (t3 : Addr) (k1 : ClassId) (k2 : ClassId) (k3 : ClassId) (c1 : List Int32) (c2 : List Int32) (c3 : List Int32) (z_cs : Int32) (v_sf : Value) (h0 : Heap) (n0 : Nat) (v : Option Value) (h : Heap) (L : List Loc) : Prop := ∃ (x : Addr) (ta : Addr) (kt : ClassId), v = some (.ref x) ∧ Fr n0 L ∧ Keep h0 h [] ∧ h0.size ≤ x ∧ h0.size ≤ ta ∧ Exa Z h x sk4 ∧ Fld Z h x sk4 "value" "[B" (.ref ta) ∧ Fld Z h x sk4 "coder" "B" (.int 0) ∧ Arv Z h ta kt .byte (Int32.ofNat ((((((([] : List Int32) ++ c1) ++ ([(32 : Int32), (40 : Int32)] : List Int32)) ++ c2) ++ ([(32 : Int32)] : List Int32)) ++ c3) ++ ([(41 : Int32)] : List Int32)).length) (own_by ((((((([] : List Int32) ++ c1) ++ ([(32 : Int32), (40 : Int32)] : List Int32)) ++ c2) ++ ([(32 : Int32)] : List Int32)) ++ c3) ++ ([(41 : Int32)] : List Int32))) (.int 0)
theorem rm11 (l : Launch) (Z : State) (a0 : Array Value) (hw : ∀ d ∈ tables_1, d.before a0 Z = true) (ws : List Jvm.Cond) {z_cs : Int32} {v_sf : Value} (cx : Cx Z z_cs v_sf) (a1 : Addr) (x1 : Addr) (t1 : Addr) (x2 : Addr) (t2 : Addr) (x3 : Addr) (t3 : Addr) (k1 : ClassId) (k2 : ClassId) (k3 : ClassId) (c1 : List Int32) (c2 : List Int32) (c3 : List Int32) (h0 : Heap) (n0 : Nat) (O0 : Old Z n0 h0) (G0 : Fld Z h0 a1 sk1 "name" sk0 (.ref x1)) (G1 : Fld Z h0 a1 sk1 "id" sk0 (.ref x2)) (G2 : Fld Z h0 a1 sk1 "version" sk0 (.ref x3)) (G3 : Exa Z h0 x1 sk4) (G4 : Fld Z h0 x1 sk4 "value" "[B" (.ref t1)) (G5 : Fld Z h0 x1 sk4 "coder" "B" (.int 0)) (G6 : Arv Z h0 t1 k1 .byte (Int32.ofNat c1.length) (own_by c1) (.int 0)) (G7 : Exa Z h0 x2 sk4) (G8 : Fld Z h0 x2 sk4 "value" "[B" (.ref t2)) (G9 : Fld Z h0 x2 sk4 "coder" "B" (.int 0)) (G10 : Arv Z h0 t2 k2 .byte (Int32.ofNat c2.length) (own_by c2) (.int 0)) (G11 : Exa Z h0 x3 sk4) (G12 : Fld Z h0 x3 sk4 "value" "[B" (.ref t3)) (G13 : Fld Z h0 x3 sk4 "coder" "B" (.int 0)) (G14 : Arv Z h0 t3 k3 .byte (Int32.ofNat c3.length) (own_by c3) (.int 0)) (l1 : c1.length ≤ 2) (l2 : c2.length ≤ 2) (l3 : c3.length ≤ 2) :
    MetFree l ym30 (head1 (Jvm.Cond.code ym30 prog_70_method_5_code 1 (some (.object sk4)) :: ws) (own_R 6 10 68 121)) (fun a U => a = #[(.ref a1)] ∧ Z.Warmed39 U.vm ∧ U.heap = h0 ∧ CHv Z own_EL U.vm h0) (fun _ _ _ _ _ => True) (fun _ U o U' => ∃ v L, o = .returned v ∧ Q_rm11 Z a1 x1 t1 x2 t2 x3 t3 k1 k2 k3 c1 c2 c3 z_cs v_sf h0 n0 v U'.heap L ∧ CHr Z own_EL U.vm U.heap U'.vm U'.heap ∧ ReturnedEndW U o U' L (own_R 6 10 68 121).cells (own_R 6 10 68 121).slots) := by
  refine MetFree.of_bodySF (plainFor_of_name pn_11) hisR ?_
  intro p e s m args below meth c s₁ Bd hml0 hP hK
  obtain ⟨rfl, hZ, hh, hCH⟩ := hP
  have hx := Bd.exec
  have hby := Bd.bytes
  have hml : c.maxLocals = 1 := hml0
  have hown : s.vm.findClass sk1 = some m.cls := findClass_of_methodNamed Bd.named
  have hnm := (name_of_methodNamed Bd.named Bd.method).1
  have hS0 : s.Since s.vm 0 := (State.WarmedH.refl s).since 0
  have hk0 : 0 ≤ h0.size := Nat.zero_le _
  have hwS : ∀ d ∈ Bundle.stringAtoms, d.before a0 Z = true := fun d hd => hw d ((by decide +kernel : ∀ d ∈ Bundle.stringAtoms, d ∈ tables_1) d hd)
  have X0 : Stand p l e (own_R 6 10 68 121) (s.setVm s.vm) m #[(.ref a1)] below meth c s₁ [] 0 0 := Stand.of_body Bd
  have e0 : s₁.heap = h0 := by rw [← hh, Bd.state]; rfl
  have N0 := Fr.nil n0
  have R0 : CHr Z own_EL s.vm h0 s.vm h0 := CHr.refl hCH
  have hEW : EW Z a0 own_EL := own_EW hw
  have K0 : Keep h0 h0 [] := Keep.refl _ _
  have pre0 : ∀ t, Go p e below s₁ (mkF m 0 #[vR a1] []) t → Go p e below s₁ (entryFrame m #[(.ref a1)] 1) t := fun t k => castTop (ef_11_R m a1) k
  obtain ⟨T21, h21, X21, e21, E21, A21, D21, U21, st21⟩ := newO X0 hx hZ hown (ox hw 64 rfl) (ox hw 65 rfl) (ox hw 66 rfl) e0 (g := (mkF m 0 #[vR a1] [])) rfl (hb hby d11_0) (by decide) (by decide)
  obtain ⟨b21, g21⟩ : ∃ z, z = h0.size := ⟨_, rfl⟩
  rw [← g21] at A21 D21 st21
  have gg22 : n0 ≤ b21 := Nat.le_trans (O0.1 ▸ O0.2.1) (Nat.le_of_eq g21.symm)
  have sz23 : h0.size ≤ b21 := Nat.le_trans K0.1 (Nat.le_of_eq g21.symm)
  have O24 := O0.ext E21
  have R25 : CHr Z own_EL s.vm h0 s.vm h21 := R0.trans (CHr.ext E21 R0.1)
  have hk26 : _ ≤ h21.size := Nat.le_trans hk0 E21.1
  have K27 := K0.ext E21
  have F21_value : Fld Z h21 b21 sk3 "value" "[B" .null := D21 (Or.inl (ox hw 79 rfl)) (ty := (.array .byte)) (by decide)
  have F21_coder : Fld Z h21 b21 sk3 "coder" "B" (.int 0) := D21 (Or.inl (ox hw 81 rfl)) (ty := .byte) (by decide)
  have F21_count : Fld Z h21 b21 sk3 "count" "I" (.int 0) := D21 (Or.inl (ox hw 103 rfl)) (ty := .int) (by decide)
  have q28 := fun t (kt : Go p e below T21 (mkF m 4 #[vR a1] [(.ref b21), (.ref b21)]) t) => pre0 t (st21 t (by
    show Go _ _ _ _ (mkF m 3 #[vR a1] [(.ref b21)]) _
    refine XS.dup X21.here hx rfl (hb hby d11_3) rfl rfl ?_
    exact kt))
  obtain ⟨_, _, ⟨T29, L29, k29, n29⟩, -, X29, ⟨_, hQ29, l29, y29, z29⟩, st29⟩ := X21.specialBack hx (y := ym3) rfl hown (ow hZ hw 67 rfl) (ow hZ hw 68 rfl) (ow hZ hw 69 rfl) (by decide) (backOf (W := 1) (rm12 l Z a0 hw [] cx b21 h21 n0 O24 A21 F21_value F21_coder F21_count gg22) hZ (ox hw 69 rfl) (ox hw 66 rfl) (by decide) (by decide)) (g := (mkF m 4 #[vR a1] [(.ref b21), (.ref b21)])) rfl (by rw [hml]; rfl) (Steps.refl _) (a := b21) (argsL := []) (rest := [(.ref b21)]) (lenOf pd_20 rfl) rfl own_le0 (hb hby d11_4) (fun _ _ => ⟨rfl, e21, (by decide : 1 + 1 ≤ _), (by decide : 4 + 16 ≤ _)⟩)
  dsimp only [Pt.U, Pt.locs, Pt.cells, Pt.slots] at X29 l29 y29 z29 st29 hQ29
  subst l29 y29 z29
  obtain ⟨va_29, kv_29, rfl, Nq29, Kq29, fr29_0, fq29_0, fq29_1, fq29_2, fq29_3⟩ := hQ29
  have N30 := Fr.app N0 Nq29
  have gg31 : n0 ≤ va_29 := Nat.le_trans (O24.1 ▸ O24.2.1) fr29_0
  have sz32 : h0.size ≤ va_29 := Nat.le_trans K27.1 fr29_0
  have sf33 : Safe Z own_EL s.vm h21 va_29 := Safe.new fr29_0
  have O34 := O24.keep Kq29 (allS gg22 all0)
  have sf36 : Safe Z own_EL s.vm T29.heap va_29 := Safe.keep Kq29 (sfS (Safe.exa hZ.alike A21 (by decide) (by decide)) sf0) R25.1 sf33
  have R35 : CHr Z own_EL s.vm h0 s.vm T29.heap := R25.trans (CHr.keep Kq29 (sfS (Safe.exa hZ.alike A21 (by decide) (by decide)) sf0) R25.1)
  have hk37 : _ ≤ T29.heap.size := Nat.le_trans hk26 Kq29.1
  have K38 := K27.trans Kq29 (allS (Or.inr sz23) all0)
  have ne39 : a1 ≠ b21 := (Nat.ne_of_lt (Nat.lt_of_lt_of_le G0.lt (Nat.le_of_eq g21.symm)))
  have f40 := ((G0.ext E21).keep Kq29 (ninS ne39 nin0))
  have q41 := fun t (kt : Go p e below T29 (mkF m 8 #[vR a1] [(.ref a1), (.ref b21)]) t) => q28 t (st29.trans (by
    show Go _ _ _ _ (mkF m 7 #[vR a1] [(.ref b21)]) _
    refine XS.aloadN X29.here hx rfl (hb hby d11_7) rfl rfl ?_
    exact kt))
  obtain ⟨T42, X42, e42, st42⟩ := getF X29 hx hZ hown (host := "") (Or.inl (ox hw 53 rfl)) Via.refl rfl f40 (g := (mkF m 8 #[vR a1] [(.ref a1), (.ref b21)])) rfl rfl (hb hby d11_8)
  have f43 := (A21.keep Kq29)
  have f44 := ((G3.ext E21).keep Kq29)
  have ne45 : x1 ≠ b21 := (Nat.ne_of_lt (Nat.lt_of_lt_of_le G3.lt (Nat.le_of_eq g21.symm)))
  have f46 := ((G4.ext E21).keep Kq29 (ninS ne45 nin0))
  have f47 := ((G5.ext E21).keep Kq29 (ninS ne45 nin0))
  have ne48 : t1 ≠ b21 := (Nat.ne_of_lt (Nat.lt_of_lt_of_le G6.lt (Nat.le_of_eq g21.symm)))
  have f49 := ((G6.ext E21).keep Kq29 (ninS ne48 nin0))
  have ne50 : b21 ≠ va_29 := (Nat.ne_of_lt (Nat.lt_of_lt_of_le A21.lt fr29_0))
  have ne51 : x1 ≠ va_29 := (Nat.ne_of_lt (Nat.lt_of_lt_of_le (G3.ext E21).lt fr29_0))
  have ne52 : t1 ≠ va_29 := (Nat.ne_of_lt (Nat.lt_of_lt_of_le (G6.ext E21).lt fr29_0))
  obtain ⟨cq54, kq54, q54a, q54b, q54c⟩ := isOf hZ e42 f43
  obtain ⟨_, _, ⟨T53, L53, k53, n53⟩, -, X53, ⟨_, hQ53, l53, y53, z53⟩, st53⟩ := X42.virtualBack hx (y := ym9) (z := ym9) hown (ow hZ hw 82 rfl) (ow hZ hw 83 rfl) (notFace_of_selects (args := #[]) (ow hZ hw 85 rfl)) (ow hZ hw 85 rfl) (ow hZ hw 84 rfl) (by decide) (backOf (W := 0) (rm14 l Z a0 hw [] cx b21 x1 t1 va_29 k1 kv_29 [] c1 T29.heap n0 O34 f43 fq29_0 fq29_1 fq29_2 fq29_3 f44 f46 f47 f49 gg22 gg31 (by simp only [List.length_append, List.length_nil, List.length_cons]; omega) ne50 ne51 ne52 (Ne.symm ne48) (Ne.symm ne45)) hZ (ox hw 86 rfl) (ox hw 66 rfl) (by decide) (by decide)) q54a q54c (g := (mkF m 11 #[vR a1] [(.ref x1), (.ref b21)])) rfl (by rw [hml]; rfl) (Steps.refl _) (argsL := [(.ref x1)]) (rest := []) (lenOf pd_21 rfl) rfl own_le0 (hb hby d11_11) (fun _ _ => ⟨rfl, e42, (by decide : 2 + 0 ≤ _), (by decide : 20 + 0 ≤ _)⟩)
  dsimp only [Pt.U, Pt.locs, Pt.cells, Pt.slots] at X53 l53 y53 z53 st53 hQ53
  subst l53 y53 z53
  obtain ⟨rfl, Nq53, Kq53, fq53_0, fq53_1, fq53_2, fq53_3⟩ := hQ53
  have N55 := Fr.app N30 Nq53
  have O56 := O34.keep Kq53 (allS gg22 (allS gg31 all0))
  have sf58 : Safe Z own_EL s.vm T53.heap va_29 := Safe.keep Kq53 (sfS (Safe.exa hZ.alike f43 (by decide) (by decide)) (sfS sf36 sf0)) R35.1 sf36
  have R57 : CHr Z own_EL s.vm h0 s.vm T53.heap := R35.trans (CHr.keep Kq53 (sfS (Safe.exa hZ.alike f43 (by decide) (by decide)) (sfS sf36 sf0)) R35.1)
  have hk59 : _ ≤ T53.heap.size := Nat.le_trans hk37 Kq53.1
  have K60 := K38.trans Kq53 (allS (Or.inr sz23) (allS (Or.inr sz32) all0))
  obtain ⟨b61, T61, h61, k61, tb61, kb61, X61, e61, E61, hS61, hkk61, hZ, hown, lE61, lC61, lV61, lA61, la61, lb61, lR61, lL61, lS61, st61⟩ := ldcCH (vm0 := s.vm) (EL := own_EL) X53 hx hZ hown (ox hw 129 rfl) hwS rfl hS0 hk59 hEW (by decide) R57.1 (vs := [(.int 32), (.int 40)]) (z := (2 : Int32)) ⟨by decide, by decide⟩ (by decide) (by decide) (g := (mkF m 14 #[vR a1] [(.ref b21)])) rfl (hb hby d11_14) (n := 8) (by decide) (by decide) (by decide) (by decide)
  have O62 := O56.ext E61
  have sf64 : Safe Z own_EL T61.vm h61 va_29 := CHr.safe lR61 fq53_3.lt sf58
  have R63 : CHr Z own_EL s.vm h0 T61.vm h61 := R57.trans lR61
  have K65 := K60.ext E61
  have Sr61 : Str Z h61 b61 tb61 ([(32 : Int32), (40 : Int32)] : List Int32) := ⟨_, _, _, _, lE61, lV61, lC61, lA61, own_cod (by decide) (by decide), by decide, by decide⟩
  have f66 := ((f43.keep Kq53).ext E61)
  have nl67 := lS61 b21 (Safe.exa hZ.alike f66 (by decide) (by decide))
  have nl68 := lS61 va_29 sf64
  have Vl69 : Arv Z h61 tb61 kb61 .byte (Int32.ofNat ([(32 : Int32), (40 : Int32)] : List Int32).length) (own_by ([(32 : Int32), (40 : Int32)] : List Int32)) (.int 0) := lA61
  have f70 := (fq53_0.ext E61)
  have f71 := (fq53_1.ext E61)
  have f72 := (fq53_2.ext E61)
  have f73 := (fq53_3.ext E61)
  obtain ⟨cq75, kq75, q75a, q75b, q75c⟩ := isOf hZ e61 f66
  obtain ⟨_, _, ⟨T74, L74, k74, n74⟩, -, X74, ⟨_, hQ74, l74, y74, z74⟩, st74⟩ := X61.virtualBack hx (y := ym9) (z := ym9) hown (ow hZ hw 82 rfl) (ow hZ hw 83 rfl) (notFace_of_selects (args := #[]) (ow hZ hw 85 rfl)) (ow hZ hw 85 rfl) (ow hZ hw 84 rfl) (by decide) (backOf (W := 0) (rm14 l Z a0 hw [] cx b21 b61 tb61 va_29 kb61 kv_29 ([] ++ c1) ([(32 : Int32), (40 : Int32)] : List Int32) h61 n0 O62 f66 f70 f71 f72 f73 lE61 lV61 lC61 Vl69 gg22 gg31 (by simp only [List.length_append, List.length_nil, List.length_cons]; omega) ne50 (Ne.symm nl68.1) (Ne.symm nl68.2) nl67.2 nl67.1) hZ (ox hw 86 rfl) (ox hw 66 rfl) (by decide) (by decide)) q75a q75c (g := (mkF m 16 #[vR a1] [(.ref b61), (.ref b21)])) rfl (by rw [hml]; rfl) (Steps.refl _) (argsL := [(.ref b61)]) (rest := []) (lenOf pd_21 rfl) rfl own_le0 (hb hby d11_16) (fun _ _ => ⟨rfl, e61, (by decide : 4 + 0 ≤ _), (by decide : 32 + 0 ≤ _)⟩)
  dsimp only [Pt.U, Pt.locs, Pt.cells, Pt.slots] at X74 l74 y74 z74 st74 hQ74
  subst l74 y74 z74
  obtain ⟨rfl, Nq74, Kq74, fq74_0, fq74_1, fq74_2, fq74_3⟩ := hQ74
  have N76 := Fr.app N55 Nq74
  have O77 := O62.keep Kq74 (allS gg22 (allS gg31 all0))
  have sf79 : Safe Z own_EL T61.vm T74.heap va_29 := Safe.keep Kq74 (sfS (Safe.exa hZ.alike f66 (by decide) (by decide)) (sfS sf64 sf0)) R63.1 sf64
  have R78 : CHr Z own_EL s.vm h0 T61.vm T74.heap := R63.trans (CHr.keep Kq74 (sfS (Safe.exa hZ.alike f66 (by decide) (by decide)) (sfS sf64 sf0)) R63.1)
  have hk80 : _ ≤ T74.heap.size := Nat.le_trans hkk61 Kq74.1
  have K81 := K65.trans Kq74 (allS (Or.inr sz23) (allS (Or.inr sz32) all0))
  have ne82 : a1 ≠ va_29 := (Nat.ne_of_lt (Nat.lt_of_lt_of_le (G0.ext E21).lt fr29_0))
  have f83 := (((((G1.ext E21).keep Kq29 (ninS ne39 nin0)).keep Kq53 (ninS ne39 (ninS ne82 nin0))).ext E61).keep Kq74 (ninS ne39 (ninS ne82 nin0)))
  have q84 := fun t (kt : Go p e below T74 (mkF m 20 #[vR a1] [(.ref a1), (.ref b21)]) t) => q41 t (st42 t (st53.trans (st61 t (st74.trans (by
    show Go _ _ _ _ (mkF m 19 #[vR a1] [(.ref b21)]) _
    refine XS.aloadN X74.here hx rfl (hb hby d11_19) rfl rfl ?_
    exact kt)))))
  obtain ⟨T85, X85, e85, st85⟩ := getF X74 hx hZ hown (host := "") (Or.inl (ox hw 55 rfl)) Via.refl rfl f83 (g := (mkF m 20 #[vR a1] [(.ref a1), (.ref b21)])) rfl rfl (hb hby d11_20)
  have f86 := (f66.keep Kq74)
  have f87 := (((((G7.ext E21).keep Kq29).keep Kq53).ext E61).keep Kq74)
  have ne88 : x2 ≠ b21 := (Nat.ne_of_lt (Nat.lt_of_lt_of_le G7.lt (Nat.le_of_eq g21.symm)))
  have ne89 : x2 ≠ va_29 := (Nat.ne_of_lt (Nat.lt_of_lt_of_le (G7.ext E21).lt fr29_0))
  have f90 := (((((G8.ext E21).keep Kq29 (ninS ne88 nin0)).keep Kq53 (ninS ne88 (ninS ne89 nin0))).ext E61).keep Kq74 (ninS ne88 (ninS ne89 nin0)))
  have f91 := (((((G9.ext E21).keep Kq29 (ninS ne88 nin0)).keep Kq53 (ninS ne88 (ninS ne89 nin0))).ext E61).keep Kq74 (ninS ne88 (ninS ne89 nin0)))
  have ne92 : t2 ≠ b21 := (Nat.ne_of_lt (Nat.lt_of_lt_of_le G10.lt (Nat.le_of_eq g21.symm)))
  have ne93 : t2 ≠ va_29 := (Nat.ne_of_lt (Nat.lt_of_lt_of_le (G10.ext E21).lt fr29_0))
  have f94 := (((((G10.ext E21).keep Kq29 (ninS ne92 nin0)).keep Kq53 (ninS ne92 (ninS ne93 nin0))).ext E61).keep Kq74 (ninS ne92 (ninS ne93 nin0)))
  obtain ⟨cq96, kq96, q96a, q96b, q96c⟩ := isOf hZ e85 f86
  obtain ⟨_, _, ⟨T95, L95, k95, n95⟩, -, X95, ⟨_, hQ95, l95, y95, z95⟩, st95⟩ := X85.virtualBack hx (y := ym9) (z := ym9) hown (ow hZ hw 82 rfl) (ow hZ hw 83 rfl) (notFace_of_selects (args := #[]) (ow hZ hw 85 rfl)) (ow hZ hw 85 rfl) (ow hZ hw 84 rfl) (by decide) (backOf (W := 0) (rm14 l Z a0 hw [] cx b21 x2 t2 va_29 k2 kv_29 (([] ++ c1) ++ ([(32 : Int32), (40 : Int32)] : List Int32)) c2 T74.heap n0 O77 f86 fq74_0 fq74_1 fq74_2 fq74_3 f87 f90 f91 f94 gg22 gg31 (by simp only [List.length_append, List.length_nil, List.length_cons]; omega) ne50 ne89 ne93 (Ne.symm ne92) (Ne.symm ne88)) hZ (ox hw 86 rfl) (ox hw 66 rfl) (by decide) (by decide)) q96a q96c (g := (mkF m 23 #[vR a1] [(.ref x2), (.ref b21)])) rfl (by rw [hml]; rfl) (Steps.refl _) (argsL := [(.ref x2)]) (rest := []) (lenOf pd_21 rfl) rfl own_le0 (hb hby d11_23) (fun _ _ => ⟨rfl, e85, (by decide : 4 + 0 ≤ _), (by decide : 32 + 0 ≤ _)⟩)
  dsimp only [Pt.U, Pt.locs, Pt.cells, Pt.slots] at X95 l95 y95 z95 st95 hQ95
  subst l95 y95 z95
  obtain ⟨rfl, Nq95, Kq95, fq95_0, fq95_1, fq95_2, fq95_3⟩ := hQ95
  have N97 := Fr.app N76 Nq95
  have O98 := O77.keep Kq95 (allS gg22 (allS gg31 all0))
  have sf100 : Safe Z own_EL T61.vm T95.heap va_29 := Safe.keep Kq95 (sfS (Safe.exa hZ.alike f86 (by decide) (by decide)) (sfS sf79 sf0)) R78.1 sf79
  have R99 : CHr Z own_EL s.vm h0 T61.vm T95.heap := R78.trans (CHr.keep Kq95 (sfS (Safe.exa hZ.alike f86 (by decide) (by decide)) (sfS sf79 sf0)) R78.1)
  have hk101 : _ ≤ T95.heap.size := Nat.le_trans hk80 Kq95.1
  have K102 := K81.trans Kq95 (allS (Or.inr sz23) (allS (Or.inr sz32) all0))
  obtain ⟨b103, T103, h103, k103, tb103, kb103, X103, e103, E103, hS103, hkk103, hZ, hown, lE103, lC103, lV103, lA103, la103, lb103, lR103, lL103, lS103, st103⟩ := ldcCH (vm0 := T61.vm) (EL := own_EL) X95 hx hZ hown (ox hw 130 rfl) hwS rfl hS61 hk101 hEW (by decide) R99.1 (vs := [(.int 32)]) (z := (1 : Int32)) ⟨by decide, by decide⟩ (by decide) (by decide) (g := (mkF m 26 #[vR a1] [(.ref b21)])) rfl (hb hby d11_26) (n := 4) (by decide) (by decide) (by decide) (by decide)
  have O104 := O98.ext E103
  have sf106 : Safe Z own_EL T103.vm h103 va_29 := CHr.safe lR103 fq95_3.lt sf100
  have R105 : CHr Z own_EL s.vm h0 T103.vm h103 := R99.trans lR103
  have K107 := K102.ext E103
  have Sr103 : Str Z h103 b103 tb103 ([(32 : Int32)] : List Int32) := ⟨_, _, _, _, lE103, lV103, lC103, lA103, own_cod (by decide) (by decide), by decide, by decide⟩
  have f108 := ((f86.keep Kq95).ext E103)
  have nl109 := lS103 b21 (Safe.exa hZ.alike f108 (by decide) (by decide))
  have nl110 := lS103 va_29 sf106
  have Vl111 : Arv Z h103 tb103 kb103 .byte (Int32.ofNat ([(32 : Int32)] : List Int32).length) (own_by ([(32 : Int32)] : List Int32)) (.int 0) := lA103
  have f112 := (fq95_0.ext E103)
  have f113 := (fq95_1.ext E103)
  have f114 := (fq95_2.ext E103)
  have f115 := (fq95_3.ext E103)
  obtain ⟨cq117, kq117, q117a, q117b, q117c⟩ := isOf hZ e103 f108
  obtain ⟨_, _, ⟨T116, L116, k116, n116⟩, -, X116, ⟨_, hQ116, l116, y116, z116⟩, st116⟩ := X103.virtualBack hx (y := ym9) (z := ym9) hown (ow hZ hw 82 rfl) (ow hZ hw 83 rfl) (notFace_of_selects (args := #[]) (ow hZ hw 85 rfl)) (ow hZ hw 85 rfl) (ow hZ hw 84 rfl) (by decide) (backOf (W := 0) (rm14 l Z a0 hw [] cx b21 b103 tb103 va_29 kb103 kv_29 ((([] ++ c1) ++ ([(32 : Int32), (40 : Int32)] : List Int32)) ++ c2) ([(32 : Int32)] : List Int32) h103 n0 O104 f108 f112 f113 f114 f115 lE103 lV103 lC103 Vl111 gg22 gg31 (by simp only [List.length_append, List.length_nil, List.length_cons]; omega) ne50 (Ne.symm nl110.1) (Ne.symm nl110.2) nl109.2 nl109.1) hZ (ox hw 86 rfl) (ox hw 66 rfl) (by decide) (by decide)) q117a q117c (g := (mkF m 28 #[vR a1] [(.ref b103), (.ref b21)])) rfl (by rw [hml]; rfl) (Steps.refl _) (argsL := [(.ref b103)]) (rest := []) (lenOf pd_21 rfl) rfl own_le0 (hb hby d11_28) (fun _ _ => ⟨rfl, e103, (by decide : 6 + 0 ≤ _), (by decide : 40 + 0 ≤ _)⟩)
  dsimp only [Pt.U, Pt.locs, Pt.cells, Pt.slots] at X116 l116 y116 z116 st116 hQ116
  subst l116 y116 z116
  obtain ⟨rfl, Nq116, Kq116, fq116_0, fq116_1, fq116_2, fq116_3⟩ := hQ116
  have N118 := Fr.app N97 Nq116
  have O119 := O104.keep Kq116 (allS gg22 (allS gg31 all0))
  have sf121 : Safe Z own_EL T103.vm T116.heap va_29 := Safe.keep Kq116 (sfS (Safe.exa hZ.alike f108 (by decide) (by decide)) (sfS sf106 sf0)) R105.1 sf106
  have R120 : CHr Z own_EL s.vm h0 T103.vm T116.heap := R105.trans (CHr.keep Kq116 (sfS (Safe.exa hZ.alike f108 (by decide) (by decide)) (sfS sf106 sf0)) R105.1)
  have hk122 : _ ≤ T116.heap.size := Nat.le_trans hkk103 Kq116.1
  have K123 := K107.trans Kq116 (allS (Or.inr sz23) (allS (Or.inr sz32) all0))
  have f124 := ((((((((G2.ext E21).keep Kq29 (ninS ne39 nin0)).keep Kq53 (ninS ne39 (ninS ne82 nin0))).ext E61).keep Kq74 (ninS ne39 (ninS ne82 nin0))).keep Kq95 (ninS ne39 (ninS ne82 nin0))).ext E103).keep Kq116 (ninS ne39 (ninS ne82 nin0)))
  have q125 := fun t (kt : Go p e below T116 (mkF m 32 #[vR a1] [(.ref a1), (.ref b21)]) t) => q84 t (st85 t (st95.trans (st103 t (st116.trans (by
    show Go _ _ _ _ (mkF m 31 #[vR a1] [(.ref b21)]) _
    refine XS.aloadN X116.here hx rfl (hb hby d11_31) rfl rfl ?_
    exact kt)))))
  obtain ⟨T126, X126, e126, st126⟩ := getF X116 hx hZ hown (host := "") (Or.inl (ox hw 57 rfl)) Via.refl rfl f124 (g := (mkF m 32 #[vR a1] [(.ref a1), (.ref b21)])) rfl rfl (hb hby d11_32)
  have f127 := (f108.keep Kq116)
  have f128 := ((((((((G11.ext E21).keep Kq29).keep Kq53).ext E61).keep Kq74).keep Kq95).ext E103).keep Kq116)
  have ne129 : x3 ≠ b21 := (Nat.ne_of_lt (Nat.lt_of_lt_of_le G11.lt (Nat.le_of_eq g21.symm)))
  have ne130 : x3 ≠ va_29 := (Nat.ne_of_lt (Nat.lt_of_lt_of_le (G11.ext E21).lt fr29_0))
  have f131 := ((((((((G12.ext E21).keep Kq29 (ninS ne129 nin0)).keep Kq53 (ninS ne129 (ninS ne130 nin0))).ext E61).keep Kq74 (ninS ne129 (ninS ne130 nin0))).keep Kq95 (ninS ne129 (ninS ne130 nin0))).ext E103).keep Kq116 (ninS ne129 (ninS ne130 nin0)))
  have f132 := ((((((((G13.ext E21).keep Kq29 (ninS ne129 nin0)).keep Kq53 (ninS ne129 (ninS ne130 nin0))).ext E61).keep Kq74 (ninS ne129 (ninS ne130 nin0))).keep Kq95 (ninS ne129 (ninS ne130 nin0))).ext E103).keep Kq116 (ninS ne129 (ninS ne130 nin0)))
  have ne133 : t3 ≠ b21 := (Nat.ne_of_lt (Nat.lt_of_lt_of_le G14.lt (Nat.le_of_eq g21.symm)))
  have ne134 : t3 ≠ va_29 := (Nat.ne_of_lt (Nat.lt_of_lt_of_le (G14.ext E21).lt fr29_0))
  have f135 := ((((((((G14.ext E21).keep Kq29 (ninS ne133 nin0)).keep Kq53 (ninS ne133 (ninS ne134 nin0))).ext E61).keep Kq74 (ninS ne133 (ninS ne134 nin0))).keep Kq95 (ninS ne133 (ninS ne134 nin0))).ext E103).keep Kq116 (ninS ne133 (ninS ne134 nin0)))
  obtain ⟨cq137, kq137, q137a, q137b, q137c⟩ := isOf hZ e126 f127
  obtain ⟨_, _, ⟨T136, L136, k136, n136⟩, -, X136, ⟨_, hQ136, l136, y136, z136⟩, st136⟩ := X126.virtualBack hx (y := ym9) (z := ym9) hown (ow hZ hw 82 rfl) (ow hZ hw 83 rfl) (notFace_of_selects (args := #[]) (ow hZ hw 85 rfl)) (ow hZ hw 85 rfl) (ow hZ hw 84 rfl) (by decide) (backOf (W := 0) (rm14 l Z a0 hw [] cx b21 x3 t3 va_29 k3 kv_29 (((([] ++ c1) ++ ([(32 : Int32), (40 : Int32)] : List Int32)) ++ c2) ++ ([(32 : Int32)] : List Int32)) c3 T116.heap n0 O119 f127 fq116_0 fq116_1 fq116_2 fq116_3 f128 f131 f132 f135 gg22 gg31 (by simp only [List.length_append, List.length_nil, List.length_cons]; omega) ne50 ne130 ne134 (Ne.symm ne133) (Ne.symm ne129)) hZ (ox hw 86 rfl) (ox hw 66 rfl) (by decide) (by decide)) q137a q137c (g := (mkF m 35 #[vR a1] [(.ref x3), (.ref b21)])) rfl (by rw [hml]; rfl) (Steps.refl _) (argsL := [(.ref x3)]) (rest := []) (lenOf pd_21 rfl) rfl own_le0 (hb hby d11_35) (fun _ _ => ⟨rfl, e126, (by decide : 6 + 0 ≤ _), (by decide : 40 + 0 ≤ _)⟩)
  dsimp only [Pt.U, Pt.locs, Pt.cells, Pt.slots] at X136 l136 y136 z136 st136 hQ136
  subst l136 y136 z136
  obtain ⟨rfl, Nq136, Kq136, fq136_0, fq136_1, fq136_2, fq136_3⟩ := hQ136
  have N138 := Fr.app N118 Nq136
  have O139 := O119.keep Kq136 (allS gg22 (allS gg31 all0))
  have sf141 : Safe Z own_EL T103.vm T136.heap va_29 := Safe.keep Kq136 (sfS (Safe.exa hZ.alike f127 (by decide) (by decide)) (sfS sf121 sf0)) R120.1 sf121
  have R140 : CHr Z own_EL s.vm h0 T103.vm T136.heap := R120.trans (CHr.keep Kq136 (sfS (Safe.exa hZ.alike f127 (by decide) (by decide)) (sfS sf121 sf0)) R120.1)
  have hk142 : _ ≤ T136.heap.size := Nat.le_trans hk122 Kq136.1
  have K143 := K123.trans Kq136 (allS (Or.inr sz23) (allS (Or.inr sz32) all0))
  obtain ⟨b144, T144, h144, k144, tb144, kb144, X144, e144, E144, hS144, hkk144, hZ, hown, lE144, lC144, lV144, lA144, la144, lb144, lR144, lL144, lS144, st144⟩ := ldcCH (vm0 := T103.vm) (EL := own_EL) X136 hx hZ hown (ox hw 131 rfl) hwS rfl hS103 hk142 hEW (by decide) R140.1 (vs := [(.int 41)]) (z := (1 : Int32)) ⟨by decide, by decide⟩ (by decide) (by decide) (g := (mkF m 38 #[vR a1] [(.ref b21)])) rfl (hb hby d11_38) (n := 4) (by decide) (by decide) (by decide) (by decide)
  have O145 := O139.ext E144
  have sf147 : Safe Z own_EL T144.vm h144 va_29 := CHr.safe lR144 fq136_3.lt sf141
  have R146 : CHr Z own_EL s.vm h0 T144.vm h144 := R140.trans lR144
  have K148 := K143.ext E144
  have Sr144 : Str Z h144 b144 tb144 ([(41 : Int32)] : List Int32) := ⟨_, _, _, _, lE144, lV144, lC144, lA144, own_cod (by decide) (by decide), by decide, by decide⟩
  have f149 := ((f127.keep Kq136).ext E144)
  have nl150 := lS144 b21 (Safe.exa hZ.alike f149 (by decide) (by decide))
  have nl151 := lS144 va_29 sf147
  have Vl152 : Arv Z h144 tb144 kb144 .byte (Int32.ofNat ([(41 : Int32)] : List Int32).length) (own_by ([(41 : Int32)] : List Int32)) (.int 0) := lA144
  have f153 := (fq136_0.ext E144)
  have f154 := (fq136_1.ext E144)
  have f155 := (fq136_2.ext E144)
  have f156 := (fq136_3.ext E144)
  obtain ⟨cq158, kq158, q158a, q158b, q158c⟩ := isOf hZ e144 f149
  obtain ⟨_, _, ⟨T157, L157, k157, n157⟩, -, X157, ⟨_, hQ157, l157, y157, z157⟩, st157⟩ := X144.virtualBack hx (y := ym9) (z := ym9) hown (ow hZ hw 82 rfl) (ow hZ hw 83 rfl) (notFace_of_selects (args := #[]) (ow hZ hw 85 rfl)) (ow hZ hw 85 rfl) (ow hZ hw 84 rfl) (by decide) (backOf (W := 0) (rm14 l Z a0 hw [] cx b21 b144 tb144 va_29 kb144 kv_29 ((((([] ++ c1) ++ ([(32 : Int32), (40 : Int32)] : List Int32)) ++ c2) ++ ([(32 : Int32)] : List Int32)) ++ c3) ([(41 : Int32)] : List Int32) h144 n0 O145 f149 f153 f154 f155 f156 lE144 lV144 lC144 Vl152 gg22 gg31 (by simp only [List.length_append, List.length_nil, List.length_cons]; omega) ne50 (Ne.symm nl151.1) (Ne.symm nl151.2) nl150.2 nl150.1) hZ (ox hw 86 rfl) (ox hw 66 rfl) (by decide) (by decide)) q158a q158c (g := (mkF m 40 #[vR a1] [(.ref b144), (.ref b21)])) rfl (by rw [hml]; rfl) (Steps.refl _) (argsL := [(.ref b144)]) (rest := []) (lenOf pd_21 rfl) rfl own_le0 (hb hby d11_40) (fun _ _ => ⟨rfl, e144, (by decide : 8 + 0 ≤ _), (by decide : 48 + 0 ≤ _)⟩)
  dsimp only [Pt.U, Pt.locs, Pt.cells, Pt.slots] at X157 l157 y157 z157 st157 hQ157
  subst l157 y157 z157
  obtain ⟨rfl, Nq157, Kq157, fq157_0, fq157_1, fq157_2, fq157_3⟩ := hQ157
  have N159 := Fr.app N138 Nq157
  have O160 := O145.keep Kq157 (allS gg22 (allS gg31 all0))
  have sf162 : Safe Z own_EL T144.vm T157.heap va_29 := Safe.keep Kq157 (sfS (Safe.exa hZ.alike f149 (by decide) (by decide)) (sfS sf147 sf0)) R146.1 sf147
  have R161 : CHr Z own_EL s.vm h0 T144.vm T157.heap := R146.trans (CHr.keep Kq157 (sfS (Safe.exa hZ.alike f149 (by decide) (by decide)) (sfS sf147 sf0)) R146.1)
  have hk163 : _ ≤ T157.heap.size := Nat.le_trans hkk144 Kq157.1
  have K164 := K148.trans Kq157 (allS (Or.inr sz23) (allS (Or.inr sz32) all0))
  have f165 := (f149.keep Kq157)
  obtain ⟨cq167, kq167, q167a, q167b, q167c⟩ := isOf hZ rfl f165
  obtain ⟨_, _, ⟨T166, L166, k166, n166⟩, -, X166, ⟨_, hQ166, l166, y166, z166⟩, st166⟩ := X157.virtualBack hx (y := ym20) (z := ym20) hown (ow hZ hw 132 rfl) (ow hZ hw 133 rfl) (notFace_of_selects (args := #[]) (ow hZ hw 135 rfl)) (ow hZ hw 135 rfl) (ow hZ hw 134 rfl) (by decide) (backOf (W := 0) (rm22 l Z a0 hw [] cx b21 va_29 kv_29 (((((([] ++ c1) ++ ([(32 : Int32), (40 : Int32)] : List Int32)) ++ c2) ++ ([(32 : Int32)] : List Int32)) ++ c3) ++ ([(41 : Int32)] : List Int32)) T157.heap n0 O160 f165 fq157_0 fq157_1 fq157_2 fq157_3 (by simp only [List.length_append, List.length_nil, List.length_cons]; omega)) hZ (ox hw 136 rfl) (ox hw 66 rfl) (by decide) (by decide)) q167a q167c (g := (mkF m 43 #[vR a1] [(.ref b21)])) rfl (by rw [hml]; rfl) (Steps.refl _) (argsL := []) (rest := []) (lenOf pd_22 rfl) rfl own_le0 (hb hby d11_43) (fun _ _ => ⟨rfl, rfl, (by decide : 8 + 2 ≤ _), (by decide : 48 + 20 ≤ _)⟩)
  dsimp only [Pt.U, Pt.locs, Pt.cells, Pt.slots] at X166 l166 y166 z166 st166 hQ166
  subst l166 y166 z166
  obtain ⟨x_166, ta_166, kt_166, rfl, Nq166, Kq166, fr166_0, fr166_1, fq166_0, fq166_1, fq166_2, fq166_3⟩ := hQ166
  have N168 := Fr.app N159 Nq166
  have gg169 : n0 ≤ x_166 := Nat.le_trans (O160.1 ▸ O160.2.1) fr166_0
  have sz170 : h0.size ≤ x_166 := Nat.le_trans K164.1 fr166_0
  have sf171 : Safe Z own_EL T144.vm T157.heap x_166 := Safe.new fr166_0
  have gg172 : n0 ≤ ta_166 := Nat.le_trans (O160.1 ▸ O160.2.1) fr166_1
  have sz173 : h0.size ≤ ta_166 := Nat.le_trans K164.1 fr166_1
  have sf174 : Safe Z own_EL T144.vm T157.heap ta_166 := Safe.new fr166_1
  have O175 := O160.keep Kq166 all0
  have sf177 : Safe Z own_EL T144.vm T166.heap va_29 := Safe.keep Kq166 sf0 R161.1 sf162
  have sf178 : Safe Z own_EL T144.vm T166.heap x_166 := Safe.keep Kq166 sf0 R161.1 sf171
  have sf179 : Safe Z own_EL T144.vm T166.heap ta_166 := Safe.keep Kq166 sf0 R161.1 sf174
  have R176 : CHr Z own_EL s.vm h0 T144.vm T166.heap := R161.trans (CHr.keep Kq166 sf0 R161.1)
  have hk180 : _ ≤ T166.heap.size := Nat.le_trans hk163 Kq166.1
  have K181 := K164.trans Kq166 all0
  have q182 := fun t (kt : Go p e below T166 (mkF m 46 #[vR a1] [(.ref x_166)]) t) => q125 t (st126 t (st136.trans (st144 t (st157.trans (st166.trans kt)))))
  obtain ⟨fs, hr, hrun, hended, hRE⟩ := X166.leaveW hS144 hk180 (v := some (.ref x_166)) (fun h => by rw [Bd.returns] at h; cases h)
  refine ⟨_, _, q182 _ ?_, hrun, hended, _, _, rfl, ?_, ?_, hRE.1, hRE.2.1, hRE.2.2.1, hRE.2.2.2.mono (by decide) (by decide)⟩
  · show Go p e below T166 (mkF m 46 #[vR a1] [(.ref x_166)]) _
    jvm_step X166.here [X166.here.top, hx, (hb hby d11_46), X166.method', Bd.returns, Value.isRef, FieldType.isReference]
    first | (intro acts; rw [hr _ acts rfl rfl rfl]) | rw [hr _ _ rfl rfl rfl]
    exact Steps.refl _
  · show Q_rm11 Z a1 x1 t1 x2 t2 x3 t3 k1 k2 k3 c1 c2 c3 z_cs v_sf h0 n0 _ T166.heap _
    exact ⟨x_166, ta_166, kt_166, rfl, N168, K181, sz170, sz173, fq166_0, fq166_1, fq166_2, fq166_3⟩
  · show CHr Z own_EL s.vm s.heap T166.vm T166.heap
    rw [hh]
    exact R176.trans (CHv.at X166 hZ hEW R176.1)
def own_ch (cs : List Int32) : List Value := cs.map Value.int ++ List.replicate (10 - cs.length) (.int 0)
theorem own_ch_len {cs : List Int32} (h : cs.length ≤ 10) : (own_ch cs).length = 10 := by simp [own_ch]; omega
theorem own_ch_set {cs : List Int32} (x : Int32) (h : cs.length < 10) : (own_ch cs).set cs.length (.int x) = own_ch (cs ++ [x]) := by
  unfold own_ch
  have e : 10 - cs.length = (10 - (cs ++ [x]).length) + 1 := by simp; omega
  rw [List.set_append_right _ _ (by simp), e, List.replicate_succ]
  simp
theorem own_ch_at {cs : List Int32} {i : Nat} (h : i < cs.length) : (own_ch cs).getD i (.int 0) = .int (cs.getD i 0) := by
  simp [own_ch, List.getD_eq_getElem?_getD, List.getElem?_append, h]
theorem own_cl10 {n : Nat} (h : n < 10) : (Int32.ofNat n).toNatClampNeg = n ∧ ¬ Int32.ofNat n < 0 ∧ Int32.ofNat n < (10 : Int32) ∧ Int32.ofNat n + 1 = Int32.ofNat (n + 1) :=
  (by decide : ∀ n : Fin 10, (Int32.ofNat n.val).toNatClampNeg = n.val ∧ ¬ Int32.ofNat n.val < 0 ∧ Int32.ofNat n.val < (10 : Int32) ∧ Int32.ofNat n.val + 1 = Int32.ofNat (n.val + 1)) ⟨n, by omega⟩
theorem own_put_ret {cs : List Int32} {n x y : Int32} (hn : n = (0 : Int32) ∨ n = (1 : Int32) ∨ n = (2 : Int32)) (h8 : cs.length ≤ 8) : Int32.ofNat cs.length + n = Int32.ofNat (cs ++ own_cs n x y).length := by
  rcases hn with rfl | rfl | rfl
  · simp [own_cs]
  · exact (own_add (a := cs.length) (b := 1) (by omega)).trans (by simp [own_cs])
  · exact (own_add (a := cs.length) (b := 2) (by omega)).trans (by simp [own_cs])
theorem ef_33_RIIII (m : MethodId) (x0 : Addr) (x1 : Int32) (x2 : Int32) (x3 : Int32) (x4 : Int32) : entryFrame m #[(.ref x0), (.int x1), (.int x2), (.int x3), (.int x4)] 5 = mkF m 0 #[.val (.ref x0), .val (.int x1), .val (.int x2), .val (.int x3), .val (.int x4)] [] := by first | (simp [entryFrame, mkF, argsToLocals, Value.category]; done) | rfl
theorem pn_33 : plainName "com/example/installwright/installwright/formats/MarkerToStringPinLaw" = true := by first | (simp [plainName, overriddenIn]; done) | decide +kernel
theorem d33_0 : decode method_4_code 0 = .ok (.iload_n 2, 1) := by decide +kernel
theorem d33_1 : decode method_4_code 1 = .ok (.ifCond .le 7, 3) := by decide +kernel
theorem d33_8 : decode method_4_code 8 = .ok (.iload_n 2, 1) := by decide +kernel
theorem d33_9 : decode method_4_code 9 = .ok (.iconst 1, 1) := by decide +kernel
theorem d33_10 : decode method_4_code 10 = .ok (.if_icmp .le 10, 3) := by decide +kernel
theorem d33_20 : decode method_4_code 20 = .ok (.iload_n 1, 1) := by decide +kernel
theorem d33_21 : decode method_4_code 21 = .ok (.iload_n 2, 1) := by decide +kernel
theorem d33_22 : decode method_4_code 22 = .ok (.iadd, 1) := by decide +kernel
theorem d33_23 : decode method_4_code 23 = .ok (.ireturn, 1) := by decide +kernel
theorem d33_4 : decode method_4_code 4 = .ok (.aload_n 0, 1) := by decide +kernel
theorem d33_5 : decode method_4_code 5 = .ok (.iload_n 1, 1) := by decide +kernel
theorem d33_6 : decode method_4_code 6 = .ok (.iload_n 3, 1) := by decide +kernel
theorem d33_7 : decode method_4_code 7 = .ok (.castore, 1) := by decide +kernel
theorem d33_13 : decode method_4_code 13 = .ok (.aload_n 0, 1) := by decide +kernel
theorem d33_14 : decode method_4_code 14 = .ok (.iload_n 1, 1) := by decide +kernel
theorem d33_15 : decode method_4_code 15 = .ok (.iconst 1, 1) := by decide +kernel
theorem d33_16 : decode method_4_code 16 = .ok (.iadd, 1) := by decide +kernel
theorem d33_17 : decode method_4_code 17 = .ok (.iload 4, 2) := by decide +kernel
theorem d33_19 : decode method_4_code 19 = .ok (.castore, 1) := by decide +kernel
def Q_rm33 (Z : State) (a1 : Addr) (ka : ClassId) (cs : List Int32) (p3 : Int32) (p4 : Int32) (p5 : Int32) (z_cs : Int32) (v_sf : Value) (h0 : Heap) (n0 : Nat) (v : Option Value) (h : Heap) (L : List Loc) : Prop := v = some (.int (Int32.ofNat (cs ++ (own_cs p3 p4 p5)).length)) ∧ Fr n0 L ∧ Keep h0 h [a1] ∧ Arv Z h a1 ka .char (10 : Int32) (own_ch (cs ++ (own_cs p3 p4 p5))) (.int 0)
theorem rm33 (l : Launch) (Z : State) (a0 : Array Value) (hw : ∀ d ∈ tables_1, d.before a0 Z = true) (ws : List Jvm.Cond) {z_cs : Int32} {v_sf : Value} (cx : Cx Z z_cs v_sf) (a1 : Addr) (ka : ClassId) (cs : List Int32) (p3 : Int32) (p4 : Int32) (p5 : Int32) (h0 : Heap) (n0 : Nat) (O0 : Old Z n0 h0) (G0 : Arv Z h0 a1 ka .char (10 : Int32) (own_ch cs) (.int 0)) (g_a1 : n0 ≤ a1) (hn : p3 = (0 : Int32) ∨ p3 = (1 : Int32) ∨ p3 = (2 : Int32)) (h8 : cs.length ≤ 8) (h4 : ¬ p4 < 0 ∧ ¬ (255 : Int32) < p4) (h5 : ¬ p5 < 0 ∧ ¬ (255 : Int32) < p5) :
    OwnMet l ym31 (Jvm.Cond.code ym31 method_4_code 5 (some .int) :: ws) (own_R 0 0 0 0) #[(.ref a1), (.int (Int32.ofNat cs.length)), (.int p3), (.int p4), (.int p5)] Z h0 (Q_rm33 Z a1 ka cs p3 p4 p5 z_cs v_sf h0 n0) := by
  refine own_body (plainFor_of_name pn_33) hisR fun p e s m below meth c s₁ hx hby hml hown hnm hret hZ X0 e0 => ?_
  have N0 := Fr.nil n0
  have K0 : Keep h0 h0 [a1] := Keep.refl _ _
  have pre0 : ∀ t, Go p e below s₁ (mkF m 0 #[vR a1, vI (Int32.ofNat cs.length), vI p3, vI p4, vI p5] []) t → Go p e below s₁ (entryFrame m #[(.ref a1), (.int (Int32.ofNat cs.length)), (.int p3), (.int p4), (.int p5)] 5) t := fun t k => castTop (ef_33_RIIII m a1 (Int32.ofNat cs.length) p3 p4 p5) k
  rcases id hn with hi | hi | hi
  · skip
    have q21 := fun t (kt : Go p e below s₁ (mkF m 0 #[vR a1, vI (Int32.ofNat cs.length), vI 0, vI p4, vI p5] []) t) => pre0 t (by rw [hi]; exact kt)
    have q22 := fun t (kt : Go p e below s₁ (mkF m 23 #[vR a1, vI (Int32.ofNat cs.length), vI 0, vI p4, vI p5] [(.int ((Int32.ofNat cs.length) + (0 : Int32)))]) t) => q21 t (by
      show Go _ _ _ _ (mkF m 0 #[vR a1, vI (Int32.ofNat cs.length), vI 0, vI p4, vI p5] []) _
      refine XS.iloadN X0.here hx rfl (hb hby d33_0) rfl ?_
      show Go _ _ _ _ (mkF m 1 _ [(.int 0)]) _
      refine XS.ifYes X0.here hx rfl (pc0 := 1) (pc' := 8) rfl (hb hby d33_1) rfl ((if0 _ _).trans (flt (by decide : ¬ ((0 : Int32) < (0 : Int32)))).2.2.2) (by decide) (by decide) ?_
      show Go _ _ _ _ (mkF m 8 _ []) _
      refine XS.iloadN X0.here hx rfl (hb hby d33_8) rfl ?_
      show Go _ _ _ _ (mkF m 9 _ [(.int 0)]) _
      refine XS.iconst X0.here hx rfl (hb hby d33_9) ?_
      show Go _ _ _ _ (mkF m 10 _ [(.int 1), (.int 0)]) _
      refine XS.icmpYes X0.here hx rfl (pc0 := 10) (pc' := 20) rfl (hb hby d33_10) rfl (flt (by decide : ¬ ((1 : Int32) < (0 : Int32)))).2.2.2 (by decide) (by decide) ?_
      show Go _ _ _ _ (mkF m 20 _ []) _
      refine XS.iloadN X0.here hx rfl (hb hby d33_20) rfl ?_
      show Go _ _ _ _ (mkF m 21 _ [(.int (Int32.ofNat cs.length))]) _
      refine XS.iloadN X0.here hx rfl (hb hby d33_21) rfl ?_
      show Go _ _ _ _ (mkF m 22 _ [(.int 0), (.int (Int32.ofNat cs.length))]) _
      refine XS.iadd X0.here hx rfl (hb hby d33_22) rfl ?_
      exact kt)
    exact ⟨some (.int ((Int32.ofNat cs.length) + (0 : Int32))), s₁, _, _, _, _, X0, by decide, by decide, nofun, q22, fun fs hr => retI X0 hx hret (hb hby d33_23) hr, by rw [e0]; exact ⟨(congrArg (fun z => some (Value.int z)) (by rw [← own_put_ret (x := p4) (y := p5) hn h8, hi])), N0, K0, (by rw [show cs ++ own_cs p3 p4 p5 = cs from by rw [hi]; simp [own_cs]]; exact G0)⟩⟩
  · skip
    have q23 := fun t (kt : Go p e below s₁ (mkF m 0 #[vR a1, vI (Int32.ofNat cs.length), vI 1, vI p4, vI p5] []) t) => pre0 t (by rw [hi]; exact kt)
    have q25 := fun t (kt : Go p e below s₁ (mkF m 7 #[vR a1, vI (Int32.ofNat cs.length), vI 1, vI p4, vI p5] [(.int p4), (.int (Int32.ofNat cs.length)), (.ref a1)]) t) => q23 t (by
      show Go _ _ _ _ (mkF m 0 #[vR a1, vI (Int32.ofNat cs.length), vI 1, vI p4, vI p5] []) _
      refine XS.iloadN X0.here hx rfl (hb hby d33_0) rfl ?_
      show Go _ _ _ _ (mkF m 1 _ [(.int 1)]) _
      refine XS.ifNo X0.here hx rfl (hb hby d33_1) rfl ((if0 _ _).trans (tlt (by decide : (0 : Int32) < (1 : Int32))).2.2.2) ?_
      show Go _ _ _ _ (mkF m 4 _ []) _
      refine XS.aloadN X0.here hx rfl (hb hby d33_4) rfl rfl ?_
      show Go _ _ _ _ (mkF m 5 _ [(.ref a1)]) _
      refine XS.iloadN X0.here hx rfl (hb hby d33_5) rfl ?_
      show Go _ _ _ _ (mkF m 6 _ [(.int (Int32.ofNat cs.length)), (.ref a1)]) _
      refine XS.iloadN X0.here hx rfl (hb hby d33_6) rfl ?_
      exact kt)
    obtain ⟨c24, Ar24, q24, S24, N24, H24, G24⟩ := id G0
    have hi24 : ¬ ((Int32.ofNat cs.length) < 0 ∨ c24.slots.size ≤ ((Int32.ofNat cs.length)).toNatClampNeg) := inb_of S24 ⟨(own_cl10 (by omega : cs.length < 10)).2.1, (own_cl10 (by omega : cs.length < 10)).2.2.1⟩
    obtain ⟨T26, h26, X26, e26, W26, st26⟩ := stC X0 hx hZ e0 Ar24 (j := (Int32.ofNat cs.length)) hi24 (g := (mkF m 7 #[vR a1, vI (Int32.ofNat cs.length), vI 1, vI p4, vI p5] [(.int p4), (.int (Int32.ofNat cs.length)), (.ref a1)])) rfl rfl (hb hby d33_7)
    have V26 : Arv Z h26 a1 ka .char (10 : Int32) (own_ch (cs ++ [p4])) (.int 0) := by
      have vv := Arv.set Ar24 q24 S24 N24 H24 G24 (fits_nar_char _) W26 cs.length (own_cl10 (by omega : cs.length < 10)).1 (by rw [own_ch_len (Nat.le_of_lt (by omega : cs.length < 10))]; exact (by omega : cs.length < 10))
      rw [show nar .char p4 = p4 from own_narc h4, own_ch_set _ (by omega : cs.length < 10)] at vv
      exact vv
    have N27 := Fr.snoc X26 N0 g_a1
    have O28 := O0.wr W26 g_a1
    have K29 := K0.wr W26 (Or.inl (List.mem_of_getElem? (i := 0) rfl))
    have q30 := fun t (kt : Go p e below T26 (mkF m 23 #[vR a1, vI (Int32.ofNat cs.length), vI 1, vI p4, vI p5] [(.int ((Int32.ofNat cs.length) + (1 : Int32)))]) t) => q25 t (st26 t (by
      show Go _ _ _ _ (mkF m 8 #[vR a1, vI (Int32.ofNat cs.length), vI 1, vI p4, vI p5] []) _
      refine XS.iloadN X26.here hx rfl (hb hby d33_8) rfl ?_
      show Go _ _ _ _ (mkF m 9 _ [(.int 1)]) _
      refine XS.iconst X26.here hx rfl (hb hby d33_9) ?_
      show Go _ _ _ _ (mkF m 10 _ [(.int 1), (.int 1)]) _
      refine XS.icmpYes X26.here hx rfl (pc0 := 10) (pc' := 20) rfl (hb hby d33_10) rfl (flt (by decide : ¬ ((1 : Int32) < (1 : Int32)))).2.2.2 (by decide) (by decide) ?_
      show Go _ _ _ _ (mkF m 20 _ []) _
      refine XS.iloadN X26.here hx rfl (hb hby d33_20) rfl ?_
      show Go _ _ _ _ (mkF m 21 _ [(.int (Int32.ofNat cs.length))]) _
      refine XS.iloadN X26.here hx rfl (hb hby d33_21) rfl ?_
      show Go _ _ _ _ (mkF m 22 _ [(.int 1), (.int (Int32.ofNat cs.length))]) _
      refine XS.iadd X26.here hx rfl (hb hby d33_22) rfl ?_
      exact kt))
    exact ⟨some (.int ((Int32.ofNat cs.length) + (1 : Int32))), T26, _, _, _, _, X26, by decide, by decide, nofun, q30, fun fs hr => retI X26 hx hret (hb hby d33_23) hr, by rw [e26]; exact ⟨(congrArg (fun z => some (Value.int z)) (by rw [← own_put_ret (x := p4) (y := p5) hn h8, hi])), N27, K29, (by rw [show cs ++ own_cs p3 p4 p5 = (cs ++ [p4]) from by rw [hi]; simp [own_cs]]; exact V26)⟩⟩
  · skip
    have q31 := fun t (kt : Go p e below s₁ (mkF m 0 #[vR a1, vI (Int32.ofNat cs.length), vI 2, vI p4, vI p5] []) t) => pre0 t (by rw [hi]; exact kt)
    have q33 := fun t (kt : Go p e below s₁ (mkF m 7 #[vR a1, vI (Int32.ofNat cs.length), vI 2, vI p4, vI p5] [(.int p4), (.int (Int32.ofNat cs.length)), (.ref a1)]) t) => q31 t (by
      show Go _ _ _ _ (mkF m 0 #[vR a1, vI (Int32.ofNat cs.length), vI 2, vI p4, vI p5] []) _
      refine XS.iloadN X0.here hx rfl (hb hby d33_0) rfl ?_
      show Go _ _ _ _ (mkF m 1 _ [(.int 2)]) _
      refine XS.ifNo X0.here hx rfl (hb hby d33_1) rfl ((if0 _ _).trans (tlt (by decide : (0 : Int32) < (2 : Int32))).2.2.2) ?_
      show Go _ _ _ _ (mkF m 4 _ []) _
      refine XS.aloadN X0.here hx rfl (hb hby d33_4) rfl rfl ?_
      show Go _ _ _ _ (mkF m 5 _ [(.ref a1)]) _
      refine XS.iloadN X0.here hx rfl (hb hby d33_5) rfl ?_
      show Go _ _ _ _ (mkF m 6 _ [(.int (Int32.ofNat cs.length)), (.ref a1)]) _
      refine XS.iloadN X0.here hx rfl (hb hby d33_6) rfl ?_
      exact kt)
    obtain ⟨c32, Ar32, q32, S32, N32, H32, G32⟩ := id G0
    have hi32 : ¬ ((Int32.ofNat cs.length) < 0 ∨ c32.slots.size ≤ ((Int32.ofNat cs.length)).toNatClampNeg) := inb_of S32 ⟨(own_cl10 (by omega : cs.length < 10)).2.1, (own_cl10 (by omega : cs.length < 10)).2.2.1⟩
    obtain ⟨T34, h34, X34, e34, W34, st34⟩ := stC X0 hx hZ e0 Ar32 (j := (Int32.ofNat cs.length)) hi32 (g := (mkF m 7 #[vR a1, vI (Int32.ofNat cs.length), vI 2, vI p4, vI p5] [(.int p4), (.int (Int32.ofNat cs.length)), (.ref a1)])) rfl rfl (hb hby d33_7)
    have V34 : Arv Z h34 a1 ka .char (10 : Int32) (own_ch (cs ++ [p4])) (.int 0) := by
      have vv := Arv.set Ar32 q32 S32 N32 H32 G32 (fits_nar_char _) W34 cs.length (own_cl10 (by omega : cs.length < 10)).1 (by rw [own_ch_len (Nat.le_of_lt (by omega : cs.length < 10))]; exact (by omega : cs.length < 10))
      rw [show nar .char p4 = p4 from own_narc h4, own_ch_set _ (by omega : cs.length < 10)] at vv
      exact vv
    have N35 := Fr.snoc X34 N0 g_a1
    have O36 := O0.wr W34 g_a1
    have K37 := K0.wr W34 (Or.inl (List.mem_of_getElem? (i := 0) rfl))
    have q38 := fun t (kt : Go p e below T34 (mkF m 17 #[vR a1, vI (Int32.ofNat cs.length), vI 2, vI p4, vI p5] [(.int ((Int32.ofNat cs.length) + (1 : Int32))), (.ref a1)]) t) => q33 t (st34 t (by
      show Go _ _ _ _ (mkF m 8 #[vR a1, vI (Int32.ofNat cs.length), vI 2, vI p4, vI p5] []) _
      refine XS.iloadN X34.here hx rfl (hb hby d33_8) rfl ?_
      show Go _ _ _ _ (mkF m 9 _ [(.int 2)]) _
      refine XS.iconst X34.here hx rfl (hb hby d33_9) ?_
      show Go _ _ _ _ (mkF m 10 _ [(.int 1), (.int 2)]) _
      refine XS.icmpNo X34.here hx rfl (hb hby d33_10) rfl (tlt (by decide : (1 : Int32) < (2 : Int32))).2.2.2 ?_
      show Go _ _ _ _ (mkF m 13 _ []) _
      refine XS.aloadN X34.here hx rfl (hb hby d33_13) rfl rfl ?_
      show Go _ _ _ _ (mkF m 14 _ [(.ref a1)]) _
      refine XS.iloadN X34.here hx rfl (hb hby d33_14) rfl ?_
      show Go _ _ _ _ (mkF m 15 _ [(.int (Int32.ofNat cs.length)), (.ref a1)]) _
      refine XS.iconst X34.here hx rfl (hb hby d33_15) ?_
      show Go _ _ _ _ (mkF m 16 _ [(.int 1), (.int (Int32.ofNat cs.length)), (.ref a1)]) _
      refine XS.iadd X34.here hx rfl (hb hby d33_16) rfl ?_
      exact kt))
    have q39 := fun t (kt : Go p e below T34 (mkF m 17 #[vR a1, vI (Int32.ofNat cs.length), vI 2, vI p4, vI p5] [(.int (Int32.ofNat (cs ++ [p4]).length)), (.ref a1)]) t) => q38 t (by rw [(show ((Int32.ofNat cs.length) + (1 : Int32)) = (Int32.ofNat (cs ++ [p4]).length) from (by rw [List.length_append]; exact (own_cl10 (by omega)).2.2.2))]; exact kt)
    have q41 := fun t (kt : Go p e below T34 (mkF m 19 #[vR a1, vI (Int32.ofNat cs.length), vI 2, vI p4, vI p5] [(.int p5), (.int (Int32.ofNat (cs ++ [p4]).length)), (.ref a1)]) t) => q39 t (by
      show Go _ _ _ _ (mkF m 17 #[vR a1, vI (Int32.ofNat cs.length), vI 2, vI p4, vI p5] [(.int (Int32.ofNat (cs ++ [p4]).length)), (.ref a1)]) _
      refine XS.iload X34.here hx rfl (hb hby d33_17) rfl ?_
      exact kt)
    obtain ⟨c40, Ar40, q40, S40, N40, H40, G40⟩ := id V34
    have hi40 : ¬ ((Int32.ofNat (cs ++ [p4]).length) < 0 ∨ c40.slots.size ≤ ((Int32.ofNat (cs ++ [p4]).length)).toNatClampNeg) := inb_of S40 ⟨(own_cl10 (by rw [List.length_append]; show cs.length + 1 < 10; omega : (cs ++ [p4]).length < 10)).2.1, (own_cl10 (by rw [List.length_append]; show cs.length + 1 < 10; omega : (cs ++ [p4]).length < 10)).2.2.1⟩
    obtain ⟨T42, h42, X42, e42, W42, st42⟩ := stC X34 hx hZ e34 Ar40 (j := (Int32.ofNat (cs ++ [p4]).length)) hi40 (g := (mkF m 19 #[vR a1, vI (Int32.ofNat cs.length), vI 2, vI p4, vI p5] [(.int p5), (.int (Int32.ofNat (cs ++ [p4]).length)), (.ref a1)])) rfl rfl (hb hby d33_19)
    have V42 : Arv Z h42 a1 ka .char (10 : Int32) (own_ch ((cs ++ [p4]) ++ [p5])) (.int 0) := by
      have vv := Arv.set Ar40 q40 S40 N40 H40 G40 (fits_nar_char _) W42 (cs ++ [p4]).length (own_cl10 (by rw [List.length_append]; show cs.length + 1 < 10; omega : (cs ++ [p4]).length < 10)).1 (by rw [own_ch_len (Nat.le_of_lt (by rw [List.length_append]; show cs.length + 1 < 10; omega : (cs ++ [p4]).length < 10))]; exact (by rw [List.length_append]; show cs.length + 1 < 10; omega : (cs ++ [p4]).length < 10))
      rw [show nar .char p5 = p5 from own_narc h5, own_ch_set _ (by rw [List.length_append]; show cs.length + 1 < 10; omega : (cs ++ [p4]).length < 10)] at vv
      exact vv
    have N43 := Fr.snoc X42 N35 g_a1
    have O44 := O36.wr W42 g_a1
    have K45 := K37.wr W42 (Or.inl (List.mem_of_getElem? (i := 0) rfl))
    have q46 := fun t (kt : Go p e below T42 (mkF m 23 #[vR a1, vI (Int32.ofNat cs.length), vI 2, vI p4, vI p5] [(.int ((Int32.ofNat cs.length) + (2 : Int32)))]) t) => q41 t (st42 t (by
      show Go _ _ _ _ (mkF m 20 #[vR a1, vI (Int32.ofNat cs.length), vI 2, vI p4, vI p5] []) _
      refine XS.iloadN X42.here hx rfl (hb hby d33_20) rfl ?_
      show Go _ _ _ _ (mkF m 21 _ [(.int (Int32.ofNat cs.length))]) _
      refine XS.iloadN X42.here hx rfl (hb hby d33_21) rfl ?_
      show Go _ _ _ _ (mkF m 22 _ [(.int 2), (.int (Int32.ofNat cs.length))]) _
      refine XS.iadd X42.here hx rfl (hb hby d33_22) rfl ?_
      exact kt))
    exact ⟨some (.int ((Int32.ofNat cs.length) + (2 : Int32))), T42, _, _, _, _, X42, by decide, by decide, nofun, q46, fun fs hr => retI X42 hx hret (hb hby d33_23) hr, by rw [e42]; exact ⟨(congrArg (fun z => some (Value.int z)) (by rw [← own_put_ret (x := p4) (y := p5) hn h8, hi])), N43, K45, (by rw [show cs ++ own_cs p3 p4 p5 = ((cs ++ [p4]) ++ [p5]) from by rw [hi]; simp [own_cs]]; exact V42)⟩⟩
theorem own_ltI {a b : Nat} (ha : a ≤ 16) (hb : b ≤ 16) : Int32.ofNat a < Int32.ofNat b ↔ a < b :=
  (by decide +kernel : ∀ a b : Fin 17, Int32.ofNat a.val < Int32.ofNat b.val ↔ a.val < b.val) ⟨a, by omega⟩ ⟨b, by omega⟩
def own_Lat (cs : List Int32) : Prop := ∀ c ∈ cs, ¬ c < 0 ∧ ¬ (255 : Int32) < c
theorem own_latA {a b : List Int32} (ha : own_Lat a) (hb : own_Lat b) : own_Lat (a ++ b) := fun c hc => (List.mem_append.mp hc).elim (ha c) (hb c)
theorem own_latC {n x y : Int32} (hx : ¬ x < 0 ∧ ¬ (255 : Int32) < x) (hy : ¬ y < 0 ∧ ¬ (255 : Int32) < y) : own_Lat (own_cs n x y) := by
  intro c hc
  unfold own_cs at hc
  split at hc
  · cases hc
  · split at hc
    · cases List.mem_singleton.mp hc; exact hx
    · rcases List.mem_cons.mp hc with rfl | h2
      · exact hx
      · cases List.mem_singleton.mp h2; exact hy
theorem own_latS {l : List Int32} (h : (l.all fun c => decide (¬ c < 0 ∧ ¬ (255 : Int32) < c)) = true) : own_Lat l := fun c hc => of_decide_eq_true (List.all_eq_true.mp h c hc)
theorem own_latL : own_Lat [] ∧ own_Lat [32, 40] ∧ own_Lat [32] ∧ own_Lat [41] := ⟨own_latS (by decide), own_latS (by decide), own_latS (by decide), own_latS (by decide)⟩
theorem ef_34_RRI (m : MethodId) (x0 : Addr) (x1 : Addr) (x2 : Int32) : entryFrame m #[(.ref x0), (.ref x1), (.int x2)] 3 = mkF m 0 #[.val (.ref x0), .val (.ref x1), .val (.int x2)] [] := by first | (simp [entryFrame, mkF, argsToLocals, Value.category]; done) | rfl
theorem pn_34 : plainName "com/example/installwright/installwright/formats/MarkerToStringPinLaw" = true := by first | (simp [plainName, overriddenIn]; done) | decide +kernel
theorem d34_0 : decode method_5_code 0 = .ok (.iload_n 2, 1) := by decide +kernel
theorem d34_1 : decode method_5_code 1 = .ok (.aload_n 0, 1) := by decide +kernel
theorem d34_2 : decode method_5_code 2 = .ok (.invokevirtual 26, 3) := by decide +kernel
theorem d34_5 : decode method_5_code 5 = .ok (.if_icmp .ge 14, 3) := by decide +kernel
theorem d34_8 : decode method_5_code 8 = .ok (.aload_n 0, 1) := by decide +kernel
theorem d34_9 : decode method_5_code 9 = .ok (.iload_n 2, 1) := by decide +kernel
theorem d34_10 : decode method_5_code 10 = .ok (.invokevirtual 43, 3) := by decide +kernel
theorem pd_23 : parseMethodDescriptor "(I)C" = some ⟨[.int], some .char⟩ := by decide +kernel
theorem d34_13 : decode method_5_code 13 = .ok (.aload_n 1, 1) := by decide +kernel
theorem d34_14 : decode method_5_code 14 = .ok (.iload_n 2, 1) := by decide +kernel
theorem d34_15 : decode method_5_code 15 = .ok (.caload, 1) := by decide +kernel
theorem d34_16 : decode method_5_code 16 = .ok (.if_icmp .ne 7, 3) := by decide +kernel
theorem d34_19 : decode method_5_code 19 = .ok (.iconst 1, 1) := by decide +kernel
theorem d34_20 : decode method_5_code 20 = .ok (.goto 4, 3) := by decide +kernel
theorem d34_24 : decode method_5_code 24 = .ok (.ireturn, 1) := by decide +kernel
def Q_rm34 (Z : State) (x : Addr) (ta : Addr) (a1 : Addr) (kt : ClassId) (ka : ClassId) (ds : List Int32) (pi : Int32) (ni : Nat) (z_cs : Int32) (v_sf : Value) (h0 : Heap) (n0 : Nat) (v : Option Value) (h : Heap) (L : List Loc) : Prop := v = some (.int 1) ∧ Fr n0 L ∧ h = h0
theorem rm34 (l : Launch) (Z : State) (a0 : Array Value) (hw : ∀ d ∈ tables_1, d.before a0 Z = true) (ws : List Jvm.Cond) {z_cs : Int32} {v_sf : Value} (cx : Cx Z z_cs v_sf) (x : Addr) (ta : Addr) (a1 : Addr) (kt : ClassId) (ka : ClassId) (ds : List Int32) (pi : Int32) (ni : Nat) (h0 : Heap) (n0 : Nat) (O0 : Old Z n0 h0) (G0 : Exa Z h0 x sk4) (G1 : Fld Z h0 x sk4 "value" "[B" (.ref ta)) (G2 : Fld Z h0 x sk4 "coder" "B" (.int 0)) (G3 : Arv Z h0 ta kt .byte (Int32.ofNat ds.length) (own_by ds) (.int 0)) (G4 : Arv Z h0 a1 ka .char (10 : Int32) (own_ch ds) (.int 0)) (hpi : pi = Int32.ofNat ni) (h10 : ni < 10) (hl : ds.length ≤ 10) (lat : own_Lat ds) :
    OwnMet l ym32 (Jvm.Cond.code ym32 method_5_code 3 (some .boolean) :: ws) (own_R 4 0 0 53) #[(.ref x), (.ref a1), (.int pi)] Z h0 (Q_rm34 Z x ta a1 kt ka ds pi ni z_cs v_sf h0 n0) := by
  refine own_body (plainFor_of_name pn_34) hisR fun p e s m below meth c s₁ hx hby hml hown hnm hret hZ X0 e0 => ?_
  have N0 := Fr.nil n0
  have pre0 : ∀ t, Go p e below s₁ (mkF m 0 #[vR x, vR a1, vI pi] []) t → Go p e below s₁ (entryFrame m #[(.ref x), (.ref a1), (.int pi)] 3) t := fun t k => castTop (ef_34_RRI m x a1 pi) k
  have q21 := fun t (kt : Go p e below s₁ (mkF m 2 #[vR x, vR a1, vI pi] [(.ref x), (.int pi)]) t) => pre0 t (by
    show Go _ _ _ _ (mkF m 0 #[vR x, vR a1, vI pi] []) _
    refine XS.iloadN X0.here hx rfl (hb hby d34_0) rfl ?_
    show Go _ _ _ _ (mkF m 1 _ [(.int pi)]) _
    refine XS.aloadN X0.here hx rfl (hb hby d34_1) rfl rfl ?_
    exact kt)
  obtain ⟨cq23, kq23, q23a, q23b, q23c⟩ := isOf hZ e0 G0
  obtain ⟨_, _, ⟨T22, L22, k22, n22⟩, -, X22, ⟨_, hQ22, l22, y22, z22⟩, st22⟩ := X0.virtualBack hx (y := ym1) (z := ym1) hown (ow hZ hw 180 rfl) (ow hZ hw 93 rfl) (notFace_of_selects (args := #[]) (ow hZ hw 95 rfl)) (ow hZ hw 95 rfl) (ow hZ hw 94 rfl) (by decide) (backOf (W := 1) (rm16 l Z a0 hw [] cx x ta kt ds h0 n0 O0 G0 G1 G2 G3) hZ (ox hw 96 rfl) (ox hw 6 rfl) (by decide) (by decide)) q23a q23c (g := (mkF m 2 #[vR x, vR a1, vI pi] [(.ref x), (.int pi)])) rfl (by rw [hml]; rfl) (Steps.refl _) (argsL := []) (rest := [(.int pi)]) (lenOf pd_4 rfl) rfl own_le0 (hb hby d34_2) (fun _ _ => ⟨rfl, e0, (by decide : 0 + 0 ≤ _), (by decide : 0 + 0 ≤ _)⟩)
  dsimp only [Pt.U, Pt.locs, Pt.cells, Pt.slots] at X22 l22 y22 z22 st22 hQ22
  subst l22 y22 z22
  obtain ⟨rfl, Nq22, eq22⟩ := hQ22
  have N24 := Fr.app N0 Nq22
  have q25 := fun t (kt : Go p e below T22 (mkF m 5 #[vR x, vR a1, vI pi] [(.int (Int32.ofNat ds.length)), (.int pi)]) t) => q21 t (st22.trans kt)
  by_cases hc26 : pi < (Int32.ofNat ds.length)
  · have q27 := fun t (kt : Go p e below T22 (mkF m 10 #[vR x, vR a1, vI pi] [(.int pi), (.ref x)]) t) => q25 t (by
      show Go _ _ _ _ (mkF m 5 #[vR x, vR a1, vI pi] [(.int (Int32.ofNat ds.length)), (.int pi)]) _
      refine XS.icmpNo X22.here hx rfl (hb hby d34_5) rfl (tlt hc26).2.1 ?_
      show Go _ _ _ _ (mkF m 8 _ []) _
      refine XS.aloadN X22.here hx rfl (hb hby d34_8) rfl rfl ?_
      show Go _ _ _ _ (mkF m 9 _ [(.ref x)]) _
      refine XS.iloadN X22.here hx rfl (hb hby d34_9) rfl ?_
      exact kt)
    have hsw28 : ∀ d ∈ StrChars.Road.wordsChN, d.before a0 Z = true := fun d hd => hw d ((by decide +kernel : ∀ d ∈ StrChars.Road.wordsChN, d ∈ tables_1) d hd)
    obtain ⟨cq30, kq30, q30a, q30b, q30c⟩ := isOf hZ eq22 G0
    obtain ⟨_, _, ⟨T29, L29, k29, n29⟩, -, X29, ⟨_, hQ29, l29, y29, z29⟩, st29⟩ := X22.virtualBack hx (y := ym33) (z := ym33) hown (ow hZ hw 184 rfl) (ow hZ hw 185 rfl) (notFace_of_selects (args := #[]) (ow hZ hw 187 rfl)) (ow hZ hw 187 rfl) (ow hZ hw 186 rfl) (by decide) (StrChars.Road.chN (W := 0) (cs := ds) (i := ni) hZ hsw28 (kI := 4) (ox hw 14 rfl) G0 G1 G2 G3 (own_cod ⟨rfl, rfl⟩ (fun c hc => (lat c hc).2)) (own_up _ lat) (cx.1.ext O0.2) cx.2.1 (cx.2.2.1.ext O0.2) cx.2.2.2 (by omega) (by have zz := hc26; rw [hpi] at zz; exact (own_ltI (by omega) (by omega)).mp zz) hpi (by decide) (by decide)) q30a q30c (g := (mkF m 10 #[vR x, vR a1, vI pi] [(.int pi), (.ref x)])) rfl (by rw [hml]; rfl) (Steps.refl _) (argsL := [(.int pi)]) (rest := []) (lenOf pd_23 rfl) rfl own_le0 (hb hby d34_10) (fun _ _ => ⟨rfl, eq22, (by decide : 0 + 0 ≤ _), (by decide : 0 + 0 ≤ _)⟩)
    dsimp only [Pt.U, Pt.locs, Pt.cells, Pt.slots] at X29 l29 y29 z29 st29 hQ29
    subst l29 y29 z29
    obtain ⟨rfl, rfl, eq29⟩ := hQ29
    try rw [List.append_nil] at X29
    have q32 := fun t (kt : Go p e below T29 (mkF m 15 #[vR x, vR a1, vI pi] [(.int pi), (.ref a1), (.int (ds.getD ni 0))]) t) => q27 t (st29.trans (by
      show Go _ _ _ _ (mkF m 13 #[vR x, vR a1, vI pi] [(.int (ds.getD ni 0))]) _
      refine XS.aloadN X29.here hx rfl (hb hby d34_13) rfl rfl ?_
      show Go _ _ _ _ (mkF m 14 _ [(.ref a1), (.int (ds.getD ni 0))]) _
      refine XS.iloadN X29.here hx rfl (hb hby d34_14) rfl ?_
      exact kt))
    obtain ⟨c31, Ar31, -, S31, N31, H31, -⟩ := id G4
    have q33 := fun t (kt : Go p e below T29 (mkF m 24 #[vR x, vR a1, vI pi] [(.int 1)]) t) => q32 t (by
      show Go _ _ _ _ (mkF m 15 #[vR x, vR a1, vI pi] [(.int pi), (.ref a1), (.int (ds.getD ni 0))]) _
      refine X29.caload hx (j := pi) (v := (.int (ds.getD ni 0))) (by rw [eq29]; exact Ar31.1) (State.isArrayOf_alike hZ.alike Ar31.2.1) Ar31.2.2 (inb_of S31 (by rw [hpi]; exact ⟨(own_cl10 h10).2.1, (own_cl10 h10).2.2.1⟩)) (Has.at H31 (inb_of S31 (by rw [hpi]; exact ⟨(own_cl10 h10).2.1, (own_cl10 h10).2.2.1⟩)) (by rw [hpi, (own_cl10 h10).1]; exact own_ch_at (by have zz := hc26; rw [hpi] at zz; exact (own_ltI (by omega) (by omega)).mp zz))) (g := (mkF m 15 #[vR x, vR a1, vI pi] [(.int pi), (.ref a1), (.int (ds.getD ni 0))])) rfl rfl (hb hby d34_15) _ ?_
      show Go _ _ _ _ (mkF m 16 _ [(.int (ds.getD ni 0)), (.int (ds.getD ni 0))]) _
      refine XS.icmpNo X29.here hx rfl (hb hby d34_16) rfl (teq (rfl : (ds.getD ni 0) = (ds.getD ni 0))).2 ?_
      show Go _ _ _ _ (mkF m 19 _ []) _
      refine XS.iconst X29.here hx rfl (hb hby d34_19) ?_
      show Go _ _ _ _ (mkF m 20 _ [(.int 1)]) _
      refine XS.goto X29.here hx rfl (pc0 := 20) (pc' := 24) rfl (hb hby d34_20) (by decide) (by decide) ?_
      exact kt)
    exact ⟨some (.int 1), T29, _, _, _, _, X29, by decide, by decide, nofun, q33, fun fs hr => retN X29 hx (t := .boolean) hret (by simp) (hb hby d34_24) hr, by rw [eq29]; exact ⟨rfl, N24, rfl⟩⟩
  · have q34 := fun t (kt : Go p e below T22 (mkF m 24 #[vR x, vR a1, vI pi] [(.int 1)]) t) => q25 t (by
      show Go _ _ _ _ (mkF m 5 #[vR x, vR a1, vI pi] [(.int (Int32.ofNat ds.length)), (.int pi)]) _
      refine XS.icmpYes X22.here hx rfl (pc0 := 5) (pc' := 19) rfl (hb hby d34_5) rfl (flt hc26).2.1 (by decide) (by decide) ?_
      show Go _ _ _ _ (mkF m 19 _ []) _
      refine XS.iconst X22.here hx rfl (hb hby d34_19) ?_
      show Go _ _ _ _ (mkF m 20 _ [(.int 1)]) _
      refine XS.goto X22.here hx rfl (pc0 := 20) (pc' := 24) rfl (hb hby d34_20) (by decide) (by decide) ?_
      exact kt)
    exact ⟨some (.int 1), T22, _, _, _, _, X22, by decide, by decide, nofun, q34, fun fs hr => retN X22 hx (t := .boolean) hret (by simp) (hb hby d34_24) hr, by rw [eq22]; exact ⟨rfl, N24, rfl⟩⟩
theorem ef_0_IIII (m : MethodId) (x0 : Int32) (x1 : Int32) (x2 : Int32) (x3 : Int32) : entryFrame m #[(.int x0), (.int x1), (.int x2), (.int x3)] maxLocals = mkF m 0 #[.val (.int x0), .val (.int x1), .val (.int x2), .val (.int x3), .unset, .unset, .unset, .unset, .unset, .unset, .unset, .unset, .unset, .unset, .unset, .unset, .unset, .unset, .unset] [] := by first | (simp [entryFrame, mkF, argsToLocals, Value.category, maxLocals]; done) | rfl
theorem pn_0 : plainName "com/example/installwright/installwright/formats/MarkerToStringPinLaw" = true := by first | (simp [plainName, overriddenIn]; done) | decide +kernel
theorem pd_24 : parseMethodDescriptor "(ICC)Ljava/lang/String;" = some ⟨[.int, .char, .char], some (.object "java/lang/String")⟩ := by decide +kernel
theorem pd_25 : parseMethodDescriptor "(Ljava/lang/String;Ljava/lang/String;Ljava/lang/String;)V" = some ⟨[(.object "java/lang/String"), (.object "java/lang/String"), (.object "java/lang/String")], none⟩ := by decide +kernel
theorem pd_26 : parseMethodDescriptor "([CIICC)I" = some ⟨[(.array .char), .int, .int, .char, .char], some .int⟩ := by decide +kernel
theorem pd_27 : parseMethodDescriptor "(Ljava/lang/String;[CI)Z" = some ⟨[(.object "java/lang/String"), (.array .char), .int], some .boolean⟩ := by decide +kernel
def Q_rm0 (Z : State) (p1 : Int32) (p2 : Int32) (p3 : Int32) (p4 : Int32) (z_cs : Int32) (v_sf : Value) (h0 : Heap) (n0 : Nat) (v : Option Value) (h : Heap) (L : List Loc) : Prop := v = some (.int 1) ∧ Fr n0 L
theorem rm0 (l : Launch) (Z : State) (a0 : Array Value) (hw : ∀ d ∈ tables_1, d.before a0 Z = true) (ws : List Jvm.Cond) {z_cs : Int32} {v_sf : Value} (cx : Cx Z z_cs v_sf) (p1 : Int32) (p2 : Int32) (p3 : Int32) (p4 : Int32) (h0 : Heap) (n0 : Nat) (O0 : Old Z n0 h0) :
    MetFree l x (head1 (Jvm.Cond.code x code maxLocals ret :: ws) room_1) (fun a U => a = #[(.int p1), (.int p2), (.int p3), (.int p4)] ∧ Z.Warmed39 U.vm ∧ U.heap = h0 ∧ CHv Z own_EL U.vm h0) (fun _ _ _ _ _ => True) (fun _ U o U' => ∃ v L, o = .returned v ∧ Q_rm0 Z p1 p2 p3 p4 z_cs v_sf h0 n0 v U'.heap L ∧ CHr Z own_EL U.vm U.heap U'.vm U'.heap ∧ ReturnedEndW U o U' L room_1.cells room_1.slots) := by
  refine MetFree.of_bodySF (plainFor_of_name pn_0) hisR ?_
  intro p e s m args below meth c s₁ Bd hml0 hP hK
  obtain ⟨rfl, hZ, hh, hCH⟩ := hP
  have hx := Bd.exec
  have hby := Bd.bytes
  have hml : c.maxLocals = 19 := hml0
  have hown : s.vm.findClass sk2 = some m.cls := findClass_of_methodNamed Bd.named
  have hnm := (name_of_methodNamed Bd.named Bd.method).1
  have hS0 : s.Since s.vm 0 := (State.WarmedH.refl s).since 0
  have hk0 : 0 ≤ h0.size := Nat.zero_le _
  have hwS : ∀ d ∈ Bundle.stringAtoms, d.before a0 Z = true := fun d hd => hw d ((by decide +kernel : ∀ d ∈ Bundle.stringAtoms, d ∈ tables_1) d hd)
  have X0 : Stand p l e room_1 (s.setVm s.vm) m #[(.int p1), (.int p2), (.int p3), (.int p4)] below meth c s₁ [] 0 0 := Stand.of_body Bd
  have e0 : s₁.heap = h0 := by rw [← hh, Bd.state]; rfl
  have N0 := Fr.nil n0
  have R0 : CHr Z own_EL s.vm h0 s.vm h0 := CHr.refl hCH
  have hEW : EW Z a0 own_EL := own_EW hw
  have pre0 : ∀ t, Go p e below s₁ (mkF m 0 #[vI p1, vI p2, vI p3, vI p4, vU, vU, vU, vU, vU, vU, vU, vU, vU, vU, vU, vU, vU, vU, vU] []) t → Go p e below s₁ (entryFrame m #[(.int p1), (.int p2), (.int p3), (.int p4)] maxLocals) t := fun t k => castTop (ef_0_IIII m p1 p2 p3 p4) k
  have q21 := fun t (kt : Go p e below s₁ (mkF m 5 #[vI p1, vI p2, vI p3, vI p4, vU, vU, vU, vU, vU, vU, vU, vU, vU, vU, vU, vU, vU, vU, vU] [(.int ((p4 &&& (3 : Int32)) % (3 : Int32)))]) t) => pre0 t (by
    show Go _ _ _ _ (mkF m 0 #[vI p1, vI p2, vI p3, vI p4, vU, vU, vU, vU, vU, vU, vU, vU, vU, vU, vU, vU, vU, vU, vU] []) _
    refine XS.iloadN X0.here hx rfl (hb hby at_0) rfl ?_
    show Go _ _ _ _ (mkF m 1 _ [(.int p4)]) _
    refine XS.iconst X0.here hx rfl (hb hby at_1) ?_
    show Go _ _ _ _ (mkF m 2 _ [(.int 3), (.int p4)]) _
    refine XS.iand X0.here hx rfl (hb hby at_2) rfl ?_
    show Go _ _ _ _ (mkF m 3 _ [(.int (p4 &&& (3 : Int32)))]) _
    refine XS.iconst X0.here hx rfl (hb hby at_3) ?_
    show Go _ _ _ _ (mkF m 4 _ [(.int 3), (.int (p4 &&& (3 : Int32)))]) _
    refine iremM (g := (mkF m 4 #[vI p1, vI p2, vI p3, vI p4, vU, vU, vU, vU, vU, vU, vU, vU, vU, vU, vU, vU, vU, vU, vU] [(.int 3), (.int (p4 &&& (3 : Int32)))])) X0 hx rfl (hb hby at_4) rfl (by decide : ¬ ((3 : Int32) = (0 : Int32))) ?_
    exact kt)
  obtain ⟨n1, h_n1⟩ : ∃ z : Int32, z = ((p4 &&& (3 : Int32)) % (3 : Int32)) := ⟨_, rfl⟩
  have l_n1 : n1 = (0 : Int32) ∨ n1 = (1 : Int32) ∨ n1 = (2 : Int32) := by rw [h_n1]; exact own_rem _
  have q22 := fun t (kt : Go p e below s₁ (mkF m 5 #[vI p1, vI p2, vI p3, vI p4, vU, vU, vU, vU, vU, vU, vU, vU, vU, vU, vU, vU, vU, vU, vU] [(.int n1)]) t) => q21 t (by rw [← h_n1]; exact kt)
  have q23 := fun t (kt : Go p e below s₁ (mkF m 14 #[vI p1, vI p2, vI p3, vI p4, vI n1, vU, vU, vU, vU, vU, vU, vU, vU, vU, vU, vU, vU, vU, vU] [(.int ((((p4.toUInt32 >>> ((2 : Int32) &&& 31).toUInt32).toInt32) &&& (3 : Int32)) % (3 : Int32)))]) t) => q22 t (by
    show Go _ _ _ _ (mkF m 5 #[vI p1, vI p2, vI p3, vI p4, vU, vU, vU, vU, vU, vU, vU, vU, vU, vU, vU, vU, vU, vU, vU] [(.int n1)]) _
    refine XS.istore X0.here hx rfl (hb hby at_5) rfl (l' := #[vI p1, vI p2, vI p3, vI p4, vI n1, vU, vU, vU, vU, vU, vU, vU, vU, vU, vU, vU, vU, vU, vU]) rfl ?_
    show Go _ _ _ _ (mkF m 7 #[vI p1, vI p2, vI p3, vI p4, vI n1, vU, vU, vU, vU, vU, vU, vU, vU, vU, vU, vU, vU, vU, vU] []) _
    refine XS.iloadN X0.here hx rfl (hb hby at_7) rfl ?_
    show Go _ _ _ _ (mkF m 8 _ [(.int p4)]) _
    refine XS.iconst X0.here hx rfl (hb hby at_8) ?_
    show Go _ _ _ _ (mkF m 9 _ [(.int 2), (.int p4)]) _
    refine XS.iushr X0.here hx rfl (hb hby at_9) rfl ?_
    show Go _ _ _ _ (mkF m 10 _ [(.int ((p4.toUInt32 >>> ((2 : Int32) &&& 31).toUInt32).toInt32))]) _
    refine XS.iconst X0.here hx rfl (hb hby at_10) ?_
    show Go _ _ _ _ (mkF m 11 _ [(.int 3), (.int ((p4.toUInt32 >>> ((2 : Int32) &&& 31).toUInt32).toInt32))]) _
    refine XS.iand X0.here hx rfl (hb hby at_11) rfl ?_
    show Go _ _ _ _ (mkF m 12 _ [(.int (((p4.toUInt32 >>> ((2 : Int32) &&& 31).toUInt32).toInt32) &&& (3 : Int32)))]) _
    refine XS.iconst X0.here hx rfl (hb hby at_12) ?_
    show Go _ _ _ _ (mkF m 13 _ [(.int 3), (.int (((p4.toUInt32 >>> ((2 : Int32) &&& 31).toUInt32).toInt32) &&& (3 : Int32)))]) _
    refine iremM (g := (mkF m 13 #[vI p1, vI p2, vI p3, vI p4, vI n1, vU, vU, vU, vU, vU, vU, vU, vU, vU, vU, vU, vU, vU, vU] [(.int 3), (.int (((p4.toUInt32 >>> ((2 : Int32) &&& 31).toUInt32).toInt32) &&& (3 : Int32)))])) X0 hx rfl (hb hby at_13) rfl (by decide : ¬ ((3 : Int32) = (0 : Int32))) ?_
    exact kt)
  obtain ⟨n2, h_n2⟩ : ∃ z : Int32, z = ((((p4.toUInt32 >>> ((2 : Int32) &&& 31).toUInt32).toInt32) &&& (3 : Int32)) % (3 : Int32)) := ⟨_, rfl⟩
  have l_n2 : n2 = (0 : Int32) ∨ n2 = (1 : Int32) ∨ n2 = (2 : Int32) := by rw [h_n2]; exact own_rem _
  have q24 := fun t (kt : Go p e below s₁ (mkF m 14 #[vI p1, vI p2, vI p3, vI p4, vI n1, vU, vU, vU, vU, vU, vU, vU, vU, vU, vU, vU, vU, vU, vU] [(.int n2)]) t) => q23 t (by rw [← h_n2]; exact kt)
  have q25 := fun t (kt : Go p e below s₁ (mkF m 23 #[vI p1, vI p2, vI p3, vI p4, vI n1, vI n2, vU, vU, vU, vU, vU, vU, vU, vU, vU, vU, vU, vU, vU] [(.int ((((p4.toUInt32 >>> ((4 : Int32) &&& 31).toUInt32).toInt32) &&& (3 : Int32)) % (3 : Int32)))]) t) => q24 t (by
    show Go _ _ _ _ (mkF m 14 #[vI p1, vI p2, vI p3, vI p4, vI n1, vU, vU, vU, vU, vU, vU, vU, vU, vU, vU, vU, vU, vU, vU] [(.int n2)]) _
    refine XS.istore X0.here hx rfl (hb hby at_14) rfl (l' := #[vI p1, vI p2, vI p3, vI p4, vI n1, vI n2, vU, vU, vU, vU, vU, vU, vU, vU, vU, vU, vU, vU, vU]) rfl ?_
    show Go _ _ _ _ (mkF m 16 #[vI p1, vI p2, vI p3, vI p4, vI n1, vI n2, vU, vU, vU, vU, vU, vU, vU, vU, vU, vU, vU, vU, vU] []) _
    refine XS.iloadN X0.here hx rfl (hb hby at_16) rfl ?_
    show Go _ _ _ _ (mkF m 17 _ [(.int p4)]) _
    refine XS.iconst X0.here hx rfl (hb hby at_17) ?_
    show Go _ _ _ _ (mkF m 18 _ [(.int 4), (.int p4)]) _
    refine XS.iushr X0.here hx rfl (hb hby at_18) rfl ?_
    show Go _ _ _ _ (mkF m 19 _ [(.int ((p4.toUInt32 >>> ((4 : Int32) &&& 31).toUInt32).toInt32))]) _
    refine XS.iconst X0.here hx rfl (hb hby at_19) ?_
    show Go _ _ _ _ (mkF m 20 _ [(.int 3), (.int ((p4.toUInt32 >>> ((4 : Int32) &&& 31).toUInt32).toInt32))]) _
    refine XS.iand X0.here hx rfl (hb hby at_20) rfl ?_
    show Go _ _ _ _ (mkF m 21 _ [(.int (((p4.toUInt32 >>> ((4 : Int32) &&& 31).toUInt32).toInt32) &&& (3 : Int32)))]) _
    refine XS.iconst X0.here hx rfl (hb hby at_21) ?_
    show Go _ _ _ _ (mkF m 22 _ [(.int 3), (.int (((p4.toUInt32 >>> ((4 : Int32) &&& 31).toUInt32).toInt32) &&& (3 : Int32)))]) _
    refine iremM (g := (mkF m 22 #[vI p1, vI p2, vI p3, vI p4, vI n1, vI n2, vU, vU, vU, vU, vU, vU, vU, vU, vU, vU, vU, vU, vU] [(.int 3), (.int (((p4.toUInt32 >>> ((4 : Int32) &&& 31).toUInt32).toInt32) &&& (3 : Int32)))])) X0 hx rfl (hb hby at_22) rfl (by decide : ¬ ((3 : Int32) = (0 : Int32))) ?_
    exact kt)
  obtain ⟨n3, h_n3⟩ : ∃ z : Int32, z = ((((p4.toUInt32 >>> ((4 : Int32) &&& 31).toUInt32).toInt32) &&& (3 : Int32)) % (3 : Int32)) := ⟨_, rfl⟩
  have l_n3 : n3 = (0 : Int32) ∨ n3 = (1 : Int32) ∨ n3 = (2 : Int32) := by rw [h_n3]; exact own_rem _
  have q26 := fun t (kt : Go p e below s₁ (mkF m 23 #[vI p1, vI p2, vI p3, vI p4, vI n1, vI n2, vU, vU, vU, vU, vU, vU, vU, vU, vU, vU, vU, vU, vU] [(.int n3)]) t) => q25 t (by rw [← h_n3]; exact kt)
  have q27 := fun t (kt : Go p e below s₁ (mkF m 31 #[vI p1, vI p2, vI p3, vI p4, vI n1, vI n2, vI n3, vU, vU, vU, vU, vU, vU, vU, vU, vU, vU, vU, vU] [(.int ((p1 &&& (255 : Int32)).toUInt32.toUInt16.toUInt32.toInt32))]) t) => q26 t (by
    show Go _ _ _ _ (mkF m 23 #[vI p1, vI p2, vI p3, vI p4, vI n1, vI n2, vU, vU, vU, vU, vU, vU, vU, vU, vU, vU, vU, vU, vU] [(.int n3)]) _
    refine XS.istore X0.here hx rfl (hb hby at_23) rfl (l' := #[vI p1, vI p2, vI p3, vI p4, vI n1, vI n2, vI n3, vU, vU, vU, vU, vU, vU, vU, vU, vU, vU, vU, vU]) rfl ?_
    show Go _ _ _ _ (mkF m 25 #[vI p1, vI p2, vI p3, vI p4, vI n1, vI n2, vI n3, vU, vU, vU, vU, vU, vU, vU, vU, vU, vU, vU, vU] []) _
    refine XS.iloadN X0.here hx rfl (hb hby at_25) rfl ?_
    show Go _ _ _ _ (mkF m 26 _ [(.int p1)]) _
    refine XS.sipush X0.here hx rfl (hb hby at_26) ?_
    show Go _ _ _ _ (mkF m 29 _ [(.int 255), (.int p1)]) _
    refine XS.iand X0.here hx rfl (hb hby at_29) rfl ?_
    show Go _ _ _ _ (mkF m 30 _ [(.int (p1 &&& (255 : Int32)))]) _
    refine XS.i2c X0.here hx rfl (hb hby at_30) rfl ?_
    exact kt)
  have q28 := fun t (kt : Go p e below s₁ (mkF m 31 #[vI p1, vI p2, vI p3, vI p4, vI n1, vI n2, vI n3, vU, vU, vU, vU, vU, vU, vU, vU, vU, vU, vU, vU] [(.int (p1 &&& (255 : Int32)))]) t) => q27 t (by rw [(i2c_mask p1)]; exact kt)
  obtain ⟨u1, h_u1⟩ : ∃ z : Int32, z = (p1 &&& (255 : Int32)) := ⟨_, rfl⟩
  have l_u1 : ¬ u1 < 0 ∧ ¬ (255 : Int32) < u1 := by rw [h_u1]; exact own_and255L _
  have q29 := fun t (kt : Go p e below s₁ (mkF m 31 #[vI p1, vI p2, vI p3, vI p4, vI n1, vI n2, vI n3, vU, vU, vU, vU, vU, vU, vU, vU, vU, vU, vU, vU] [(.int u1)]) t) => q28 t (by rw [← h_u1]; exact kt)
  have q30 := fun t (kt : Go p e below s₁ (mkF m 42 #[vI p1, vI p2, vI p3, vI p4, vI n1, vI n2, vI n3, vI u1, vU, vU, vU, vU, vU, vU, vU, vU, vU, vU, vU] [(.int ((((p1.toUInt32 >>> ((8 : Int32) &&& 31).toUInt32).toInt32) &&& (255 : Int32)).toUInt32.toUInt16.toUInt32.toInt32))]) t) => q29 t (by
    show Go _ _ _ _ (mkF m 31 #[vI p1, vI p2, vI p3, vI p4, vI n1, vI n2, vI n3, vU, vU, vU, vU, vU, vU, vU, vU, vU, vU, vU, vU] [(.int u1)]) _
    refine XS.istore X0.here hx rfl (hb hby at_31) rfl (l' := #[vI p1, vI p2, vI p3, vI p4, vI n1, vI n2, vI n3, vI u1, vU, vU, vU, vU, vU, vU, vU, vU, vU, vU, vU]) rfl ?_
    show Go _ _ _ _ (mkF m 33 #[vI p1, vI p2, vI p3, vI p4, vI n1, vI n2, vI n3, vI u1, vU, vU, vU, vU, vU, vU, vU, vU, vU, vU, vU] []) _
    refine XS.iloadN X0.here hx rfl (hb hby at_33) rfl ?_
    show Go _ _ _ _ (mkF m 34 _ [(.int p1)]) _
    refine XS.bipush X0.here hx rfl (hb hby at_34) ?_
    show Go _ _ _ _ (mkF m 36 _ [(.int 8), (.int p1)]) _
    refine XS.iushr X0.here hx rfl (hb hby at_36) rfl ?_
    show Go _ _ _ _ (mkF m 37 _ [(.int ((p1.toUInt32 >>> ((8 : Int32) &&& 31).toUInt32).toInt32))]) _
    refine XS.sipush X0.here hx rfl (hb hby at_37) ?_
    show Go _ _ _ _ (mkF m 40 _ [(.int 255), (.int ((p1.toUInt32 >>> ((8 : Int32) &&& 31).toUInt32).toInt32))]) _
    refine XS.iand X0.here hx rfl (hb hby at_40) rfl ?_
    show Go _ _ _ _ (mkF m 41 _ [(.int (((p1.toUInt32 >>> ((8 : Int32) &&& 31).toUInt32).toInt32) &&& (255 : Int32)))]) _
    refine XS.i2c X0.here hx rfl (hb hby at_41) rfl ?_
    exact kt)
  have q31 := fun t (kt : Go p e below s₁ (mkF m 42 #[vI p1, vI p2, vI p3, vI p4, vI n1, vI n2, vI n3, vI u1, vU, vU, vU, vU, vU, vU, vU, vU, vU, vU, vU] [(.int (((p1.toUInt32 >>> ((8 : Int32) &&& 31).toUInt32).toInt32) &&& (255 : Int32)))]) t) => q30 t (by rw [(i2c_mask ((p1.toUInt32 >>> ((8 : Int32) &&& 31).toUInt32).toInt32))]; exact kt)
  obtain ⟨u2, h_u2⟩ : ∃ z : Int32, z = (((p1.toUInt32 >>> ((8 : Int32) &&& 31).toUInt32).toInt32) &&& (255 : Int32)) := ⟨_, rfl⟩
  have l_u2 : ¬ u2 < 0 ∧ ¬ (255 : Int32) < u2 := by rw [h_u2]; exact own_and255L _
  have q32 := fun t (kt : Go p e below s₁ (mkF m 42 #[vI p1, vI p2, vI p3, vI p4, vI n1, vI n2, vI n3, vI u1, vU, vU, vU, vU, vU, vU, vU, vU, vU, vU, vU] [(.int u2)]) t) => q31 t (by rw [← h_u2]; exact kt)
  have q33 := fun t (kt : Go p e below s₁ (mkF m 50 #[vI p1, vI p2, vI p3, vI p4, vI n1, vI n2, vI n3, vI u1, vI u2, vU, vU, vU, vU, vU, vU, vU, vU, vU, vU] [(.int ((p2 &&& (255 : Int32)).toUInt32.toUInt16.toUInt32.toInt32))]) t) => q32 t (by
    show Go _ _ _ _ (mkF m 42 #[vI p1, vI p2, vI p3, vI p4, vI n1, vI n2, vI n3, vI u1, vU, vU, vU, vU, vU, vU, vU, vU, vU, vU, vU] [(.int u2)]) _
    refine XS.istore X0.here hx rfl (hb hby at_42) rfl (l' := #[vI p1, vI p2, vI p3, vI p4, vI n1, vI n2, vI n3, vI u1, vI u2, vU, vU, vU, vU, vU, vU, vU, vU, vU, vU]) rfl ?_
    show Go _ _ _ _ (mkF m 44 #[vI p1, vI p2, vI p3, vI p4, vI n1, vI n2, vI n3, vI u1, vI u2, vU, vU, vU, vU, vU, vU, vU, vU, vU, vU] []) _
    refine XS.iloadN X0.here hx rfl (hb hby at_44) rfl ?_
    show Go _ _ _ _ (mkF m 45 _ [(.int p2)]) _
    refine XS.sipush X0.here hx rfl (hb hby at_45) ?_
    show Go _ _ _ _ (mkF m 48 _ [(.int 255), (.int p2)]) _
    refine XS.iand X0.here hx rfl (hb hby at_48) rfl ?_
    show Go _ _ _ _ (mkF m 49 _ [(.int (p2 &&& (255 : Int32)))]) _
    refine XS.i2c X0.here hx rfl (hb hby at_49) rfl ?_
    exact kt)
  have q34 := fun t (kt : Go p e below s₁ (mkF m 50 #[vI p1, vI p2, vI p3, vI p4, vI n1, vI n2, vI n3, vI u1, vI u2, vU, vU, vU, vU, vU, vU, vU, vU, vU, vU] [(.int (p2 &&& (255 : Int32)))]) t) => q33 t (by rw [(i2c_mask p2)]; exact kt)
  obtain ⟨u3, h_u3⟩ : ∃ z : Int32, z = (p2 &&& (255 : Int32)) := ⟨_, rfl⟩
  have l_u3 : ¬ u3 < 0 ∧ ¬ (255 : Int32) < u3 := by rw [h_u3]; exact own_and255L _
  have q35 := fun t (kt : Go p e below s₁ (mkF m 50 #[vI p1, vI p2, vI p3, vI p4, vI n1, vI n2, vI n3, vI u1, vI u2, vU, vU, vU, vU, vU, vU, vU, vU, vU, vU] [(.int u3)]) t) => q34 t (by rw [← h_u3]; exact kt)
  have q36 := fun t (kt : Go p e below s₁ (mkF m 61 #[vI p1, vI p2, vI p3, vI p4, vI n1, vI n2, vI n3, vI u1, vI u2, vI u3, vU, vU, vU, vU, vU, vU, vU, vU, vU] [(.int ((((p2.toUInt32 >>> ((8 : Int32) &&& 31).toUInt32).toInt32) &&& (255 : Int32)).toUInt32.toUInt16.toUInt32.toInt32))]) t) => q35 t (by
    show Go _ _ _ _ (mkF m 50 #[vI p1, vI p2, vI p3, vI p4, vI n1, vI n2, vI n3, vI u1, vI u2, vU, vU, vU, vU, vU, vU, vU, vU, vU, vU] [(.int u3)]) _
    refine XS.istore X0.here hx rfl (hb hby at_50) rfl (l' := #[vI p1, vI p2, vI p3, vI p4, vI n1, vI n2, vI n3, vI u1, vI u2, vI u3, vU, vU, vU, vU, vU, vU, vU, vU, vU]) rfl ?_
    show Go _ _ _ _ (mkF m 52 #[vI p1, vI p2, vI p3, vI p4, vI n1, vI n2, vI n3, vI u1, vI u2, vI u3, vU, vU, vU, vU, vU, vU, vU, vU, vU] []) _
    refine XS.iloadN X0.here hx rfl (hb hby at_52) rfl ?_
    show Go _ _ _ _ (mkF m 53 _ [(.int p2)]) _
    refine XS.bipush X0.here hx rfl (hb hby at_53) ?_
    show Go _ _ _ _ (mkF m 55 _ [(.int 8), (.int p2)]) _
    refine XS.iushr X0.here hx rfl (hb hby at_55) rfl ?_
    show Go _ _ _ _ (mkF m 56 _ [(.int ((p2.toUInt32 >>> ((8 : Int32) &&& 31).toUInt32).toInt32))]) _
    refine XS.sipush X0.here hx rfl (hb hby at_56) ?_
    show Go _ _ _ _ (mkF m 59 _ [(.int 255), (.int ((p2.toUInt32 >>> ((8 : Int32) &&& 31).toUInt32).toInt32))]) _
    refine XS.iand X0.here hx rfl (hb hby at_59) rfl ?_
    show Go _ _ _ _ (mkF m 60 _ [(.int (((p2.toUInt32 >>> ((8 : Int32) &&& 31).toUInt32).toInt32) &&& (255 : Int32)))]) _
    refine XS.i2c X0.here hx rfl (hb hby at_60) rfl ?_
    exact kt)
  have q37 := fun t (kt : Go p e below s₁ (mkF m 61 #[vI p1, vI p2, vI p3, vI p4, vI n1, vI n2, vI n3, vI u1, vI u2, vI u3, vU, vU, vU, vU, vU, vU, vU, vU, vU] [(.int (((p2.toUInt32 >>> ((8 : Int32) &&& 31).toUInt32).toInt32) &&& (255 : Int32)))]) t) => q36 t (by rw [(i2c_mask ((p2.toUInt32 >>> ((8 : Int32) &&& 31).toUInt32).toInt32))]; exact kt)
  obtain ⟨u4, h_u4⟩ : ∃ z : Int32, z = (((p2.toUInt32 >>> ((8 : Int32) &&& 31).toUInt32).toInt32) &&& (255 : Int32)) := ⟨_, rfl⟩
  have l_u4 : ¬ u4 < 0 ∧ ¬ (255 : Int32) < u4 := by rw [h_u4]; exact own_and255L _
  have q38 := fun t (kt : Go p e below s₁ (mkF m 61 #[vI p1, vI p2, vI p3, vI p4, vI n1, vI n2, vI n3, vI u1, vI u2, vI u3, vU, vU, vU, vU, vU, vU, vU, vU, vU] [(.int u4)]) t) => q37 t (by rw [← h_u4]; exact kt)
  have q39 := fun t (kt : Go p e below s₁ (mkF m 69 #[vI p1, vI p2, vI p3, vI p4, vI n1, vI n2, vI n3, vI u1, vI u2, vI u3, vI u4, vU, vU, vU, vU, vU, vU, vU, vU] [(.int ((p3 &&& (255 : Int32)).toUInt32.toUInt16.toUInt32.toInt32))]) t) => q38 t (by
    show Go _ _ _ _ (mkF m 61 #[vI p1, vI p2, vI p3, vI p4, vI n1, vI n2, vI n3, vI u1, vI u2, vI u3, vU, vU, vU, vU, vU, vU, vU, vU, vU] [(.int u4)]) _
    refine XS.istore X0.here hx rfl (hb hby at_61) rfl (l' := #[vI p1, vI p2, vI p3, vI p4, vI n1, vI n2, vI n3, vI u1, vI u2, vI u3, vI u4, vU, vU, vU, vU, vU, vU, vU, vU]) rfl ?_
    show Go _ _ _ _ (mkF m 63 #[vI p1, vI p2, vI p3, vI p4, vI n1, vI n2, vI n3, vI u1, vI u2, vI u3, vI u4, vU, vU, vU, vU, vU, vU, vU, vU] []) _
    refine XS.iloadN X0.here hx rfl (hb hby at_63) rfl ?_
    show Go _ _ _ _ (mkF m 64 _ [(.int p3)]) _
    refine XS.sipush X0.here hx rfl (hb hby at_64) ?_
    show Go _ _ _ _ (mkF m 67 _ [(.int 255), (.int p3)]) _
    refine XS.iand X0.here hx rfl (hb hby at_67) rfl ?_
    show Go _ _ _ _ (mkF m 68 _ [(.int (p3 &&& (255 : Int32)))]) _
    refine XS.i2c X0.here hx rfl (hb hby at_68) rfl ?_
    exact kt)
  have q40 := fun t (kt : Go p e below s₁ (mkF m 69 #[vI p1, vI p2, vI p3, vI p4, vI n1, vI n2, vI n3, vI u1, vI u2, vI u3, vI u4, vU, vU, vU, vU, vU, vU, vU, vU] [(.int (p3 &&& (255 : Int32)))]) t) => q39 t (by rw [(i2c_mask p3)]; exact kt)
  obtain ⟨u5, h_u5⟩ : ∃ z : Int32, z = (p3 &&& (255 : Int32)) := ⟨_, rfl⟩
  have l_u5 : ¬ u5 < 0 ∧ ¬ (255 : Int32) < u5 := by rw [h_u5]; exact own_and255L _
  have q41 := fun t (kt : Go p e below s₁ (mkF m 69 #[vI p1, vI p2, vI p3, vI p4, vI n1, vI n2, vI n3, vI u1, vI u2, vI u3, vI u4, vU, vU, vU, vU, vU, vU, vU, vU] [(.int u5)]) t) => q40 t (by rw [← h_u5]; exact kt)
  have q42 := fun t (kt : Go p e below s₁ (mkF m 80 #[vI p1, vI p2, vI p3, vI p4, vI n1, vI n2, vI n3, vI u1, vI u2, vI u3, vI u4, vI u5, vU, vU, vU, vU, vU, vU, vU] [(.int ((((p3.toUInt32 >>> ((8 : Int32) &&& 31).toUInt32).toInt32) &&& (255 : Int32)).toUInt32.toUInt16.toUInt32.toInt32))]) t) => q41 t (by
    show Go _ _ _ _ (mkF m 69 #[vI p1, vI p2, vI p3, vI p4, vI n1, vI n2, vI n3, vI u1, vI u2, vI u3, vI u4, vU, vU, vU, vU, vU, vU, vU, vU] [(.int u5)]) _
    refine XS.istore X0.here hx rfl (hb hby at_69) rfl (l' := #[vI p1, vI p2, vI p3, vI p4, vI n1, vI n2, vI n3, vI u1, vI u2, vI u3, vI u4, vI u5, vU, vU, vU, vU, vU, vU, vU]) rfl ?_
    show Go _ _ _ _ (mkF m 71 #[vI p1, vI p2, vI p3, vI p4, vI n1, vI n2, vI n3, vI u1, vI u2, vI u3, vI u4, vI u5, vU, vU, vU, vU, vU, vU, vU] []) _
    refine XS.iloadN X0.here hx rfl (hb hby at_71) rfl ?_
    show Go _ _ _ _ (mkF m 72 _ [(.int p3)]) _
    refine XS.bipush X0.here hx rfl (hb hby at_72) ?_
    show Go _ _ _ _ (mkF m 74 _ [(.int 8), (.int p3)]) _
    refine XS.iushr X0.here hx rfl (hb hby at_74) rfl ?_
    show Go _ _ _ _ (mkF m 75 _ [(.int ((p3.toUInt32 >>> ((8 : Int32) &&& 31).toUInt32).toInt32))]) _
    refine XS.sipush X0.here hx rfl (hb hby at_75) ?_
    show Go _ _ _ _ (mkF m 78 _ [(.int 255), (.int ((p3.toUInt32 >>> ((8 : Int32) &&& 31).toUInt32).toInt32))]) _
    refine XS.iand X0.here hx rfl (hb hby at_78) rfl ?_
    show Go _ _ _ _ (mkF m 79 _ [(.int (((p3.toUInt32 >>> ((8 : Int32) &&& 31).toUInt32).toInt32) &&& (255 : Int32)))]) _
    refine XS.i2c X0.here hx rfl (hb hby at_79) rfl ?_
    exact kt)
  have q43 := fun t (kt : Go p e below s₁ (mkF m 80 #[vI p1, vI p2, vI p3, vI p4, vI n1, vI n2, vI n3, vI u1, vI u2, vI u3, vI u4, vI u5, vU, vU, vU, vU, vU, vU, vU] [(.int (((p3.toUInt32 >>> ((8 : Int32) &&& 31).toUInt32).toInt32) &&& (255 : Int32)))]) t) => q42 t (by rw [(i2c_mask ((p3.toUInt32 >>> ((8 : Int32) &&& 31).toUInt32).toInt32))]; exact kt)
  obtain ⟨u6, h_u6⟩ : ∃ z : Int32, z = (((p3.toUInt32 >>> ((8 : Int32) &&& 31).toUInt32).toInt32) &&& (255 : Int32)) := ⟨_, rfl⟩
  have l_u6 : ¬ u6 < 0 ∧ ¬ (255 : Int32) < u6 := by rw [h_u6]; exact own_and255L _
  have q44 := fun t (kt : Go p e below s₁ (mkF m 80 #[vI p1, vI p2, vI p3, vI p4, vI n1, vI n2, vI n3, vI u1, vI u2, vI u3, vI u4, vI u5, vU, vU, vU, vU, vU, vU, vU] [(.int u6)]) t) => q43 t (by rw [← h_u6]; exact kt)
  have k1 := own_cs_len n1 u1 u2
  have k2 := own_cs_len n2 u3 u4
  have k3 := own_cs_len n3 u5 u6
  have q45 := fun t (kt : Go p e below s₁ (mkF m 88 #[vI p1, vI p2, vI p3, vI p4, vI n1, vI n2, vI n3, vI u1, vI u2, vI u3, vI u4, vI u5, vI u6, vU, vU, vU, vU, vU, vU] [(.int u2), (.int u1), (.int n1)]) t) => q44 t (by
    show Go _ _ _ _ (mkF m 80 #[vI p1, vI p2, vI p3, vI p4, vI n1, vI n2, vI n3, vI u1, vI u2, vI u3, vI u4, vI u5, vU, vU, vU, vU, vU, vU, vU] [(.int u6)]) _
    refine XS.istore X0.here hx rfl (hb hby at_80) rfl (l' := #[vI p1, vI p2, vI p3, vI p4, vI n1, vI n2, vI n3, vI u1, vI u2, vI u3, vI u4, vI u5, vI u6, vU, vU, vU, vU, vU, vU]) rfl ?_
    show Go _ _ _ _ (mkF m 82 #[vI p1, vI p2, vI p3, vI p4, vI n1, vI n2, vI n3, vI u1, vI u2, vI u3, vI u4, vI u5, vI u6, vU, vU, vU, vU, vU, vU] []) _
    refine XS.iload X0.here hx rfl (hb hby at_82) rfl ?_
    show Go _ _ _ _ (mkF m 84 _ [(.int n1)]) _
    refine XS.iload X0.here hx rfl (hb hby at_84) rfl ?_
    show Go _ _ _ _ (mkF m 86 _ [(.int u1), (.int n1)]) _
    refine XS.iload X0.here hx rfl (hb hby at_86) rfl ?_
    exact kt)
  obtain ⟨_, _, ⟨T46, L46, k46, n46⟩, -, X46, hSn46, hgn46, ⟨_, hQ46, l46, y46, z46, cR46⟩, st46⟩ := callSS X0 hx (y := ym27) hown (ow hZ hw 0 rfl) (ow hZ hw 1 rfl) (ow hZ hw 2 rfl) (ow hZ hw 3 rfl) (by decide) (backOfSH (EL := own_EL) (vm0 := s.vm) (W := 0) (rm1 l Z a0 hw [] cx n1 u1 u2 h0 n0 O0 l_u1.2 l_u1 l_u2) hZ (ox hw 3 rfl) (ox hw 2 rfl) (by decide) (by decide) hEW R0.1) (g := (mkF m 88 #[vI p1, vI p2, vI p3, vI p4, vI n1, vI n2, vI n3, vI u1, vI u2, vI u3, vI u4, vI u5, vI u6, vU, vU, vU, vU, vU, vU] [(.int u2), (.int u1), (.int n1)])) rfl (by rw [hml]; rfl) (argsL := [(.int n1), (.int u1), (.int u2)]) (rest := []) (lenOf pd_24 rfl) rfl own_le0 (hb hby at_88) (fun _ _ => ⟨rfl, e0, (by decide : 0 + 6 ≤ _), (by decide : 0 + 12 ≤ _)⟩)
  dsimp only [Pt.U, Pt.locs, Pt.cells, Pt.slots] at X46 l46 y46 z46 st46 hQ46 hSn46 hgn46 cR46
  subst l46 y46 z46
  have hS46 := foldS (vm0 := s.vm) hS0 (by rw [e0]; exact hk0) hSn46 hgn46
  have hZ : Z.Warmed39 (s.setVm T46.vm).vm := State.Warmed39.trans (t := s.setVm s.vm) hZ hSn46.1
  have hown : (s.setVm T46.vm).vm.findClass sk2 = some m.cls := by
    show T46.vm.findClass _ = _
    rw [hSn46.1.alike.findClass]; exact hown
  have X46 : Stand p l e room_1 (s.setVm T46.vm) m #[(.int p1), (.int p2), (.int p3), (.int p4)] below meth c T46 _ _ _ := X46
  have hkk46 : T46.heap.size ≤ T46.heap.size := Nat.le_refl _
  obtain ⟨x_46, ta_46, kt_46, rfl, Nq46, Kq46, fr46_0, fq46_0, fq46_1, fq46_2, fq46_3⟩ := hQ46
  have N47 := Fr.app N0 Nq46
  have gg48 : n0 ≤ x_46 := Nat.le_trans (O0.1 ▸ O0.2.1) fr46_0
  have O49 := O0.keep Kq46 all0
  have R50 : CHr Z own_EL s.vm h0 T46.vm T46.heap := R0.trans cR46
  have q51 := fun t (kt : Go p e below T46 (mkF m 99 #[vI p1, vI p2, vI p3, vI p4, vI n1, vI n2, vI n3, vI u1, vI u2, vI u3, vI u4, vI u5, vI u6, vR x_46, vU, vU, vU, vU, vU] [(.int u4), (.int u3), (.int n2)]) t) => q45 t (st46.trans (by
    show Go _ _ _ _ (mkF m 91 #[vI p1, vI p2, vI p3, vI p4, vI n1, vI n2, vI n3, vI u1, vI u2, vI u3, vI u4, vI u5, vI u6, vU, vU, vU, vU, vU, vU] [(.ref x_46)]) _
    refine XS.astore X46.here hx rfl (hb hby at_91) rfl rfl (l' := #[vI p1, vI p2, vI p3, vI p4, vI n1, vI n2, vI n3, vI u1, vI u2, vI u3, vI u4, vI u5, vI u6, vR x_46, vU, vU, vU, vU, vU]) rfl ?_
    show Go _ _ _ _ (mkF m 93 #[vI p1, vI p2, vI p3, vI p4, vI n1, vI n2, vI n3, vI u1, vI u2, vI u3, vI u4, vI u5, vI u6, vR x_46, vU, vU, vU, vU, vU] []) _
    refine XS.iload X46.here hx rfl (hb hby at_93) rfl ?_
    show Go _ _ _ _ (mkF m 95 _ [(.int n2)]) _
    refine XS.iload X46.here hx rfl (hb hby at_95) rfl ?_
    show Go _ _ _ _ (mkF m 97 _ [(.int u3), (.int n2)]) _
    refine XS.iload X46.here hx rfl (hb hby at_97) rfl ?_
    exact kt))
  obtain ⟨_, _, ⟨T52, L52, k52, n52⟩, -, X52, hSn52, hgn52, ⟨_, hQ52, l52, y52, z52, cR52⟩, st52⟩ := callSS X46 hx (y := ym27) hown (ow hZ hw 0 rfl) (ow hZ hw 1 rfl) (ow hZ hw 2 rfl) (ow hZ hw 3 rfl) (by decide) (backOfSH (EL := own_EL) (vm0 := T46.vm) (W := 0) (rm1 l Z a0 hw [] cx n2 u3 u4 T46.heap n0 O49 l_u3.2 l_u3 l_u4) hZ (ox hw 3 rfl) (ox hw 2 rfl) (by decide) (by decide) hEW R50.1) (g := (mkF m 99 #[vI p1, vI p2, vI p3, vI p4, vI n1, vI n2, vI n3, vI u1, vI u2, vI u3, vI u4, vI u5, vI u6, vR x_46, vU, vU, vU, vU, vU] [(.int u4), (.int u3), (.int n2)])) rfl (by rw [hml]; rfl) (argsL := [(.int n2), (.int u3), (.int u4)]) (rest := []) (lenOf pd_24 rfl) rfl own_le0 (hb hby at_99) (fun _ _ => ⟨rfl, rfl, (by decide : 6 + 6 ≤ _), (by decide : 12 + 12 ≤ _)⟩)
  dsimp only [Pt.U, Pt.locs, Pt.cells, Pt.slots] at X52 l52 y52 z52 st52 hQ52 hSn52 hgn52 cR52
  subst l52 y52 z52
  have hS52 := foldS (vm0 := T46.vm) hS46 hkk46 hSn52 hgn52
  have hZ : Z.Warmed39 (s.setVm T52.vm).vm := State.Warmed39.trans (t := s.setVm T46.vm) hZ hSn52.1
  have hown : (s.setVm T52.vm).vm.findClass sk2 = some m.cls := by
    show T52.vm.findClass _ = _
    rw [hSn52.1.alike.findClass]; exact hown
  have X52 : Stand p l e room_1 (s.setVm T52.vm) m #[(.int p1), (.int p2), (.int p3), (.int p4)] below meth c T52 _ _ _ := X52
  have hkk52 : T52.heap.size ≤ T52.heap.size := Nat.le_refl _
  obtain ⟨x_52, ta_52, kt_52, rfl, Nq52, Kq52, fr52_0, fq52_0, fq52_1, fq52_2, fq52_3⟩ := hQ52
  have N53 := Fr.app N47 Nq52
  have gg54 : n0 ≤ x_52 := Nat.le_trans (O49.1 ▸ O49.2.1) fr52_0
  have O55 := O49.keep Kq52 all0
  have R56 : CHr Z own_EL s.vm h0 T52.vm T52.heap := R50.trans cR52
  have q57 := fun t (kt : Go p e below T52 (mkF m 110 #[vI p1, vI p2, vI p3, vI p4, vI n1, vI n2, vI n3, vI u1, vI u2, vI u3, vI u4, vI u5, vI u6, vR x_46, vR x_52, vU, vU, vU, vU] [(.int u6), (.int u5), (.int n3)]) t) => q51 t (st52.trans (by
    show Go _ _ _ _ (mkF m 102 #[vI p1, vI p2, vI p3, vI p4, vI n1, vI n2, vI n3, vI u1, vI u2, vI u3, vI u4, vI u5, vI u6, vR x_46, vU, vU, vU, vU, vU] [(.ref x_52)]) _
    refine XS.astore X52.here hx rfl (hb hby at_102) rfl rfl (l' := #[vI p1, vI p2, vI p3, vI p4, vI n1, vI n2, vI n3, vI u1, vI u2, vI u3, vI u4, vI u5, vI u6, vR x_46, vR x_52, vU, vU, vU, vU]) rfl ?_
    show Go _ _ _ _ (mkF m 104 #[vI p1, vI p2, vI p3, vI p4, vI n1, vI n2, vI n3, vI u1, vI u2, vI u3, vI u4, vI u5, vI u6, vR x_46, vR x_52, vU, vU, vU, vU] []) _
    refine XS.iload X52.here hx rfl (hb hby at_104) rfl ?_
    show Go _ _ _ _ (mkF m 106 _ [(.int n3)]) _
    refine XS.iload X52.here hx rfl (hb hby at_106) rfl ?_
    show Go _ _ _ _ (mkF m 108 _ [(.int u5), (.int n3)]) _
    refine XS.iload X52.here hx rfl (hb hby at_108) rfl ?_
    exact kt))
  obtain ⟨_, _, ⟨T58, L58, k58, n58⟩, -, X58, hSn58, hgn58, ⟨_, hQ58, l58, y58, z58, cR58⟩, st58⟩ := callSS X52 hx (y := ym27) hown (ow hZ hw 0 rfl) (ow hZ hw 1 rfl) (ow hZ hw 2 rfl) (ow hZ hw 3 rfl) (by decide) (backOfSH (EL := own_EL) (vm0 := T52.vm) (W := 0) (rm1 l Z a0 hw [] cx n3 u5 u6 T52.heap n0 O55 l_u5.2 l_u5 l_u6) hZ (ox hw 3 rfl) (ox hw 2 rfl) (by decide) (by decide) hEW R56.1) (g := (mkF m 110 #[vI p1, vI p2, vI p3, vI p4, vI n1, vI n2, vI n3, vI u1, vI u2, vI u3, vI u4, vI u5, vI u6, vR x_46, vR x_52, vU, vU, vU, vU] [(.int u6), (.int u5), (.int n3)])) rfl (by rw [hml]; rfl) (argsL := [(.int n3), (.int u5), (.int u6)]) (rest := []) (lenOf pd_24 rfl) rfl own_le0 (hb hby at_110) (fun _ _ => ⟨rfl, rfl, (by decide : 12 + 6 ≤ _), (by decide : 24 + 12 ≤ _)⟩)
  dsimp only [Pt.U, Pt.locs, Pt.cells, Pt.slots] at X58 l58 y58 z58 st58 hQ58 hSn58 hgn58 cR58
  subst l58 y58 z58
  have hS58 := foldS (vm0 := T52.vm) hS52 hkk52 hSn58 hgn58
  have hZ : Z.Warmed39 (s.setVm T58.vm).vm := State.Warmed39.trans (t := s.setVm T52.vm) hZ hSn58.1
  have hown : (s.setVm T58.vm).vm.findClass sk2 = some m.cls := by
    show T58.vm.findClass _ = _
    rw [hSn58.1.alike.findClass]; exact hown
  have X58 : Stand p l e room_1 (s.setVm T58.vm) m #[(.int p1), (.int p2), (.int p3), (.int p4)] below meth c T58 _ _ _ := X58
  have hkk58 : T58.heap.size ≤ T58.heap.size := Nat.le_refl _
  obtain ⟨x_58, ta_58, kt_58, rfl, Nq58, Kq58, fr58_0, fq58_0, fq58_1, fq58_2, fq58_3⟩ := hQ58
  have N59 := Fr.app N53 Nq58
  have gg60 : n0 ≤ x_58 := Nat.le_trans (O55.1 ▸ O55.2.1) fr58_0
  have O61 := O55.keep Kq58 all0
  have R62 : CHr Z own_EL s.vm h0 T58.vm T58.heap := R56.trans cR58
  have q63 := fun t (kt : Go p e below T58 (mkF m 115 #[vI p1, vI p2, vI p3, vI p4, vI n1, vI n2, vI n3, vI u1, vI u2, vI u3, vI u4, vI u5, vI u6, vR x_46, vR x_52, vR x_58, vU, vU, vU] []) t) => q57 t (st58.trans (by
    show Go _ _ _ _ (mkF m 113 #[vI p1, vI p2, vI p3, vI p4, vI n1, vI n2, vI n3, vI u1, vI u2, vI u3, vI u4, vI u5, vI u6, vR x_46, vR x_52, vU, vU, vU, vU] [(.ref x_58)]) _
    refine XS.astore X58.here hx rfl (hb hby at_113) rfl rfl (l' := #[vI p1, vI p2, vI p3, vI p4, vI n1, vI n2, vI n3, vI u1, vI u2, vI u3, vI u4, vI u5, vI u6, vR x_46, vR x_52, vR x_58, vU, vU, vU]) rfl ?_
    exact kt))
  obtain ⟨T64, h64, X64, e64, E64, A64, D64, U64, st64⟩ := newO X58 hx hZ hown (ox hw 41 rfl) (ox hw 42 rfl) (ox hw 43 rfl) rfl (g := (mkF m 115 #[vI p1, vI p2, vI p3, vI p4, vI n1, vI n2, vI n3, vI u1, vI u2, vI u3, vI u4, vI u5, vI u6, vR x_46, vR x_52, vR x_58, vU, vU, vU] [])) rfl (hb hby at_115) (by decide) (by decide)
  obtain ⟨b64, g64⟩ : ∃ z, z = T58.heap.size := ⟨_, rfl⟩
  rw [← g64] at A64 D64 st64
  have gg65 : n0 ≤ b64 := Nat.le_trans (O61.1 ▸ O61.2.1) (Nat.le_of_eq g64.symm)
  have O66 := O61.ext E64
  have R67 : CHr Z own_EL s.vm h0 T58.vm h64 := R62.trans (CHr.ext E64 R62.1)
  have hk68 : _ ≤ h64.size := Nat.le_trans hkk58 E64.1
  have F64_name : Fld Z h64 b64 sk1 "name" sk0 .null := D64 (Or.inr (ox hw 54 rfl)) (ty := (.object sk4)) (by decide)
  have F64_id : Fld Z h64 b64 sk1 "id" sk0 .null := D64 (Or.inr (ox hw 56 rfl)) (ty := (.object sk4)) (by decide)
  have F64_version : Fld Z h64 b64 sk1 "version" sk0 .null := D64 (Or.inr (ox hw 58 rfl)) (ty := (.object sk4)) (by decide)
  have q69 := fun t (kt : Go p e below T64 (mkF m 125 #[vI p1, vI p2, vI p3, vI p4, vI n1, vI n2, vI n3, vI u1, vI u2, vI u3, vI u4, vI u5, vI u6, vR x_46, vR x_52, vR x_58, vU, vU, vU] [(.ref x_58), (.ref x_52), (.ref x_46), (.ref b64), (.ref b64)]) t) => q63 t (st64 t (by
    show Go _ _ _ _ (mkF m 118 #[vI p1, vI p2, vI p3, vI p4, vI n1, vI n2, vI n3, vI u1, vI u2, vI u3, vI u4, vI u5, vI u6, vR x_46, vR x_52, vR x_58, vU, vU, vU] [(.ref b64)]) _
    refine XS.dup X64.here hx rfl (hb hby at_118) rfl rfl ?_
    show Go _ _ _ _ (mkF m 119 _ [(.ref b64), (.ref b64)]) _
    refine XS.aload X64.here hx rfl (hb hby at_119) rfl rfl ?_
    show Go _ _ _ _ (mkF m 121 _ [(.ref x_46), (.ref b64), (.ref b64)]) _
    refine XS.aload X64.here hx rfl (hb hby at_121) rfl rfl ?_
    show Go _ _ _ _ (mkF m 123 _ [(.ref x_52), (.ref x_46), (.ref b64), (.ref b64)]) _
    refine XS.aload X64.here hx rfl (hb hby at_123) rfl rfl ?_
    exact kt))
  obtain ⟨_, _, ⟨T70, L70, k70, n70⟩, -, X70, ⟨_, hQ70, l70, y70, z70⟩, st70⟩ := X64.specialBack hx (y := ym29) rfl hown (ow hZ hw 44 rfl) (ow hZ hw 45 rfl) (ow hZ hw 46 rfl) (by decide) (backOf (W := 1) (rm9 l Z a0 hw [] cx b64 x_46 x_52 x_58 h64 n0 O66 A64 F64_name F64_id F64_version gg65) hZ (ox hw 46 rfl) (ox hw 43 rfl) (by decide) (by decide)) (g := (mkF m 125 #[vI p1, vI p2, vI p3, vI p4, vI n1, vI n2, vI n3, vI u1, vI u2, vI u3, vI u4, vI u5, vI u6, vR x_46, vR x_52, vR x_58, vU, vU, vU] [(.ref x_58), (.ref x_52), (.ref x_46), (.ref b64), (.ref b64)])) rfl (by rw [hml]; rfl) (Steps.refl _) (a := b64) (argsL := [(.ref x_46), (.ref x_52), (.ref x_58)]) (rest := [(.ref b64)]) (lenOf pd_25 rfl) rfl own_le0 (hb hby at_125) (fun _ _ => ⟨rfl, e64, (by decide : 19 + 0 ≤ _), (by decide : 39 + 0 ≤ _)⟩)
  dsimp only [Pt.U, Pt.locs, Pt.cells, Pt.slots] at X70 l70 y70 z70 st70 hQ70
  subst l70 y70 z70
  obtain ⟨rfl, Nq70, Kq70, fq70_0, fq70_1, fq70_2⟩ := hQ70
  have N71 := Fr.app N59 Nq70
  have O72 := O66.keep Kq70 (allS gg65 all0)
  have R73 : CHr Z own_EL s.vm h0 T58.vm T70.heap := R67.trans (CHr.keep Kq70 (sfS (Safe.exa hZ.alike A64 (by decide) (by decide)) sf0) R67.1)
  have hk74 : _ ≤ T70.heap.size := Nat.le_trans hk68 Kq70.1
  have f75 := ((((fq46_0.keep Kq52).keep Kq58).ext E64).keep Kq70)
  have ne76 : x_46 ≠ b64 := (Nat.ne_of_lt (Nat.lt_of_lt_of_le ((fq46_0.keep Kq52).keep Kq58).lt (Nat.le_of_eq g64.symm)))
  have f77 := ((((fq46_1.keep Kq52 nin0).keep Kq58 nin0).ext E64).keep Kq70 (ninS ne76 nin0))
  have f78 := ((((fq46_2.keep Kq52 nin0).keep Kq58 nin0).ext E64).keep Kq70 (ninS ne76 nin0))
  have ne79 : ta_46 ≠ b64 := (Nat.ne_of_lt (Nat.lt_of_lt_of_le ((fq46_3.keep Kq52 nin0).keep Kq58 nin0).lt (Nat.le_of_eq g64.symm)))
  have f80 := ((((fq46_3.keep Kq52 nin0).keep Kq58 nin0).ext E64).keep Kq70 (ninS ne79 nin0))
  have f81 := (((fq52_0.keep Kq58).ext E64).keep Kq70)
  have ne82 : x_52 ≠ b64 := (Nat.ne_of_lt (Nat.lt_of_lt_of_le (fq52_0.keep Kq58).lt (Nat.le_of_eq g64.symm)))
  have f83 := (((fq52_1.keep Kq58 nin0).ext E64).keep Kq70 (ninS ne82 nin0))
  have f84 := (((fq52_2.keep Kq58 nin0).ext E64).keep Kq70 (ninS ne82 nin0))
  have ne85 : ta_52 ≠ b64 := (Nat.ne_of_lt (Nat.lt_of_lt_of_le (fq52_3.keep Kq58 nin0).lt (Nat.le_of_eq g64.symm)))
  have f86 := (((fq52_3.keep Kq58 nin0).ext E64).keep Kq70 (ninS ne85 nin0))
  have f87 := ((fq58_0.ext E64).keep Kq70)
  have ne88 : x_58 ≠ b64 := (Nat.ne_of_lt (Nat.lt_of_lt_of_le fq58_0.lt (Nat.le_of_eq g64.symm)))
  have f89 := ((fq58_1.ext E64).keep Kq70 (ninS ne88 nin0))
  have f90 := ((fq58_2.ext E64).keep Kq70 (ninS ne88 nin0))
  have ne91 : ta_58 ≠ b64 := (Nat.ne_of_lt (Nat.lt_of_lt_of_le fq58_3.lt (Nat.le_of_eq g64.symm)))
  have f92 := ((fq58_3.ext E64).keep Kq70 (ninS ne91 nin0))
  have f95 := (A64.keep Kq70)
  obtain ⟨cq94, kq94, q94a, q94b, q94c⟩ := isOf hZ rfl f95
  obtain ⟨_, _, ⟨T93, L93, k93, n93⟩, -, X93, hSn93, hgn93, ⟨_, hQ93, l93, y93, z93, cR93⟩, st93⟩ := X70.virtualBackS hx (y := ym30) (z := ym30) hown (ow hZ hw 59 rfl) (ow hZ hw 60 rfl) (notFace_of_selects (args := #[]) (ow hZ hw 62 rfl)) (ow hZ hw 62 rfl) (ow hZ hw 61 rfl) (by decide) (backOfSH (EL := own_EL) (vm0 := T58.vm) (W := 0) (rm11 l Z a0 hw [] cx b64 x_46 ta_46 x_52 ta_52 x_58 ta_58 kt_46 kt_52 kt_58 (own_cs n1 u1 u2) (own_cs n2 u3 u4) (own_cs n3 u5 u6) T70.heap n0 O72 fq70_0 fq70_1 fq70_2 f75 f77 f78 f80 f81 f83 f84 f86 f87 f89 f90 f92 (own_cs_len _ _ _) (own_cs_len _ _ _) (own_cs_len _ _ _)) hZ (ox hw 63 rfl) (ox hw 43 rfl) (by decide) (by decide) hEW R73.1) q94a q94c (g := (mkF m 128 #[vI p1, vI p2, vI p3, vI p4, vI n1, vI n2, vI n3, vI u1, vI u2, vI u3, vI u4, vI u5, vI u6, vR x_46, vR x_52, vR x_58, vU, vU, vU] [(.ref b64)])) rfl (by rw [hml]; rfl) (Steps.refl _) (argsL := []) (rest := []) (lenOf pd_22 rfl) rfl own_le0 (hb hby at_128) (fun _ _ => ⟨rfl, rfl, (by decide : 19 + 10 ≤ _), (by decide : 39 + 68 ≤ _)⟩)
  dsimp only [Pt.U, Pt.locs, Pt.cells, Pt.slots] at X93 l93 y93 z93 st93 hQ93 hSn93 hgn93 cR93
  subst l93 y93 z93
  have hS93 := foldS (vm0 := T58.vm) hS58 hk74 hSn93 hgn93
  have hZ : Z.Warmed39 (s.setVm T93.vm).vm := State.Warmed39.trans (t := s.setVm T58.vm) hZ hSn93.1
  have hown : (s.setVm T93.vm).vm.findClass sk2 = some m.cls := by
    show T93.vm.findClass _ = _
    rw [hSn93.1.alike.findClass]; exact hown
  have X93 : Stand p l e room_1 (s.setVm T93.vm) m #[(.int p1), (.int p2), (.int p3), (.int p4)] below meth c T93 _ _ _ := X93
  have hkk93 : T93.heap.size ≤ T93.heap.size := Nat.le_refl _
  obtain ⟨x_93, ta_93, kt_93, rfl, Nq93, Kq93, fr93_0, fr93_1, fq93_0, fq93_1, fq93_2, fq93_3⟩ := hQ93
  have N96 := Fr.app N71 Nq93
  have gg97 : n0 ≤ x_93 := Nat.le_trans (O72.1 ▸ O72.2.1) fr93_0
  have gg98 : n0 ≤ ta_93 := Nat.le_trans (O72.1 ▸ O72.2.1) fr93_1
  have O99 := O72.keep Kq93 all0
  have R100 : CHr Z own_EL s.vm h0 T93.vm T93.heap := R73.trans cR93
  have q101 := fun t (kt : Go p e below T93 (mkF m 135 #[vI p1, vI p2, vI p3, vI p4, vI n1, vI n2, vI n3, vI u1, vI u2, vI u3, vI u4, vI u5, vI u6, vR x_46, vR x_52, vR x_58, vR x_93, vU, vU] [(.int 10)]) t) => q69 t (st70.trans (st93.trans (by
    show Go _ _ _ _ (mkF m 131 #[vI p1, vI p2, vI p3, vI p4, vI n1, vI n2, vI n3, vI u1, vI u2, vI u3, vI u4, vI u5, vI u6, vR x_46, vR x_52, vR x_58, vU, vU, vU] [(.ref x_93)]) _
    refine XS.astore X93.here hx rfl (hb hby at_131) rfl rfl (l' := #[vI p1, vI p2, vI p3, vI p4, vI n1, vI n2, vI n3, vI u1, vI u2, vI u3, vI u4, vI u5, vI u6, vR x_46, vR x_52, vR x_58, vR x_93, vU, vU]) rfl ?_
    show Go _ _ _ _ (mkF m 133 #[vI p1, vI p2, vI p3, vI p4, vI n1, vI n2, vI n3, vI u1, vI u2, vI u3, vI u4, vI u5, vI u6, vR x_46, vR x_52, vR x_58, vR x_93, vU, vU] []) _
    refine XS.bipush X93.here hx rfl (hb hby at_133) ?_
    exact kt)))
  obtain ⟨T102, h102, k102, X102, e102, E102, A102, st102⟩ := newP X93 hx hZ (ox hw 31 rfl) rfl (g := (mkF m 135 #[vI p1, vI p2, vI p3, vI p4, vI n1, vI n2, vI n3, vI u1, vI u2, vI u3, vI u4, vI u5, vI u6, vR x_46, vR x_52, vR x_58, vR x_93, vU, vU] [(.int 10)])) rfl (hb hby at_135) rfl (by decide) (cap := 10) (by decide) (by decide) (by decide) (by decide)
  obtain ⟨b102, g102⟩ : ∃ z, z = T93.heap.size := ⟨_, rfl⟩
  rw [← g102] at A102 st102
  have gg103 : n0 ≤ b102 := Nat.le_trans (O99.1 ▸ O99.2.1) (Nat.le_of_eq g102.symm)
  have O104 := O99.ext E102
  have R105 : CHr Z own_EL s.vm h0 T93.vm h102 := R100.trans (CHr.ext E102 R100.1)
  have hk106 : _ ≤ h102.size := Nat.le_trans hkk93 E102.1
  have V102 : Arv Z h102 b102 k102 .char (10 : Int32) [(.int 0), (.int 0), (.int 0), (.int 0), (.int 0), (.int 0), (.int 0), (.int 0), (.int 0), (.int 0)] (.int 0) := (Arv.new A102 (by decide)).pad (pad_rep [] (.int 0) 10)
  have Vc107 : Arv Z h102 b102 k102 .char (10 : Int32) (own_ch ([] : List Int32)) (.int 0) := by rw [show own_ch ([] : List Int32) = [(.int 0), (.int 0), (.int 0), (.int 0), (.int 0), (.int 0), (.int 0), (.int 0), (.int 0), (.int 0)] from by first | rfl | simp [own_ch, List.replicate]]; exact V102
  have q108 := fun t (kt : Go p e below T102 (mkF m 148 #[vI p1, vI p2, vI p3, vI p4, vI n1, vI n2, vI n3, vI u1, vI u2, vI u3, vI u4, vI u5, vI u6, vR x_46, vR x_52, vR x_58, vR x_93, vR b102, vU] [(.int u2), (.int u1), (.int n1), (.int 0), (.ref b102)]) t) => q101 t (st102 t (by
    show Go _ _ _ _ (mkF m 137 #[vI p1, vI p2, vI p3, vI p4, vI n1, vI n2, vI n3, vI u1, vI u2, vI u3, vI u4, vI u5, vI u6, vR x_46, vR x_52, vR x_58, vR x_93, vU, vU] [(.ref b102)]) _
    refine XS.astore X102.here hx rfl (hb hby at_137) rfl rfl (l' := #[vI p1, vI p2, vI p3, vI p4, vI n1, vI n2, vI n3, vI u1, vI u2, vI u3, vI u4, vI u5, vI u6, vR x_46, vR x_52, vR x_58, vR x_93, vR b102, vU]) rfl ?_
    show Go _ _ _ _ (mkF m 139 #[vI p1, vI p2, vI p3, vI p4, vI n1, vI n2, vI n3, vI u1, vI u2, vI u3, vI u4, vI u5, vI u6, vR x_46, vR x_52, vR x_58, vR x_93, vR b102, vU] []) _
    refine XS.aload X102.here hx rfl (hb hby at_139) rfl rfl ?_
    show Go _ _ _ _ (mkF m 141 _ [(.ref b102)]) _
    refine XS.iconst X102.here hx rfl (hb hby at_141) ?_
    show Go _ _ _ _ (mkF m 142 _ [(.int 0), (.ref b102)]) _
    refine XS.iload X102.here hx rfl (hb hby at_142) rfl ?_
    show Go _ _ _ _ (mkF m 144 _ [(.int n1), (.int 0), (.ref b102)]) _
    refine XS.iload X102.here hx rfl (hb hby at_144) rfl ?_
    show Go _ _ _ _ (mkF m 146 _ [(.int u1), (.int n1), (.int 0), (.ref b102)]) _
    refine XS.iload X102.here hx rfl (hb hby at_146) rfl ?_
    exact kt))
  obtain ⟨_, _, ⟨T109, L109, k109, n109⟩, -, X109, ⟨_, hQ109, l109, y109, z109⟩, st109⟩ := Jvm.LawKit.callS X102 hx (y := ym31) hown (ow hZ hw 177 rfl) (ow hZ hw 178 rfl) (ow hZ hw 2 rfl) (ow hZ hw 179 rfl) (by decide) (backOf (W := 0) (rm33 l Z a0 hw [] cx b102 k102 ([] : List Int32) n1 u1 u2 h102 n0 O104 Vc107 gg103 l_n1 (by simp only [List.length_append, List.length_nil, List.length_cons]; omega) l_u1 l_u2) hZ (ox hw 179 rfl) (ox hw 2 rfl) (by decide) (by decide)) (g := (mkF m 148 #[vI p1, vI p2, vI p3, vI p4, vI n1, vI n2, vI n3, vI u1, vI u2, vI u3, vI u4, vI u5, vI u6, vR x_46, vR x_52, vR x_58, vR x_93, vR b102, vU] [(.int u2), (.int u1), (.int n1), (.int 0), (.ref b102)])) rfl (by rw [hml]; rfl) (argsL := [(.ref b102), (.int 0), (.int n1), (.int u1), (.int u2)]) (rest := []) (lenOf pd_26 rfl) rfl own_le0 (hb hby at_148) (fun _ _ => ⟨rfl, e102, (by decide : 30 + 0 ≤ _), (by decide : 117 + 0 ≤ _)⟩)
  dsimp only [Pt.U, Pt.locs, Pt.cells, Pt.slots] at X109 l109 y109 z109 st109 hQ109
  subst l109 y109 z109
  obtain ⟨rfl, Nq109, Kq109, fq109_0⟩ := hQ109
  have N110 := Fr.app N96 Nq109
  have O111 := O104.keep Kq109 (allS gg103 all0)
  have R112 : CHr Z own_EL s.vm h0 T93.vm T109.heap := R105.trans (CHr.keep Kq109 (sfS (Safe.arv hZ.alike Vc107 (by decide)) sf0) R105.1)
  have hk113 : _ ≤ T109.heap.size := Nat.le_trans hk106 Kq109.1
  have q115 := fun t (kt : Go p e below T109 (mkF m 159 #[vI p1, vI p2, vI p3, vI p4, vI n1, vI n2, vI n3, vI u1, vI u2, vI u3, vI u4, vI u5, vI u6, vR x_46, vR x_52, vR x_58, vR x_93, vR b102, vI (Int32.ofNat (([] : List Int32) ++ (own_cs n1 u1 u2)).length)] [(.int 32), (.int (Int32.ofNat (([] : List Int32) ++ (own_cs n1 u1 u2)).length)), (.ref b102)]) t) => q108 t (st109 t (by
    show Go _ _ _ _ (mkF m 151 #[vI p1, vI p2, vI p3, vI p4, vI n1, vI n2, vI n3, vI u1, vI u2, vI u3, vI u4, vI u5, vI u6, vR x_46, vR x_52, vR x_58, vR x_93, vR b102, vU] [(.int (Int32.ofNat (([] : List Int32) ++ (own_cs n1 u1 u2)).length))]) _
    refine XS.istore X109.here hx rfl (hb hby at_151) rfl (l' := #[vI p1, vI p2, vI p3, vI p4, vI n1, vI n2, vI n3, vI u1, vI u2, vI u3, vI u4, vI u5, vI u6, vR x_46, vR x_52, vR x_58, vR x_93, vR b102, vI (Int32.ofNat (([] : List Int32) ++ (own_cs n1 u1 u2)).length)]) rfl ?_
    show Go _ _ _ _ (mkF m 153 #[vI p1, vI p2, vI p3, vI p4, vI n1, vI n2, vI n3, vI u1, vI u2, vI u3, vI u4, vI u5, vI u6, vR x_46, vR x_52, vR x_58, vR x_93, vR b102, vI (Int32.ofNat (([] : List Int32) ++ (own_cs n1 u1 u2)).length)] []) _
    refine XS.aload X109.here hx rfl (hb hby at_153) rfl rfl ?_
    show Go _ _ _ _ (mkF m 155 _ [(.ref b102)]) _
    refine XS.iload X109.here hx rfl (hb hby at_155) rfl ?_
    show Go _ _ _ _ (mkF m 157 _ [(.int (Int32.ofNat (([] : List Int32) ++ (own_cs n1 u1 u2)).length)), (.ref b102)]) _
    refine XS.bipush X109.here hx rfl (hb hby at_157) ?_
    exact kt))
  obtain ⟨c114, Ar114, q114, S114, N114, H114, G114⟩ := id fq109_0
  have hi114 : ¬ ((Int32.ofNat (([] : List Int32) ++ (own_cs n1 u1 u2)).length) < 0 ∨ c114.slots.size ≤ ((Int32.ofNat (([] : List Int32) ++ (own_cs n1 u1 u2)).length)).toNatClampNeg) := inb_of S114 ⟨(own_cl10 (by simp only [List.length_append, List.length_nil, List.length_cons]; omega : (([] : List Int32) ++ (own_cs n1 u1 u2)).length < 10)).2.1, (own_cl10 (by simp only [List.length_append, List.length_nil, List.length_cons]; omega : (([] : List Int32) ++ (own_cs n1 u1 u2)).length < 10)).2.2.1⟩
  obtain ⟨T116, h116, X116, e116, W116, st116⟩ := stC X109 hx hZ rfl Ar114 (j := (Int32.ofNat (([] : List Int32) ++ (own_cs n1 u1 u2)).length)) hi114 (g := (mkF m 159 #[vI p1, vI p2, vI p3, vI p4, vI n1, vI n2, vI n3, vI u1, vI u2, vI u3, vI u4, vI u5, vI u6, vR x_46, vR x_52, vR x_58, vR x_93, vR b102, vI (Int32.ofNat (([] : List Int32) ++ (own_cs n1 u1 u2)).length)] [(.int 32), (.int (Int32.ofNat (([] : List Int32) ++ (own_cs n1 u1 u2)).length)), (.ref b102)])) rfl rfl (hb hby at_159)
  have V116 : Arv Z h116 b102 k102 .char (10 : Int32) (own_ch ((([] : List Int32) ++ (own_cs n1 u1 u2)) ++ ([(32 : Int32)] : List Int32))) (.int 0) := by
    have vv := Arv.set Ar114 q114 S114 N114 H114 G114 (fits_nar_char _) W116 (([] : List Int32) ++ (own_cs n1 u1 u2)).length (own_cl10 (by simp only [List.length_append, List.length_nil, List.length_cons]; omega : (([] : List Int32) ++ (own_cs n1 u1 u2)).length < 10)).1 (by rw [own_ch_len (Nat.le_of_lt (by simp only [List.length_append, List.length_nil, List.length_cons]; omega : (([] : List Int32) ++ (own_cs n1 u1 u2)).length < 10))]; exact (by simp only [List.length_append, List.length_nil, List.length_cons]; omega : (([] : List Int32) ++ (own_cs n1 u1 u2)).length < 10))
    rw [show nar .char (32 : Int32) = (32 : Int32) from own_narc (r := (32 : Int32)) (by decide), own_ch_set _ (by simp only [List.length_append, List.length_nil, List.length_cons]; omega : (([] : List Int32) ++ (own_cs n1 u1 u2)).length < 10)] at vv
    exact vv
  have N117 := Fr.snoc X116 N110 gg103
  have O118 := O111.wr W116 gg103
  have R119 : CHr Z own_EL s.vm h0 T93.vm h116 := R112.trans (CHr.wr W116 (Safe.arv hZ.alike fq109_0 (by decide)) R112.1)
  have hk120 : _ ≤ h116.size := Nat.le_trans hk113 (Keep.of_wr W116).1
  have q121 := fun t (kt : Go p e below T116 (mkF m 166 #[vI p1, vI p2, vI p3, vI p4, vI n1, vI n2, vI n3, vI u1, vI u2, vI u3, vI u4, vI u5, vI u6, vR x_46, vR x_52, vR x_58, vR x_93, vR b102, vI (Int32.ofNat (([] : List Int32) ++ (own_cs n1 u1 u2)).length)] [(.int ((Int32.ofNat (([] : List Int32) ++ (own_cs n1 u1 u2)).length) + (1 : Int32))), (.ref b102)]) t) => q115 t (st116 t (by
    show Go _ _ _ _ (mkF m 160 #[vI p1, vI p2, vI p3, vI p4, vI n1, vI n2, vI n3, vI u1, vI u2, vI u3, vI u4, vI u5, vI u6, vR x_46, vR x_52, vR x_58, vR x_93, vR b102, vI (Int32.ofNat (([] : List Int32) ++ (own_cs n1 u1 u2)).length)] []) _
    refine XS.aload X116.here hx rfl (hb hby at_160) rfl rfl ?_
    show Go _ _ _ _ (mkF m 162 _ [(.ref b102)]) _
    refine XS.iload X116.here hx rfl (hb hby at_162) rfl ?_
    show Go _ _ _ _ (mkF m 164 _ [(.int (Int32.ofNat (([] : List Int32) ++ (own_cs n1 u1 u2)).length)), (.ref b102)]) _
    refine XS.iconst X116.here hx rfl (hb hby at_164) ?_
    show Go _ _ _ _ (mkF m 165 _ [(.int 1), (.int (Int32.ofNat (([] : List Int32) ++ (own_cs n1 u1 u2)).length)), (.ref b102)]) _
    refine XS.iadd X116.here hx rfl (hb hby at_165) rfl ?_
    exact kt))
  have q122 := fun t (kt : Go p e below T116 (mkF m 166 #[vI p1, vI p2, vI p3, vI p4, vI n1, vI n2, vI n3, vI u1, vI u2, vI u3, vI u4, vI u5, vI u6, vR x_46, vR x_52, vR x_58, vR x_93, vR b102, vI (Int32.ofNat (([] : List Int32) ++ (own_cs n1 u1 u2)).length)] [(.int (Int32.ofNat ((([] : List Int32) ++ (own_cs n1 u1 u2)) ++ ([(32 : Int32)] : List Int32)).length)), (.ref b102)]) t) => q121 t (by rw [(show ((Int32.ofNat (([] : List Int32) ++ (own_cs n1 u1 u2)).length) + (1 : Int32)) = (Int32.ofNat ((([] : List Int32) ++ (own_cs n1 u1 u2)) ++ ([(32 : Int32)] : List Int32)).length) from own_addL (ds := [(32 : Int32)]) (by simp only [List.length_append, List.length_nil, List.length_cons]; omega))]; exact kt)
  have q124 := fun t (kt : Go p e below T116 (mkF m 168 #[vI p1, vI p2, vI p3, vI p4, vI n1, vI n2, vI n3, vI u1, vI u2, vI u3, vI u4, vI u5, vI u6, vR x_46, vR x_52, vR x_58, vR x_93, vR b102, vI (Int32.ofNat (([] : List Int32) ++ (own_cs n1 u1 u2)).length)] [(.int 40), (.int (Int32.ofNat ((([] : List Int32) ++ (own_cs n1 u1 u2)) ++ ([(32 : Int32)] : List Int32)).length)), (.ref b102)]) t) => q122 t (by
    show Go _ _ _ _ (mkF m 166 #[vI p1, vI p2, vI p3, vI p4, vI n1, vI n2, vI n3, vI u1, vI u2, vI u3, vI u4, vI u5, vI u6, vR x_46, vR x_52, vR x_58, vR x_93, vR b102, vI (Int32.ofNat (([] : List Int32) ++ (own_cs n1 u1 u2)).length)] [(.int (Int32.ofNat ((([] : List Int32) ++ (own_cs n1 u1 u2)) ++ ([(32 : Int32)] : List Int32)).length)), (.ref b102)]) _
    refine XS.bipush X116.here hx rfl (hb hby at_166) ?_
    exact kt)
  obtain ⟨c123, Ar123, q123, S123, N123, H123, G123⟩ := id V116
  have hi123 : ¬ ((Int32.ofNat ((([] : List Int32) ++ (own_cs n1 u1 u2)) ++ ([(32 : Int32)] : List Int32)).length) < 0 ∨ c123.slots.size ≤ ((Int32.ofNat ((([] : List Int32) ++ (own_cs n1 u1 u2)) ++ ([(32 : Int32)] : List Int32)).length)).toNatClampNeg) := inb_of S123 ⟨(own_cl10 (by simp only [List.length_append, List.length_nil, List.length_cons]; omega : ((([] : List Int32) ++ (own_cs n1 u1 u2)) ++ ([(32 : Int32)] : List Int32)).length < 10)).2.1, (own_cl10 (by simp only [List.length_append, List.length_nil, List.length_cons]; omega : ((([] : List Int32) ++ (own_cs n1 u1 u2)) ++ ([(32 : Int32)] : List Int32)).length < 10)).2.2.1⟩
  obtain ⟨T125, h125, X125, e125, W125, st125⟩ := stC X116 hx hZ e116 Ar123 (j := (Int32.ofNat ((([] : List Int32) ++ (own_cs n1 u1 u2)) ++ ([(32 : Int32)] : List Int32)).length)) hi123 (g := (mkF m 168 #[vI p1, vI p2, vI p3, vI p4, vI n1, vI n2, vI n3, vI u1, vI u2, vI u3, vI u4, vI u5, vI u6, vR x_46, vR x_52, vR x_58, vR x_93, vR b102, vI (Int32.ofNat (([] : List Int32) ++ (own_cs n1 u1 u2)).length)] [(.int 40), (.int (Int32.ofNat ((([] : List Int32) ++ (own_cs n1 u1 u2)) ++ ([(32 : Int32)] : List Int32)).length)), (.ref b102)])) rfl rfl (hb hby at_168)
  have V125 : Arv Z h125 b102 k102 .char (10 : Int32) (own_ch ((([] : List Int32) ++ (own_cs n1 u1 u2)) ++ ([(32 : Int32), (40 : Int32)] : List Int32))) (.int 0) := by
    have vv := Arv.set Ar123 q123 S123 N123 H123 G123 (fits_nar_char _) W125 ((([] : List Int32) ++ (own_cs n1 u1 u2)) ++ ([(32 : Int32)] : List Int32)).length (own_cl10 (by simp only [List.length_append, List.length_nil, List.length_cons]; omega : ((([] : List Int32) ++ (own_cs n1 u1 u2)) ++ ([(32 : Int32)] : List Int32)).length < 10)).1 (by rw [own_ch_len (Nat.le_of_lt (by simp only [List.length_append, List.length_nil, List.length_cons]; omega : ((([] : List Int32) ++ (own_cs n1 u1 u2)) ++ ([(32 : Int32)] : List Int32)).length < 10))]; exact (by simp only [List.length_append, List.length_nil, List.length_cons]; omega : ((([] : List Int32) ++ (own_cs n1 u1 u2)) ++ ([(32 : Int32)] : List Int32)).length < 10))
    rw [show nar .char (40 : Int32) = (40 : Int32) from own_narc (r := (40 : Int32)) (by decide), own_ch_set _ (by simp only [List.length_append, List.length_nil, List.length_cons]; omega : ((([] : List Int32) ++ (own_cs n1 u1 u2)) ++ ([(32 : Int32)] : List Int32)).length < 10), show (((([] : List Int32) ++ (own_cs n1 u1 u2)) ++ ([(32 : Int32)] : List Int32)) ++ ([(40 : Int32)] : List Int32)) = ((([] : List Int32) ++ (own_cs n1 u1 u2)) ++ ([(32 : Int32), (40 : Int32)] : List Int32)) from List.append_assoc _ _ _] at vv
    exact vv
  have N126 := Fr.snoc X125 N117 gg103
  have O127 := O118.wr W125 gg103
  have R128 : CHr Z own_EL s.vm h0 T93.vm h125 := R119.trans (CHr.wr W125 (Safe.arv hZ.alike V116 (by decide)) R119.1)
  have hk129 : _ ≤ h125.size := Nat.le_trans hk120 (Keep.of_wr W125).1
  have q130 := fun t (kt : Go p e below T125 (mkF m 173 #[vI p1, vI p2, vI p3, vI p4, vI n1, vI n2, vI n3, vI u1, vI u2, vI u3, vI u4, vI u5, vI u6, vR x_46, vR x_52, vR x_58, vR x_93, vR b102, vI (Int32.ofNat (([] : List Int32) ++ (own_cs n1 u1 u2)).length)] [(.int ((Int32.ofNat (([] : List Int32) ++ (own_cs n1 u1 u2)).length) + (2 : Int32)))]) t) => q124 t (st125 t (by
    show Go _ _ _ _ (mkF m 169 #[vI p1, vI p2, vI p3, vI p4, vI n1, vI n2, vI n3, vI u1, vI u2, vI u3, vI u4, vI u5, vI u6, vR x_46, vR x_52, vR x_58, vR x_93, vR b102, vI (Int32.ofNat (([] : List Int32) ++ (own_cs n1 u1 u2)).length)] []) _
    refine XS.iload X125.here hx rfl (hb hby at_169) rfl ?_
    show Go _ _ _ _ (mkF m 171 _ [(.int (Int32.ofNat (([] : List Int32) ++ (own_cs n1 u1 u2)).length))]) _
    refine XS.iconst X125.here hx rfl (hb hby at_171) ?_
    show Go _ _ _ _ (mkF m 172 _ [(.int 2), (.int (Int32.ofNat (([] : List Int32) ++ (own_cs n1 u1 u2)).length))]) _
    refine XS.iadd X125.here hx rfl (hb hby at_172) rfl ?_
    exact kt))
  have q131 := fun t (kt : Go p e below T125 (mkF m 173 #[vI p1, vI p2, vI p3, vI p4, vI n1, vI n2, vI n3, vI u1, vI u2, vI u3, vI u4, vI u5, vI u6, vR x_46, vR x_52, vR x_58, vR x_93, vR b102, vI (Int32.ofNat (([] : List Int32) ++ (own_cs n1 u1 u2)).length)] [(.int (Int32.ofNat ((([] : List Int32) ++ (own_cs n1 u1 u2)) ++ ([(32 : Int32), (40 : Int32)] : List Int32)).length))]) t) => q130 t (by rw [(show ((Int32.ofNat (([] : List Int32) ++ (own_cs n1 u1 u2)).length) + (2 : Int32)) = (Int32.ofNat ((([] : List Int32) ++ (own_cs n1 u1 u2)) ++ ([(32 : Int32), (40 : Int32)] : List Int32)).length) from own_addL (ds := [(32 : Int32), (40 : Int32)]) (by simp only [List.length_append, List.length_nil, List.length_cons]; omega))]; exact kt)
  have q132 := fun t (kt : Go p e below T125 (mkF m 185 #[vI p1, vI p2, vI p3, vI p4, vI n1, vI n2, vI n3, vI u1, vI u2, vI u3, vI u4, vI u5, vI u6, vR x_46, vR x_52, vR x_58, vR x_93, vR b102, vI (Int32.ofNat ((([] : List Int32) ++ (own_cs n1 u1 u2)) ++ ([(32 : Int32), (40 : Int32)] : List Int32)).length)] [(.int u4), (.int u3), (.int n2), (.int (Int32.ofNat ((([] : List Int32) ++ (own_cs n1 u1 u2)) ++ ([(32 : Int32), (40 : Int32)] : List Int32)).length)), (.ref b102)]) t) => q131 t (by
    show Go _ _ _ _ (mkF m 173 #[vI p1, vI p2, vI p3, vI p4, vI n1, vI n2, vI n3, vI u1, vI u2, vI u3, vI u4, vI u5, vI u6, vR x_46, vR x_52, vR x_58, vR x_93, vR b102, vI (Int32.ofNat (([] : List Int32) ++ (own_cs n1 u1 u2)).length)] [(.int (Int32.ofNat ((([] : List Int32) ++ (own_cs n1 u1 u2)) ++ ([(32 : Int32), (40 : Int32)] : List Int32)).length))]) _
    refine XS.istore X125.here hx rfl (hb hby at_173) rfl (l' := #[vI p1, vI p2, vI p3, vI p4, vI n1, vI n2, vI n3, vI u1, vI u2, vI u3, vI u4, vI u5, vI u6, vR x_46, vR x_52, vR x_58, vR x_93, vR b102, vI (Int32.ofNat ((([] : List Int32) ++ (own_cs n1 u1 u2)) ++ ([(32 : Int32), (40 : Int32)] : List Int32)).length)]) rfl ?_
    show Go _ _ _ _ (mkF m 175 #[vI p1, vI p2, vI p3, vI p4, vI n1, vI n2, vI n3, vI u1, vI u2, vI u3, vI u4, vI u5, vI u6, vR x_46, vR x_52, vR x_58, vR x_93, vR b102, vI (Int32.ofNat ((([] : List Int32) ++ (own_cs n1 u1 u2)) ++ ([(32 : Int32), (40 : Int32)] : List Int32)).length)] []) _
    refine XS.aload X125.here hx rfl (hb hby at_175) rfl rfl ?_
    show Go _ _ _ _ (mkF m 177 _ [(.ref b102)]) _
    refine XS.iload X125.here hx rfl (hb hby at_177) rfl ?_
    show Go _ _ _ _ (mkF m 179 _ [(.int (Int32.ofNat ((([] : List Int32) ++ (own_cs n1 u1 u2)) ++ ([(32 : Int32), (40 : Int32)] : List Int32)).length)), (.ref b102)]) _
    refine XS.iload X125.here hx rfl (hb hby at_179) rfl ?_
    show Go _ _ _ _ (mkF m 181 _ [(.int n2), (.int (Int32.ofNat ((([] : List Int32) ++ (own_cs n1 u1 u2)) ++ ([(32 : Int32), (40 : Int32)] : List Int32)).length)), (.ref b102)]) _
    refine XS.iload X125.here hx rfl (hb hby at_181) rfl ?_
    show Go _ _ _ _ (mkF m 183 _ [(.int u3), (.int n2), (.int (Int32.ofNat ((([] : List Int32) ++ (own_cs n1 u1 u2)) ++ ([(32 : Int32), (40 : Int32)] : List Int32)).length)), (.ref b102)]) _
    refine XS.iload X125.here hx rfl (hb hby at_183) rfl ?_
    exact kt)
  obtain ⟨_, _, ⟨T133, L133, k133, n133⟩, -, X133, ⟨_, hQ133, l133, y133, z133⟩, st133⟩ := Jvm.LawKit.callS X125 hx (y := ym31) hown (ow hZ hw 177 rfl) (ow hZ hw 178 rfl) (ow hZ hw 2 rfl) (ow hZ hw 179 rfl) (by decide) (backOf (W := 0) (rm33 l Z a0 hw [] cx b102 k102 ((([] : List Int32) ++ (own_cs n1 u1 u2)) ++ ([(32 : Int32), (40 : Int32)] : List Int32)) n2 u3 u4 h125 n0 O127 V125 gg103 l_n2 (by simp only [List.length_append, List.length_nil, List.length_cons]; omega) l_u3 l_u4) hZ (ox hw 179 rfl) (ox hw 2 rfl) (by decide) (by decide)) (g := (mkF m 185 #[vI p1, vI p2, vI p3, vI p4, vI n1, vI n2, vI n3, vI u1, vI u2, vI u3, vI u4, vI u5, vI u6, vR x_46, vR x_52, vR x_58, vR x_93, vR b102, vI (Int32.ofNat ((([] : List Int32) ++ (own_cs n1 u1 u2)) ++ ([(32 : Int32), (40 : Int32)] : List Int32)).length)] [(.int u4), (.int u3), (.int n2), (.int (Int32.ofNat ((([] : List Int32) ++ (own_cs n1 u1 u2)) ++ ([(32 : Int32), (40 : Int32)] : List Int32)).length)), (.ref b102)])) rfl (by rw [hml]; rfl) (argsL := [(.ref b102), (.int (Int32.ofNat ((([] : List Int32) ++ (own_cs n1 u1 u2)) ++ ([(32 : Int32), (40 : Int32)] : List Int32)).length)), (.int n2), (.int u3), (.int u4)]) (rest := []) (lenOf pd_26 rfl) rfl own_le0 (hb hby at_185) (fun _ _ => ⟨rfl, e125, (by decide : 30 + 0 ≤ _), (by decide : 117 + 0 ≤ _)⟩)
  dsimp only [Pt.U, Pt.locs, Pt.cells, Pt.slots] at X133 l133 y133 z133 st133 hQ133
  subst l133 y133 z133
  obtain ⟨rfl, Nq133, Kq133, fq133_0⟩ := hQ133
  have N134 := Fr.app N126 Nq133
  have O135 := O127.keep Kq133 (allS gg103 all0)
  have R136 : CHr Z own_EL s.vm h0 T93.vm T133.heap := R128.trans (CHr.keep Kq133 (sfS (Safe.arv hZ.alike V125 (by decide)) sf0) R128.1)
  have hk137 : _ ≤ T133.heap.size := Nat.le_trans hk129 Kq133.1
  have q139 := fun t (kt : Go p e below T133 (mkF m 196 #[vI p1, vI p2, vI p3, vI p4, vI n1, vI n2, vI n3, vI u1, vI u2, vI u3, vI u4, vI u5, vI u6, vR x_46, vR x_52, vR x_58, vR x_93, vR b102, vI (Int32.ofNat (((([] : List Int32) ++ (own_cs n1 u1 u2)) ++ ([(32 : Int32), (40 : Int32)] : List Int32)) ++ (own_cs n2 u3 u4)).length)] [(.int 32), (.int (Int32.ofNat (((([] : List Int32) ++ (own_cs n1 u1 u2)) ++ ([(32 : Int32), (40 : Int32)] : List Int32)) ++ (own_cs n2 u3 u4)).length)), (.ref b102)]) t) => q132 t (st133 t (by
    show Go _ _ _ _ (mkF m 188 #[vI p1, vI p2, vI p3, vI p4, vI n1, vI n2, vI n3, vI u1, vI u2, vI u3, vI u4, vI u5, vI u6, vR x_46, vR x_52, vR x_58, vR x_93, vR b102, vI (Int32.ofNat ((([] : List Int32) ++ (own_cs n1 u1 u2)) ++ ([(32 : Int32), (40 : Int32)] : List Int32)).length)] [(.int (Int32.ofNat (((([] : List Int32) ++ (own_cs n1 u1 u2)) ++ ([(32 : Int32), (40 : Int32)] : List Int32)) ++ (own_cs n2 u3 u4)).length))]) _
    refine XS.istore X133.here hx rfl (hb hby at_188) rfl (l' := #[vI p1, vI p2, vI p3, vI p4, vI n1, vI n2, vI n3, vI u1, vI u2, vI u3, vI u4, vI u5, vI u6, vR x_46, vR x_52, vR x_58, vR x_93, vR b102, vI (Int32.ofNat (((([] : List Int32) ++ (own_cs n1 u1 u2)) ++ ([(32 : Int32), (40 : Int32)] : List Int32)) ++ (own_cs n2 u3 u4)).length)]) rfl ?_
    show Go _ _ _ _ (mkF m 190 #[vI p1, vI p2, vI p3, vI p4, vI n1, vI n2, vI n3, vI u1, vI u2, vI u3, vI u4, vI u5, vI u6, vR x_46, vR x_52, vR x_58, vR x_93, vR b102, vI (Int32.ofNat (((([] : List Int32) ++ (own_cs n1 u1 u2)) ++ ([(32 : Int32), (40 : Int32)] : List Int32)) ++ (own_cs n2 u3 u4)).length)] []) _
    refine XS.aload X133.here hx rfl (hb hby at_190) rfl rfl ?_
    show Go _ _ _ _ (mkF m 192 _ [(.ref b102)]) _
    refine XS.iload X133.here hx rfl (hb hby at_192) rfl ?_
    show Go _ _ _ _ (mkF m 194 _ [(.int (Int32.ofNat (((([] : List Int32) ++ (own_cs n1 u1 u2)) ++ ([(32 : Int32), (40 : Int32)] : List Int32)) ++ (own_cs n2 u3 u4)).length)), (.ref b102)]) _
    refine XS.bipush X133.here hx rfl (hb hby at_194) ?_
    exact kt))
  obtain ⟨c138, Ar138, q138, S138, N138, H138, G138⟩ := id fq133_0
  have hi138 : ¬ ((Int32.ofNat (((([] : List Int32) ++ (own_cs n1 u1 u2)) ++ ([(32 : Int32), (40 : Int32)] : List Int32)) ++ (own_cs n2 u3 u4)).length) < 0 ∨ c138.slots.size ≤ ((Int32.ofNat (((([] : List Int32) ++ (own_cs n1 u1 u2)) ++ ([(32 : Int32), (40 : Int32)] : List Int32)) ++ (own_cs n2 u3 u4)).length)).toNatClampNeg) := inb_of S138 ⟨(own_cl10 (by simp only [List.length_append, List.length_nil, List.length_cons]; omega : (((([] : List Int32) ++ (own_cs n1 u1 u2)) ++ ([(32 : Int32), (40 : Int32)] : List Int32)) ++ (own_cs n2 u3 u4)).length < 10)).2.1, (own_cl10 (by simp only [List.length_append, List.length_nil, List.length_cons]; omega : (((([] : List Int32) ++ (own_cs n1 u1 u2)) ++ ([(32 : Int32), (40 : Int32)] : List Int32)) ++ (own_cs n2 u3 u4)).length < 10)).2.2.1⟩
  obtain ⟨T140, h140, X140, e140, W140, st140⟩ := stC X133 hx hZ rfl Ar138 (j := (Int32.ofNat (((([] : List Int32) ++ (own_cs n1 u1 u2)) ++ ([(32 : Int32), (40 : Int32)] : List Int32)) ++ (own_cs n2 u3 u4)).length)) hi138 (g := (mkF m 196 #[vI p1, vI p2, vI p3, vI p4, vI n1, vI n2, vI n3, vI u1, vI u2, vI u3, vI u4, vI u5, vI u6, vR x_46, vR x_52, vR x_58, vR x_93, vR b102, vI (Int32.ofNat (((([] : List Int32) ++ (own_cs n1 u1 u2)) ++ ([(32 : Int32), (40 : Int32)] : List Int32)) ++ (own_cs n2 u3 u4)).length)] [(.int 32), (.int (Int32.ofNat (((([] : List Int32) ++ (own_cs n1 u1 u2)) ++ ([(32 : Int32), (40 : Int32)] : List Int32)) ++ (own_cs n2 u3 u4)).length)), (.ref b102)])) rfl rfl (hb hby at_196)
  have V140 : Arv Z h140 b102 k102 .char (10 : Int32) (own_ch ((((([] : List Int32) ++ (own_cs n1 u1 u2)) ++ ([(32 : Int32), (40 : Int32)] : List Int32)) ++ (own_cs n2 u3 u4)) ++ ([(32 : Int32)] : List Int32))) (.int 0) := by
    have vv := Arv.set Ar138 q138 S138 N138 H138 G138 (fits_nar_char _) W140 (((([] : List Int32) ++ (own_cs n1 u1 u2)) ++ ([(32 : Int32), (40 : Int32)] : List Int32)) ++ (own_cs n2 u3 u4)).length (own_cl10 (by simp only [List.length_append, List.length_nil, List.length_cons]; omega : (((([] : List Int32) ++ (own_cs n1 u1 u2)) ++ ([(32 : Int32), (40 : Int32)] : List Int32)) ++ (own_cs n2 u3 u4)).length < 10)).1 (by rw [own_ch_len (Nat.le_of_lt (by simp only [List.length_append, List.length_nil, List.length_cons]; omega : (((([] : List Int32) ++ (own_cs n1 u1 u2)) ++ ([(32 : Int32), (40 : Int32)] : List Int32)) ++ (own_cs n2 u3 u4)).length < 10))]; exact (by simp only [List.length_append, List.length_nil, List.length_cons]; omega : (((([] : List Int32) ++ (own_cs n1 u1 u2)) ++ ([(32 : Int32), (40 : Int32)] : List Int32)) ++ (own_cs n2 u3 u4)).length < 10))
    rw [show nar .char (32 : Int32) = (32 : Int32) from own_narc (r := (32 : Int32)) (by decide), own_ch_set _ (by simp only [List.length_append, List.length_nil, List.length_cons]; omega : (((([] : List Int32) ++ (own_cs n1 u1 u2)) ++ ([(32 : Int32), (40 : Int32)] : List Int32)) ++ (own_cs n2 u3 u4)).length < 10)] at vv
    exact vv
  have N141 := Fr.snoc X140 N134 gg103
  have O142 := O135.wr W140 gg103
  have R143 : CHr Z own_EL s.vm h0 T93.vm h140 := R136.trans (CHr.wr W140 (Safe.arv hZ.alike fq133_0 (by decide)) R136.1)
  have hk144 : _ ≤ h140.size := Nat.le_trans hk137 (Keep.of_wr W140).1
  have q145 := fun t (kt : Go p e below T140 (mkF m 201 #[vI p1, vI p2, vI p3, vI p4, vI n1, vI n2, vI n3, vI u1, vI u2, vI u3, vI u4, vI u5, vI u6, vR x_46, vR x_52, vR x_58, vR x_93, vR b102, vI (Int32.ofNat (((([] : List Int32) ++ (own_cs n1 u1 u2)) ++ ([(32 : Int32), (40 : Int32)] : List Int32)) ++ (own_cs n2 u3 u4)).length)] [(.int ((Int32.ofNat (((([] : List Int32) ++ (own_cs n1 u1 u2)) ++ ([(32 : Int32), (40 : Int32)] : List Int32)) ++ (own_cs n2 u3 u4)).length) + (1 : Int32)))]) t) => q139 t (st140 t (by
    show Go _ _ _ _ (mkF m 197 #[vI p1, vI p2, vI p3, vI p4, vI n1, vI n2, vI n3, vI u1, vI u2, vI u3, vI u4, vI u5, vI u6, vR x_46, vR x_52, vR x_58, vR x_93, vR b102, vI (Int32.ofNat (((([] : List Int32) ++ (own_cs n1 u1 u2)) ++ ([(32 : Int32), (40 : Int32)] : List Int32)) ++ (own_cs n2 u3 u4)).length)] []) _
    refine XS.iload X140.here hx rfl (hb hby at_197) rfl ?_
    show Go _ _ _ _ (mkF m 199 _ [(.int (Int32.ofNat (((([] : List Int32) ++ (own_cs n1 u1 u2)) ++ ([(32 : Int32), (40 : Int32)] : List Int32)) ++ (own_cs n2 u3 u4)).length))]) _
    refine XS.iconst X140.here hx rfl (hb hby at_199) ?_
    show Go _ _ _ _ (mkF m 200 _ [(.int 1), (.int (Int32.ofNat (((([] : List Int32) ++ (own_cs n1 u1 u2)) ++ ([(32 : Int32), (40 : Int32)] : List Int32)) ++ (own_cs n2 u3 u4)).length))]) _
    refine XS.iadd X140.here hx rfl (hb hby at_200) rfl ?_
    exact kt))
  have q146 := fun t (kt : Go p e below T140 (mkF m 201 #[vI p1, vI p2, vI p3, vI p4, vI n1, vI n2, vI n3, vI u1, vI u2, vI u3, vI u4, vI u5, vI u6, vR x_46, vR x_52, vR x_58, vR x_93, vR b102, vI (Int32.ofNat (((([] : List Int32) ++ (own_cs n1 u1 u2)) ++ ([(32 : Int32), (40 : Int32)] : List Int32)) ++ (own_cs n2 u3 u4)).length)] [(.int (Int32.ofNat ((((([] : List Int32) ++ (own_cs n1 u1 u2)) ++ ([(32 : Int32), (40 : Int32)] : List Int32)) ++ (own_cs n2 u3 u4)) ++ ([(32 : Int32)] : List Int32)).length))]) t) => q145 t (by rw [(show ((Int32.ofNat (((([] : List Int32) ++ (own_cs n1 u1 u2)) ++ ([(32 : Int32), (40 : Int32)] : List Int32)) ++ (own_cs n2 u3 u4)).length) + (1 : Int32)) = (Int32.ofNat ((((([] : List Int32) ++ (own_cs n1 u1 u2)) ++ ([(32 : Int32), (40 : Int32)] : List Int32)) ++ (own_cs n2 u3 u4)) ++ ([(32 : Int32)] : List Int32)).length) from own_addL (ds := [(32 : Int32)]) (by simp only [List.length_append, List.length_nil, List.length_cons]; omega))]; exact kt)
  have q147 := fun t (kt : Go p e below T140 (mkF m 213 #[vI p1, vI p2, vI p3, vI p4, vI n1, vI n2, vI n3, vI u1, vI u2, vI u3, vI u4, vI u5, vI u6, vR x_46, vR x_52, vR x_58, vR x_93, vR b102, vI (Int32.ofNat ((((([] : List Int32) ++ (own_cs n1 u1 u2)) ++ ([(32 : Int32), (40 : Int32)] : List Int32)) ++ (own_cs n2 u3 u4)) ++ ([(32 : Int32)] : List Int32)).length)] [(.int u6), (.int u5), (.int n3), (.int (Int32.ofNat ((((([] : List Int32) ++ (own_cs n1 u1 u2)) ++ ([(32 : Int32), (40 : Int32)] : List Int32)) ++ (own_cs n2 u3 u4)) ++ ([(32 : Int32)] : List Int32)).length)), (.ref b102)]) t) => q146 t (by
    show Go _ _ _ _ (mkF m 201 #[vI p1, vI p2, vI p3, vI p4, vI n1, vI n2, vI n3, vI u1, vI u2, vI u3, vI u4, vI u5, vI u6, vR x_46, vR x_52, vR x_58, vR x_93, vR b102, vI (Int32.ofNat (((([] : List Int32) ++ (own_cs n1 u1 u2)) ++ ([(32 : Int32), (40 : Int32)] : List Int32)) ++ (own_cs n2 u3 u4)).length)] [(.int (Int32.ofNat ((((([] : List Int32) ++ (own_cs n1 u1 u2)) ++ ([(32 : Int32), (40 : Int32)] : List Int32)) ++ (own_cs n2 u3 u4)) ++ ([(32 : Int32)] : List Int32)).length))]) _
    refine XS.istore X140.here hx rfl (hb hby at_201) rfl (l' := #[vI p1, vI p2, vI p3, vI p4, vI n1, vI n2, vI n3, vI u1, vI u2, vI u3, vI u4, vI u5, vI u6, vR x_46, vR x_52, vR x_58, vR x_93, vR b102, vI (Int32.ofNat ((((([] : List Int32) ++ (own_cs n1 u1 u2)) ++ ([(32 : Int32), (40 : Int32)] : List Int32)) ++ (own_cs n2 u3 u4)) ++ ([(32 : Int32)] : List Int32)).length)]) rfl ?_
    show Go _ _ _ _ (mkF m 203 #[vI p1, vI p2, vI p3, vI p4, vI n1, vI n2, vI n3, vI u1, vI u2, vI u3, vI u4, vI u5, vI u6, vR x_46, vR x_52, vR x_58, vR x_93, vR b102, vI (Int32.ofNat ((((([] : List Int32) ++ (own_cs n1 u1 u2)) ++ ([(32 : Int32), (40 : Int32)] : List Int32)) ++ (own_cs n2 u3 u4)) ++ ([(32 : Int32)] : List Int32)).length)] []) _
    refine XS.aload X140.here hx rfl (hb hby at_203) rfl rfl ?_
    show Go _ _ _ _ (mkF m 205 _ [(.ref b102)]) _
    refine XS.iload X140.here hx rfl (hb hby at_205) rfl ?_
    show Go _ _ _ _ (mkF m 207 _ [(.int (Int32.ofNat ((((([] : List Int32) ++ (own_cs n1 u1 u2)) ++ ([(32 : Int32), (40 : Int32)] : List Int32)) ++ (own_cs n2 u3 u4)) ++ ([(32 : Int32)] : List Int32)).length)), (.ref b102)]) _
    refine XS.iload X140.here hx rfl (hb hby at_207) rfl ?_
    show Go _ _ _ _ (mkF m 209 _ [(.int n3), (.int (Int32.ofNat ((((([] : List Int32) ++ (own_cs n1 u1 u2)) ++ ([(32 : Int32), (40 : Int32)] : List Int32)) ++ (own_cs n2 u3 u4)) ++ ([(32 : Int32)] : List Int32)).length)), (.ref b102)]) _
    refine XS.iload X140.here hx rfl (hb hby at_209) rfl ?_
    show Go _ _ _ _ (mkF m 211 _ [(.int u5), (.int n3), (.int (Int32.ofNat ((((([] : List Int32) ++ (own_cs n1 u1 u2)) ++ ([(32 : Int32), (40 : Int32)] : List Int32)) ++ (own_cs n2 u3 u4)) ++ ([(32 : Int32)] : List Int32)).length)), (.ref b102)]) _
    refine XS.iload X140.here hx rfl (hb hby at_211) rfl ?_
    exact kt)
  obtain ⟨_, _, ⟨T148, L148, k148, n148⟩, -, X148, ⟨_, hQ148, l148, y148, z148⟩, st148⟩ := Jvm.LawKit.callS X140 hx (y := ym31) hown (ow hZ hw 177 rfl) (ow hZ hw 178 rfl) (ow hZ hw 2 rfl) (ow hZ hw 179 rfl) (by decide) (backOf (W := 0) (rm33 l Z a0 hw [] cx b102 k102 ((((([] : List Int32) ++ (own_cs n1 u1 u2)) ++ ([(32 : Int32), (40 : Int32)] : List Int32)) ++ (own_cs n2 u3 u4)) ++ ([(32 : Int32)] : List Int32)) n3 u5 u6 h140 n0 O142 V140 gg103 l_n3 (by simp only [List.length_append, List.length_nil, List.length_cons]; omega) l_u5 l_u6) hZ (ox hw 179 rfl) (ox hw 2 rfl) (by decide) (by decide)) (g := (mkF m 213 #[vI p1, vI p2, vI p3, vI p4, vI n1, vI n2, vI n3, vI u1, vI u2, vI u3, vI u4, vI u5, vI u6, vR x_46, vR x_52, vR x_58, vR x_93, vR b102, vI (Int32.ofNat ((((([] : List Int32) ++ (own_cs n1 u1 u2)) ++ ([(32 : Int32), (40 : Int32)] : List Int32)) ++ (own_cs n2 u3 u4)) ++ ([(32 : Int32)] : List Int32)).length)] [(.int u6), (.int u5), (.int n3), (.int (Int32.ofNat ((((([] : List Int32) ++ (own_cs n1 u1 u2)) ++ ([(32 : Int32), (40 : Int32)] : List Int32)) ++ (own_cs n2 u3 u4)) ++ ([(32 : Int32)] : List Int32)).length)), (.ref b102)])) rfl (by rw [hml]; rfl) (argsL := [(.ref b102), (.int (Int32.ofNat ((((([] : List Int32) ++ (own_cs n1 u1 u2)) ++ ([(32 : Int32), (40 : Int32)] : List Int32)) ++ (own_cs n2 u3 u4)) ++ ([(32 : Int32)] : List Int32)).length)), (.int n3), (.int u5), (.int u6)]) (rest := []) (lenOf pd_26 rfl) rfl own_le0 (hb hby at_213) (fun _ _ => ⟨rfl, e140, (by decide : 30 + 0 ≤ _), (by decide : 117 + 0 ≤ _)⟩)
  dsimp only [Pt.U, Pt.locs, Pt.cells, Pt.slots] at X148 l148 y148 z148 st148 hQ148
  subst l148 y148 z148
  obtain ⟨rfl, Nq148, Kq148, fq148_0⟩ := hQ148
  have N149 := Fr.app N141 Nq148
  have O150 := O142.keep Kq148 (allS gg103 all0)
  have R151 : CHr Z own_EL s.vm h0 T93.vm T148.heap := R143.trans (CHr.keep Kq148 (sfS (Safe.arv hZ.alike V140 (by decide)) sf0) R143.1)
  have hk152 : _ ≤ T148.heap.size := Nat.le_trans hk144 Kq148.1
  have q154 := fun t (kt : Go p e below T148 (mkF m 224 #[vI p1, vI p2, vI p3, vI p4, vI n1, vI n2, vI n3, vI u1, vI u2, vI u3, vI u4, vI u5, vI u6, vR x_46, vR x_52, vR x_58, vR x_93, vR b102, vI (Int32.ofNat (((((([] : List Int32) ++ (own_cs n1 u1 u2)) ++ ([(32 : Int32), (40 : Int32)] : List Int32)) ++ (own_cs n2 u3 u4)) ++ ([(32 : Int32)] : List Int32)) ++ (own_cs n3 u5 u6)).length)] [(.int 41), (.int (Int32.ofNat (((((([] : List Int32) ++ (own_cs n1 u1 u2)) ++ ([(32 : Int32), (40 : Int32)] : List Int32)) ++ (own_cs n2 u3 u4)) ++ ([(32 : Int32)] : List Int32)) ++ (own_cs n3 u5 u6)).length)), (.ref b102)]) t) => q147 t (st148 t (by
    show Go _ _ _ _ (mkF m 216 #[vI p1, vI p2, vI p3, vI p4, vI n1, vI n2, vI n3, vI u1, vI u2, vI u3, vI u4, vI u5, vI u6, vR x_46, vR x_52, vR x_58, vR x_93, vR b102, vI (Int32.ofNat ((((([] : List Int32) ++ (own_cs n1 u1 u2)) ++ ([(32 : Int32), (40 : Int32)] : List Int32)) ++ (own_cs n2 u3 u4)) ++ ([(32 : Int32)] : List Int32)).length)] [(.int (Int32.ofNat (((((([] : List Int32) ++ (own_cs n1 u1 u2)) ++ ([(32 : Int32), (40 : Int32)] : List Int32)) ++ (own_cs n2 u3 u4)) ++ ([(32 : Int32)] : List Int32)) ++ (own_cs n3 u5 u6)).length))]) _
    refine XS.istore X148.here hx rfl (hb hby at_216) rfl (l' := #[vI p1, vI p2, vI p3, vI p4, vI n1, vI n2, vI n3, vI u1, vI u2, vI u3, vI u4, vI u5, vI u6, vR x_46, vR x_52, vR x_58, vR x_93, vR b102, vI (Int32.ofNat (((((([] : List Int32) ++ (own_cs n1 u1 u2)) ++ ([(32 : Int32), (40 : Int32)] : List Int32)) ++ (own_cs n2 u3 u4)) ++ ([(32 : Int32)] : List Int32)) ++ (own_cs n3 u5 u6)).length)]) rfl ?_
    show Go _ _ _ _ (mkF m 218 #[vI p1, vI p2, vI p3, vI p4, vI n1, vI n2, vI n3, vI u1, vI u2, vI u3, vI u4, vI u5, vI u6, vR x_46, vR x_52, vR x_58, vR x_93, vR b102, vI (Int32.ofNat (((((([] : List Int32) ++ (own_cs n1 u1 u2)) ++ ([(32 : Int32), (40 : Int32)] : List Int32)) ++ (own_cs n2 u3 u4)) ++ ([(32 : Int32)] : List Int32)) ++ (own_cs n3 u5 u6)).length)] []) _
    refine XS.aload X148.here hx rfl (hb hby at_218) rfl rfl ?_
    show Go _ _ _ _ (mkF m 220 _ [(.ref b102)]) _
    refine XS.iload X148.here hx rfl (hb hby at_220) rfl ?_
    show Go _ _ _ _ (mkF m 222 _ [(.int (Int32.ofNat (((((([] : List Int32) ++ (own_cs n1 u1 u2)) ++ ([(32 : Int32), (40 : Int32)] : List Int32)) ++ (own_cs n2 u3 u4)) ++ ([(32 : Int32)] : List Int32)) ++ (own_cs n3 u5 u6)).length)), (.ref b102)]) _
    refine XS.bipush X148.here hx rfl (hb hby at_222) ?_
    exact kt))
  obtain ⟨c153, Ar153, q153, S153, N153, H153, G153⟩ := id fq148_0
  have hi153 : ¬ ((Int32.ofNat (((((([] : List Int32) ++ (own_cs n1 u1 u2)) ++ ([(32 : Int32), (40 : Int32)] : List Int32)) ++ (own_cs n2 u3 u4)) ++ ([(32 : Int32)] : List Int32)) ++ (own_cs n3 u5 u6)).length) < 0 ∨ c153.slots.size ≤ ((Int32.ofNat (((((([] : List Int32) ++ (own_cs n1 u1 u2)) ++ ([(32 : Int32), (40 : Int32)] : List Int32)) ++ (own_cs n2 u3 u4)) ++ ([(32 : Int32)] : List Int32)) ++ (own_cs n3 u5 u6)).length)).toNatClampNeg) := inb_of S153 ⟨(own_cl10 (by simp only [List.length_append, List.length_nil, List.length_cons]; omega : (((((([] : List Int32) ++ (own_cs n1 u1 u2)) ++ ([(32 : Int32), (40 : Int32)] : List Int32)) ++ (own_cs n2 u3 u4)) ++ ([(32 : Int32)] : List Int32)) ++ (own_cs n3 u5 u6)).length < 10)).2.1, (own_cl10 (by simp only [List.length_append, List.length_nil, List.length_cons]; omega : (((((([] : List Int32) ++ (own_cs n1 u1 u2)) ++ ([(32 : Int32), (40 : Int32)] : List Int32)) ++ (own_cs n2 u3 u4)) ++ ([(32 : Int32)] : List Int32)) ++ (own_cs n3 u5 u6)).length < 10)).2.2.1⟩
  obtain ⟨T155, h155, X155, e155, W155, st155⟩ := stC X148 hx hZ rfl Ar153 (j := (Int32.ofNat (((((([] : List Int32) ++ (own_cs n1 u1 u2)) ++ ([(32 : Int32), (40 : Int32)] : List Int32)) ++ (own_cs n2 u3 u4)) ++ ([(32 : Int32)] : List Int32)) ++ (own_cs n3 u5 u6)).length)) hi153 (g := (mkF m 224 #[vI p1, vI p2, vI p3, vI p4, vI n1, vI n2, vI n3, vI u1, vI u2, vI u3, vI u4, vI u5, vI u6, vR x_46, vR x_52, vR x_58, vR x_93, vR b102, vI (Int32.ofNat (((((([] : List Int32) ++ (own_cs n1 u1 u2)) ++ ([(32 : Int32), (40 : Int32)] : List Int32)) ++ (own_cs n2 u3 u4)) ++ ([(32 : Int32)] : List Int32)) ++ (own_cs n3 u5 u6)).length)] [(.int 41), (.int (Int32.ofNat (((((([] : List Int32) ++ (own_cs n1 u1 u2)) ++ ([(32 : Int32), (40 : Int32)] : List Int32)) ++ (own_cs n2 u3 u4)) ++ ([(32 : Int32)] : List Int32)) ++ (own_cs n3 u5 u6)).length)), (.ref b102)])) rfl rfl (hb hby at_224)
  have V155 : Arv Z h155 b102 k102 .char (10 : Int32) (own_ch ((((((([] : List Int32) ++ (own_cs n1 u1 u2)) ++ ([(32 : Int32), (40 : Int32)] : List Int32)) ++ (own_cs n2 u3 u4)) ++ ([(32 : Int32)] : List Int32)) ++ (own_cs n3 u5 u6)) ++ ([(41 : Int32)] : List Int32))) (.int 0) := by
    have vv := Arv.set Ar153 q153 S153 N153 H153 G153 (fits_nar_char _) W155 (((((([] : List Int32) ++ (own_cs n1 u1 u2)) ++ ([(32 : Int32), (40 : Int32)] : List Int32)) ++ (own_cs n2 u3 u4)) ++ ([(32 : Int32)] : List Int32)) ++ (own_cs n3 u5 u6)).length (own_cl10 (by simp only [List.length_append, List.length_nil, List.length_cons]; omega : (((((([] : List Int32) ++ (own_cs n1 u1 u2)) ++ ([(32 : Int32), (40 : Int32)] : List Int32)) ++ (own_cs n2 u3 u4)) ++ ([(32 : Int32)] : List Int32)) ++ (own_cs n3 u5 u6)).length < 10)).1 (by rw [own_ch_len (Nat.le_of_lt (by simp only [List.length_append, List.length_nil, List.length_cons]; omega : (((((([] : List Int32) ++ (own_cs n1 u1 u2)) ++ ([(32 : Int32), (40 : Int32)] : List Int32)) ++ (own_cs n2 u3 u4)) ++ ([(32 : Int32)] : List Int32)) ++ (own_cs n3 u5 u6)).length < 10))]; exact (by simp only [List.length_append, List.length_nil, List.length_cons]; omega : (((((([] : List Int32) ++ (own_cs n1 u1 u2)) ++ ([(32 : Int32), (40 : Int32)] : List Int32)) ++ (own_cs n2 u3 u4)) ++ ([(32 : Int32)] : List Int32)) ++ (own_cs n3 u5 u6)).length < 10))
    rw [show nar .char (41 : Int32) = (41 : Int32) from own_narc (r := (41 : Int32)) (by decide), own_ch_set _ (by simp only [List.length_append, List.length_nil, List.length_cons]; omega : (((((([] : List Int32) ++ (own_cs n1 u1 u2)) ++ ([(32 : Int32), (40 : Int32)] : List Int32)) ++ (own_cs n2 u3 u4)) ++ ([(32 : Int32)] : List Int32)) ++ (own_cs n3 u5 u6)).length < 10)] at vv
    exact vv
  have N156 := Fr.snoc X155 N149 gg103
  have O157 := O150.wr W155 gg103
  have R158 : CHr Z own_EL s.vm h0 T93.vm h155 := R151.trans (CHr.wr W155 (Safe.arv hZ.alike fq148_0 (by decide)) R151.1)
  have hk159 : _ ≤ h155.size := Nat.le_trans hk152 (Keep.of_wr W155).1
  have q160 := fun t (kt : Go p e below T155 (mkF m 229 #[vI p1, vI p2, vI p3, vI p4, vI n1, vI n2, vI n3, vI u1, vI u2, vI u3, vI u4, vI u5, vI u6, vR x_46, vR x_52, vR x_58, vR x_93, vR b102, vI (Int32.ofNat (((((([] : List Int32) ++ (own_cs n1 u1 u2)) ++ ([(32 : Int32), (40 : Int32)] : List Int32)) ++ (own_cs n2 u3 u4)) ++ ([(32 : Int32)] : List Int32)) ++ (own_cs n3 u5 u6)).length)] [(.int ((Int32.ofNat (((((([] : List Int32) ++ (own_cs n1 u1 u2)) ++ ([(32 : Int32), (40 : Int32)] : List Int32)) ++ (own_cs n2 u3 u4)) ++ ([(32 : Int32)] : List Int32)) ++ (own_cs n3 u5 u6)).length) + (1 : Int32)))]) t) => q154 t (st155 t (by
    show Go _ _ _ _ (mkF m 225 #[vI p1, vI p2, vI p3, vI p4, vI n1, vI n2, vI n3, vI u1, vI u2, vI u3, vI u4, vI u5, vI u6, vR x_46, vR x_52, vR x_58, vR x_93, vR b102, vI (Int32.ofNat (((((([] : List Int32) ++ (own_cs n1 u1 u2)) ++ ([(32 : Int32), (40 : Int32)] : List Int32)) ++ (own_cs n2 u3 u4)) ++ ([(32 : Int32)] : List Int32)) ++ (own_cs n3 u5 u6)).length)] []) _
    refine XS.iload X155.here hx rfl (hb hby at_225) rfl ?_
    show Go _ _ _ _ (mkF m 227 _ [(.int (Int32.ofNat (((((([] : List Int32) ++ (own_cs n1 u1 u2)) ++ ([(32 : Int32), (40 : Int32)] : List Int32)) ++ (own_cs n2 u3 u4)) ++ ([(32 : Int32)] : List Int32)) ++ (own_cs n3 u5 u6)).length))]) _
    refine XS.iconst X155.here hx rfl (hb hby at_227) ?_
    show Go _ _ _ _ (mkF m 228 _ [(.int 1), (.int (Int32.ofNat (((((([] : List Int32) ++ (own_cs n1 u1 u2)) ++ ([(32 : Int32), (40 : Int32)] : List Int32)) ++ (own_cs n2 u3 u4)) ++ ([(32 : Int32)] : List Int32)) ++ (own_cs n3 u5 u6)).length))]) _
    refine XS.iadd X155.here hx rfl (hb hby at_228) rfl ?_
    exact kt))
  have q161 := fun t (kt : Go p e below T155 (mkF m 229 #[vI p1, vI p2, vI p3, vI p4, vI n1, vI n2, vI n3, vI u1, vI u2, vI u3, vI u4, vI u5, vI u6, vR x_46, vR x_52, vR x_58, vR x_93, vR b102, vI (Int32.ofNat (((((([] : List Int32) ++ (own_cs n1 u1 u2)) ++ ([(32 : Int32), (40 : Int32)] : List Int32)) ++ (own_cs n2 u3 u4)) ++ ([(32 : Int32)] : List Int32)) ++ (own_cs n3 u5 u6)).length)] [(.int (Int32.ofNat ((((((([] : List Int32) ++ (own_cs n1 u1 u2)) ++ ([(32 : Int32), (40 : Int32)] : List Int32)) ++ (own_cs n2 u3 u4)) ++ ([(32 : Int32)] : List Int32)) ++ (own_cs n3 u5 u6)) ++ ([(41 : Int32)] : List Int32)).length))]) t) => q160 t (by rw [(show ((Int32.ofNat (((((([] : List Int32) ++ (own_cs n1 u1 u2)) ++ ([(32 : Int32), (40 : Int32)] : List Int32)) ++ (own_cs n2 u3 u4)) ++ ([(32 : Int32)] : List Int32)) ++ (own_cs n3 u5 u6)).length) + (1 : Int32)) = (Int32.ofNat ((((((([] : List Int32) ++ (own_cs n1 u1 u2)) ++ ([(32 : Int32), (40 : Int32)] : List Int32)) ++ (own_cs n2 u3 u4)) ++ ([(32 : Int32)] : List Int32)) ++ (own_cs n3 u5 u6)) ++ ([(41 : Int32)] : List Int32)).length) from own_addL (ds := [(41 : Int32)]) (by simp only [List.length_append, List.length_nil, List.length_cons]; omega))]; exact kt)
  have f162 := ((((((((fq93_0.ext E102).keep Kq109).wr W116).wr W125).keep Kq133).wr W140).keep Kq148).wr W155)
  have ne163 : x_93 ≠ b102 := (Nat.ne_of_lt (Nat.lt_of_lt_of_le fq93_0.lt (Nat.le_of_eq g102.symm)))
  have f164 := ((((((((fq93_1.ext E102).keep Kq109 (ninS ne163 nin0)).other W116 (Or.inl ne163)).other W125 (Or.inl ne163)).keep Kq133 (ninS ne163 nin0)).other W140 (Or.inl ne163)).keep Kq148 (ninS ne163 nin0)).other W155 (Or.inl ne163))
  have f165 := ((((((((fq93_2.ext E102).keep Kq109 (ninS ne163 nin0)).other W116 (Or.inl ne163)).other W125 (Or.inl ne163)).keep Kq133 (ninS ne163 nin0)).other W140 (Or.inl ne163)).keep Kq148 (ninS ne163 nin0)).other W155 (Or.inl ne163))
  have ne166 : ta_93 ≠ b102 := (Nat.ne_of_lt (Nat.lt_of_lt_of_le fq93_3.lt (Nat.le_of_eq g102.symm)))
  have f167 := ((((((((fq93_3.ext E102).keep Kq109 (ninS ne166 nin0)).other W116 ne166).other W125 ne166).keep Kq133 (ninS ne166 nin0)).other W140 ne166).keep Kq148 (ninS ne166 nin0)).other W155 ne166)
  have q168 := fun t (kt : Go p e below T155 (mkF m 233 #[vI p1, vI p2, vI p3, vI p4, vI n1, vI n2, vI n3, vI u1, vI u2, vI u3, vI u4, vI u5, vI u6, vR x_46, vR x_52, vR x_58, vR x_93, vR b102, vI (Int32.ofNat ((((((([] : List Int32) ++ (own_cs n1 u1 u2)) ++ ([(32 : Int32), (40 : Int32)] : List Int32)) ++ (own_cs n2 u3 u4)) ++ ([(32 : Int32)] : List Int32)) ++ (own_cs n3 u5 u6)) ++ ([(41 : Int32)] : List Int32)).length)] [(.ref x_93)]) t) => q161 t (by
    show Go _ _ _ _ (mkF m 229 #[vI p1, vI p2, vI p3, vI p4, vI n1, vI n2, vI n3, vI u1, vI u2, vI u3, vI u4, vI u5, vI u6, vR x_46, vR x_52, vR x_58, vR x_93, vR b102, vI (Int32.ofNat (((((([] : List Int32) ++ (own_cs n1 u1 u2)) ++ ([(32 : Int32), (40 : Int32)] : List Int32)) ++ (own_cs n2 u3 u4)) ++ ([(32 : Int32)] : List Int32)) ++ (own_cs n3 u5 u6)).length)] [(.int (Int32.ofNat ((((((([] : List Int32) ++ (own_cs n1 u1 u2)) ++ ([(32 : Int32), (40 : Int32)] : List Int32)) ++ (own_cs n2 u3 u4)) ++ ([(32 : Int32)] : List Int32)) ++ (own_cs n3 u5 u6)) ++ ([(41 : Int32)] : List Int32)).length))]) _
    refine XS.istore X155.here hx rfl (hb hby at_229) rfl (l' := #[vI p1, vI p2, vI p3, vI p4, vI n1, vI n2, vI n3, vI u1, vI u2, vI u3, vI u4, vI u5, vI u6, vR x_46, vR x_52, vR x_58, vR x_93, vR b102, vI (Int32.ofNat ((((((([] : List Int32) ++ (own_cs n1 u1 u2)) ++ ([(32 : Int32), (40 : Int32)] : List Int32)) ++ (own_cs n2 u3 u4)) ++ ([(32 : Int32)] : List Int32)) ++ (own_cs n3 u5 u6)) ++ ([(41 : Int32)] : List Int32)).length)]) rfl ?_
    show Go _ _ _ _ (mkF m 231 #[vI p1, vI p2, vI p3, vI p4, vI n1, vI n2, vI n3, vI u1, vI u2, vI u3, vI u4, vI u5, vI u6, vR x_46, vR x_52, vR x_58, vR x_93, vR b102, vI (Int32.ofNat ((((((([] : List Int32) ++ (own_cs n1 u1 u2)) ++ ([(32 : Int32), (40 : Int32)] : List Int32)) ++ (own_cs n2 u3 u4)) ++ ([(32 : Int32)] : List Int32)) ++ (own_cs n3 u5 u6)) ++ ([(41 : Int32)] : List Int32)).length)] []) _
    refine XS.aload X155.here hx rfl (hb hby at_231) rfl rfl ?_
    exact kt)
  obtain ⟨cq170, kq170, q170a, q170b, q170c⟩ := isOf hZ e155 f162
  obtain ⟨_, _, ⟨T169, L169, k169, n169⟩, -, X169, ⟨_, hQ169, l169, y169, z169⟩, st169⟩ := X155.virtualBack hx (y := ym1) (z := ym1) hown (ow hZ hw 180 rfl) (ow hZ hw 93 rfl) (notFace_of_selects (args := #[]) (ow hZ hw 95 rfl)) (ow hZ hw 95 rfl) (ow hZ hw 94 rfl) (by decide) (backOf (W := 0) (rm16 l Z a0 hw [] cx x_93 ta_93 kt_93 ((((((([] : List Int32) ++ (own_cs n1 u1 u2)) ++ ([(32 : Int32), (40 : Int32)] : List Int32)) ++ (own_cs n2 u3 u4)) ++ ([(32 : Int32)] : List Int32)) ++ (own_cs n3 u5 u6)) ++ ([(41 : Int32)] : List Int32)) h155 n0 O157 f162 f164 f165 f167) hZ (ox hw 96 rfl) (ox hw 6 rfl) (by decide) (by decide)) q170a q170c (g := (mkF m 233 #[vI p1, vI p2, vI p3, vI p4, vI n1, vI n2, vI n3, vI u1, vI u2, vI u3, vI u4, vI u5, vI u6, vR x_46, vR x_52, vR x_58, vR x_93, vR b102, vI (Int32.ofNat ((((((([] : List Int32) ++ (own_cs n1 u1 u2)) ++ ([(32 : Int32), (40 : Int32)] : List Int32)) ++ (own_cs n2 u3 u4)) ++ ([(32 : Int32)] : List Int32)) ++ (own_cs n3 u5 u6)) ++ ([(41 : Int32)] : List Int32)).length)] [(.ref x_93)])) rfl (by rw [hml]; rfl) (Steps.refl _) (argsL := []) (rest := []) (lenOf pd_4 rfl) rfl own_le0 (hb hby at_233) (fun _ _ => ⟨rfl, e155, (by decide : 30 + 0 ≤ _), (by decide : 117 + 0 ≤ _)⟩)
  dsimp only [Pt.U, Pt.locs, Pt.cells, Pt.slots] at X169 l169 y169 z169 st169 hQ169
  subst l169 y169 z169
  obtain ⟨rfl, Nq169, eq169⟩ := hQ169
  have N171 := Fr.app N156 Nq169
  have q172 := fun t (kt : Go p e below T169 (mkF m 243 #[vI p1, vI p2, vI p3, vI p4, vI n1, vI n2, vI n3, vI u1, vI u2, vI u3, vI u4, vI u5, vI u6, vR x_46, vR x_52, vR x_58, vR x_93, vR b102, vI (Int32.ofNat ((((((([] : List Int32) ++ (own_cs n1 u1 u2)) ++ ([(32 : Int32), (40 : Int32)] : List Int32)) ++ (own_cs n2 u3 u4)) ++ ([(32 : Int32)] : List Int32)) ++ (own_cs n3 u5 u6)) ++ ([(41 : Int32)] : List Int32)).length)] []) t) => q168 t (st169.trans (by
    show Go _ _ _ _ (mkF m 236 #[vI p1, vI p2, vI p3, vI p4, vI n1, vI n2, vI n3, vI u1, vI u2, vI u3, vI u4, vI u5, vI u6, vR x_46, vR x_52, vR x_58, vR x_93, vR b102, vI (Int32.ofNat ((((((([] : List Int32) ++ (own_cs n1 u1 u2)) ++ ([(32 : Int32), (40 : Int32)] : List Int32)) ++ (own_cs n2 u3 u4)) ++ ([(32 : Int32)] : List Int32)) ++ (own_cs n3 u5 u6)) ++ ([(41 : Int32)] : List Int32)).length)] [(.int (Int32.ofNat ((((((([] : List Int32) ++ (own_cs n1 u1 u2)) ++ ([(32 : Int32), (40 : Int32)] : List Int32)) ++ (own_cs n2 u3 u4)) ++ ([(32 : Int32)] : List Int32)) ++ (own_cs n3 u5 u6)) ++ ([(41 : Int32)] : List Int32)).length))]) _
    refine XS.iload X169.here hx rfl (hb hby at_236) rfl ?_
    show Go _ _ _ _ (mkF m 238 _ [(.int (Int32.ofNat ((((((([] : List Int32) ++ (own_cs n1 u1 u2)) ++ ([(32 : Int32), (40 : Int32)] : List Int32)) ++ (own_cs n2 u3 u4)) ++ ([(32 : Int32)] : List Int32)) ++ (own_cs n3 u5 u6)) ++ ([(41 : Int32)] : List Int32)).length)), (.int (Int32.ofNat ((((((([] : List Int32) ++ (own_cs n1 u1 u2)) ++ ([(32 : Int32), (40 : Int32)] : List Int32)) ++ (own_cs n2 u3 u4)) ++ ([(32 : Int32)] : List Int32)) ++ (own_cs n3 u5 u6)) ++ ([(41 : Int32)] : List Int32)).length))]) _
    refine XS.icmpYes X169.here hx rfl (pc0 := 238) (pc' := 243) rfl (hb hby at_238) rfl (teq (rfl : (Int32.ofNat ((((((([] : List Int32) ++ (own_cs n1 u1 u2)) ++ ([(32 : Int32), (40 : Int32)] : List Int32)) ++ (own_cs n2 u3 u4)) ++ ([(32 : Int32)] : List Int32)) ++ (own_cs n3 u5 u6)) ++ ([(41 : Int32)] : List Int32)).length) = (Int32.ofNat ((((((([] : List Int32) ++ (own_cs n1 u1 u2)) ++ ([(32 : Int32), (40 : Int32)] : List Int32)) ++ (own_cs n2 u3 u4)) ++ ([(32 : Int32)] : List Int32)) ++ (own_cs n3 u5 u6)) ++ ([(41 : Int32)] : List Int32)).length))).1 (by decide) (by decide) ?_
    exact kt))
  have hlat : own_Lat ((((((([] : List Int32) ++ (own_cs n1 u1 u2)) ++ ([(32 : Int32), (40 : Int32)] : List Int32)) ++ (own_cs n2 u3 u4)) ++ ([(32 : Int32)] : List Int32)) ++ (own_cs n3 u5 u6)) ++ ([(41 : Int32)] : List Int32)) := own_latA (own_latA (own_latA (own_latA (own_latA (own_latA own_latL.1 (own_latC l_u1 l_u2)) own_latL.2.1) (own_latC l_u3 l_u4)) own_latL.2.2.1) (own_latC l_u5 l_u6)) own_latL.2.2.2
  have q173 := fun t (kt : Go p e below T169 (mkF m 248 #[vI p1, vI p2, vI p3, vI p4, vI n1, vI n2, vI n3, vI u1, vI u2, vI u3, vI u4, vI u5, vI u6, vR x_46, vR x_52, vR x_58, vR x_93, vR b102, vI (Int32.ofNat ((((((([] : List Int32) ++ (own_cs n1 u1 u2)) ++ ([(32 : Int32), (40 : Int32)] : List Int32)) ++ (own_cs n2 u3 u4)) ++ ([(32 : Int32)] : List Int32)) ++ (own_cs n3 u5 u6)) ++ ([(41 : Int32)] : List Int32)).length)] [(.int 0), (.ref b102), (.ref x_93)]) t) => q172 t (by
    show Go _ _ _ _ (mkF m 243 #[vI p1, vI p2, vI p3, vI p4, vI n1, vI n2, vI n3, vI u1, vI u2, vI u3, vI u4, vI u5, vI u6, vR x_46, vR x_52, vR x_58, vR x_93, vR b102, vI (Int32.ofNat ((((((([] : List Int32) ++ (own_cs n1 u1 u2)) ++ ([(32 : Int32), (40 : Int32)] : List Int32)) ++ (own_cs n2 u3 u4)) ++ ([(32 : Int32)] : List Int32)) ++ (own_cs n3 u5 u6)) ++ ([(41 : Int32)] : List Int32)).length)] []) _
    refine XS.aload X169.here hx rfl (hb hby at_243) rfl rfl ?_
    show Go _ _ _ _ (mkF m 245 _ [(.ref x_93)]) _
    refine XS.aload X169.here hx rfl (hb hby at_245) rfl rfl ?_
    show Go _ _ _ _ (mkF m 247 _ [(.ref b102), (.ref x_93)]) _
    refine XS.iconst X169.here hx rfl (hb hby at_247) ?_
    exact kt)
  obtain ⟨_, _, ⟨T174, L174, k174, n174⟩, -, X174, ⟨_, hQ174, l174, y174, z174⟩, st174⟩ := Jvm.LawKit.callS X169 hx (y := ym32) hown (ow hZ hw 181 rfl) (ow hZ hw 182 rfl) (ow hZ hw 2 rfl) (ow hZ hw 183 rfl) (by decide) (backOf (W := 0) (rm34 l Z a0 hw [] cx x_93 ta_93 b102 kt_93 k102 ((((((([] : List Int32) ++ (own_cs n1 u1 u2)) ++ ([(32 : Int32), (40 : Int32)] : List Int32)) ++ (own_cs n2 u3 u4)) ++ ([(32 : Int32)] : List Int32)) ++ (own_cs n3 u5 u6)) ++ ([(41 : Int32)] : List Int32)) (0 : Int32) 0 h155 n0 O157 f162 f164 f165 f167 V155 rfl (by decide) (by simp only [List.length_append, List.length_nil, List.length_cons]; omega) hlat) hZ (ox hw 183 rfl) (ox hw 2 rfl) (by decide) (by decide)) (g := (mkF m 248 #[vI p1, vI p2, vI p3, vI p4, vI n1, vI n2, vI n3, vI u1, vI u2, vI u3, vI u4, vI u5, vI u6, vR x_46, vR x_52, vR x_58, vR x_93, vR b102, vI (Int32.ofNat ((((((([] : List Int32) ++ (own_cs n1 u1 u2)) ++ ([(32 : Int32), (40 : Int32)] : List Int32)) ++ (own_cs n2 u3 u4)) ++ ([(32 : Int32)] : List Int32)) ++ (own_cs n3 u5 u6)) ++ ([(41 : Int32)] : List Int32)).length)] [(.int 0), (.ref b102), (.ref x_93)])) rfl (by rw [hml]; rfl) (argsL := [(.ref x_93), (.ref b102), (.int 0)]) (rest := []) (lenOf pd_27 rfl) rfl own_le0 (hb hby at_248) (fun _ _ => ⟨rfl, eq169, (by decide : 30 + 0 ≤ _), (by decide : 117 + 0 ≤ _)⟩)
  dsimp only [Pt.U, Pt.locs, Pt.cells, Pt.slots] at X174 l174 y174 z174 st174 hQ174
  subst l174 y174 z174
  obtain ⟨rfl, Nq174, eq174⟩ := hQ174
  have N175 := Fr.app N171 Nq174
  have q176 := fun t (kt : Go p e below T174 (mkF m 259 #[vI p1, vI p2, vI p3, vI p4, vI n1, vI n2, vI n3, vI u1, vI u2, vI u3, vI u4, vI u5, vI u6, vR x_46, vR x_52, vR x_58, vR x_93, vR b102, vI (Int32.ofNat ((((((([] : List Int32) ++ (own_cs n1 u1 u2)) ++ ([(32 : Int32), (40 : Int32)] : List Int32)) ++ (own_cs n2 u3 u4)) ++ ([(32 : Int32)] : List Int32)) ++ (own_cs n3 u5 u6)) ++ ([(41 : Int32)] : List Int32)).length)] [(.int 1), (.ref b102), (.ref x_93)]) t) => q173 t (st174 t (by
    show Go _ _ _ _ (mkF m 251 #[vI p1, vI p2, vI p3, vI p4, vI n1, vI n2, vI n3, vI u1, vI u2, vI u3, vI u4, vI u5, vI u6, vR x_46, vR x_52, vR x_58, vR x_93, vR b102, vI (Int32.ofNat ((((((([] : List Int32) ++ (own_cs n1 u1 u2)) ++ ([(32 : Int32), (40 : Int32)] : List Int32)) ++ (own_cs n2 u3 u4)) ++ ([(32 : Int32)] : List Int32)) ++ (own_cs n3 u5 u6)) ++ ([(41 : Int32)] : List Int32)).length)] [(.int 1)]) _
    refine XS.ifNo X174.here hx rfl (hb hby at_251) rfl ((if0 _ _).trans (feq (by decide : ¬ ((1 : Int32) = (0 : Int32)))).1) ?_
    show Go _ _ _ _ (mkF m 254 _ []) _
    refine XS.aload X174.here hx rfl (hb hby at_254) rfl rfl ?_
    show Go _ _ _ _ (mkF m 256 _ [(.ref x_93)]) _
    refine XS.aload X174.here hx rfl (hb hby at_256) rfl rfl ?_
    show Go _ _ _ _ (mkF m 258 _ [(.ref b102), (.ref x_93)]) _
    refine XS.iconst X174.here hx rfl (hb hby at_258) ?_
    exact kt))
  obtain ⟨_, _, ⟨T177, L177, k177, n177⟩, -, X177, ⟨_, hQ177, l177, y177, z177⟩, st177⟩ := Jvm.LawKit.callS X174 hx (y := ym32) hown (ow hZ hw 181 rfl) (ow hZ hw 182 rfl) (ow hZ hw 2 rfl) (ow hZ hw 183 rfl) (by decide) (backOf (W := 0) (rm34 l Z a0 hw [] cx x_93 ta_93 b102 kt_93 k102 ((((((([] : List Int32) ++ (own_cs n1 u1 u2)) ++ ([(32 : Int32), (40 : Int32)] : List Int32)) ++ (own_cs n2 u3 u4)) ++ ([(32 : Int32)] : List Int32)) ++ (own_cs n3 u5 u6)) ++ ([(41 : Int32)] : List Int32)) (1 : Int32) 1 h155 n0 O157 f162 f164 f165 f167 V155 rfl (by decide) (by simp only [List.length_append, List.length_nil, List.length_cons]; omega) hlat) hZ (ox hw 183 rfl) (ox hw 2 rfl) (by decide) (by decide)) (g := (mkF m 259 #[vI p1, vI p2, vI p3, vI p4, vI n1, vI n2, vI n3, vI u1, vI u2, vI u3, vI u4, vI u5, vI u6, vR x_46, vR x_52, vR x_58, vR x_93, vR b102, vI (Int32.ofNat ((((((([] : List Int32) ++ (own_cs n1 u1 u2)) ++ ([(32 : Int32), (40 : Int32)] : List Int32)) ++ (own_cs n2 u3 u4)) ++ ([(32 : Int32)] : List Int32)) ++ (own_cs n3 u5 u6)) ++ ([(41 : Int32)] : List Int32)).length)] [(.int 1), (.ref b102), (.ref x_93)])) rfl (by rw [hml]; rfl) (argsL := [(.ref x_93), (.ref b102), (.int 1)]) (rest := []) (lenOf pd_27 rfl) rfl own_le0 (hb hby at_259) (fun _ _ => ⟨rfl, eq174, (by decide : 30 + 0 ≤ _), (by decide : 117 + 0 ≤ _)⟩)
  dsimp only [Pt.U, Pt.locs, Pt.cells, Pt.slots] at X177 l177 y177 z177 st177 hQ177
  subst l177 y177 z177
  obtain ⟨rfl, Nq177, eq177⟩ := hQ177
  have N178 := Fr.app N175 Nq177
  have q179 := fun t (kt : Go p e below T177 (mkF m 270 #[vI p1, vI p2, vI p3, vI p4, vI n1, vI n2, vI n3, vI u1, vI u2, vI u3, vI u4, vI u5, vI u6, vR x_46, vR x_52, vR x_58, vR x_93, vR b102, vI (Int32.ofNat ((((((([] : List Int32) ++ (own_cs n1 u1 u2)) ++ ([(32 : Int32), (40 : Int32)] : List Int32)) ++ (own_cs n2 u3 u4)) ++ ([(32 : Int32)] : List Int32)) ++ (own_cs n3 u5 u6)) ++ ([(41 : Int32)] : List Int32)).length)] [(.int 2), (.ref b102), (.ref x_93)]) t) => q176 t (st177 t (by
    show Go _ _ _ _ (mkF m 262 #[vI p1, vI p2, vI p3, vI p4, vI n1, vI n2, vI n3, vI u1, vI u2, vI u3, vI u4, vI u5, vI u6, vR x_46, vR x_52, vR x_58, vR x_93, vR b102, vI (Int32.ofNat ((((((([] : List Int32) ++ (own_cs n1 u1 u2)) ++ ([(32 : Int32), (40 : Int32)] : List Int32)) ++ (own_cs n2 u3 u4)) ++ ([(32 : Int32)] : List Int32)) ++ (own_cs n3 u5 u6)) ++ ([(41 : Int32)] : List Int32)).length)] [(.int 1)]) _
    refine XS.ifNo X177.here hx rfl (hb hby at_262) rfl ((if0 _ _).trans (feq (by decide : ¬ ((1 : Int32) = (0 : Int32)))).1) ?_
    show Go _ _ _ _ (mkF m 265 _ []) _
    refine XS.aload X177.here hx rfl (hb hby at_265) rfl rfl ?_
    show Go _ _ _ _ (mkF m 267 _ [(.ref x_93)]) _
    refine XS.aload X177.here hx rfl (hb hby at_267) rfl rfl ?_
    show Go _ _ _ _ (mkF m 269 _ [(.ref b102), (.ref x_93)]) _
    refine XS.iconst X177.here hx rfl (hb hby at_269) ?_
    exact kt))
  obtain ⟨_, _, ⟨T180, L180, k180, n180⟩, -, X180, ⟨_, hQ180, l180, y180, z180⟩, st180⟩ := Jvm.LawKit.callS X177 hx (y := ym32) hown (ow hZ hw 181 rfl) (ow hZ hw 182 rfl) (ow hZ hw 2 rfl) (ow hZ hw 183 rfl) (by decide) (backOf (W := 0) (rm34 l Z a0 hw [] cx x_93 ta_93 b102 kt_93 k102 ((((((([] : List Int32) ++ (own_cs n1 u1 u2)) ++ ([(32 : Int32), (40 : Int32)] : List Int32)) ++ (own_cs n2 u3 u4)) ++ ([(32 : Int32)] : List Int32)) ++ (own_cs n3 u5 u6)) ++ ([(41 : Int32)] : List Int32)) (2 : Int32) 2 h155 n0 O157 f162 f164 f165 f167 V155 rfl (by decide) (by simp only [List.length_append, List.length_nil, List.length_cons]; omega) hlat) hZ (ox hw 183 rfl) (ox hw 2 rfl) (by decide) (by decide)) (g := (mkF m 270 #[vI p1, vI p2, vI p3, vI p4, vI n1, vI n2, vI n3, vI u1, vI u2, vI u3, vI u4, vI u5, vI u6, vR x_46, vR x_52, vR x_58, vR x_93, vR b102, vI (Int32.ofNat ((((((([] : List Int32) ++ (own_cs n1 u1 u2)) ++ ([(32 : Int32), (40 : Int32)] : List Int32)) ++ (own_cs n2 u3 u4)) ++ ([(32 : Int32)] : List Int32)) ++ (own_cs n3 u5 u6)) ++ ([(41 : Int32)] : List Int32)).length)] [(.int 2), (.ref b102), (.ref x_93)])) rfl (by rw [hml]; rfl) (argsL := [(.ref x_93), (.ref b102), (.int 2)]) (rest := []) (lenOf pd_27 rfl) rfl own_le0 (hb hby at_270) (fun _ _ => ⟨rfl, eq177, (by decide : 30 + 0 ≤ _), (by decide : 117 + 0 ≤ _)⟩)
  dsimp only [Pt.U, Pt.locs, Pt.cells, Pt.slots] at X180 l180 y180 z180 st180 hQ180
  subst l180 y180 z180
  obtain ⟨rfl, Nq180, eq180⟩ := hQ180
  have N181 := Fr.app N178 Nq180
  have q182 := fun t (kt : Go p e below T180 (mkF m 281 #[vI p1, vI p2, vI p3, vI p4, vI n1, vI n2, vI n3, vI u1, vI u2, vI u3, vI u4, vI u5, vI u6, vR x_46, vR x_52, vR x_58, vR x_93, vR b102, vI (Int32.ofNat ((((((([] : List Int32) ++ (own_cs n1 u1 u2)) ++ ([(32 : Int32), (40 : Int32)] : List Int32)) ++ (own_cs n2 u3 u4)) ++ ([(32 : Int32)] : List Int32)) ++ (own_cs n3 u5 u6)) ++ ([(41 : Int32)] : List Int32)).length)] [(.int 3), (.ref b102), (.ref x_93)]) t) => q179 t (st180 t (by
    show Go _ _ _ _ (mkF m 273 #[vI p1, vI p2, vI p3, vI p4, vI n1, vI n2, vI n3, vI u1, vI u2, vI u3, vI u4, vI u5, vI u6, vR x_46, vR x_52, vR x_58, vR x_93, vR b102, vI (Int32.ofNat ((((((([] : List Int32) ++ (own_cs n1 u1 u2)) ++ ([(32 : Int32), (40 : Int32)] : List Int32)) ++ (own_cs n2 u3 u4)) ++ ([(32 : Int32)] : List Int32)) ++ (own_cs n3 u5 u6)) ++ ([(41 : Int32)] : List Int32)).length)] [(.int 1)]) _
    refine XS.ifNo X180.here hx rfl (hb hby at_273) rfl ((if0 _ _).trans (feq (by decide : ¬ ((1 : Int32) = (0 : Int32)))).1) ?_
    show Go _ _ _ _ (mkF m 276 _ []) _
    refine XS.aload X180.here hx rfl (hb hby at_276) rfl rfl ?_
    show Go _ _ _ _ (mkF m 278 _ [(.ref x_93)]) _
    refine XS.aload X180.here hx rfl (hb hby at_278) rfl rfl ?_
    show Go _ _ _ _ (mkF m 280 _ [(.ref b102), (.ref x_93)]) _
    refine XS.iconst X180.here hx rfl (hb hby at_280) ?_
    exact kt))
  obtain ⟨_, _, ⟨T183, L183, k183, n183⟩, -, X183, ⟨_, hQ183, l183, y183, z183⟩, st183⟩ := Jvm.LawKit.callS X180 hx (y := ym32) hown (ow hZ hw 181 rfl) (ow hZ hw 182 rfl) (ow hZ hw 2 rfl) (ow hZ hw 183 rfl) (by decide) (backOf (W := 0) (rm34 l Z a0 hw [] cx x_93 ta_93 b102 kt_93 k102 ((((((([] : List Int32) ++ (own_cs n1 u1 u2)) ++ ([(32 : Int32), (40 : Int32)] : List Int32)) ++ (own_cs n2 u3 u4)) ++ ([(32 : Int32)] : List Int32)) ++ (own_cs n3 u5 u6)) ++ ([(41 : Int32)] : List Int32)) (3 : Int32) 3 h155 n0 O157 f162 f164 f165 f167 V155 rfl (by decide) (by simp only [List.length_append, List.length_nil, List.length_cons]; omega) hlat) hZ (ox hw 183 rfl) (ox hw 2 rfl) (by decide) (by decide)) (g := (mkF m 281 #[vI p1, vI p2, vI p3, vI p4, vI n1, vI n2, vI n3, vI u1, vI u2, vI u3, vI u4, vI u5, vI u6, vR x_46, vR x_52, vR x_58, vR x_93, vR b102, vI (Int32.ofNat ((((((([] : List Int32) ++ (own_cs n1 u1 u2)) ++ ([(32 : Int32), (40 : Int32)] : List Int32)) ++ (own_cs n2 u3 u4)) ++ ([(32 : Int32)] : List Int32)) ++ (own_cs n3 u5 u6)) ++ ([(41 : Int32)] : List Int32)).length)] [(.int 3), (.ref b102), (.ref x_93)])) rfl (by rw [hml]; rfl) (argsL := [(.ref x_93), (.ref b102), (.int 3)]) (rest := []) (lenOf pd_27 rfl) rfl own_le0 (hb hby at_281) (fun _ _ => ⟨rfl, eq180, (by decide : 30 + 0 ≤ _), (by decide : 117 + 0 ≤ _)⟩)
  dsimp only [Pt.U, Pt.locs, Pt.cells, Pt.slots] at X183 l183 y183 z183 st183 hQ183
  subst l183 y183 z183
  obtain ⟨rfl, Nq183, eq183⟩ := hQ183
  have N184 := Fr.app N181 Nq183
  have q185 := fun t (kt : Go p e below T183 (mkF m 292 #[vI p1, vI p2, vI p3, vI p4, vI n1, vI n2, vI n3, vI u1, vI u2, vI u3, vI u4, vI u5, vI u6, vR x_46, vR x_52, vR x_58, vR x_93, vR b102, vI (Int32.ofNat ((((((([] : List Int32) ++ (own_cs n1 u1 u2)) ++ ([(32 : Int32), (40 : Int32)] : List Int32)) ++ (own_cs n2 u3 u4)) ++ ([(32 : Int32)] : List Int32)) ++ (own_cs n3 u5 u6)) ++ ([(41 : Int32)] : List Int32)).length)] [(.int 4), (.ref b102), (.ref x_93)]) t) => q182 t (st183 t (by
    show Go _ _ _ _ (mkF m 284 #[vI p1, vI p2, vI p3, vI p4, vI n1, vI n2, vI n3, vI u1, vI u2, vI u3, vI u4, vI u5, vI u6, vR x_46, vR x_52, vR x_58, vR x_93, vR b102, vI (Int32.ofNat ((((((([] : List Int32) ++ (own_cs n1 u1 u2)) ++ ([(32 : Int32), (40 : Int32)] : List Int32)) ++ (own_cs n2 u3 u4)) ++ ([(32 : Int32)] : List Int32)) ++ (own_cs n3 u5 u6)) ++ ([(41 : Int32)] : List Int32)).length)] [(.int 1)]) _
    refine XS.ifNo X183.here hx rfl (hb hby at_284) rfl ((if0 _ _).trans (feq (by decide : ¬ ((1 : Int32) = (0 : Int32)))).1) ?_
    show Go _ _ _ _ (mkF m 287 _ []) _
    refine XS.aload X183.here hx rfl (hb hby at_287) rfl rfl ?_
    show Go _ _ _ _ (mkF m 289 _ [(.ref x_93)]) _
    refine XS.aload X183.here hx rfl (hb hby at_289) rfl rfl ?_
    show Go _ _ _ _ (mkF m 291 _ [(.ref b102), (.ref x_93)]) _
    refine XS.iconst X183.here hx rfl (hb hby at_291) ?_
    exact kt))
  obtain ⟨_, _, ⟨T186, L186, k186, n186⟩, -, X186, ⟨_, hQ186, l186, y186, z186⟩, st186⟩ := Jvm.LawKit.callS X183 hx (y := ym32) hown (ow hZ hw 181 rfl) (ow hZ hw 182 rfl) (ow hZ hw 2 rfl) (ow hZ hw 183 rfl) (by decide) (backOf (W := 0) (rm34 l Z a0 hw [] cx x_93 ta_93 b102 kt_93 k102 ((((((([] : List Int32) ++ (own_cs n1 u1 u2)) ++ ([(32 : Int32), (40 : Int32)] : List Int32)) ++ (own_cs n2 u3 u4)) ++ ([(32 : Int32)] : List Int32)) ++ (own_cs n3 u5 u6)) ++ ([(41 : Int32)] : List Int32)) (4 : Int32) 4 h155 n0 O157 f162 f164 f165 f167 V155 rfl (by decide) (by simp only [List.length_append, List.length_nil, List.length_cons]; omega) hlat) hZ (ox hw 183 rfl) (ox hw 2 rfl) (by decide) (by decide)) (g := (mkF m 292 #[vI p1, vI p2, vI p3, vI p4, vI n1, vI n2, vI n3, vI u1, vI u2, vI u3, vI u4, vI u5, vI u6, vR x_46, vR x_52, vR x_58, vR x_93, vR b102, vI (Int32.ofNat ((((((([] : List Int32) ++ (own_cs n1 u1 u2)) ++ ([(32 : Int32), (40 : Int32)] : List Int32)) ++ (own_cs n2 u3 u4)) ++ ([(32 : Int32)] : List Int32)) ++ (own_cs n3 u5 u6)) ++ ([(41 : Int32)] : List Int32)).length)] [(.int 4), (.ref b102), (.ref x_93)])) rfl (by rw [hml]; rfl) (argsL := [(.ref x_93), (.ref b102), (.int 4)]) (rest := []) (lenOf pd_27 rfl) rfl own_le0 (hb hby at_292) (fun _ _ => ⟨rfl, eq183, (by decide : 30 + 0 ≤ _), (by decide : 117 + 0 ≤ _)⟩)
  dsimp only [Pt.U, Pt.locs, Pt.cells, Pt.slots] at X186 l186 y186 z186 st186 hQ186
  subst l186 y186 z186
  obtain ⟨rfl, Nq186, eq186⟩ := hQ186
  have N187 := Fr.app N184 Nq186
  have q188 := fun t (kt : Go p e below T186 (mkF m 303 #[vI p1, vI p2, vI p3, vI p4, vI n1, vI n2, vI n3, vI u1, vI u2, vI u3, vI u4, vI u5, vI u6, vR x_46, vR x_52, vR x_58, vR x_93, vR b102, vI (Int32.ofNat ((((((([] : List Int32) ++ (own_cs n1 u1 u2)) ++ ([(32 : Int32), (40 : Int32)] : List Int32)) ++ (own_cs n2 u3 u4)) ++ ([(32 : Int32)] : List Int32)) ++ (own_cs n3 u5 u6)) ++ ([(41 : Int32)] : List Int32)).length)] [(.int 5), (.ref b102), (.ref x_93)]) t) => q185 t (st186 t (by
    show Go _ _ _ _ (mkF m 295 #[vI p1, vI p2, vI p3, vI p4, vI n1, vI n2, vI n3, vI u1, vI u2, vI u3, vI u4, vI u5, vI u6, vR x_46, vR x_52, vR x_58, vR x_93, vR b102, vI (Int32.ofNat ((((((([] : List Int32) ++ (own_cs n1 u1 u2)) ++ ([(32 : Int32), (40 : Int32)] : List Int32)) ++ (own_cs n2 u3 u4)) ++ ([(32 : Int32)] : List Int32)) ++ (own_cs n3 u5 u6)) ++ ([(41 : Int32)] : List Int32)).length)] [(.int 1)]) _
    refine XS.ifNo X186.here hx rfl (hb hby at_295) rfl ((if0 _ _).trans (feq (by decide : ¬ ((1 : Int32) = (0 : Int32)))).1) ?_
    show Go _ _ _ _ (mkF m 298 _ []) _
    refine XS.aload X186.here hx rfl (hb hby at_298) rfl rfl ?_
    show Go _ _ _ _ (mkF m 300 _ [(.ref x_93)]) _
    refine XS.aload X186.here hx rfl (hb hby at_300) rfl rfl ?_
    show Go _ _ _ _ (mkF m 302 _ [(.ref b102), (.ref x_93)]) _
    refine XS.iconst X186.here hx rfl (hb hby at_302) ?_
    exact kt))
  obtain ⟨_, _, ⟨T189, L189, k189, n189⟩, -, X189, ⟨_, hQ189, l189, y189, z189⟩, st189⟩ := Jvm.LawKit.callS X186 hx (y := ym32) hown (ow hZ hw 181 rfl) (ow hZ hw 182 rfl) (ow hZ hw 2 rfl) (ow hZ hw 183 rfl) (by decide) (backOf (W := 0) (rm34 l Z a0 hw [] cx x_93 ta_93 b102 kt_93 k102 ((((((([] : List Int32) ++ (own_cs n1 u1 u2)) ++ ([(32 : Int32), (40 : Int32)] : List Int32)) ++ (own_cs n2 u3 u4)) ++ ([(32 : Int32)] : List Int32)) ++ (own_cs n3 u5 u6)) ++ ([(41 : Int32)] : List Int32)) (5 : Int32) 5 h155 n0 O157 f162 f164 f165 f167 V155 rfl (by decide) (by simp only [List.length_append, List.length_nil, List.length_cons]; omega) hlat) hZ (ox hw 183 rfl) (ox hw 2 rfl) (by decide) (by decide)) (g := (mkF m 303 #[vI p1, vI p2, vI p3, vI p4, vI n1, vI n2, vI n3, vI u1, vI u2, vI u3, vI u4, vI u5, vI u6, vR x_46, vR x_52, vR x_58, vR x_93, vR b102, vI (Int32.ofNat ((((((([] : List Int32) ++ (own_cs n1 u1 u2)) ++ ([(32 : Int32), (40 : Int32)] : List Int32)) ++ (own_cs n2 u3 u4)) ++ ([(32 : Int32)] : List Int32)) ++ (own_cs n3 u5 u6)) ++ ([(41 : Int32)] : List Int32)).length)] [(.int 5), (.ref b102), (.ref x_93)])) rfl (by rw [hml]; rfl) (argsL := [(.ref x_93), (.ref b102), (.int 5)]) (rest := []) (lenOf pd_27 rfl) rfl own_le0 (hb hby at_303) (fun _ _ => ⟨rfl, eq186, (by decide : 30 + 0 ≤ _), (by decide : 117 + 0 ≤ _)⟩)
  dsimp only [Pt.U, Pt.locs, Pt.cells, Pt.slots] at X189 l189 y189 z189 st189 hQ189
  subst l189 y189 z189
  obtain ⟨rfl, Nq189, eq189⟩ := hQ189
  have N190 := Fr.app N187 Nq189
  have q191 := fun t (kt : Go p e below T189 (mkF m 315 #[vI p1, vI p2, vI p3, vI p4, vI n1, vI n2, vI n3, vI u1, vI u2, vI u3, vI u4, vI u5, vI u6, vR x_46, vR x_52, vR x_58, vR x_93, vR b102, vI (Int32.ofNat ((((((([] : List Int32) ++ (own_cs n1 u1 u2)) ++ ([(32 : Int32), (40 : Int32)] : List Int32)) ++ (own_cs n2 u3 u4)) ++ ([(32 : Int32)] : List Int32)) ++ (own_cs n3 u5 u6)) ++ ([(41 : Int32)] : List Int32)).length)] [(.int 6), (.ref b102), (.ref x_93)]) t) => q188 t (st189 t (by
    show Go _ _ _ _ (mkF m 306 #[vI p1, vI p2, vI p3, vI p4, vI n1, vI n2, vI n3, vI u1, vI u2, vI u3, vI u4, vI u5, vI u6, vR x_46, vR x_52, vR x_58, vR x_93, vR b102, vI (Int32.ofNat ((((((([] : List Int32) ++ (own_cs n1 u1 u2)) ++ ([(32 : Int32), (40 : Int32)] : List Int32)) ++ (own_cs n2 u3 u4)) ++ ([(32 : Int32)] : List Int32)) ++ (own_cs n3 u5 u6)) ++ ([(41 : Int32)] : List Int32)).length)] [(.int 1)]) _
    refine XS.ifNo X189.here hx rfl (hb hby at_306) rfl ((if0 _ _).trans (feq (by decide : ¬ ((1 : Int32) = (0 : Int32)))).1) ?_
    show Go _ _ _ _ (mkF m 309 _ []) _
    refine XS.aload X189.here hx rfl (hb hby at_309) rfl rfl ?_
    show Go _ _ _ _ (mkF m 311 _ [(.ref x_93)]) _
    refine XS.aload X189.here hx rfl (hb hby at_311) rfl rfl ?_
    show Go _ _ _ _ (mkF m 313 _ [(.ref b102), (.ref x_93)]) _
    refine XS.bipush X189.here hx rfl (hb hby at_313) ?_
    exact kt))
  obtain ⟨_, _, ⟨T192, L192, k192, n192⟩, -, X192, ⟨_, hQ192, l192, y192, z192⟩, st192⟩ := Jvm.LawKit.callS X189 hx (y := ym32) hown (ow hZ hw 181 rfl) (ow hZ hw 182 rfl) (ow hZ hw 2 rfl) (ow hZ hw 183 rfl) (by decide) (backOf (W := 0) (rm34 l Z a0 hw [] cx x_93 ta_93 b102 kt_93 k102 ((((((([] : List Int32) ++ (own_cs n1 u1 u2)) ++ ([(32 : Int32), (40 : Int32)] : List Int32)) ++ (own_cs n2 u3 u4)) ++ ([(32 : Int32)] : List Int32)) ++ (own_cs n3 u5 u6)) ++ ([(41 : Int32)] : List Int32)) (6 : Int32) 6 h155 n0 O157 f162 f164 f165 f167 V155 rfl (by decide) (by simp only [List.length_append, List.length_nil, List.length_cons]; omega) hlat) hZ (ox hw 183 rfl) (ox hw 2 rfl) (by decide) (by decide)) (g := (mkF m 315 #[vI p1, vI p2, vI p3, vI p4, vI n1, vI n2, vI n3, vI u1, vI u2, vI u3, vI u4, vI u5, vI u6, vR x_46, vR x_52, vR x_58, vR x_93, vR b102, vI (Int32.ofNat ((((((([] : List Int32) ++ (own_cs n1 u1 u2)) ++ ([(32 : Int32), (40 : Int32)] : List Int32)) ++ (own_cs n2 u3 u4)) ++ ([(32 : Int32)] : List Int32)) ++ (own_cs n3 u5 u6)) ++ ([(41 : Int32)] : List Int32)).length)] [(.int 6), (.ref b102), (.ref x_93)])) rfl (by rw [hml]; rfl) (argsL := [(.ref x_93), (.ref b102), (.int 6)]) (rest := []) (lenOf pd_27 rfl) rfl own_le0 (hb hby at_315) (fun _ _ => ⟨rfl, eq189, (by decide : 30 + 0 ≤ _), (by decide : 117 + 0 ≤ _)⟩)
  dsimp only [Pt.U, Pt.locs, Pt.cells, Pt.slots] at X192 l192 y192 z192 st192 hQ192
  subst l192 y192 z192
  obtain ⟨rfl, Nq192, eq192⟩ := hQ192
  have N193 := Fr.app N190 Nq192
  have q194 := fun t (kt : Go p e below T192 (mkF m 327 #[vI p1, vI p2, vI p3, vI p4, vI n1, vI n2, vI n3, vI u1, vI u2, vI u3, vI u4, vI u5, vI u6, vR x_46, vR x_52, vR x_58, vR x_93, vR b102, vI (Int32.ofNat ((((((([] : List Int32) ++ (own_cs n1 u1 u2)) ++ ([(32 : Int32), (40 : Int32)] : List Int32)) ++ (own_cs n2 u3 u4)) ++ ([(32 : Int32)] : List Int32)) ++ (own_cs n3 u5 u6)) ++ ([(41 : Int32)] : List Int32)).length)] [(.int 7), (.ref b102), (.ref x_93)]) t) => q191 t (st192 t (by
    show Go _ _ _ _ (mkF m 318 #[vI p1, vI p2, vI p3, vI p4, vI n1, vI n2, vI n3, vI u1, vI u2, vI u3, vI u4, vI u5, vI u6, vR x_46, vR x_52, vR x_58, vR x_93, vR b102, vI (Int32.ofNat ((((((([] : List Int32) ++ (own_cs n1 u1 u2)) ++ ([(32 : Int32), (40 : Int32)] : List Int32)) ++ (own_cs n2 u3 u4)) ++ ([(32 : Int32)] : List Int32)) ++ (own_cs n3 u5 u6)) ++ ([(41 : Int32)] : List Int32)).length)] [(.int 1)]) _
    refine XS.ifNo X192.here hx rfl (hb hby at_318) rfl ((if0 _ _).trans (feq (by decide : ¬ ((1 : Int32) = (0 : Int32)))).1) ?_
    show Go _ _ _ _ (mkF m 321 _ []) _
    refine XS.aload X192.here hx rfl (hb hby at_321) rfl rfl ?_
    show Go _ _ _ _ (mkF m 323 _ [(.ref x_93)]) _
    refine XS.aload X192.here hx rfl (hb hby at_323) rfl rfl ?_
    show Go _ _ _ _ (mkF m 325 _ [(.ref b102), (.ref x_93)]) _
    refine XS.bipush X192.here hx rfl (hb hby at_325) ?_
    exact kt))
  obtain ⟨_, _, ⟨T195, L195, k195, n195⟩, -, X195, ⟨_, hQ195, l195, y195, z195⟩, st195⟩ := Jvm.LawKit.callS X192 hx (y := ym32) hown (ow hZ hw 181 rfl) (ow hZ hw 182 rfl) (ow hZ hw 2 rfl) (ow hZ hw 183 rfl) (by decide) (backOf (W := 0) (rm34 l Z a0 hw [] cx x_93 ta_93 b102 kt_93 k102 ((((((([] : List Int32) ++ (own_cs n1 u1 u2)) ++ ([(32 : Int32), (40 : Int32)] : List Int32)) ++ (own_cs n2 u3 u4)) ++ ([(32 : Int32)] : List Int32)) ++ (own_cs n3 u5 u6)) ++ ([(41 : Int32)] : List Int32)) (7 : Int32) 7 h155 n0 O157 f162 f164 f165 f167 V155 rfl (by decide) (by simp only [List.length_append, List.length_nil, List.length_cons]; omega) hlat) hZ (ox hw 183 rfl) (ox hw 2 rfl) (by decide) (by decide)) (g := (mkF m 327 #[vI p1, vI p2, vI p3, vI p4, vI n1, vI n2, vI n3, vI u1, vI u2, vI u3, vI u4, vI u5, vI u6, vR x_46, vR x_52, vR x_58, vR x_93, vR b102, vI (Int32.ofNat ((((((([] : List Int32) ++ (own_cs n1 u1 u2)) ++ ([(32 : Int32), (40 : Int32)] : List Int32)) ++ (own_cs n2 u3 u4)) ++ ([(32 : Int32)] : List Int32)) ++ (own_cs n3 u5 u6)) ++ ([(41 : Int32)] : List Int32)).length)] [(.int 7), (.ref b102), (.ref x_93)])) rfl (by rw [hml]; rfl) (argsL := [(.ref x_93), (.ref b102), (.int 7)]) (rest := []) (lenOf pd_27 rfl) rfl own_le0 (hb hby at_327) (fun _ _ => ⟨rfl, eq192, (by decide : 30 + 0 ≤ _), (by decide : 117 + 0 ≤ _)⟩)
  dsimp only [Pt.U, Pt.locs, Pt.cells, Pt.slots] at X195 l195 y195 z195 st195 hQ195
  subst l195 y195 z195
  obtain ⟨rfl, Nq195, eq195⟩ := hQ195
  have N196 := Fr.app N193 Nq195
  have q197 := fun t (kt : Go p e below T195 (mkF m 339 #[vI p1, vI p2, vI p3, vI p4, vI n1, vI n2, vI n3, vI u1, vI u2, vI u3, vI u4, vI u5, vI u6, vR x_46, vR x_52, vR x_58, vR x_93, vR b102, vI (Int32.ofNat ((((((([] : List Int32) ++ (own_cs n1 u1 u2)) ++ ([(32 : Int32), (40 : Int32)] : List Int32)) ++ (own_cs n2 u3 u4)) ++ ([(32 : Int32)] : List Int32)) ++ (own_cs n3 u5 u6)) ++ ([(41 : Int32)] : List Int32)).length)] [(.int 8), (.ref b102), (.ref x_93)]) t) => q194 t (st195 t (by
    show Go _ _ _ _ (mkF m 330 #[vI p1, vI p2, vI p3, vI p4, vI n1, vI n2, vI n3, vI u1, vI u2, vI u3, vI u4, vI u5, vI u6, vR x_46, vR x_52, vR x_58, vR x_93, vR b102, vI (Int32.ofNat ((((((([] : List Int32) ++ (own_cs n1 u1 u2)) ++ ([(32 : Int32), (40 : Int32)] : List Int32)) ++ (own_cs n2 u3 u4)) ++ ([(32 : Int32)] : List Int32)) ++ (own_cs n3 u5 u6)) ++ ([(41 : Int32)] : List Int32)).length)] [(.int 1)]) _
    refine XS.ifNo X195.here hx rfl (hb hby at_330) rfl ((if0 _ _).trans (feq (by decide : ¬ ((1 : Int32) = (0 : Int32)))).1) ?_
    show Go _ _ _ _ (mkF m 333 _ []) _
    refine XS.aload X195.here hx rfl (hb hby at_333) rfl rfl ?_
    show Go _ _ _ _ (mkF m 335 _ [(.ref x_93)]) _
    refine XS.aload X195.here hx rfl (hb hby at_335) rfl rfl ?_
    show Go _ _ _ _ (mkF m 337 _ [(.ref b102), (.ref x_93)]) _
    refine XS.bipush X195.here hx rfl (hb hby at_337) ?_
    exact kt))
  obtain ⟨_, _, ⟨T198, L198, k198, n198⟩, -, X198, ⟨_, hQ198, l198, y198, z198⟩, st198⟩ := Jvm.LawKit.callS X195 hx (y := ym32) hown (ow hZ hw 181 rfl) (ow hZ hw 182 rfl) (ow hZ hw 2 rfl) (ow hZ hw 183 rfl) (by decide) (backOf (W := 0) (rm34 l Z a0 hw [] cx x_93 ta_93 b102 kt_93 k102 ((((((([] : List Int32) ++ (own_cs n1 u1 u2)) ++ ([(32 : Int32), (40 : Int32)] : List Int32)) ++ (own_cs n2 u3 u4)) ++ ([(32 : Int32)] : List Int32)) ++ (own_cs n3 u5 u6)) ++ ([(41 : Int32)] : List Int32)) (8 : Int32) 8 h155 n0 O157 f162 f164 f165 f167 V155 rfl (by decide) (by simp only [List.length_append, List.length_nil, List.length_cons]; omega) hlat) hZ (ox hw 183 rfl) (ox hw 2 rfl) (by decide) (by decide)) (g := (mkF m 339 #[vI p1, vI p2, vI p3, vI p4, vI n1, vI n2, vI n3, vI u1, vI u2, vI u3, vI u4, vI u5, vI u6, vR x_46, vR x_52, vR x_58, vR x_93, vR b102, vI (Int32.ofNat ((((((([] : List Int32) ++ (own_cs n1 u1 u2)) ++ ([(32 : Int32), (40 : Int32)] : List Int32)) ++ (own_cs n2 u3 u4)) ++ ([(32 : Int32)] : List Int32)) ++ (own_cs n3 u5 u6)) ++ ([(41 : Int32)] : List Int32)).length)] [(.int 8), (.ref b102), (.ref x_93)])) rfl (by rw [hml]; rfl) (argsL := [(.ref x_93), (.ref b102), (.int 8)]) (rest := []) (lenOf pd_27 rfl) rfl own_le0 (hb hby at_339) (fun _ _ => ⟨rfl, eq195, (by decide : 30 + 0 ≤ _), (by decide : 117 + 0 ≤ _)⟩)
  dsimp only [Pt.U, Pt.locs, Pt.cells, Pt.slots] at X198 l198 y198 z198 st198 hQ198
  subst l198 y198 z198
  obtain ⟨rfl, Nq198, eq198⟩ := hQ198
  have N199 := Fr.app N196 Nq198
  have q200 := fun t (kt : Go p e below T198 (mkF m 351 #[vI p1, vI p2, vI p3, vI p4, vI n1, vI n2, vI n3, vI u1, vI u2, vI u3, vI u4, vI u5, vI u6, vR x_46, vR x_52, vR x_58, vR x_93, vR b102, vI (Int32.ofNat ((((((([] : List Int32) ++ (own_cs n1 u1 u2)) ++ ([(32 : Int32), (40 : Int32)] : List Int32)) ++ (own_cs n2 u3 u4)) ++ ([(32 : Int32)] : List Int32)) ++ (own_cs n3 u5 u6)) ++ ([(41 : Int32)] : List Int32)).length)] [(.int 9), (.ref b102), (.ref x_93)]) t) => q197 t (st198 t (by
    show Go _ _ _ _ (mkF m 342 #[vI p1, vI p2, vI p3, vI p4, vI n1, vI n2, vI n3, vI u1, vI u2, vI u3, vI u4, vI u5, vI u6, vR x_46, vR x_52, vR x_58, vR x_93, vR b102, vI (Int32.ofNat ((((((([] : List Int32) ++ (own_cs n1 u1 u2)) ++ ([(32 : Int32), (40 : Int32)] : List Int32)) ++ (own_cs n2 u3 u4)) ++ ([(32 : Int32)] : List Int32)) ++ (own_cs n3 u5 u6)) ++ ([(41 : Int32)] : List Int32)).length)] [(.int 1)]) _
    refine XS.ifNo X198.here hx rfl (hb hby at_342) rfl ((if0 _ _).trans (feq (by decide : ¬ ((1 : Int32) = (0 : Int32)))).1) ?_
    show Go _ _ _ _ (mkF m 345 _ []) _
    refine XS.aload X198.here hx rfl (hb hby at_345) rfl rfl ?_
    show Go _ _ _ _ (mkF m 347 _ [(.ref x_93)]) _
    refine XS.aload X198.here hx rfl (hb hby at_347) rfl rfl ?_
    show Go _ _ _ _ (mkF m 349 _ [(.ref b102), (.ref x_93)]) _
    refine XS.bipush X198.here hx rfl (hb hby at_349) ?_
    exact kt))
  obtain ⟨_, _, ⟨T201, L201, k201, n201⟩, -, X201, ⟨_, hQ201, l201, y201, z201⟩, st201⟩ := Jvm.LawKit.callS X198 hx (y := ym32) hown (ow hZ hw 181 rfl) (ow hZ hw 182 rfl) (ow hZ hw 2 rfl) (ow hZ hw 183 rfl) (by decide) (backOf (W := 0) (rm34 l Z a0 hw [] cx x_93 ta_93 b102 kt_93 k102 ((((((([] : List Int32) ++ (own_cs n1 u1 u2)) ++ ([(32 : Int32), (40 : Int32)] : List Int32)) ++ (own_cs n2 u3 u4)) ++ ([(32 : Int32)] : List Int32)) ++ (own_cs n3 u5 u6)) ++ ([(41 : Int32)] : List Int32)) (9 : Int32) 9 h155 n0 O157 f162 f164 f165 f167 V155 rfl (by decide) (by simp only [List.length_append, List.length_nil, List.length_cons]; omega) hlat) hZ (ox hw 183 rfl) (ox hw 2 rfl) (by decide) (by decide)) (g := (mkF m 351 #[vI p1, vI p2, vI p3, vI p4, vI n1, vI n2, vI n3, vI u1, vI u2, vI u3, vI u4, vI u5, vI u6, vR x_46, vR x_52, vR x_58, vR x_93, vR b102, vI (Int32.ofNat ((((((([] : List Int32) ++ (own_cs n1 u1 u2)) ++ ([(32 : Int32), (40 : Int32)] : List Int32)) ++ (own_cs n2 u3 u4)) ++ ([(32 : Int32)] : List Int32)) ++ (own_cs n3 u5 u6)) ++ ([(41 : Int32)] : List Int32)).length)] [(.int 9), (.ref b102), (.ref x_93)])) rfl (by rw [hml]; rfl) (argsL := [(.ref x_93), (.ref b102), (.int 9)]) (rest := []) (lenOf pd_27 rfl) rfl own_le0 (hb hby at_351) (fun _ _ => ⟨rfl, eq198, (by decide : 30 + 0 ≤ _), (by decide : 117 + 0 ≤ _)⟩)
  dsimp only [Pt.U, Pt.locs, Pt.cells, Pt.slots] at X201 l201 y201 z201 st201 hQ201
  subst l201 y201 z201
  obtain ⟨rfl, Nq201, eq201⟩ := hQ201
  have N202 := Fr.app N199 Nq201
  have q203 := fun t (kt : Go p e below T201 (mkF m 362 #[vI p1, vI p2, vI p3, vI p4, vI n1, vI n2, vI n3, vI u1, vI u2, vI u3, vI u4, vI u5, vI u6, vR x_46, vR x_52, vR x_58, vR x_93, vR b102, vI (Int32.ofNat ((((((([] : List Int32) ++ (own_cs n1 u1 u2)) ++ ([(32 : Int32), (40 : Int32)] : List Int32)) ++ (own_cs n2 u3 u4)) ++ ([(32 : Int32)] : List Int32)) ++ (own_cs n3 u5 u6)) ++ ([(41 : Int32)] : List Int32)).length)] [(.int 1)]) t) => q200 t (st201 t (by
    show Go _ _ _ _ (mkF m 354 #[vI p1, vI p2, vI p3, vI p4, vI n1, vI n2, vI n3, vI u1, vI u2, vI u3, vI u4, vI u5, vI u6, vR x_46, vR x_52, vR x_58, vR x_93, vR b102, vI (Int32.ofNat ((((((([] : List Int32) ++ (own_cs n1 u1 u2)) ++ ([(32 : Int32), (40 : Int32)] : List Int32)) ++ (own_cs n2 u3 u4)) ++ ([(32 : Int32)] : List Int32)) ++ (own_cs n3 u5 u6)) ++ ([(41 : Int32)] : List Int32)).length)] [(.int 1)]) _
    refine XS.ifNo X201.here hx rfl (hb hby at_354) rfl ((if0 _ _).trans (feq (by decide : ¬ ((1 : Int32) = (0 : Int32)))).1) ?_
    show Go _ _ _ _ (mkF m 357 _ []) _
    refine XS.iconst X201.here hx rfl (hb hby at_357) ?_
    show Go _ _ _ _ (mkF m 358 _ [(.int 1)]) _
    refine XS.goto X201.here hx rfl (pc0 := 358) (pc' := 362) rfl (hb hby at_358) (by decide) (by decide) ?_
    exact kt))
  obtain ⟨fs, hr, hrun, hended, hRE⟩ := X201.leaveW hS93 (by rw [eq201]; exact hk159) (v := some (.int 1)) (fun h => by rw [Bd.returns] at h; cases h)
  refine ⟨_, _, q203 _ ?_, hrun, hended, _, _, rfl, ?_, ?_, hRE.1, hRE.2.1, hRE.2.2.1, hRE.2.2.2.mono (by decide) (by decide)⟩
  · show Go p e below T201 (mkF m 362 #[vI p1, vI p2, vI p3, vI p4, vI n1, vI n2, vI n3, vI u1, vI u2, vI u3, vI u4, vI u5, vI u6, vR x_46, vR x_52, vR x_58, vR x_93, vR b102, vI (Int32.ofNat ((((((([] : List Int32) ++ (own_cs n1 u1 u2)) ++ ([(32 : Int32), (40 : Int32)] : List Int32)) ++ (own_cs n2 u3 u4)) ++ ([(32 : Int32)] : List Int32)) ++ (own_cs n3 u5 u6)) ++ ([(41 : Int32)] : List Int32)).length)] [(.int 1)]) _
    exact retN X201 hx (t := .boolean) Bd.returns (by simp) (hb hby at_362) hr
  · show Q_rm0 Z p1 p2 p3 p4 z_cs v_sf h0 n0 _ T201.heap _
    rw [eq201]
    exact ⟨rfl, N202⟩
  · show CHr Z own_EL s.vm s.heap T201.vm T201.heap
    rw [hh, eq201]
    exact R158.trans (CHv.at X201 hZ hEW R158.1)
theorem comes_1 {Post : Tables → Env → Array Value → State → Outcome → State → Prop} (hpost : ∀ tb e args s v u, (limb_1_1.after args s (.returned v) u = true ∧ limb_1_2.after args s (.returned v) u = true ∧ True) → ReturnedEndW s (.returned v) u (Jvm.fieldLocs frame_1_writes args s ++ Jvm.arrayLocs frame_1_arrays args s ++ Jvm.staticLocs frame_1_statics s) 48 4352 → Post tb e args s (.returned v) u) :
    ArmFor flags0 classFile x code maxLocals ret World_1 tables_1 room_1 Calls_1 rest_1 Pre_1 Post := by
  intro l hfl _ _ p e ha hc hk s m args below hf hA hF happ hP
  obtain ⟨hcalls, hrest, hpre⟩ := hP
  obtain ⟨-, -, -, hnamed, -, -, -, hat⟩ := (Spec.applies_iff hf).mp happ
  obtain ⟨hg, hn⟩ := and_e (Cond.before_iff.mp (show (Jvm.Cond.and given_1 narrow_1).before args s = true from hpre))
  obtain ⟨gg1, gg2⟩ := and_e hg
  obtain ⟨gg3, gg4⟩ := and_e gg2
  obtain ⟨gg5, gg6⟩ := and_e gg4
  obtain ⟨gg7, gg8⟩ := and_e gg6
  obtain ⟨w0, w1, w2, w3, rfl⟩ : ∃ w0 w1 w2 w3 : Value, args = #[w0, w1, w2, w3] := by
    have hs : args.size = 4 := by simpa [Cond.value, given_1] using gg1
    obtain ⟨L⟩ := args
    match L, hs with
    | [w0, w1, w2, w3], _ => exact ⟨w0, w1, w2, w3, rfl⟩
  have hw := fun d (hd : d ∈ tables_1) => atoms_spec (ws := Jvm.Cond.code x code maxLocals ret :: tables_1) hat d (List.mem_cons_of_mem _ hd)
  have hfit : Fit s := fun {y c} hc i hi => by
    obtain ⟨ha, rfl⟩ := Array.getElem?_eq_some_iff.mp hc
    have q := List.all_eq_true.mp ((Array.all_eq_true_iff_forall_mem.mp hF) _ (Array.getElem_mem ha)) i (List.mem_range.mpr hi)
    simpa [Array.getElem?_eq_getElem hi] using q
  obtain ⟨hsets, hown0⟩ := atoms_of _ (rest_1_c_eq ▸ (show rest_1_c.before _ s = true from hrest))
  have hr0 := Cond.before_iff.mp hown0
  obtain ⟨i0, ei0⟩ := is_v gg3
  obtain rfl : w0 = (.int i0) := Option.some.inj ei0
  obtain ⟨i1, ei1⟩ := is_v gg5
  obtain rfl : w1 = (.int i1) := Option.some.inj ei1
  obtain ⟨i2, ei2⟩ := is_v gg7
  obtain rfl : w2 = (.int i2) := Option.some.inj ei2
  obtain ⟨i3, ei3⟩ := is_v gg8
  obtain rfl : w3 = (.int i3) := Option.some.inj ei3
  have nz_cs := not_v (Cond.before_iff.mp (hsets _ (List.mem_of_getElem? (i := 2) rfl)))
  obtain ⟨z_cs, ev_cs⟩ := is_v (Cond.before_iff.mp (hsets _ (List.mem_of_getElem? (i := 1) rfl)))
  obtain ⟨v_sf, ev_sf, rf_sf⟩ := isR_v (Cond.before_iff.mp (hsets _ (List.mem_of_getElem? (i := 8) rfl)))
  have cx : Cx s z_cs v_sf := ⟨(Sta.start ev_cs (Or.inl (hsets _ (List.mem_of_getElem? (i := 0) rfl)))), (gotF (Cond.eq_ints ev_cs (Term.int_eval (0))) nz_cs), (Sta.start ev_sf (Or.inl (hsets _ (List.mem_of_getElem? (i := 7) rfl)))), rf_sf⟩
  have hCH0 : CHv s own_EL s.vm s.heap := CHv.start (own_EW hw) hcalls.1 (hsets _ (List.mem_of_getElem? (i := 2) rfl)) (own_w hw 18 rfl) (own_w hw 14 rfl)
  obtain ⟨n, o, h1, h2, h3, _, L, rfl, ⟨rfl, N⟩, hCHr, hq⟩ := rm0 l s _ hw tables_1 cx i0 i1 i2 i3 s.heap s.heap.size (Old.start s)  p e ha hc hk s m _ below hf ((Spec.applies_iff_loose hf).mp happ).1 ⟨rfl, State.Warmed39.refl s, rfl, hCH0⟩ trivial
  refine ⟨n, _, h1, h2, h3, hpost _ _ _ _ _ _ ⟨Cond.after_iff.mpr rfl, Cond.after_iff.mpr (eq_i res_at (Term.int_eval (1)) rfl), trivial⟩ ⟨hq.1, hq.2.1, hq.2.2.1, (hq.2.2.2.sift fun y hy => Or.inr (N y hy)).mono (by decide) (by decide)⟩⟩
theorem main_1_1 : Claimed_1_1 := comes_1 fun _ _ _ _ _ _ h hF => ⟨h.1, hF⟩
theorem main_1_2 : Claimed_1_2 := comes_1 fun _ _ _ _ _ _ h hF => ⟨h.2.1, hF⟩
end Jvm.Pilot.@@N@@
namespace Jvm.Pilot.@@N@@
open Jvm Jvm.ClassFile Sem Op Lib Jvm.Free Jvm.Stand Jvm.Pilot.@@N@@.Jvm.D
/-! MADE BY PROGRAM (witnessworld.py) out of the Statement's table words and the real class files: 27 classes; the members and pool entries that the words name. The judged class is class 1, her method 1. -/
namespace start1
open Jvm.ClassFile
def u (s : String) : CpInfo := .utf8 (stringToUtf16 s)
/-- a pool by its gaps: so many unusable entries, then the entry; so many at the end -/
def gap : Nat → List CpInfo → List CpInfo
  | 0, r => r
  | n + 1, r => .unusable :: gap n r
def poolList (es : List (Nat × CpInfo)) (last : Nat) : List CpInfo := es.foldr (fun e r => gap e.1 (e.2 :: r)) (gap last [])
def pool (es : List (Nat × CpInfo)) (last : Nat) : Array CpInfo := ⟨poolList es last⟩
def fileOf (pool : Array CpInfo) (this : Nat) (attrs : Array Attribute := #[]) (ms : Array MethodInfo := #[]) (fl : Nat := 33) (sup : Nat := 0) (ifs : Array Nat := #[]) (fds : Array FieldInfo := #[]) : ClassFile where
  minorVersion := 0
  majorVersion := 65
  constantPool := pool
  accessFlags := fl
  thisClass := this
  superClass := sup
  interfaces := ifs
  fields := fds
  methods := ms
  attributes := attrs
def plain (name : String) (sup : Option ClassId) : Class where
  name := name
  kind := .ordinary
  loader := none
  accessFlags := 33
  super := sup
  interfaces := #[]
  cf := none
  fields := #[]
  methods := #[]
  instanceTypes := #[]
  staticTypes := #[]
  resolved := #[]
  callSites := []
  init := .initialized
  statics := none
  mirror := none

def pool0 : Array CpInfo := pool [(5, u "<init>"), (0, u "()V"), (1, .class_ 10), (1, u "java/lang/Object")] 113

def k0c0 : Code := { maxStack := 0, maxLocals := 1, code := object_method_1_code, exceptionTable := #[], attributes := #[] }
def k0m0 : Method := { name := "<init>", desc := "()V", sig := { parameters := [], returnType := none }, accessFlags := 1, code := some k0c0 }
/-- java/lang/Object -/
def k0 : Class := { plain "java/lang/Object" none with
  accessFlags := 33
  interfaces := #[]
  cf := some (fileOf pool0 8 #[] #[{ accessFlags := 1, nameIndex := 5, descriptorIndex := 6, attributes := #[] }] 33 0 #[] #[])
  fields := #[]
  methods := #[k0m0]
  instanceTypes := #[]
  staticTypes := #[]
  resolved := Array.replicate 124 none
  statics := none }

def pool1 : Array CpInfo := pool [(2, .class_ 4), (1, u "java/lang/Object"), (0, u "<init>"), (0, u "()V"), (0, .methodref 8 9), (0, .class_ 10), (0, .nameAndType 11 12), (0, u "com/example/installwright/installwright/formats/MarkerToStringPinLaw"), (0, u "mk"), (0, u "(ICC)Ljava/lang/String;"), (0, .class_ 14), (0, u "com/example/installwright/installwright/formats/Marker"), (0, .methodref 13 16), (0, .nameAndType 5 17), (0, u "(Ljava/lang/String;Ljava/lang/String;Ljava/lang/String;)V"), (0, .methodref 13 19), (0, .nameAndType 20 21), (0, u "toString"), (0, u "()Ljava/lang/String;"), (0, .methodref 8 23), (0, .nameAndType 24 25), (0, u "put"), (0, u "([CIICC)I"), (0, .methodref 27 28), (0, .class_ 29), (0, .nameAndType 30 31), (0, u "java/lang/String"), (0, u "length"), (0, u "()I"), (0, .methodref 8 33), (0, .nameAndType 34 35), (0, u "same"), (0, u "(Ljava/lang/String;[CI)Z"), (0, .methodref 27 37), (0, .nameAndType 5 38), (0, u "([C)V"), (0, .methodref 27 40), (0, .nameAndType 41 42), (0, u "valueOf"), (0, u "(C)Ljava/lang/String;"), (0, .methodref 27 44), (0, .nameAndType 45 46), (0, u "charAt"), (0, u "(I)C"), (2, u "law"), (0, u "(IIII)Z")] 5

def k1m0 : Method := { name := "<init>", desc := "()V", sig := { parameters := [], returnType := none }, accessFlags := 2, code := none }
def k1c1 : Code := { maxStack := 5, maxLocals := 19, code := code, exceptionTable := #[], attributes := #[] }
def k1m1 : Method := { name := "law", desc := "(IIII)Z", sig := { parameters := [.int, .int, .int, .int], returnType := some .boolean }, accessFlags := 9, code := some k1c1 }
def k1c2 : Code := { maxStack := 3, maxLocals := 4, code := method_3_code, exceptionTable := #[], attributes := #[] }
def k1m2 : Method := { name := "mk", desc := "(ICC)Ljava/lang/String;", sig := { parameters := [.int, .char, .char], returnType := some (.object "java/lang/String") }, accessFlags := 10, code := some k1c2 }
def k1c3 : Code := { maxStack := 3, maxLocals := 5, code := method_4_code, exceptionTable := #[], attributes := #[] }
def k1m3 : Method := { name := "put", desc := "([CIICC)I", sig := { parameters := [(.array .char), .int, .int, .char, .char], returnType := some .int }, accessFlags := 10, code := some k1c3 }
def k1c4 : Code := { maxStack := 3, maxLocals := 3, code := method_5_code, exceptionTable := #[], attributes := #[] }
def k1m4 : Method := { name := "same", desc := "(Ljava/lang/String;[CI)Z", sig := { parameters := [(.object "java/lang/String"), (.array .char), .int], returnType := some .boolean }, accessFlags := 10, code := some k1c4 }
/-- com/example/installwright/installwright/formats/MarkerToStringPinLaw -/
def k1 : Class := { plain "com/example/installwright/installwright/formats/MarkerToStringPinLaw" (some 0) with
  accessFlags := 49
  interfaces := #[]
  cf := some (fileOf pool1 8 #[] #[{ accessFlags := 2, nameIndex := 5, descriptorIndex := 6, attributes := #[] }, { accessFlags := 9, nameIndex := 49, descriptorIndex := 50, attributes := #[] }, { accessFlags := 10, nameIndex := 11, descriptorIndex := 12, attributes := #[] }, { accessFlags := 10, nameIndex := 24, descriptorIndex := 25, attributes := #[] }, { accessFlags := 10, nameIndex := 34, descriptorIndex := 35, attributes := #[] }] 49 2 #[] #[])
  fields := #[]
  methods := #[k1m0, k1m1, k1m2, k1m3, k1m4]
  instanceTypes := #[]
  staticTypes := #[]
  resolved := Array.replicate 56 none
  statics := none }

def pool2 : Array CpInfo := pool [(1, .class_ 2), (0, u "java/io/Serializable"), (0, .class_ 4), (0, u "java/lang/Object")] 2

/-- java/io/Serializable -/
def k2 : Class := { plain "java/io/Serializable" (some 0) with
  accessFlags := 1537
  interfaces := #[]
  cf := some (fileOf pool2 1 #[] #[] 1537 3 #[] #[])
  fields := #[]
  methods := #[]
  instanceTypes := #[]
  staticTypes := #[]
  resolved := Array.replicate 7 none
  statics := none }

def pool3 : Array CpInfo := pool [(1, .class_ 2), (0, u "java/lang/Comparable"), (0, .class_ 4), (0, u "java/lang/Object")] 7

/-- java/lang/Comparable -/
def k3 : Class := { plain "java/lang/Comparable" (some 0) with
  accessFlags := 1537
  interfaces := #[]
  cf := some (fileOf pool3 1 #[] #[] 1537 3 #[] #[])
  fields := #[]
  methods := #[]
  instanceTypes := #[]
  staticTypes := #[]
  resolved := Array.replicate 12 none
  statics := none }

def pool4 : Array CpInfo := pool [(2, .class_ 4), (1, u "java/lang/CharSequence"), (42, .class_ 48), (0, u "java/lang/CharSequence$1CodePointIterator"), (10, .class_ 60), (0, u "java/lang/CharSequence$1CharIterator"), (5, .class_ 67), (0, u "java/lang/Object")] 63

/-- java/lang/CharSequence -/
def k4 : Class := { plain "java/lang/CharSequence" (some 0) with
  accessFlags := 1537
  interfaces := #[]
  cf := some (fileOf pool4 2 #[.nestMembers #[47, 59]] #[] 1537 66 #[] #[])
  fields := #[]
  methods := #[]
  instanceTypes := #[]
  staticTypes := #[]
  resolved := Array.replicate 131 none
  statics := none }

def pool5 : Array CpInfo := pool [(1, .class_ 2), (0, u "java/lang/constant/Constable"), (0, .class_ 4), (0, u "java/lang/Object")] 6

/-- java/lang/constant/Constable -/
def k5 : Class := { plain "java/lang/constant/Constable" (some 0) with
  accessFlags := 1537
  interfaces := #[]
  cf := some (fileOf pool5 1 #[] #[] 1537 3 #[] #[])
  fields := #[]
  methods := #[]
  instanceTypes := #[]
  staticTypes := #[]
  resolved := Array.replicate 11 none
  statics := none }

def pool6 : Array CpInfo := pool [(1, .class_ 2), (0, u "java/lang/constant/ConstantDesc"), (0, .class_ 4), (0, u "java/lang/Object")] 32

/-- java/lang/constant/ConstantDesc -/
def k6 : Class := { plain "java/lang/constant/ConstantDesc" (some 0) with
  accessFlags := 1537
  interfaces := #[]
  cf := some (fileOf pool6 1 #[] #[] 1537 3 #[] #[])
  fields := #[]
  methods := #[]
  instanceTypes := #[]
  staticTypes := #[]
  resolved := Array.replicate 37 none
  statics := none }

def pool7 : Array CpInfo := pool [(1, .methodref 2 3), (0, .class_ 4), (0, .nameAndType 5 6), (0, u "java/lang/Object"), (0, u "<init>"), (0, u "()V"), (0, .string 8), (0, u ""), (0, .fieldref 10 11), (0, .class_ 12), (0, .nameAndType 13 14), (0, u "java/lang/String"), (0, u "value"), (0, u "[B"), (0, .fieldref 10 16), (0, .nameAndType 17 18), (0, u "coder"), (0, u "B"), (2, u "hash"), (0, u "I"), (2, u "hashIsZero"), (0, u "Z"), (0, .methodref 10 28), (0, .nameAndType 5 29), (0, u "([CIILjava/lang/Void;)V"), (8, .fieldref 10 39), (0, .nameAndType 40 26), (0, u "COMPACT_STRINGS"), (1, .class_ 44), (1, u "java/lang/StringUTF16"), (0, u "compress"), (1, .methodref 42 48), (0, .nameAndType 49 50), (0, u "coderFromArrayLen"), (0, u "([BI)B"), (2, u "toBytes"), (0, .methodref 55 56), (0, .class_ 57), (0, .nameAndType 58 59), (0, u "java/util/Arrays"), (0, u "copyOfRange"), (0, u "([BII)[B"), (47, .class_ 109), (1, u "java/lang/StringLatin1"), (32, u "()Z"), (34, .methodref 42 178), (0, .nameAndType 45 179), (0, u "([CII)[B"), (13, .class_ 195), (1, u "java/lang/System"), (13, .methodref 10 210), (0, .nameAndType 5 211), (0, u "([BB)V"), (0, .methodref 193 213), (0, .nameAndType 214 215), (0, u "arraycopy"), (0, u "(Ljava/lang/Object;ILjava/lang/Object;II)V"), (118, u "()I"), (0, .methodref 10 336), (0, .nameAndType 17 337), (0, u "()B"), (2, u "()[B"), (22, u "([BI)C"), (5, u "(C)Z"), (21, u "(II)V"), (35, u "(I)C"), (61, .methodref 10 490), (0, .nameAndType 5 491), (0, u "(Ljava/lang/AbstractStringBuilder;Ljava/lang/Void;)V"), (0, .methodref 10 493), (0, .nameAndType 494 142), (0, u "isLatin1"), (0, .methodref 107 496), (0, .nameAndType 497 363), (0, u "charAt"), (3, u "checkIndex"), (4, .nameAndType 507 334), (0, u "length"), (24, u "getBytes"), (16, .methodref 550 506), (0, .class_ 551), (0, u "java/lang/AbstractStringBuilder"), (0, .methodref 550 553), (0, .nameAndType 554 340), (0, u "getValue"), (20, .class_ 576), (0, u "java/lang/CharSequence"), (22, u "CASE_INSENSITIVE_ORDER"), (0, u "Ljava/util/Comparator;"), (181, u "valueOf"), (0, u "(C)Ljava/lang/String;"), (37, u "([BIB)V"), (188, u "([C)V"), (4, .methodref 107 1016), (0, .nameAndType 1017 369), (0, u "canEncode"), (0, .methodref 107 1019), (0, .nameAndType 53 1020), (0, u "(C)[B"), (26, .methodref 550 493), (5, .fieldref 1054 1055), (0, .class_ 1056), (0, .nameAndType 1057 1058), (0, u "jdk/internal/util/Preconditions"), (0, u "SIOOBE_FORMATTER"), (0, u "Ljava/util/function/BiFunction;"), (0, .methodref 1054 1060), (0, .nameAndType 501 1061), (0, u "(IILjava/util/function/BiFunction;)I"), (39, u "serialPersistentFields"), (0, u "[Ljava/io/ObjectStreamField;"), (0, .class_ 1104), (0, u "java/lang/String$CaseInsensitiveComparator"), (1, .class_ 1107), (0, u "java/io/Serializable"), (0, .class_ 1109), (0, u "java/lang/Comparable"), (0, .class_ 1111), (0, u "java/lang/constant/Constable"), (0, .class_ 1113), (0, u "java/lang/constant/ConstantDesc"), (2, u "serialVersionUID"), (0, u "J"), (3, u "REPL"), (0, u "C"), (2, u "LATIN1"), (1, u "UTF16"), (105, u "(Ljava/lang/StringBuilder;)V")] 217

def k7m0 : Method := { name := "<init>", desc := "()V", sig := { parameters := [], returnType := none }, accessFlags := 1, code := none }
def k7c1 : Code := { maxStack := 5, maxLocals := 2, code := jdk_42_method_3_code, exceptionTable := #[], attributes := #[] }
def k7m1 : Method := { name := "<init>", desc := "([C)V", sig := { parameters := [(.array .char)], returnType := none }, accessFlags := 1, code := some k7c1 }
def k7c2 : Code := { maxStack := 3, maxLocals := 2, code := jdk_42_method_53_code, exceptionTable := #[], attributes := #[] }
def k7m2 : Method := { name := "<init>", desc := "(Ljava/lang/StringBuilder;)V", sig := { parameters := [(.object "java/lang/StringBuilder")], returnType := none }, accessFlags := 1, code := some k7c2 }
def k7c3 : Code := { maxStack := 2, maxLocals := 1, code := jdk_42_method_54_code, exceptionTable := #[], attributes := #[] }
def k7m3 : Method := { name := "length", desc := "()I", sig := { parameters := [], returnType := some .int }, accessFlags := 1, code := some k7c3 }
def k7c4 : Code := { maxStack := 2, maxLocals := 2, code := jdk_42_method_56_code, exceptionTable := #[], attributes := #[] }
def k7m4 : Method := { name := "charAt", desc := "(I)C", sig := { parameters := [.int], returnType := some .char }, accessFlags := 1, code := some k7c4 }
def k7c5 : Code := { maxStack := 4, maxLocals := 1, code := jdk_42_method_139_code, exceptionTable := #[], attributes := #[] }
def k7m5 : Method := { name := "valueOf", desc := "(C)Ljava/lang/String;", sig := { parameters := [.char], returnType := some (.object "java/lang/String") }, accessFlags := 9, code := some k7c5 }
def k7c6 : Code := { maxStack := 5, maxLocals := 4, code := jdk_42_method_147_code, exceptionTable := #[], attributes := #[] }
def k7m6 : Method := { name := "getBytes", desc := "([BIB)V", sig := { parameters := [(.array .byte), .int, .byte], returnType := none }, accessFlags := 0, code := some k7c6 }
def k7c7 : Code := { maxStack := 4, maxLocals := 6, code := jdk_42_method_149_code, exceptionTable := #[], attributes := #[] }
def k7m7 : Method := { name := "<init>", desc := "([CIILjava/lang/Void;)V", sig := { parameters := [(.array .char), .int, .int, (.object "java/lang/Void")], returnType := none }, accessFlags := 2, code := some k7c7 }
def k7c8 : Code := { maxStack := 5, maxLocals := 5, code := jdk_42_method_150_code, exceptionTable := #[], attributes := #[] }
def k7m8 : Method := { name := "<init>", desc := "(Ljava/lang/AbstractStringBuilder;Ljava/lang/Void;)V", sig := { parameters := [(.object "java/lang/AbstractStringBuilder"), (.object "java/lang/Void")], returnType := none }, accessFlags := 0, code := some k7c8 }
def k7c9 : Code := { maxStack := 2, maxLocals := 3, code := jdk_42_method_151_code, exceptionTable := #[], attributes := #[] }
def k7m9 : Method := { name := "<init>", desc := "([BB)V", sig := { parameters := [(.array .byte), .byte], returnType := none }, accessFlags := 0, code := some k7c9 }
def k7c10 : Code := { maxStack := 1, maxLocals := 1, code := jdk_42_method_152_code, exceptionTable := #[], attributes := #[] }
def k7m10 : Method := { name := "coder", desc := "()B", sig := { parameters := [], returnType := some .byte }, accessFlags := 0, code := some k7c10 }
def k7c11 : Code := { maxStack := 1, maxLocals := 1, code := jdk_42_method_154_code, exceptionTable := #[], attributes := #[] }
def k7m11 : Method := { name := "isLatin1", desc := "()Z", sig := { parameters := [], returnType := some .boolean }, accessFlags := 0, code := some k7c11 }
def k7c12 : Code := { maxStack := 3, maxLocals := 2, code := jdk_42_method_155_code, exceptionTable := #[], attributes := #[] }
def k7m12 : Method := { name := "checkIndex", desc := "(II)V", sig := { parameters := [.int, .int], returnType := none }, accessFlags := 8, code := some k7c12 }
/-- java/lang/String -/
def k7 : Class := { plain "java/lang/String" (some 0) with
  accessFlags := 49
  interfaces := #[2, 3, 4, 5, 6]
  cf := some (fileOf pool7 10 #[.nestMembers #[1103]] #[{ accessFlags := 1, nameIndex := 5, descriptorIndex := 6, attributes := #[] }, { accessFlags := 1, nameIndex := 5, descriptorIndex := 1010, attributes := #[] }, { accessFlags := 1, nameIndex := 5, descriptorIndex := 1233, attributes := #[] }, { accessFlags := 1, nameIndex := 507, descriptorIndex := 334, attributes := #[] }, { accessFlags := 1, nameIndex := 497, descriptorIndex := 427, attributes := #[] }, { accessFlags := 9, nameIndex := 782, descriptorIndex := 783, attributes := #[] }, { accessFlags := 0, nameIndex := 532, descriptorIndex := 821, attributes := #[] }, { accessFlags := 2, nameIndex := 5, descriptorIndex := 29, attributes := #[] }, { accessFlags := 0, nameIndex := 5, descriptorIndex := 491, attributes := #[] }, { accessFlags := 0, nameIndex := 5, descriptorIndex := 211, attributes := #[] }, { accessFlags := 0, nameIndex := 17, descriptorIndex := 337, attributes := #[] }, { accessFlags := 0, nameIndex := 494, descriptorIndex := 142, attributes := #[] }, { accessFlags := 8, nameIndex := 501, descriptorIndex := 391, attributes := #[] }] 49 2 #[1106, 1108, 575, 1110, 1112] #[{ accessFlags := 18, nameIndex := 13, descriptorIndex := 14, attributes := #[] }, { accessFlags := 18, nameIndex := 17, descriptorIndex := 18, attributes := #[] }, { accessFlags := 2, nameIndex := 21, descriptorIndex := 22, attributes := #[] }, { accessFlags := 2, nameIndex := 25, descriptorIndex := 26, attributes := #[] }, { accessFlags := 26, nameIndex := 1116, descriptorIndex := 1117, attributes := #[] }, { accessFlags := 24, nameIndex := 40, descriptorIndex := 26, attributes := #[] }, { accessFlags := 26, nameIndex := 1101, descriptorIndex := 1102, attributes := #[] }, { accessFlags := 26, nameIndex := 1121, descriptorIndex := 1122, attributes := #[] }, { accessFlags := 25, nameIndex := 599, descriptorIndex := 600, attributes := #[] }, { accessFlags := 24, nameIndex := 1125, descriptorIndex := 18, attributes := #[] }, { accessFlags := 24, nameIndex := 1127, descriptorIndex := 18, attributes := #[] }])
  fields := #[{ name := "value", type := (.array .byte), accessFlags := 18, slot := 0, constantValue := 0 }, { name := "coder", type := .byte, accessFlags := 18, slot := 1, constantValue := 0 }, { name := "hash", type := .int, accessFlags := 2, slot := 2, constantValue := 0 }, { name := "hashIsZero", type := .boolean, accessFlags := 2, slot := 3, constantValue := 0 }, { name := "serialVersionUID", type := .long, accessFlags := 26, slot := 0, constantValue := 0 }, { name := "COMPACT_STRINGS", type := .boolean, accessFlags := 24, slot := 1, constantValue := 0 }, { name := "serialPersistentFields", type := (.array (.object "java/io/ObjectStreamField")), accessFlags := 26, slot := 2, constantValue := 0 }, { name := "REPL", type := .char, accessFlags := 26, slot := 3, constantValue := 0 }, { name := "CASE_INSENSITIVE_ORDER", type := (.object "java/util/Comparator"), accessFlags := 25, slot := 4, constantValue := 0 }, { name := "LATIN1", type := .byte, accessFlags := 24, slot := 5, constantValue := 0 }, { name := "UTF16", type := .byte, accessFlags := 24, slot := 6, constantValue := 0 }]
  methods := #[k7m0, k7m1, k7m2, k7m3, k7m4, k7m5, k7m6, k7m7, k7m8, k7m9, k7m10, k7m11, k7m12]
  instanceTypes := #[(.array .byte), .byte, .int, .boolean]
  staticTypes := #[.long, .boolean, (.array (.object "java/io/ObjectStreamField")), .char, (.object "java/util/Comparator"), .byte, .byte]
  resolved := Array.replicate 1451 none
  statics := some 0 }

def pool8 : Array CpInfo := pool [(1, .class_ 2), (0, u "java/lang/String"), (1, .class_ 6), (1, u "java/lang/Object"), (0, u "<init>"), (0, u "()V"), (0, .methodref 1 10), (0, .nameAndType 11 12), (0, u "checkIndex"), (0, u "(II)V"), (1, .class_ 16), (1, u "java/lang/StringLatin1"), (36, u "([BI)C"), (36, u "canEncode"), (14, u "(C)Z"), (15, u "$assertionsDisabled"), (0, u "Z"), (98, .class_ 223), (1, u "java/lang/StringLatin1$LinesSpliterator"), (28, u "charAt"), (127, u "toBytes"), (1, u "(C)[B"), (7, .class_ 391), (0, u "java/lang/StringLatin1$CharsSpliterator")] 3

def k8m0 : Method := { name := "<init>", desc := "()V", sig := { parameters := [], returnType := none }, accessFlags := 0, code := none }
def k8c1 : Code := { maxStack := 2, maxLocals := 2, code := jdk_43_method_2_code, exceptionTable := #[], attributes := #[] }
def k8m1 : Method := { name := "charAt", desc := "([BI)C", sig := { parameters := [(.array .byte), .int], returnType := some .char }, accessFlags := 9, code := some k8c1 }
def k8c2 : Code := { maxStack := 2, maxLocals := 1, code := jdk_43_method_3_code, exceptionTable := #[], attributes := #[] }
def k8m2 : Method := { name := "canEncode", desc := "(C)Z", sig := { parameters := [.char], returnType := some .boolean }, accessFlags := 9, code := some k8c2 }
def k8c3 : Code := { maxStack := 4, maxLocals := 1, code := jdk_43_method_46_code, exceptionTable := #[], attributes := #[] }
def k8m3 : Method := { name := "toBytes", desc := "(C)[B", sig := { parameters := [.char], returnType := some (.array .byte) }, accessFlags := 9, code := some k8c3 }
/-- java/lang/StringLatin1 -/
def k8 : Class := { plain "java/lang/StringLatin1" (some 0) with
  accessFlags := 48
  interfaces := #[]
  cf := some (fileOf pool8 14 #[.nestMembers #[390, 221]] #[{ accessFlags := 0, nameIndex := 7, descriptorIndex := 8, attributes := #[] }, { accessFlags := 9, nameIndex := 252, descriptorIndex := 53, attributes := #[] }, { accessFlags := 9, nameIndex := 90, descriptorIndex := 105, attributes := #[] }, { accessFlags := 9, nameIndex := 380, descriptorIndex := 382, attributes := #[] }] 48 4 #[] #[{ accessFlags := 4120, nameIndex := 121, descriptorIndex := 122, attributes := #[] }])
  fields := #[{ name := "$assertionsDisabled", type := .boolean, accessFlags := 4120, slot := 0, constantValue := 0 }]
  methods := #[k8m0, k8m1, k8m2, k8m3]
  instanceTypes := #[]
  staticTypes := #[.boolean]
  resolved := Array.replicate 395 none
  statics := none }

def pool9 : Array CpInfo := pool [(1, .methodref 2 3), (0, .class_ 4), (0, .nameAndType 5 6), (0, u "java/lang/Object"), (0, u "<init>"), (0, u "()V"), (0, .class_ 8), (0, u "java/lang/Record")] 13

def k9c0 : Code := { maxStack := 1, maxLocals := 1, code := jdk_30_method_1_code, exceptionTable := #[], attributes := #[] }
def k9m0 : Method := { name := "<init>", desc := "()V", sig := { parameters := [], returnType := none }, accessFlags := 4, code := some k9c0 }
/-- java/lang/Record -/
def k9 : Class := { plain "java/lang/Record" (some 0) with
  accessFlags := 1057
  interfaces := #[]
  cf := some (fileOf pool9 7 #[] #[{ accessFlags := 4, nameIndex := 5, descriptorIndex := 6, attributes := #[] }] 1057 2 #[] #[])
  fields := #[]
  methods := #[k9m0]
  instanceTypes := #[]
  staticTypes := #[]
  resolved := Array.replicate 22 none
  statics := none }

def pool10 : Array CpInfo := pool [(1, .methodref 2 3), (0, .class_ 4), (0, .nameAndType 5 6), (0, u "java/lang/Record"), (0, u "<init>"), (0, u "()V"), (0, .fieldref 8 9), (0, .class_ 10), (0, .nameAndType 11 12), (0, u "com/example/installwright/installwright/formats/Marker"), (0, u "name"), (0, u "Ljava/lang/String;"), (0, .fieldref 8 14), (0, .nameAndType 15 12), (0, u "id"), (0, .fieldref 8 17), (0, .nameAndType 18 12), (0, u "version"), (15, u "(Ljava/lang/String;Ljava/lang/String;Ljava/lang/String;)V"), (10, .class_ 46), (0, u "java/lang/StringBuilder"), (0, .methodref 45 3), (0, .methodref 45 49), (0, .nameAndType 50 51), (0, u "append"), (0, u "(Ljava/lang/String;)Ljava/lang/StringBuilder;"), (4, .methodref 45 57), (0, .nameAndType 58 59), (0, u "toString"), (0, u "()Ljava/lang/String;"), (14, .string 75), (0, u " ("), (0, .string 77), (0, u " "), (0, .string 79), (0, u ")"), (8, u "PRODUCT_FILE_NAME"), (3, u "EXTENSION_FILE_NAME")] 37

def k10c0 : Code := { maxStack := 2, maxLocals := 4, code := prog_70_method_1_code, exceptionTable := #[], attributes := #[] }
def k10m0 : Method := { name := "<init>", desc := "(Ljava/lang/String;Ljava/lang/String;Ljava/lang/String;)V", sig := { parameters := [(.object "java/lang/String"), (.object "java/lang/String"), (.object "java/lang/String")], returnType := none }, accessFlags := 1, code := some k10c0 }
def k10c1 : Code := { maxStack := 2, maxLocals := 1, code := prog_70_method_5_code, exceptionTable := #[], attributes := #[] }
def k10m1 : Method := { name := "toString", desc := "()Ljava/lang/String;", sig := { parameters := [], returnType := some (.object "java/lang/String") }, accessFlags := 1, code := some k10c1 }
/-- com/example/installwright/installwright/formats/Marker -/
def k10 : Class := { plain "com/example/installwright/installwright/formats/Marker" (some 9) with
  accessFlags := 49
  interfaces := #[]
  cf := some (fileOf pool10 8 #[] #[{ accessFlags := 1, nameIndex := 5, descriptorIndex := 34, attributes := #[] }, { accessFlags := 1, nameIndex := 58, descriptorIndex := 59, attributes := #[] }] 49 2 #[] #[{ accessFlags := 18, nameIndex := 11, descriptorIndex := 12, attributes := #[] }, { accessFlags := 18, nameIndex := 15, descriptorIndex := 12, attributes := #[] }, { accessFlags := 18, nameIndex := 18, descriptorIndex := 12, attributes := #[] }, { accessFlags := 25, nameIndex := 88, descriptorIndex := 12, attributes := #[] }, { accessFlags := 25, nameIndex := 92, descriptorIndex := 12, attributes := #[] }])
  fields := #[{ name := "name", type := (.object "java/lang/String"), accessFlags := 18, slot := 0, constantValue := 0 }, { name := "id", type := (.object "java/lang/String"), accessFlags := 18, slot := 1, constantValue := 0 }, { name := "version", type := (.object "java/lang/String"), accessFlags := 18, slot := 2, constantValue := 0 }, { name := "PRODUCT_FILE_NAME", type := (.object "java/lang/String"), accessFlags := 25, slot := 0, constantValue := 0 }, { name := "EXTENSION_FILE_NAME", type := (.object "java/lang/String"), accessFlags := 25, slot := 1, constantValue := 0 }]
  methods := #[k10m0, k10m1]
  instanceTypes := #[(.object "java/lang/String"), (.object "java/lang/String"), (.object "java/lang/String")]
  staticTypes := #[(.object "java/lang/String"), (.object "java/lang/String")]
  resolved := Array.replicate 130 none
  statics := none }

def pool11 : Array CpInfo := pool [(1, .class_ 2), (0, u "java/lang/Appendable"), (0, .class_ 4), (0, u "java/lang/Object")] 9

/-- java/lang/Appendable -/
def k11 : Class := { plain "java/lang/Appendable" (some 0) with
  accessFlags := 1537
  interfaces := #[]
  cf := some (fileOf pool11 1 #[] #[] 1537 3 #[] #[])
  fields := #[]
  methods := #[]
  instanceTypes := #[]
  staticTypes := #[]
  resolved := Array.replicate 14 none
  statics := none }

def pool12 : Array CpInfo := pool [(1, .class_ 2), (0, u "java/lang/String"), (0, .methodref 4 5), (0, .class_ 6), (0, .nameAndType 7 8), (0, u "java/lang/Object"), (0, u "<init>"), (0, u "()V"), (1, .class_ 12), (1, u "java/lang/AbstractStringBuilder"), (0, u "EMPTYVALUE"), (0, u "[B"), (0, .fieldref 10 16), (0, .nameAndType 17 14), (0, u "value"), (0, .fieldref 1 19), (0, .nameAndType 20 21), (0, u "COMPACT_STRINGS"), (0, u "Z"), (0, .fieldref 10 23), (0, .nameAndType 24 25), (0, u "coder"), (0, u "B"), (6, .methodref 1 33), (0, .nameAndType 34 35), (0, u "length"), (0, u "()I"), (4, .methodref 1 41), (0, .nameAndType 24 42), (0, u "()B"), (2, u "append"), (0, u "(Ljava/lang/String;)Ljava/lang/AbstractStringBuilder;"), (1, .class_ 49), (0, u "java/lang/CharSequence"), (19, u "(Ljava/lang/String;)V"), (5, u "maybeLatin1"), (3, .fieldref 10 80), (0, .nameAndType 81 82), (0, u "count"), (0, u "I"), (2, u "isLatin1"), (0, u "()Z"), (13, .methodref 10 101), (0, .nameAndType 102 103), (0, u "ensureCapacityInternal"), (0, u "(I)V"), (104, .methodref 10 209), (0, .nameAndType 210 211), (0, u "putStringAt"), (0, u "(ILjava/lang/String;)V"), (5, u "inflateIfNeededFor"), (2, .nameAndType 221 222), (0, u "getBytes"), (0, u "([BIB)V"), (174, .methodref 10 398), (0, .nameAndType 217 69), (0, .methodref 1 220), (3, u "()[B"), (40, .class_ 445), (0, u "java/lang/Appendable"), (106, u "getValue")] 56

def k12m0 : Method := { name := "<init>", desc := "()V", sig := { parameters := [], returnType := none }, accessFlags := 0, code := none }
def k12c1 : Code := { maxStack := 2, maxLocals := 2, code := jdk_68_method_2_code, exceptionTable := #[], attributes := #[] }
def k12m1 : Method := { name := "<init>", desc := "(I)V", sig := { parameters := [.int], returnType := none }, accessFlags := 0, code := some k12c1 }
def k12c2 : Code := { maxStack := 1, maxLocals := 1, code := jdk_68_method_6_code, exceptionTable := #[], attributes := #[] }
def k12m2 : Method := { name := "length", desc := "()I", sig := { parameters := [], returnType := some .int }, accessFlags := 1, code := some k12c2 }
def k12c3 : Code := { maxStack := 4, maxLocals := 3, code := jdk_68_method_9_code, exceptionTable := #[], attributes := #[] }
def k12m3 : Method := { name := "ensureCapacityInternal", desc := "(I)V", sig := { parameters := [.int], returnType := none }, accessFlags := 2, code := some k12c3 }
def k12c4 : Code := { maxStack := 3, maxLocals := 3, code := jdk_68_method_22_code, exceptionTable := #[], attributes := #[] }
def k12m4 : Method := { name := "append", desc := "(Ljava/lang/String;)Ljava/lang/AbstractStringBuilder;", sig := { parameters := [(.object "java/lang/String")], returnType := some (.object "java/lang/AbstractStringBuilder") }, accessFlags := 1, code := some k12c4 }
def k12c5 : Code := { maxStack := 1, maxLocals := 1, code := jdk_68_method_64_code, exceptionTable := #[], attributes := #[] }
def k12m5 : Method := { name := "getValue", desc := "()[B", sig := { parameters := [], returnType := some (.array .byte) }, accessFlags := 16, code := some k12c5 }
def k12c6 : Code := { maxStack := 1, maxLocals := 1, code := jdk_68_method_68_code, exceptionTable := #[], attributes := #[] }
def k12m6 : Method := { name := "isLatin1", desc := "()Z", sig := { parameters := [], returnType := some .boolean }, accessFlags := 16, code := some k12c6 }
def k12c7 : Code := { maxStack := 2, maxLocals := 2, code := jdk_68_method_71_code, exceptionTable := #[], attributes := #[] }
def k12m7 : Method := { name := "inflateIfNeededFor", desc := "(Ljava/lang/String;)V", sig := { parameters := [(.object "java/lang/String")], returnType := none }, accessFlags := 2, code := some k12c7 }
def k12c8 : Code := { maxStack := 4, maxLocals := 3, code := jdk_68_method_73_code, exceptionTable := #[], attributes := #[] }
def k12m8 : Method := { name := "putStringAt", desc := "(ILjava/lang/String;)V", sig := { parameters := [.int, (.object "java/lang/String")], returnType := none }, accessFlags := 2, code := some k12c8 }
/-- java/lang/AbstractStringBuilder -/
def k12 : Class := { plain "java/lang/AbstractStringBuilder" (some 0) with
  accessFlags := 1056
  interfaces := #[11, 4]
  cf := some (fileOf pool12 10 #[] #[{ accessFlags := 0, nameIndex := 7, descriptorIndex := 8, attributes := #[] }, { accessFlags := 0, nameIndex := 7, descriptorIndex := 103, attributes := #[] }, { accessFlags := 1, nameIndex := 34, descriptorIndex := 35, attributes := #[] }, { accessFlags := 2, nameIndex := 102, descriptorIndex := 103, attributes := #[] }, { accessFlags := 1, nameIndex := 45, descriptorIndex := 46, attributes := #[] }, { accessFlags := 16, nameIndex := 552, descriptorIndex := 403, attributes := #[] }, { accessFlags := 16, nameIndex := 85, descriptorIndex := 86, attributes := #[] }, { accessFlags := 2, nameIndex := 217, descriptorIndex := 69, attributes := #[] }, { accessFlags := 2, nameIndex := 210, descriptorIndex := 211, attributes := #[] }] 1056 4 #[444, 48] #[{ accessFlags := 0, nameIndex := 17, descriptorIndex := 14, attributes := #[] }, { accessFlags := 0, nameIndex := 24, descriptorIndex := 25, attributes := #[] }, { accessFlags := 0, nameIndex := 75, descriptorIndex := 21, attributes := #[] }, { accessFlags := 0, nameIndex := 81, descriptorIndex := 82, attributes := #[] }, { accessFlags := 26, nameIndex := 13, descriptorIndex := 14, attributes := #[] }])
  fields := #[{ name := "value", type := (.array .byte), accessFlags := 0, slot := 0, constantValue := 0 }, { name := "coder", type := .byte, accessFlags := 0, slot := 1, constantValue := 0 }, { name := "maybeLatin1", type := .boolean, accessFlags := 0, slot := 2, constantValue := 0 }, { name := "count", type := .int, accessFlags := 0, slot := 3, constantValue := 0 }, { name := "EMPTYVALUE", type := (.array .byte), accessFlags := 26, slot := 0, constantValue := 0 }]
  methods := #[k12m0, k12m1, k12m2, k12m3, k12m4, k12m5, k12m6, k12m7, k12m8]
  instanceTypes := #[(.array .byte), .byte, .boolean, .int]
  staticTypes := #[(.array .byte)]
  resolved := Array.replicate 609 none
  statics := none }

def pool13 : Array CpInfo := pool [(1, .methodref 2 3), (0, .class_ 4), (0, .nameAndType 5 6), (0, u "java/lang/AbstractStringBuilder"), (0, u "<init>"), (0, u "(I)V"), (11, .class_ 20), (1, u "java/lang/String"), (3, .class_ 26), (1, u "java/lang/StringBuilder"), (0, u "append"), (0, u "(Ljava/lang/String;)Ljava/lang/StringBuilder;"), (0, .methodref 2 30), (0, .nameAndType 27 31), (0, u "(Ljava/lang/String;)Ljava/lang/AbstractStringBuilder;"), (105, .methodref 18 138), (0, .nameAndType 5 139), (0, u "(Ljava/lang/StringBuilder;)V"), (5, u "()V"), (10, u "()I"), (186, .methodref 2 344), (0, .nameAndType 345 156), (0, u "length"), (3, .class_ 350), (0, u "java/lang/Appendable"), (0, .class_ 352), (0, u "java/io/Serializable"), (0, .class_ 354), (0, u "java/lang/Comparable"), (0, .class_ 356), (0, u "java/lang/CharSequence"), (0, u "serialVersionUID"), (0, u "J"), (40, u "toString"), (0, u "()Ljava/lang/String;")] 21

def k13c0 : Code := { maxStack := 2, maxLocals := 1, code := jdk_67_method_1_code, exceptionTable := #[], attributes := #[] }
def k13m0 : Method := { name := "<init>", desc := "()V", sig := { parameters := [], returnType := none }, accessFlags := 1, code := some k13c0 }
def k13c1 : Code := { maxStack := 2, maxLocals := 2, code := jdk_67_method_7_code, exceptionTable := #[], attributes := #[] }
def k13m1 : Method := { name := "append", desc := "(Ljava/lang/String;)Ljava/lang/StringBuilder;", sig := { parameters := [(.object "java/lang/String")], returnType := some (.object "java/lang/StringBuilder") }, accessFlags := 1, code := some k13c1 }
def k13c2 : Code := { maxStack := 3, maxLocals := 1, code := jdk_67_method_42_code, exceptionTable := #[], attributes := #[] }
def k13m2 : Method := { name := "toString", desc := "()Ljava/lang/String;", sig := { parameters := [], returnType := some (.object "java/lang/String") }, accessFlags := 1, code := some k13c2 }
def k13c3 : Code := { maxStack := 1, maxLocals := 1, code := jdk_67_method_93_code, exceptionTable := #[], attributes := #[] }
def k13m3 : Method := { name := "length", desc := "()I", sig := { parameters := [], returnType := some .int }, accessFlags := 4161, code := some k13c3 }
/-- java/lang/StringBuilder -/
def k13 : Class := { plain "java/lang/StringBuilder" (some 12) with
  accessFlags := 49
  interfaces := #[11, 2, 3, 4]
  cf := some (fileOf pool13 24 #[] #[{ accessFlags := 1, nameIndex := 5, descriptorIndex := 145, attributes := #[] }, { accessFlags := 1, nameIndex := 27, descriptorIndex := 28, attributes := #[] }, { accessFlags := 1, nameIndex := 399, descriptorIndex := 400, attributes := #[] }, { accessFlags := 4161, nameIndex := 345, descriptorIndex := 156, attributes := #[] }] 49 2 #[349, 351, 353, 355] #[{ accessFlags := 24, nameIndex := 357, descriptorIndex := 358, attributes := #[] }])
  fields := #[{ name := "serialVersionUID", type := .long, accessFlags := 24, slot := 0, constantValue := 0 }]
  methods := #[k13m0, k13m1, k13m2, k13m3]
  instanceTypes := #[(.array .byte), .byte, .boolean, .int]
  staticTypes := #[.long]
  resolved := Array.replicate 422 none
  statics := none }

def pool14 : Array CpInfo := pool [(2, .class_ 4), (1, u "java/lang/Object"), (0, u "<init>"), (0, u "()V"), (1, .class_ 10), (1, u "java/lang/System"), (0, u "allowSecurityManager"), (0, u "I"), (16, u "cons"), (0, u "Ljava/io/Console;"), (77, .class_ 110), (1, u "java/lang/System$CallersHolder"), (43, u "initialErrStream"), (0, u "Ljava/io/PrintStream;"), (19, u "security"), (0, u "Ljava/lang/SecurityManager;"), (31, .class_ 209), (0, u "java/lang/System$1"), (7, u "props"), (0, u "Ljava/util/Properties;"), (2, u "lineSeparator"), (0, u "Ljava/lang/String;"), (96, .class_ 321), (1, u "java/lang/System$LoggerFinder"), (5, .class_ 328), (0, u "java/lang/System$Logger"), (67, u "err"), (2, u "out"), (91, u "notSupportedJnuEncoding"), (15, u "in"), (17, u "initialIn"), (0, u "Ljava/io/InputStream;"), (35, u "bootLayer"), (0, u "Ljava/lang/ModuleLayer;"), (99, .class_ 664), (0, u "java/lang/System$2"), (9, u "NEVER"), (2, u "MAYBE"), (49, u "arraycopy"), (0, u "(Ljava/lang/Object;ILjava/lang/Object;II)V"), (72, .class_ 802), (0, u "java/lang/System$Logger$Level")] 31

def k14m0 : Method := { name := "<init>", desc := "()V", sig := { parameters := [], returnType := none }, accessFlags := 2, code := none }
def k14m1 : Method := { name := "arraycopy", desc := "(Ljava/lang/Object;ILjava/lang/Object;II)V", sig := { parameters := [(.object "java/lang/Object"), .int, (.object "java/lang/Object"), .int, .int], returnType := none }, accessFlags := 265, code := none }
/-- java/lang/System -/
def k14 : Class := { plain "java/lang/System" (some 0) with
  accessFlags := 49
  interfaces := #[]
  cf := some (fileOf pool14 8 #[.nestMembers #[319, 327, 801, 108, 663, 208]] #[{ accessFlags := 2, nameIndex := 5, descriptorIndex := 6, attributes := #[] }, { accessFlags := 265, nameIndex := 727, descriptorIndex := 728, attributes := #[] }] 49 2 #[] #[{ accessFlags := 25, nameIndex := 507, descriptorIndex := 526, attributes := #[] }, { accessFlags := 25, nameIndex := 399, descriptorIndex := 155, attributes := #[] }, { accessFlags := 25, nameIndex := 396, descriptorIndex := 155, attributes := #[] }, { accessFlags := 10, nameIndex := 525, descriptorIndex := 526, attributes := #[] }, { accessFlags := 26, nameIndex := 674, descriptorIndex := 12, attributes := #[] }, { accessFlags := 26, nameIndex := 677, descriptorIndex := 12, attributes := #[] }, { accessFlags := 10, nameIndex := 11, descriptorIndex := 12, attributes := #[] }, { accessFlags := 74, nameIndex := 175, descriptorIndex := 176, attributes := #[] }, { accessFlags := 10, nameIndex := 491, descriptorIndex := 222, attributes := #[] }, { accessFlags := 74, nameIndex := 29, descriptorIndex := 30, attributes := #[] }, { accessFlags := 74, nameIndex := 154, descriptorIndex := 155, attributes := #[] }, { accessFlags := 10, nameIndex := 217, descriptorIndex := 218, attributes := #[] }, { accessFlags := 10, nameIndex := 221, descriptorIndex := 222, attributes := #[] }, { accessFlags := 8, nameIndex := 562, descriptorIndex := 563, attributes := #[] }])
  fields := #[{ name := "in", type := (.object "java/io/InputStream"), accessFlags := 25, slot := 0, constantValue := 0 }, { name := "out", type := (.object "java/io/PrintStream"), accessFlags := 25, slot := 1, constantValue := 0 }, { name := "err", type := (.object "java/io/PrintStream"), accessFlags := 25, slot := 2, constantValue := 0 }, { name := "initialIn", type := (.object "java/io/InputStream"), accessFlags := 10, slot := 3, constantValue := 0 }, { name := "NEVER", type := .int, accessFlags := 26, slot := 4, constantValue := 0 }, { name := "MAYBE", type := .int, accessFlags := 26, slot := 5, constantValue := 0 }, { name := "allowSecurityManager", type := .int, accessFlags := 10, slot := 6, constantValue := 0 }, { name := "security", type := (.object "java/lang/SecurityManager"), accessFlags := 74, slot := 7, constantValue := 0 }, { name := "notSupportedJnuEncoding", type := (.object "java/lang/String"), accessFlags := 10, slot := 8, constantValue := 0 }, { name := "cons", type := (.object "java/io/Console"), accessFlags := 74, slot := 9, constantValue := 0 }, { name := "initialErrStream", type := (.object "java/io/PrintStream"), accessFlags := 74, slot := 10, constantValue := 0 }, { name := "props", type := (.object "java/util/Properties"), accessFlags := 10, slot := 11, constantValue := 0 }, { name := "lineSeparator", type := (.object "java/lang/String"), accessFlags := 10, slot := 12, constantValue := 0 }, { name := "bootLayer", type := (.object "java/lang/ModuleLayer"), accessFlags := 8, slot := 13, constantValue := 0 }]
  methods := #[k14m0, k14m1]
  instanceTypes := #[]
  staticTypes := #[(.object "java/io/InputStream"), (.object "java/io/PrintStream"), (.object "java/io/PrintStream"), (.object "java/io/InputStream"), .int, .int, .int, (.object "java/lang/SecurityManager"), (.object "java/lang/String"), (.object "java/io/Console"), (.object "java/io/PrintStream"), (.object "java/util/Properties"), (.object "java/lang/String"), (.object "java/lang/ModuleLayer")]
  resolved := Array.replicate 834 none
  statics := none }

def pool15 : Array CpInfo := pool [(2, .class_ 4), (1, u "java/lang/Object"), (0, u "<init>"), (0, u "()V"), (7, .class_ 16), (1, u "java/util/Arrays"), (57, .class_ 76), (1, u "java/util/Arrays$NaturalOrder"), (36, .class_ 115), (1, u "java/util/Arrays$LegacyMergeSort"), (1, u "Z"), (21, u "copyOfRange"), (10, .methodref 151 152), (0, .class_ 153), (0, .nameAndType 154 155), (0, u "java/lang/System"), (0, u "arraycopy"), (0, u "(Ljava/lang/Object;ILjava/lang/Object;II)V"), (148, .methodref 305 306), (0, .class_ 307), (0, .nameAndType 308 309), (0, u "java/lang/Math"), (0, u "min"), (0, u "(II)I"), (29, .methodref 14 340), (0, .nameAndType 341 342), (0, u "copyOfRangeByte"), (0, u "([BII)[B"), (0, .methodref 14 344), (0, .nameAndType 345 346), (0, u "checkLength"), (0, u "(II)V"), (28, .class_ 376), (0, u "java/util/Arrays$ArrayList"), (68, u "$assertionsDisabled"), (269, u "MIN_ARRAY_SORT_GRAN"), (0, u "I"), (2, u "INSERTIONSORT_THRESHOLD"), (255, .class_ 976), (0, u "java/util/Arrays$ArrayItr")] 52

def k15m0 : Method := { name := "<init>", desc := "()V", sig := { parameters := [], returnType := none }, accessFlags := 2, code := none }
def k15c1 : Code := { maxStack := 4, maxLocals := 2, code := jdk_65_method_131_code, exceptionTable := #[], attributes := #[] }
def k15m1 : Method := { name := "checkLength", desc := "(II)V", sig := { parameters := [.int, .int], returnType := none }, accessFlags := 10, code := some k15c1 }
def k15c2 : Code := { maxStack := 3, maxLocals := 3, code := jdk_65_method_132_code, exceptionTable := #[], attributes := #[] }
def k15m2 : Method := { name := "copyOfRange", desc := "([BII)[B", sig := { parameters := [(.array .byte), .int, .int], returnType := some (.array .byte) }, accessFlags := 9, code := some k15c2 }
def k15c3 : Code := { maxStack := 6, maxLocals := 5, code := jdk_65_method_133_code, exceptionTable := #[], attributes := #[] }
def k15m3 : Method := { name := "copyOfRangeByte", desc := "([BII)[B", sig := { parameters := [(.array .byte), .int, .int], returnType := some (.array .byte) }, accessFlags := 10, code := some k15c3 }
/-- java/util/Arrays -/
def k15 : Class := { plain "java/util/Arrays" (some 0) with
  accessFlags := 49
  interfaces := #[]
  cf := some (fileOf pool15 14 #[.nestMembers #[975, 375, 113, 74]] #[{ accessFlags := 2, nameIndex := 5, descriptorIndex := 6, attributes := #[] }, { accessFlags := 10, nameIndex := 345, descriptorIndex := 346, attributes := #[] }, { accessFlags := 9, nameIndex := 139, descriptorIndex := 342, attributes := #[] }, { accessFlags := 10, nameIndex := 341, descriptorIndex := 342, attributes := #[] }] 49 2 #[] #[{ accessFlags := 26, nameIndex := 715, descriptorIndex := 716, attributes := #[] }, { accessFlags := 26, nameIndex := 719, descriptorIndex := 716, attributes := #[] }, { accessFlags := 4120, nameIndex := 445, descriptorIndex := 117, attributes := #[] }])
  fields := #[{ name := "MIN_ARRAY_SORT_GRAN", type := .int, accessFlags := 26, slot := 0, constantValue := 0 }, { name := "INSERTIONSORT_THRESHOLD", type := .int, accessFlags := 26, slot := 1, constantValue := 0 }, { name := "$assertionsDisabled", type := .boolean, accessFlags := 4120, slot := 2, constantValue := 0 }]
  methods := #[k15m0, k15m1, k15m2, k15m3]
  instanceTypes := #[]
  staticTypes := #[.int, .int, .boolean]
  resolved := Array.replicate 1029 none
  statics := none }

def pool16 : Array CpInfo := pool [(1, .class_ 2), (0, u "java/lang/Math"), (1, .class_ 6), (1, u "java/lang/Object"), (0, u "<init>"), (0, u "()V"), (89, .class_ 100), (1, u "java/lang/Math$RandomNumberGeneratorHolder"), (71, u "negativeZeroFloatBits"), (0, u "J"), (2, u "negativeZeroDoubleBits"), (24, u "min"), (43, u "$assertionsDisabled"), (0, u "Z"), (88, u "(II)I"), (2, u "twoToTheDoubleScaleDown"), (0, u "D"), (4, u "twoToTheDoubleScaleUp"), (9, u "E"), (3, u "PI"), (2, u "TAU"), (2, u "DEGREES_TO_RADIANS"), (0, u "RADIANS_TO_DEGREES")] 94

def k16m0 : Method := { name := "<init>", desc := "()V", sig := { parameters := [], returnType := none }, accessFlags := 2, code := none }
def k16c1 : Code := { maxStack := 2, maxLocals := 2, code := jdk_29_method_69_code, exceptionTable := #[], attributes := #[] }
def k16m1 : Method := { name := "min", desc := "(II)I", sig := { parameters := [.int, .int], returnType := some .int }, accessFlags := 9, code := some k16c1 }
/-- java/lang/Math -/
def k16 : Class := { plain "java/lang/Math" (some 0) with
  accessFlags := 49
  interfaces := #[]
  cf := some (fileOf pool16 1 #[.nestMembers #[98]] #[{ accessFlags := 2, nameIndex := 7, descriptorIndex := 8, attributes := #[] }, { accessFlags := 9, nameIndex := 201, descriptorIndex := 335, attributes := #[] }] 49 4 #[] #[{ accessFlags := 25, nameIndex := 354, descriptorIndex := 339, attributes := #[] }, { accessFlags := 25, nameIndex := 358, descriptorIndex := 339, attributes := #[] }, { accessFlags := 25, nameIndex := 361, descriptorIndex := 339, attributes := #[] }, { accessFlags := 26, nameIndex := 364, descriptorIndex := 339, attributes := #[] }, { accessFlags := 26, nameIndex := 365, descriptorIndex := 339, attributes := #[] }, { accessFlags := 26, nameIndex := 172, descriptorIndex := 173, attributes := #[] }, { accessFlags := 26, nameIndex := 176, descriptorIndex := 173, attributes := #[] }, { accessFlags := 8, nameIndex := 344, descriptorIndex := 339, attributes := #[] }, { accessFlags := 8, nameIndex := 338, descriptorIndex := 339, attributes := #[] }, { accessFlags := 4120, nameIndex := 245, descriptorIndex := 246, attributes := #[] }])
  fields := #[{ name := "E", type := .double, accessFlags := 25, slot := 0, constantValue := 0 }, { name := "PI", type := .double, accessFlags := 25, slot := 1, constantValue := 0 }, { name := "TAU", type := .double, accessFlags := 25, slot := 2, constantValue := 0 }, { name := "DEGREES_TO_RADIANS", type := .double, accessFlags := 26, slot := 3, constantValue := 0 }, { name := "RADIANS_TO_DEGREES", type := .double, accessFlags := 26, slot := 4, constantValue := 0 }, { name := "negativeZeroFloatBits", type := .long, accessFlags := 26, slot := 5, constantValue := 0 }, { name := "negativeZeroDoubleBits", type := .long, accessFlags := 26, slot := 6, constantValue := 0 }, { name := "twoToTheDoubleScaleUp", type := .double, accessFlags := 8, slot := 7, constantValue := 0 }, { name := "twoToTheDoubleScaleDown", type := .double, accessFlags := 8, slot := 8, constantValue := 0 }, { name := "$assertionsDisabled", type := .boolean, accessFlags := 4120, slot := 9, constantValue := 0 }]
  methods := #[k16m0, k16m1]
  instanceTypes := #[]
  staticTypes := #[.double, .double, .double, .double, .double, .long, .long, .double, .double, .boolean]
  resolved := Array.replicate 460 none
  statics := none }

def pool17 : Array CpInfo := pool [(2, .class_ 4), (1, u "java/lang/Object"), (0, u "<init>"), (0, u "()V"), (17, .class_ 26), (1, u "jdk/internal/util/Preconditions"), (6, u "checkIndex"), (21, .class_ 56), (0, u "jdk/internal/util/Preconditions$4"), (57, .class_ 115), (0, u "jdk/internal/util/Preconditions$1"), (7, u "SIOOBE_FORMATTER"), (0, u "Ljava/util/function/BiFunction;"), (0, .class_ 126), (0, u "jdk/internal/util/Preconditions$2"), (3, u "AIOOBE_FORMATTER"), (0, .class_ 132), (0, u "jdk/internal/util/Preconditions$3"), (3, u "IOOBE_FORMATTER"), (41, u "(IILjava/util/function/BiFunction;)I")] 15

def k17m0 : Method := { name := "<init>", desc := "()V", sig := { parameters := [], returnType := none }, accessFlags := 1, code := none }
def k17c1 : Code := { maxStack := 3, maxLocals := 3, code := jdk_41_method_11_code, exceptionTable := #[], attributes := #[] }
def k17m1 : Method := { name := "checkIndex", desc := "(IILjava/util/function/BiFunction;)I", sig := { parameters := [.int, .int, (.object "java/util/function/BiFunction")], returnType := some .int }, accessFlags := 9, code := some k17c1 }
/-- jdk/internal/util/Preconditions -/
def k17 : Class := { plain "jdk/internal/util/Preconditions" (some 0) with
  accessFlags := 33
  interfaces := #[]
  cf := some (fileOf pool17 24 #[.nestMembers #[55, 131, 125, 114]] #[{ accessFlags := 1, nameIndex := 5, descriptorIndex := 6, attributes := #[] }, { accessFlags := 9, nameIndex := 33, descriptorIndex := 178, attributes := #[] }] 33 2 #[] #[{ accessFlags := 25, nameIndex := 123, descriptorIndex := 124, attributes := #[] }, { accessFlags := 25, nameIndex := 130, descriptorIndex := 124, attributes := #[] }, { accessFlags := 25, nameIndex := 136, descriptorIndex := 124, attributes := #[] }])
  fields := #[{ name := "SIOOBE_FORMATTER", type := (.object "java/util/function/BiFunction"), accessFlags := 25, slot := 0, constantValue := 0 }, { name := "AIOOBE_FORMATTER", type := (.object "java/util/function/BiFunction"), accessFlags := 25, slot := 1, constantValue := 0 }, { name := "IOOBE_FORMATTER", type := (.object "java/util/function/BiFunction"), accessFlags := 25, slot := 2, constantValue := 0 }]
  methods := #[k17m0, k17m1]
  instanceTypes := #[]
  staticTypes := #[(.object "java/util/function/BiFunction"), (.object "java/util/function/BiFunction"), (.object "java/util/function/BiFunction")]
  resolved := Array.replicate 194 none
  statics := some 1 }

def pool18 : Array CpInfo := pool [(6, .class_ 8), (1, u "java/lang/Object"), (0, u "<init>"), (0, u "()V"), (1, .class_ 14), (1, u "java/lang/StringUTF16"), (31, u "$assertionsDisabled"), (0, u "Z"), (13, u "HI_BYTE_SHIFT"), (0, u "I"), (2, u "LO_BYTE_SHIFT"), (49, .methodref 12 116), (0, .nameAndType 117 118), (0, u "compress"), (0, u "([CI[BII)I"), (3, u "([CII)[B"), (138, u "coderFromArrayLen"), (0, u "([BI)B"), (106, .class_ 371), (1, u "java/lang/StringUTF16$LinesSpliterator"), (58, u "MAX_LENGTH"), (196, .class_ 628), (0, u "java/lang/StringUTF16$CodePointsSpliterator"), (0, .class_ 630), (0, u "java/lang/StringUTF16$CharsSpliterator")] 4

def k18m0 : Method := { name := "<init>", desc := "()V", sig := { parameters := [], returnType := none }, accessFlags := 0, code := none }
def k18c1 : Code := { maxStack := 2, maxLocals := 2, code := jdk_52_method_15_code, exceptionTable := #[], attributes := #[] }
def k18m1 : Method := { name := "coderFromArrayLen", desc := "([BI)B", sig := { parameters := [(.array .byte), .int], returnType := some .byte }, accessFlags := 8, code := some k18c1 }
def k18c2 : Code := { maxStack := 5, maxLocals := 6, code := jdk_52_method_16_code, exceptionTable := #[], attributes := #[] }
def k18m2 : Method := { name := "compress", desc := "([CII)[B", sig := { parameters := [(.array .char), .int, .int], returnType := some (.array .byte) }, accessFlags := 9, code := some k18c2 }
def k18c3 : Code := { maxStack := 3, maxLocals := 7, code := jdk_52_method_21_code, exceptionTable := #[], attributes := #[] }
def k18m3 : Method := { name := "compress", desc := "([CI[BII)I", sig := { parameters := [(.array .char), .int, (.array .byte), .int, .int], returnType := some .int }, accessFlags := 9, code := some k18c3 }
/-- java/lang/StringUTF16 -/
def k18 : Class := { plain "java/lang/StringUTF16" (some 0) with
  accessFlags := 48
  interfaces := #[]
  cf := some (fileOf pool18 12 #[.nestMembers #[627, 629, 369]] #[{ accessFlags := 0, nameIndex := 9, descriptorIndex := 10, attributes := #[] }, { accessFlags := 8, nameIndex := 261, descriptorIndex := 262, attributes := #[] }, { accessFlags := 9, nameIndex := 117, descriptorIndex := 122, attributes := #[] }, { accessFlags := 9, nameIndex := 117, descriptorIndex := 118, attributes := #[] }] 48 6 #[] #[{ accessFlags := 26, nameIndex := 61, descriptorIndex := 62, attributes := #[] }, { accessFlags := 26, nameIndex := 65, descriptorIndex := 62, attributes := #[] }, { accessFlags := 24, nameIndex := 430, descriptorIndex := 62, attributes := #[] }, { accessFlags := 4120, nameIndex := 46, descriptorIndex := 47, attributes := #[] }])
  fields := #[{ name := "HI_BYTE_SHIFT", type := .int, accessFlags := 26, slot := 0, constantValue := 0 }, { name := "LO_BYTE_SHIFT", type := .int, accessFlags := 26, slot := 1, constantValue := 0 }, { name := "MAX_LENGTH", type := .int, accessFlags := 24, slot := 2, constantValue := 0 }, { name := "$assertionsDisabled", type := .boolean, accessFlags := 4120, slot := 3, constantValue := 0 }]
  methods := #[k18m0, k18m1, k18m2, k18m3]
  instanceTypes := #[]
  staticTypes := #[.int, .int, .int, .boolean]
  resolved := Array.replicate 635 none
  statics := none }

def pool19 : Array CpInfo := pool [(9, u "<init>"), (6, .class_ 18), (1, u "java/lang/Object"), (0, u "()V"), (1, .class_ 23), (1, u "jdk/internal/util/ArraysSupport"), (0, u "LOG2_ARRAY_LONG_INDEX_SCALE"), (0, u "I"), (2, u "U"), (0, u "Ljdk/internal/misc/Unsafe;"), (8, u "BIG_ENDIAN"), (0, u "Z"), (8, u "LOG2_BYTE_BIT_SIZE"), (4, u "LOG2_ARRAY_INT_INDEX_SCALE"), (54, u "JLA"), (0, u "Ljdk/internal/access/JavaLangAccess;"), (11, u "LOG2_ARRAY_BOOLEAN_INDEX_SCALE"), (9, u "LOG2_ARRAY_BYTE_INDEX_SCALE"), (5, u "LOG2_ARRAY_CHAR_INDEX_SCALE"), (5, u "LOG2_ARRAY_SHORT_INDEX_SCALE"), (18, u "LOG2_ARRAY_FLOAT_INDEX_SCALE"), (24, u "LOG2_ARRAY_DOUBLE_INDEX_SCALE"), (89, u "T_BOOLEAN"), (2, u "T_CHAR"), (1, u "T_FLOAT"), (1, u "T_DOUBLE"), (1, u "T_BYTE"), (1, u "T_SHORT"), (1, u "T_INT"), (1, u "T_LONG"), (1, u "SOFT_MAX_ARRAY_LENGTH")] 83

def k19m0 : Method := { name := "<init>", desc := "()V", sig := { parameters := [], returnType := none }, accessFlags := 2, code := none }
/-- jdk/internal/util/ArraysSupport -/
def k19 : Class := { plain "jdk/internal/util/ArraysSupport" (some 0) with
  accessFlags := 33
  interfaces := #[]
  cf := some (fileOf pool19 21 #[] #[{ accessFlags := 2, nameIndex := 9, descriptorIndex := 19, attributes := #[] }] 33 16 #[] #[{ accessFlags := 24, nameIndex := 28, descriptorIndex := 29, attributes := #[] }, { accessFlags := 26, nameIndex := 38, descriptorIndex := 39, attributes := #[] }, { accessFlags := 25, nameIndex := 121, descriptorIndex := 25, attributes := #[] }, { accessFlags := 25, nameIndex := 131, descriptorIndex := 25, attributes := #[] }, { accessFlags := 25, nameIndex := 137, descriptorIndex := 25, attributes := #[] }, { accessFlags := 25, nameIndex := 143, descriptorIndex := 25, attributes := #[] }, { accessFlags := 25, nameIndex := 53, descriptorIndex := 25, attributes := #[] }, { accessFlags := 25, nameIndex := 24, descriptorIndex := 25, attributes := #[] }, { accessFlags := 25, nameIndex := 162, descriptorIndex := 25, attributes := #[] }, { accessFlags := 25, nameIndex := 187, descriptorIndex := 25, attributes := #[] }, { accessFlags := 26, nameIndex := 48, descriptorIndex := 25, attributes := #[] }, { accessFlags := 25, nameIndex := 277, descriptorIndex := 25, attributes := #[] }, { accessFlags := 25, nameIndex := 280, descriptorIndex := 25, attributes := #[] }, { accessFlags := 25, nameIndex := 282, descriptorIndex := 25, attributes := #[] }, { accessFlags := 25, nameIndex := 284, descriptorIndex := 25, attributes := #[] }, { accessFlags := 25, nameIndex := 286, descriptorIndex := 25, attributes := #[] }, { accessFlags := 25, nameIndex := 288, descriptorIndex := 25, attributes := #[] }, { accessFlags := 25, nameIndex := 290, descriptorIndex := 25, attributes := #[] }, { accessFlags := 25, nameIndex := 292, descriptorIndex := 25, attributes := #[] }, { accessFlags := 26, nameIndex := 108, descriptorIndex := 109, attributes := #[] }, { accessFlags := 25, nameIndex := 294, descriptorIndex := 25, attributes := #[] }])
  fields := #[{ name := "U", type := (.object "jdk/internal/misc/Unsafe"), accessFlags := 24, slot := 0, constantValue := 0 }, { name := "BIG_ENDIAN", type := .boolean, accessFlags := 26, slot := 1, constantValue := 0 }, { name := "LOG2_ARRAY_BOOLEAN_INDEX_SCALE", type := .int, accessFlags := 25, slot := 2, constantValue := 0 }, { name := "LOG2_ARRAY_BYTE_INDEX_SCALE", type := .int, accessFlags := 25, slot := 3, constantValue := 0 }, { name := "LOG2_ARRAY_CHAR_INDEX_SCALE", type := .int, accessFlags := 25, slot := 4, constantValue := 0 }, { name := "LOG2_ARRAY_SHORT_INDEX_SCALE", type := .int, accessFlags := 25, slot := 5, constantValue := 0 }, { name := "LOG2_ARRAY_INT_INDEX_SCALE", type := .int, accessFlags := 25, slot := 6, constantValue := 0 }, { name := "LOG2_ARRAY_LONG_INDEX_SCALE", type := .int, accessFlags := 25, slot := 7, constantValue := 0 }, { name := "LOG2_ARRAY_FLOAT_INDEX_SCALE", type := .int, accessFlags := 25, slot := 8, constantValue := 0 }, { name := "LOG2_ARRAY_DOUBLE_INDEX_SCALE", type := .int, accessFlags := 25, slot := 9, constantValue := 0 }, { name := "LOG2_BYTE_BIT_SIZE", type := .int, accessFlags := 26, slot := 10, constantValue := 0 }, { name := "T_BOOLEAN", type := .int, accessFlags := 25, slot := 11, constantValue := 0 }, { name := "T_CHAR", type := .int, accessFlags := 25, slot := 12, constantValue := 0 }, { name := "T_FLOAT", type := .int, accessFlags := 25, slot := 13, constantValue := 0 }, { name := "T_DOUBLE", type := .int, accessFlags := 25, slot := 14, constantValue := 0 }, { name := "T_BYTE", type := .int, accessFlags := 25, slot := 15, constantValue := 0 }, { name := "T_SHORT", type := .int, accessFlags := 25, slot := 16, constantValue := 0 }, { name := "T_INT", type := .int, accessFlags := 25, slot := 17, constantValue := 0 }, { name := "T_LONG", type := .int, accessFlags := 25, slot := 18, constantValue := 0 }, { name := "JLA", type := (.object "jdk/internal/access/JavaLangAccess"), accessFlags := 26, slot := 19, constantValue := 0 }, { name := "SOFT_MAX_ARRAY_LENGTH", type := .int, accessFlags := 25, slot := 20, constantValue := 0 }]
  methods := #[k19m0]
  instanceTypes := #[]
  staticTypes := #[(.object "jdk/internal/misc/Unsafe"), .boolean, .int, .int, .int, .int, .int, .int, .int, .int, .int, .int, .int, .int, .int, .int, .int, .int, .int, (.object "jdk/internal/access/JavaLangAccess"), .int]
  resolved := Array.replicate 378 none
  statics := none }

def pool20 : Array CpInfo := pool [(1, u "java/lang/Cloneable"), (0, .class_ 1), (0, u "java/lang/Object"), (0, .class_ 3)] 3

/-- java/lang/Cloneable -/
def k20 : Class := { plain "java/lang/Cloneable" (some 0) with
  accessFlags := 1537
  interfaces := #[]
  cf := some (fileOf pool20 2 #[] #[] 1537 4 #[] #[])
  fields := #[]
  methods := #[]
  instanceTypes := #[]
  staticTypes := #[]
  resolved := Array.replicate 8 none
  statics := none }

/-- the primitive byte -/
def k21 : Class := { plain "byte" none with kind := .primitive 'B', accessFlags := 0x411 }
/-- [B -/
def k22 : Class := { plain "[B" (some 0) with kind := .array 21 .byte, interfaces := #[20, 2], accessFlags := 1041 }

/-- the primitive char -/
def k23 : Class := { plain "char" none with kind := .primitive 'C', accessFlags := 0x411 }
/-- [C -/
def k24 : Class := { plain "[C" (some 0) with kind := .array 23 .char, interfaces := #[20, 2], accessFlags := 1041 }

/-- the primitive int -/
def k25 : Class := { plain "int" none with kind := .primitive 'I', accessFlags := 0x411 }
/-- [I -/
def k26 : Class := { plain "[I" (some 0) with kind := .array 25 .int, interfaces := #[20, 2], accessFlags := 1041 }

def heap : Heap := #[{ cls := 7, slots := #[.long 0, .int 1, .null, .int 0, .null, .int 0, .int 0], vm := .statics 7 },
  { cls := 17, slots := #[.null, .null, .null], vm := .statics 17 }]
def classes : Array Class := #[k0, k1, k2, k3, k4, k5, k6, k7, k8, k9, k10, k11, k12, k13, k14, k15, k16, k17, k18, k19, k20, k21, k22, k23, k24, k25, k26]
def interned : List (Array UInt16 × Addr) := []
def slotsUsed : Nat := 10
def theMethod : MethodId := ⟨1, 1⟩
def args0 : Array Value := #[.int 5, .int 5, .int 5, .int 5]
def aboutOver (below : List Frame) : State where
  vm := { classes := classes, interned := interned.toArray }
  heap := heap
  slotsUsed := slotsUsed
  threads := #[{ frames := .invoking theMethod args0 :: below }]
def below0 : List Frame := [.native { method := ⟨0, 0⟩, args := #[] }]
def about1 : State := aboutOver below0
def p0 : Program := .bare "" "" ""
def e0 : Env := launch0.env 0 0 0
theorem w_frames : about1.frames = Frame.invoking theMethod args0 :: below0 := rfl
set_option maxRecDepth 65536 in
theorem w_args : argsFit about1.vm theMethod args0 = true := by decide +kernel
set_option maxRecDepth 65536 in
theorem w_heap : heapFits about1 = true := by decide +kernel
set_option maxRecDepth 65536 in
theorem w_runnable : about1.curStatus? = some .runnable := by decide +kernel
set_option maxRecDepth 65536 in
theorem w_alone : about1.alone = true := by decide +kernel
set_option maxRecDepth 65536 in
theorem w_named : about1.methodNamed? x = some theMethod := by decide +kernel
set_option maxRecDepth 65536 in
theorem w_hears : about1.hears theMethod below0 = true := by decide +kernel
set_option maxRecDepth 65536 in
theorem w_ripe : about1.ripe theMethod args0 below0 = true := by decide +kernel
theorem w_running : about1.status = .running := rfl
set_option maxRecDepth 65536 in
theorem w_room : about1.hasRoom e0.platform room_1 = true :=
  launch0.hasRoom_least _ room_1 (by decide +kernel) (by decide +kernel) (by decide +kernel) (by decide +kernel) (by decide +kernel) (by decide +kernel)
theorem allAtoms_all (ts : List Jvm.Cond) (a : Array Jvm.Value) (st : Jvm.State) : (allAtoms ts).before a st = ts.all (fun c => c.before a st) := by
  induction ts with
  | nil => rfl
  | cons c t ih =>
    show (Jvm.Cond.and c (allAtoms t)).before a st = _
    rw [Jvm.Cond.before_and, ih, List.all_cons]
def words1 : List Jvm.Cond := Jvm.Cond.code x code maxLocals ret :: tables_1
/-- a 'code' word, met by the world's own term for the bytes: nothing is compared byte by byte -/
theorem code_word {y : MethodName} {bytes : ByteArray} {mx : Nat} {rt : Option FieldType} {a : Array Value} {s : State} {m : MethodId} {meth : Method} {c : Code} (h1 : s.methodNamed? y = some m) (h2 : s.vm.method? m = some meth) (h3 : meth.code = some c) (h4 : c.code = bytes)
    (h5 : (c.maxLocals == mx && c.exceptionTable.isEmpty && decide (c.maxStack ≤ mostOperands) && decide (meth.sig.returnType = rt) && !meth.locks && decide (parseMethodDescriptor y.desc = some meth.sig)) = true) : (Jvm.Cond.code y bytes mx rt).before a s = true := by
  simp only [Bool.and_eq_true, beq_iff_eq, Bool.not_eq_true', decide_eq_true_eq] at h5
  obtain ⟨⟨⟨⟨⟨g1, g2⟩, g3⟩, g4⟩, g5⟩, g6⟩ := h5
  simp [Cond.before, Cond.holds, Cond.value, h1, h2, h3, h4, g1, g2, g3, g4, g5, g6]
def isCode : Jvm.Cond → Bool
  | .code _ _ _ _ => true
  | _ => false
theorem all_split {L : List Jvm.Cond} {P : Jvm.Cond → Bool} (h1 : L.all (fun c => isCode c || P c) = true) (h2 : ∀ c ∈ L.filter isCode, P c = true) : L.all P = true := by
  refine List.all_eq_true.mpr fun c hc => ?_
  have h := List.all_eq_true.mp h1 c hc
  rcases Bool.eq_false_or_eq_true (isCode c) with hi | hi
  · exact h2 c (List.mem_filter.mpr ⟨hc, hi⟩)
  · simpa [hi] using h
set_option maxRecDepth 65536 in
theorem w_c0 : (Jvm.Cond.code x code maxLocals ret).before args0 about1 = true := code_word (m := ⟨1, 1⟩) (meth := k1m1) (c := k1c1) (by decide +kernel) rfl rfl rfl (by decide +kernel)
set_option maxRecDepth 65536 in
theorem w_c1 : (Jvm.Cond.code ({ cls := "com/example/installwright/installwright/formats/MarkerToStringPinLaw", name := "mk", desc := "(ICC)Ljava/lang/String;" } : Jvm.MethodName) method_3_code (4 : Nat) (Option.some (Jvm.ClassFile.FieldType.object "java/lang/String"))).before args0 about1 = true := code_word (m := ⟨1, 2⟩) (meth := k1m2) (c := k1c2) (by decide +kernel) rfl rfl rfl (by decide +kernel)
set_option maxRecDepth 65536 in
theorem w_c2 : (Jvm.Cond.code ({ cls := "java/lang/String", name := "valueOf", desc := "(C)Ljava/lang/String;" } : Jvm.MethodName) jdk_42_method_139_code (1 : Nat) (Option.some (Jvm.ClassFile.FieldType.object "java/lang/String"))).before args0 about1 = true := code_word (m := ⟨7, 5⟩) (meth := k7m5) (c := k7c5) (by decide +kernel) rfl rfl rfl (by decide +kernel)
set_option maxRecDepth 65536 in
theorem w_c3 : (Jvm.Cond.code ({ cls := "java/lang/StringLatin1", name := "canEncode", desc := "(C)Z" } : Jvm.MethodName) jdk_43_method_3_code (1 : Nat) (Option.some Jvm.ClassFile.FieldType.boolean)).before args0 about1 = true := code_word (m := ⟨8, 2⟩) (meth := k8m2) (c := k8c2) (by decide +kernel) rfl rfl rfl (by decide +kernel)
set_option maxRecDepth 65536 in
theorem w_c4 : (Jvm.Cond.code ({ cls := "java/lang/StringLatin1", name := "toBytes", desc := "(C)[B" } : Jvm.MethodName) jdk_43_method_46_code (1 : Nat) (Option.some (Jvm.ClassFile.FieldType.array Jvm.ClassFile.FieldType.byte))).before args0 about1 = true := code_word (m := ⟨8, 3⟩) (meth := k8m3) (c := k8c3) (by decide +kernel) rfl rfl rfl (by decide +kernel)
set_option maxRecDepth 65536 in
theorem w_c5 : (Jvm.Cond.code ({ cls := "java/lang/String", name := "<init>", desc := "([BB)V" } : Jvm.MethodName) jdk_42_method_151_code (3 : Nat) (Option.none : Option Jvm.ClassFile.FieldType)).before args0 about1 = true := code_word (m := ⟨7, 9⟩) (meth := k7m9) (c := k7c9) (by decide +kernel) rfl rfl rfl (by decide +kernel)
set_option maxRecDepth 65536 in
theorem w_c6 : (Jvm.Cond.code ({ cls := "java/lang/Object", name := "<init>", desc := "()V" } : Jvm.MethodName) object_method_1_code (1 : Nat) (Option.none : Option Jvm.ClassFile.FieldType)).before args0 about1 = true := code_word (m := ⟨0, 0⟩) (meth := k0m0) (c := k0c0) (by decide +kernel) rfl rfl rfl (by decide +kernel)
set_option maxRecDepth 65536 in
theorem w_c7 : (Jvm.Cond.code ({ cls := "java/lang/String", name := "<init>", desc := "([C)V" } : Jvm.MethodName) jdk_42_method_3_code (2 : Nat) (Option.none : Option Jvm.ClassFile.FieldType)).before args0 about1 = true := code_word (m := ⟨7, 1⟩) (meth := k7m1) (c := k7c1) (by decide +kernel) rfl rfl rfl (by decide +kernel)
set_option maxRecDepth 65536 in
theorem w_c8 : (Jvm.Cond.code ({ cls := "java/lang/String", name := "<init>", desc := "([CIILjava/lang/Void;)V" } : Jvm.MethodName) jdk_42_method_149_code (6 : Nat) (Option.none : Option Jvm.ClassFile.FieldType)).before args0 about1 = true := code_word (m := ⟨7, 7⟩) (meth := k7m7) (c := k7c7) (by decide +kernel) rfl rfl rfl (by decide +kernel)
set_option maxRecDepth 65536 in
theorem w_c9 : (Jvm.Cond.code ({ cls := "com/example/installwright/installwright/formats/Marker", name := "<init>", desc := "(Ljava/lang/String;Ljava/lang/String;Ljava/lang/String;)V" } : Jvm.MethodName) prog_70_method_1_code (4 : Nat) (Option.none : Option Jvm.ClassFile.FieldType)).before args0 about1 = true := code_word (m := ⟨10, 0⟩) (meth := k10m0) (c := k10c0) (by decide +kernel) rfl rfl rfl (by decide +kernel)
set_option maxRecDepth 65536 in
theorem w_c10 : (Jvm.Cond.code ({ cls := "java/lang/Record", name := "<init>", desc := "()V" } : Jvm.MethodName) jdk_30_method_1_code (1 : Nat) (Option.none : Option Jvm.ClassFile.FieldType)).before args0 about1 = true := code_word (m := ⟨9, 0⟩) (meth := k9m0) (c := k9c0) (by decide +kernel) rfl rfl rfl (by decide +kernel)
set_option maxRecDepth 65536 in
theorem w_c11 : (Jvm.Cond.code ({ cls := "com/example/installwright/installwright/formats/Marker", name := "toString", desc := "()Ljava/lang/String;" } : Jvm.MethodName) prog_70_method_5_code (1 : Nat) (Option.some (Jvm.ClassFile.FieldType.object "java/lang/String"))).before args0 about1 = true := code_word (m := ⟨10, 1⟩) (meth := k10m1) (c := k10c1) (by decide +kernel) rfl rfl rfl (by decide +kernel)
set_option maxRecDepth 65536 in
theorem w_c12 : (Jvm.Cond.code ({ cls := "java/lang/StringBuilder", name := "<init>", desc := "()V" } : Jvm.MethodName) jdk_67_method_1_code (1 : Nat) (Option.none : Option Jvm.ClassFile.FieldType)).before args0 about1 = true := code_word (m := ⟨13, 0⟩) (meth := k13m0) (c := k13c0) (by decide +kernel) rfl rfl rfl (by decide +kernel)
set_option maxRecDepth 65536 in
theorem w_c13 : (Jvm.Cond.code ({ cls := "java/lang/AbstractStringBuilder", name := "<init>", desc := "(I)V" } : Jvm.MethodName) jdk_68_method_2_code (2 : Nat) (Option.none : Option Jvm.ClassFile.FieldType)).before args0 about1 = true := code_word (m := ⟨12, 1⟩) (meth := k12m1) (c := k12c1) (by decide +kernel) rfl rfl rfl (by decide +kernel)
set_option maxRecDepth 65536 in
theorem w_c14 : (Jvm.Cond.code ({ cls := "java/lang/StringBuilder", name := "append", desc := "(Ljava/lang/String;)Ljava/lang/StringBuilder;" } : Jvm.MethodName) jdk_67_method_7_code (2 : Nat) (Option.some (Jvm.ClassFile.FieldType.object "java/lang/StringBuilder"))).before args0 about1 = true := code_word (m := ⟨13, 1⟩) (meth := k13m1) (c := k13c1) (by decide +kernel) rfl rfl rfl (by decide +kernel)
set_option maxRecDepth 65536 in
theorem w_c15 : (Jvm.Cond.code ({ cls := "java/lang/AbstractStringBuilder", name := "append", desc := "(Ljava/lang/String;)Ljava/lang/AbstractStringBuilder;" } : Jvm.MethodName) jdk_68_method_22_code (3 : Nat) (Option.some (Jvm.ClassFile.FieldType.object "java/lang/AbstractStringBuilder"))).before args0 about1 = true := code_word (m := ⟨12, 4⟩) (meth := k12m4) (c := k12c4) (by decide +kernel) rfl rfl rfl (by decide +kernel)
set_option maxRecDepth 65536 in
theorem w_c16 : (Jvm.Cond.code ({ cls := "java/lang/String", name := "length", desc := "()I" } : Jvm.MethodName) jdk_42_method_54_code (1 : Nat) (Option.some Jvm.ClassFile.FieldType.int)).before args0 about1 = true := code_word (m := ⟨7, 3⟩) (meth := k7m3) (c := k7c3) (by decide +kernel) rfl rfl rfl (by decide +kernel)
set_option maxRecDepth 65536 in
theorem w_c17 : (Jvm.Cond.code ({ cls := "java/lang/String", name := "coder", desc := "()B" } : Jvm.MethodName) jdk_42_method_152_code (1 : Nat) (Option.some Jvm.ClassFile.FieldType.byte)).before args0 about1 = true := code_word (m := ⟨7, 10⟩) (meth := k7m10) (c := k7c10) (by decide +kernel) rfl rfl rfl (by decide +kernel)
set_option maxRecDepth 65536 in
theorem w_c18 : (Jvm.Cond.code ({ cls := "java/lang/AbstractStringBuilder", name := "ensureCapacityInternal", desc := "(I)V" } : Jvm.MethodName) jdk_68_method_9_code (3 : Nat) (Option.none : Option Jvm.ClassFile.FieldType)).before args0 about1 = true := code_word (m := ⟨12, 3⟩) (meth := k12m3) (c := k12c3) (by decide +kernel) rfl rfl rfl (by decide +kernel)
set_option maxRecDepth 65536 in
theorem w_c19 : (Jvm.Cond.code ({ cls := "java/lang/AbstractStringBuilder", name := "putStringAt", desc := "(ILjava/lang/String;)V" } : Jvm.MethodName) jdk_68_method_73_code (3 : Nat) (Option.none : Option Jvm.ClassFile.FieldType)).before args0 about1 = true := code_word (m := ⟨12, 8⟩) (meth := k12m8) (c := k12c8) (by decide +kernel) rfl rfl rfl (by decide +kernel)
set_option maxRecDepth 65536 in
theorem w_c20 : (Jvm.Cond.code ({ cls := "java/lang/AbstractStringBuilder", name := "inflateIfNeededFor", desc := "(Ljava/lang/String;)V" } : Jvm.MethodName) jdk_68_method_71_code (2 : Nat) (Option.none : Option Jvm.ClassFile.FieldType)).before args0 about1 = true := code_word (m := ⟨12, 7⟩) (meth := k12m7) (c := k12c7) (by decide +kernel) rfl rfl rfl (by decide +kernel)
set_option maxRecDepth 65536 in
theorem w_c21 : (Jvm.Cond.code ({ cls := "java/lang/String", name := "getBytes", desc := "([BIB)V" } : Jvm.MethodName) jdk_42_method_147_code (4 : Nat) (Option.none : Option Jvm.ClassFile.FieldType)).before args0 about1 = true := code_word (m := ⟨7, 6⟩) (meth := k7m6) (c := k7c6) (by decide +kernel) rfl rfl rfl (by decide +kernel)
set_option maxRecDepth 65536 in
theorem w_c22 : (Jvm.Cond.code ({ cls := "java/lang/StringBuilder", name := "toString", desc := "()Ljava/lang/String;" } : Jvm.MethodName) jdk_67_method_42_code (1 : Nat) (Option.some (Jvm.ClassFile.FieldType.object "java/lang/String"))).before args0 about1 = true := code_word (m := ⟨13, 2⟩) (meth := k13m2) (c := k13c2) (by decide +kernel) rfl rfl rfl (by decide +kernel)
set_option maxRecDepth 65536 in
theorem w_c23 : (Jvm.Cond.code ({ cls := "java/lang/String", name := "<init>", desc := "(Ljava/lang/StringBuilder;)V" } : Jvm.MethodName) jdk_42_method_53_code (2 : Nat) (Option.none : Option Jvm.ClassFile.FieldType)).before args0 about1 = true := code_word (m := ⟨7, 2⟩) (meth := k7m2) (c := k7c2) (by decide +kernel) rfl rfl rfl (by decide +kernel)
set_option maxRecDepth 65536 in
theorem w_c24 : (Jvm.Cond.code ({ cls := "java/lang/String", name := "<init>", desc := "(Ljava/lang/AbstractStringBuilder;Ljava/lang/Void;)V" } : Jvm.MethodName) jdk_42_method_150_code (5 : Nat) (Option.none : Option Jvm.ClassFile.FieldType)).before args0 about1 = true := code_word (m := ⟨7, 8⟩) (meth := k7m8) (c := k7c8) (by decide +kernel) rfl rfl rfl (by decide +kernel)
set_option maxRecDepth 65536 in
theorem w_c25 : (Jvm.Cond.code ({ cls := "java/lang/AbstractStringBuilder", name := "getValue", desc := "()[B" } : Jvm.MethodName) jdk_68_method_64_code (1 : Nat) (Option.some (Jvm.ClassFile.FieldType.array Jvm.ClassFile.FieldType.byte))).before args0 about1 = true := code_word (m := ⟨12, 5⟩) (meth := k12m5) (c := k12c5) (by decide +kernel) rfl rfl rfl (by decide +kernel)
set_option maxRecDepth 65536 in
theorem w_c26 : (Jvm.Cond.code ({ cls := "java/lang/StringBuilder", name := "length", desc := "()I" } : Jvm.MethodName) jdk_67_method_93_code (1 : Nat) (Option.some Jvm.ClassFile.FieldType.int)).before args0 about1 = true := code_word (m := ⟨13, 3⟩) (meth := k13m3) (c := k13c3) (by decide +kernel) rfl rfl rfl (by decide +kernel)
set_option maxRecDepth 65536 in
theorem w_c27 : (Jvm.Cond.code ({ cls := "java/lang/AbstractStringBuilder", name := "length", desc := "()I" } : Jvm.MethodName) jdk_68_method_6_code (1 : Nat) (Option.some Jvm.ClassFile.FieldType.int)).before args0 about1 = true := code_word (m := ⟨12, 2⟩) (meth := k12m2) (c := k12c2) (by decide +kernel) rfl rfl rfl (by decide +kernel)
set_option maxRecDepth 65536 in
theorem w_c28 : (Jvm.Cond.code ({ cls := "java/lang/AbstractStringBuilder", name := "isLatin1", desc := "()Z" } : Jvm.MethodName) jdk_68_method_68_code (1 : Nat) (Option.some Jvm.ClassFile.FieldType.boolean)).before args0 about1 = true := code_word (m := ⟨12, 6⟩) (meth := k12m6) (c := k12c6) (by decide +kernel) rfl rfl rfl (by decide +kernel)
set_option maxRecDepth 65536 in
theorem w_c29 : (Jvm.Cond.code ({ cls := "java/util/Arrays", name := "copyOfRange", desc := "([BII)[B" } : Jvm.MethodName) jdk_65_method_132_code (3 : Nat) (Option.some (Jvm.ClassFile.FieldType.array Jvm.ClassFile.FieldType.byte))).before args0 about1 = true := code_word (m := ⟨15, 2⟩) (meth := k15m2) (c := k15c2) (by decide +kernel) rfl rfl rfl (by decide +kernel)
set_option maxRecDepth 65536 in
theorem w_c30 : (Jvm.Cond.code ({ cls := "java/util/Arrays", name := "copyOfRangeByte", desc := "([BII)[B" } : Jvm.MethodName) jdk_65_method_133_code (5 : Nat) (Option.some (Jvm.ClassFile.FieldType.array Jvm.ClassFile.FieldType.byte))).before args0 about1 = true := code_word (m := ⟨15, 3⟩) (meth := k15m3) (c := k15c3) (by decide +kernel) rfl rfl rfl (by decide +kernel)
set_option maxRecDepth 65536 in
theorem w_c31 : (Jvm.Cond.code ({ cls := "java/util/Arrays", name := "checkLength", desc := "(II)V" } : Jvm.MethodName) jdk_65_method_131_code (2 : Nat) (Option.none : Option Jvm.ClassFile.FieldType)).before args0 about1 = true := code_word (m := ⟨15, 1⟩) (meth := k15m1) (c := k15c1) (by decide +kernel) rfl rfl rfl (by decide +kernel)
set_option maxRecDepth 65536 in
theorem w_c32 : (Jvm.Cond.code ({ cls := "java/lang/Math", name := "min", desc := "(II)I" } : Jvm.MethodName) jdk_29_method_69_code (2 : Nat) (Option.some Jvm.ClassFile.FieldType.int)).before args0 about1 = true := code_word (m := ⟨16, 1⟩) (meth := k16m1) (c := k16c1) (by decide +kernel) rfl rfl rfl (by decide +kernel)
set_option maxRecDepth 65536 in
theorem w_c33 : (Jvm.Cond.code ({ cls := "com/example/installwright/installwright/formats/MarkerToStringPinLaw", name := "put", desc := "([CIICC)I" } : Jvm.MethodName) method_4_code (5 : Nat) (Option.some Jvm.ClassFile.FieldType.int)).before args0 about1 = true := code_word (m := ⟨1, 3⟩) (meth := k1m3) (c := k1c3) (by decide +kernel) rfl rfl rfl (by decide +kernel)
set_option maxRecDepth 65536 in
theorem w_c34 : (Jvm.Cond.code ({ cls := "com/example/installwright/installwright/formats/MarkerToStringPinLaw", name := "same", desc := "(Ljava/lang/String;[CI)Z" } : Jvm.MethodName) method_5_code (3 : Nat) (Option.some Jvm.ClassFile.FieldType.boolean)).before args0 about1 = true := code_word (m := ⟨1, 4⟩) (meth := k1m4) (c := k1c4) (by decide +kernel) rfl rfl rfl (by decide +kernel)
set_option maxRecDepth 65536 in
theorem w_c35 : (Jvm.Cond.code ({ cls := "java/lang/String", name := "charAt", desc := "(I)C" } : Jvm.MethodName) jdk_42_method_56_code (2 : Nat) (Option.some Jvm.ClassFile.FieldType.char)).before args0 about1 = true := code_word (m := ⟨7, 4⟩) (meth := k7m4) (c := k7c4) (by decide +kernel) rfl rfl rfl (by decide +kernel)
set_option maxRecDepth 65536 in
theorem w_c36 : (Jvm.Cond.code ({ cls := "java/lang/String", name := "isLatin1", desc := "()Z" } : Jvm.MethodName) jdk_42_method_154_code (1 : Nat) (Option.some Jvm.ClassFile.FieldType.boolean)).before args0 about1 = true := code_word (m := ⟨7, 11⟩) (meth := k7m11) (c := k7c11) (by decide +kernel) rfl rfl rfl (by decide +kernel)
set_option maxRecDepth 65536 in
theorem w_c37 : (Jvm.Cond.code ({ cls := "java/lang/StringLatin1", name := "charAt", desc := "([BI)C" } : Jvm.MethodName) jdk_43_method_2_code (2 : Nat) (Option.some Jvm.ClassFile.FieldType.char)).before args0 about1 = true := code_word (m := ⟨8, 1⟩) (meth := k8m1) (c := k8c1) (by decide +kernel) rfl rfl rfl (by decide +kernel)
set_option maxRecDepth 65536 in
theorem w_c38 : (Jvm.Cond.code ({ cls := "java/lang/String", name := "checkIndex", desc := "(II)V" } : Jvm.MethodName) jdk_42_method_155_code (2 : Nat) (Option.none : Option Jvm.ClassFile.FieldType)).before args0 about1 = true := code_word (m := ⟨7, 12⟩) (meth := k7m12) (c := k7c12) (by decide +kernel) rfl rfl rfl (by decide +kernel)
set_option maxRecDepth 65536 in
theorem w_c39 : (Jvm.Cond.code ({ cls := "jdk/internal/util/Preconditions", name := "checkIndex", desc := "(IILjava/util/function/BiFunction;)I" } : Jvm.MethodName) jdk_41_method_11_code (3 : Nat) (Option.some Jvm.ClassFile.FieldType.int)).before args0 about1 = true := code_word (m := ⟨17, 1⟩) (meth := k17m1) (c := k17c1) (by decide +kernel) rfl rfl rfl (by decide +kernel)
set_option maxRecDepth 65536 in
theorem w_c40 : (Jvm.Cond.code ({ cls := "java/lang/StringUTF16", name := "compress", desc := "([CII)[B" } : Jvm.MethodName) jdk_52_method_16_code (6 : Nat) (Option.some (Jvm.ClassFile.FieldType.array Jvm.ClassFile.FieldType.byte))).before args0 about1 = true := code_word (m := ⟨18, 2⟩) (meth := k18m2) (c := k18c2) (by decide +kernel) rfl rfl rfl (by decide +kernel)
set_option maxRecDepth 65536 in
theorem w_c41 : (Jvm.Cond.code ({ cls := "java/lang/StringUTF16", name := "compress", desc := "([CI[BII)I" } : Jvm.MethodName) jdk_52_method_21_code (7 : Nat) (Option.some Jvm.ClassFile.FieldType.int)).before args0 about1 = true := code_word (m := ⟨18, 3⟩) (meth := k18m3) (c := k18c3) (by decide +kernel) rfl rfl rfl (by decide +kernel)
set_option maxRecDepth 65536 in
theorem w_c42 : (Jvm.Cond.code ({ cls := "java/lang/StringUTF16", name := "coderFromArrayLen", desc := "([BI)B" } : Jvm.MethodName) jdk_52_method_15_code (2 : Nat) (Option.some Jvm.ClassFile.FieldType.byte)).before args0 about1 = true := code_word (m := ⟨18, 1⟩) (meth := k18m1) (c := k18c1) (by decide +kernel) rfl rfl rfl (by decide +kernel)
def codes1 : List Jvm.Cond := [Jvm.Cond.code x code maxLocals ret, Jvm.Cond.code ({ cls := "com/example/installwright/installwright/formats/MarkerToStringPinLaw", name := "mk", desc := "(ICC)Ljava/lang/String;" } : Jvm.MethodName) method_3_code (4 : Nat) (Option.some (Jvm.ClassFile.FieldType.object "java/lang/String")), Jvm.Cond.code ({ cls := "java/lang/String", name := "valueOf", desc := "(C)Ljava/lang/String;" } : Jvm.MethodName) jdk_42_method_139_code (1 : Nat) (Option.some (Jvm.ClassFile.FieldType.object "java/lang/String")), Jvm.Cond.code ({ cls := "java/lang/StringLatin1", name := "canEncode", desc := "(C)Z" } : Jvm.MethodName) jdk_43_method_3_code (1 : Nat) (Option.some Jvm.ClassFile.FieldType.boolean), Jvm.Cond.code ({ cls := "java/lang/StringLatin1", name := "toBytes", desc := "(C)[B" } : Jvm.MethodName) jdk_43_method_46_code (1 : Nat) (Option.some (Jvm.ClassFile.FieldType.array Jvm.ClassFile.FieldType.byte)), Jvm.Cond.code ({ cls := "java/lang/String", name := "<init>", desc := "([BB)V" } : Jvm.MethodName) jdk_42_method_151_code (3 : Nat) (Option.none : Option Jvm.ClassFile.FieldType), Jvm.Cond.code ({ cls := "java/lang/Object", name := "<init>", desc := "()V" } : Jvm.MethodName) object_method_1_code (1 : Nat) (Option.none : Option Jvm.ClassFile.FieldType), Jvm.Cond.code ({ cls := "java/lang/String", name := "<init>", desc := "([C)V" } : Jvm.MethodName) jdk_42_method_3_code (2 : Nat) (Option.none : Option Jvm.ClassFile.FieldType), Jvm.Cond.code ({ cls := "java/lang/String", name := "<init>", desc := "([CIILjava/lang/Void;)V" } : Jvm.MethodName) jdk_42_method_149_code (6 : Nat) (Option.none : Option Jvm.ClassFile.FieldType), Jvm.Cond.code ({ cls := "com/example/installwright/installwright/formats/Marker", name := "<init>", desc := "(Ljava/lang/String;Ljava/lang/String;Ljava/lang/String;)V" } : Jvm.MethodName) prog_70_method_1_code (4 : Nat) (Option.none : Option Jvm.ClassFile.FieldType), Jvm.Cond.code ({ cls := "java/lang/Record", name := "<init>", desc := "()V" } : Jvm.MethodName) jdk_30_method_1_code (1 : Nat) (Option.none : Option Jvm.ClassFile.FieldType), Jvm.Cond.code ({ cls := "com/example/installwright/installwright/formats/Marker", name := "toString", desc := "()Ljava/lang/String;" } : Jvm.MethodName) prog_70_method_5_code (1 : Nat) (Option.some (Jvm.ClassFile.FieldType.object "java/lang/String")), Jvm.Cond.code ({ cls := "java/lang/StringBuilder", name := "<init>", desc := "()V" } : Jvm.MethodName) jdk_67_method_1_code (1 : Nat) (Option.none : Option Jvm.ClassFile.FieldType), Jvm.Cond.code ({ cls := "java/lang/AbstractStringBuilder", name := "<init>", desc := "(I)V" } : Jvm.MethodName) jdk_68_method_2_code (2 : Nat) (Option.none : Option Jvm.ClassFile.FieldType), Jvm.Cond.code ({ cls := "java/lang/StringBuilder", name := "append", desc := "(Ljava/lang/String;)Ljava/lang/StringBuilder;" } : Jvm.MethodName) jdk_67_method_7_code (2 : Nat) (Option.some (Jvm.ClassFile.FieldType.object "java/lang/StringBuilder")), Jvm.Cond.code ({ cls := "java/lang/AbstractStringBuilder", name := "append", desc := "(Ljava/lang/String;)Ljava/lang/AbstractStringBuilder;" } : Jvm.MethodName) jdk_68_method_22_code (3 : Nat) (Option.some (Jvm.ClassFile.FieldType.object "java/lang/AbstractStringBuilder")), Jvm.Cond.code ({ cls := "java/lang/String", name := "length", desc := "()I" } : Jvm.MethodName) jdk_42_method_54_code (1 : Nat) (Option.some Jvm.ClassFile.FieldType.int), Jvm.Cond.code ({ cls := "java/lang/String", name := "coder", desc := "()B" } : Jvm.MethodName) jdk_42_method_152_code (1 : Nat) (Option.some Jvm.ClassFile.FieldType.byte), Jvm.Cond.code ({ cls := "java/lang/AbstractStringBuilder", name := "ensureCapacityInternal", desc := "(I)V" } : Jvm.MethodName) jdk_68_method_9_code (3 : Nat) (Option.none : Option Jvm.ClassFile.FieldType), Jvm.Cond.code ({ cls := "java/lang/AbstractStringBuilder", name := "putStringAt", desc := "(ILjava/lang/String;)V" } : Jvm.MethodName) jdk_68_method_73_code (3 : Nat) (Option.none : Option Jvm.ClassFile.FieldType), Jvm.Cond.code ({ cls := "java/lang/AbstractStringBuilder", name := "inflateIfNeededFor", desc := "(Ljava/lang/String;)V" } : Jvm.MethodName) jdk_68_method_71_code (2 : Nat) (Option.none : Option Jvm.ClassFile.FieldType), Jvm.Cond.code ({ cls := "java/lang/String", name := "getBytes", desc := "([BIB)V" } : Jvm.MethodName) jdk_42_method_147_code (4 : Nat) (Option.none : Option Jvm.ClassFile.FieldType), Jvm.Cond.code ({ cls := "java/lang/StringBuilder", name := "toString", desc := "()Ljava/lang/String;" } : Jvm.MethodName) jdk_67_method_42_code (1 : Nat) (Option.some (Jvm.ClassFile.FieldType.object "java/lang/String")), Jvm.Cond.code ({ cls := "java/lang/String", name := "<init>", desc := "(Ljava/lang/StringBuilder;)V" } : Jvm.MethodName) jdk_42_method_53_code (2 : Nat) (Option.none : Option Jvm.ClassFile.FieldType), Jvm.Cond.code ({ cls := "java/lang/String", name := "<init>", desc := "(Ljava/lang/AbstractStringBuilder;Ljava/lang/Void;)V" } : Jvm.MethodName) jdk_42_method_150_code (5 : Nat) (Option.none : Option Jvm.ClassFile.FieldType), Jvm.Cond.code ({ cls := "java/lang/AbstractStringBuilder", name := "getValue", desc := "()[B" } : Jvm.MethodName) jdk_68_method_64_code (1 : Nat) (Option.some (Jvm.ClassFile.FieldType.array Jvm.ClassFile.FieldType.byte)), Jvm.Cond.code ({ cls := "java/lang/StringBuilder", name := "length", desc := "()I" } : Jvm.MethodName) jdk_67_method_93_code (1 : Nat) (Option.some Jvm.ClassFile.FieldType.int), Jvm.Cond.code ({ cls := "java/lang/AbstractStringBuilder", name := "length", desc := "()I" } : Jvm.MethodName) jdk_68_method_6_code (1 : Nat) (Option.some Jvm.ClassFile.FieldType.int), Jvm.Cond.code ({ cls := "java/lang/AbstractStringBuilder", name := "isLatin1", desc := "()Z" } : Jvm.MethodName) jdk_68_method_68_code (1 : Nat) (Option.some Jvm.ClassFile.FieldType.boolean), Jvm.Cond.code ({ cls := "java/util/Arrays", name := "copyOfRange", desc := "([BII)[B" } : Jvm.MethodName) jdk_65_method_132_code (3 : Nat) (Option.some (Jvm.ClassFile.FieldType.array Jvm.ClassFile.FieldType.byte)), Jvm.Cond.code ({ cls := "java/util/Arrays", name := "copyOfRangeByte", desc := "([BII)[B" } : Jvm.MethodName) jdk_65_method_133_code (5 : Nat) (Option.some (Jvm.ClassFile.FieldType.array Jvm.ClassFile.FieldType.byte)), Jvm.Cond.code ({ cls := "java/util/Arrays", name := "checkLength", desc := "(II)V" } : Jvm.MethodName) jdk_65_method_131_code (2 : Nat) (Option.none : Option Jvm.ClassFile.FieldType), Jvm.Cond.code ({ cls := "java/lang/Math", name := "min", desc := "(II)I" } : Jvm.MethodName) jdk_29_method_69_code (2 : Nat) (Option.some Jvm.ClassFile.FieldType.int), Jvm.Cond.code ({ cls := "com/example/installwright/installwright/formats/MarkerToStringPinLaw", name := "put", desc := "([CIICC)I" } : Jvm.MethodName) method_4_code (5 : Nat) (Option.some Jvm.ClassFile.FieldType.int), Jvm.Cond.code ({ cls := "com/example/installwright/installwright/formats/MarkerToStringPinLaw", name := "same", desc := "(Ljava/lang/String;[CI)Z" } : Jvm.MethodName) method_5_code (3 : Nat) (Option.some Jvm.ClassFile.FieldType.boolean), Jvm.Cond.code ({ cls := "java/lang/String", name := "charAt", desc := "(I)C" } : Jvm.MethodName) jdk_42_method_56_code (2 : Nat) (Option.some Jvm.ClassFile.FieldType.char), Jvm.Cond.code ({ cls := "java/lang/String", name := "isLatin1", desc := "()Z" } : Jvm.MethodName) jdk_42_method_154_code (1 : Nat) (Option.some Jvm.ClassFile.FieldType.boolean), Jvm.Cond.code ({ cls := "java/lang/StringLatin1", name := "charAt", desc := "([BI)C" } : Jvm.MethodName) jdk_43_method_2_code (2 : Nat) (Option.some Jvm.ClassFile.FieldType.char), Jvm.Cond.code ({ cls := "java/lang/String", name := "checkIndex", desc := "(II)V" } : Jvm.MethodName) jdk_42_method_155_code (2 : Nat) (Option.none : Option Jvm.ClassFile.FieldType), Jvm.Cond.code ({ cls := "jdk/internal/util/Preconditions", name := "checkIndex", desc := "(IILjava/util/function/BiFunction;)I" } : Jvm.MethodName) jdk_41_method_11_code (3 : Nat) (Option.some Jvm.ClassFile.FieldType.int), Jvm.Cond.code ({ cls := "java/lang/StringUTF16", name := "compress", desc := "([CII)[B" } : Jvm.MethodName) jdk_52_method_16_code (6 : Nat) (Option.some (Jvm.ClassFile.FieldType.array Jvm.ClassFile.FieldType.byte)), Jvm.Cond.code ({ cls := "java/lang/StringUTF16", name := "compress", desc := "([CI[BII)I" } : Jvm.MethodName) jdk_52_method_21_code (7 : Nat) (Option.some Jvm.ClassFile.FieldType.int), Jvm.Cond.code ({ cls := "java/lang/StringUTF16", name := "coderFromArrayLen", desc := "([BI)B" } : Jvm.MethodName) jdk_52_method_15_code (2 : Nat) (Option.some Jvm.ClassFile.FieldType.byte)]
set_option maxRecDepth 65536 in
theorem codes_eq : words1.filter isCode = codes1 := rfl
theorem w_codes : ∀ c ∈ words1.filter isCode, c.before args0 about1 = true := by
  rw [codes_eq]
  intro c hc
  simp only [codes1, List.mem_cons, List.not_mem_nil, or_false] at hc
  rcases hc with rfl | rfl | rfl | rfl | rfl | rfl | rfl | rfl | rfl | rfl | rfl | rfl | rfl | rfl | rfl | rfl | rfl | rfl | rfl | rfl | rfl | rfl | rfl | rfl | rfl | rfl | rfl | rfl | rfl | rfl | rfl | rfl | rfl | rfl | rfl | rfl | rfl | rfl | rfl | rfl | rfl | rfl | rfl
  · exact w_c0
  · exact w_c1
  · exact w_c2
  · exact w_c3
  · exact w_c4
  · exact w_c5
  · exact w_c6
  · exact w_c7
  · exact w_c8
  · exact w_c9
  · exact w_c10
  · exact w_c11
  · exact w_c12
  · exact w_c13
  · exact w_c14
  · exact w_c15
  · exact w_c16
  · exact w_c17
  · exact w_c18
  · exact w_c19
  · exact w_c20
  · exact w_c21
  · exact w_c22
  · exact w_c23
  · exact w_c24
  · exact w_c25
  · exact w_c26
  · exact w_c27
  · exact w_c28
  · exact w_c29
  · exact w_c30
  · exact w_c31
  · exact w_c32
  · exact w_c33
  · exact w_c34
  · exact w_c35
  · exact w_c36
  · exact w_c37
  · exact w_c38
  · exact w_c39
  · exact w_c40
  · exact w_c41
  · exact w_c42
set_option maxRecDepth 65536 in
theorem w_t1 : (words1.take 24).all (fun c => isCode c || c.before args0 about1) = true := by decide +kernel
set_option maxRecDepth 65536 in
theorem w_t2 : ((words1.drop 24).take 24).all (fun c => isCode c || c.before args0 about1) = true := by decide +kernel
set_option maxRecDepth 65536 in
theorem w_t3 : (((words1.drop 24).drop 24).take 24).all (fun c => isCode c || c.before args0 about1) = true := by decide +kernel
set_option maxRecDepth 65536 in
theorem w_t4 : ((((words1.drop 24).drop 24).drop 24).take 24).all (fun c => isCode c || c.before args0 about1) = true := by decide +kernel
set_option maxRecDepth 65536 in
theorem w_t5 : (((((words1.drop 24).drop 24).drop 24).drop 24).take 24).all (fun c => isCode c || c.before args0 about1) = true := by decide +kernel
set_option maxRecDepth 65536 in
theorem w_t6 : ((((((words1.drop 24).drop 24).drop 24).drop 24).drop 24).take 24).all (fun c => isCode c || c.before args0 about1) = true := by decide +kernel
set_option maxRecDepth 65536 in
theorem w_t7 : (((((((words1.drop 24).drop 24).drop 24).drop 24).drop 24).drop 24).take 24).all (fun c => isCode c || c.before args0 about1) = true := by decide +kernel
set_option maxRecDepth 65536 in
theorem w_t8 : ((((((((words1.drop 24).drop 24).drop 24).drop 24).drop 24).drop 24).drop 24).take 24).all (fun c => isCode c || c.before args0 about1) = true := by decide +kernel
set_option maxRecDepth 65536 in
theorem w_t9 : ((((((((words1.drop 24).drop 24).drop 24).drop 24).drop 24).drop 24).drop 24).drop 24).all (fun c => isCode c || c.before args0 about1) = true := by decide +kernel
theorem w_tables : (allAtoms (Jvm.Cond.code x code maxLocals ret :: tables_1)).before args0 about1 = true := by
  rw [allAtoms_all]
  show words1.all (fun c => c.before args0 about1) = true
  refine all_split ?_ w_codes
  rw [← List.take_append_drop 24 words1, List.all_append, w_t1, ← List.take_append_drop 24 (words1.drop 24), List.all_append, w_t2, ← List.take_append_drop 24 ((words1.drop 24).drop 24), List.all_append, w_t3, ← List.take_append_drop 24 (((words1.drop 24).drop 24).drop 24), List.all_append, w_t4, ← List.take_append_drop 24 ((((words1.drop 24).drop 24).drop 24).drop 24), List.all_append, w_t5, ← List.take_append_drop 24 (((((words1.drop 24).drop 24).drop 24).drop 24).drop 24), List.all_append, w_t6, ← List.take_append_drop 24 ((((((words1.drop 24).drop 24).drop 24).drop 24).drop 24).drop 24), List.all_append, w_t7, ← List.take_append_drop 24 (((((((words1.drop 24).drop 24).drop 24).drop 24).drop 24).drop 24).drop 24), List.all_append, w_t8, w_t9]
  rfl
set_option maxRecDepth 65536 in
theorem w_rest : rest_1_c.before args0 about1 = true := by decide +kernel
set_option maxRecDepth 65536 in
theorem w_case : (Jvm.Cond.and given_1 narrow_1).before args0 about1 = true := by decide +kernel
set_option maxRecDepth 65536 in
theorem w_consts : constsHeld consts_1 about1 := Jvm.Lit.constsHeldB_iff.mp (by decide +kernel)
theorem w_applies : (headSpec (Jvm.Cond.code x code maxLocals ret :: tables_1) room_1).applies x e0.platform about1 = true :=
  (Spec.applies_iff w_frames).mpr ⟨w_running, w_runnable, w_alone, w_named, w_hears, w_ripe, w_room, w_tables⟩
theorem atStart : AtStart classFile x code maxLocals ret World_1 tables_1 room_1 Calls_1 rest_1 Pre_1 launch0 p0 e0 about1 theMethod args0 below0 :=
  ⟨lists_1, trivial, launch0.admits_env _ _ _, launch0.least_env, fairChoices_fair.cas, fairChoices_fair.clock, w_frames, w_args, w_heap, w_applies, ⟨w_consts, trivial⟩, w_rest, w_case⟩
end start1
theorem witness_1 : WitnessClaimed_1 := ⟨start1.p0, start1.e0, start1.about1, start1.theMethod, start1.args0, start1.below0, start1.atStart⟩
end Jvm.Pilot.@@N@@
