import JvmDerived
import JvmDerived.Pilot.@@N@@Statement
import JvmDerived.Pilot.@@N@@Code
set_option linter.unusedVariables false
set_option linter.unusedSimpArgs false
/- laws to paste: Road.backV, Road.lenW, Road.eqW (cut by pick.py; bodies as the Statement names them) -/
namespace Jvm.Pilot.@@N@@
namespace StrChars
open Jvm Sem ClassFile Op Lib Jvm.Stand Jvm.Free.XT Jvm.Free.ALB Jvm.Free.JM Jvm.Free
open Jvm.Lib.Cold (StaticIs)
/-- a char array whose places are chars -/
def Ch (a : Addr) (A : Cell) (U : State) : Prop := Arr .char a A U ∧ Typed .char A
theorem Ch.mv {a : Addr} {A : Cell} {U U' : State} (h : Ch a A U) (hal : U.vm.Alike U'.vm) (hh : U'.heap = U.heap) : Ch a A U' := ⟨h.1.mv hal hh, h.2⟩
theorem Ch.keep {a : Addr} {A : Cell} {U U' : State} (h : Ch a A U) (hal : U.vm.Alike U'.vm) (hk : U'.heap[a]? = some A) : Ch a A U' := ⟨h.1.keep hal hk, h.2⟩
/-- what place i of a char[]'s cell holds -/
def cv (A : Cell) (i : Nat) : Int32 := match A.slots[i]? with | some (.int x) => x | _ => 0
theorem Ch.get {a : Addr} {A : Cell} {U : State} (h : Ch a A U) {i : Nat} (hi : i < A.slots.size) : A.slots[i]? = some (.int (cv A i)) := by
  have e := Array.getElem?_eq_getElem hi
  have f := h.2 i _ e
  unfold cv; rw [e]
  generalize A.slots[i] = v at f
  cases v <;> simp [fits] at f ⊢
/-- the byte that i2b leaves of a char -/
def lo8 (x : Int32) : Int32 := x.toInt8.toInt32
theorem fits_lo8 (y : Int32) : fits .byte (.int (lo8 y)) = true := by
  have h1 := y.toInt8.le_toInt
  have h2 := y.toInt8.toInt_lt
  simp only [lo8, fits, Bool.and_eq_true, decide_eq_true_eq, Int32.le_iff_toInt_le, Int8.toInt_toInt32, show (-128 : Int32).toInt = -128 from by decide, show (127 : Int32).toInt = 127 from by decide]
  omega
/-- A' is A but that each place j of lo .. hi - 1 holds f j -/
def Laid (A A' : Cell) (lo hi : Nat) (f : Nat → Value) : Prop := A'.cls = A.cls ∧ A'.vm = A.vm ∧ A'.slots.size = A.slots.size ∧ ∀ i, A'.slots[i]? = if lo ≤ i ∧ i < hi then some (f i) else A.slots[i]?
theorem Laid.zero (A : Cell) (lo : Nat) (f : Nat → Value) : Laid A A lo (lo + 0) f := ⟨rfl, rfl, rfl, fun i => by rw [if_neg (by omega)]⟩
theorem Laid.step {A Ak : Cell} {lo k : Nat} {f : Nat → Value} {v : Value} (h : Laid A Ak lo k f) (hlo : lo ≤ k) (hk : k < Ak.slots.size) (hv : v = f k) : Laid A (Ak.setSlot k v) lo (k + 1) f := by
  refine ⟨h.1, h.2.1, by simpa [Cell.setSlot] using h.2.2.1, fun i => ?_⟩
  by_cases e : k = i
  · subst e; rw [Cell.slots_setSlot_self v hk, if_pos (by omega), hv]
  · rw [Cell.slots_setSlot_ne v e, h.2.2.2 i]
    by_cases q : lo ≤ i ∧ i < k
    · rw [if_pos q, if_pos (by omega)]
    · rw [if_neg q, if_neg (by omega)]
def U16 : String := "java/lang/StringUTF16"
namespace Cmp5
def yN : MethodName := ⟨"java/lang/StringUTF16", "compress", "([CI[BII)I"⟩
abbrev yB : ByteArray := jdk_52_method_21_code
theorem d0 : decode yB 0 = .ok (.iconst 0, 1) := by decide +kernel
theorem d1 : decode yB 1 = .ok (.istore 5, 2) := by decide +kernel
theorem d3 : decode yB 3 = .ok (.iload 5, 2) := by decide +kernel
theorem d5 : decode yB 5 = .ok (.iload 4, 2) := by decide +kernel
theorem d7 : decode yB 7 = .ok (.if_icmp (.ge) 37, 3) := by decide +kernel
theorem d10 : decode yB 10 = .ok (.aload_n 0, 1) := by decide +kernel
theorem d11 : decode yB 11 = .ok (.iload_n 1, 1) := by decide +kernel
theorem d12 : decode yB 12 = .ok (.caload, 1) := by decide +kernel
theorem d13 : decode yB 13 = .ok (.istore 6, 2) := by decide +kernel
theorem d15 : decode yB 15 = .ok (.iload 6, 2) := by decide +kernel
theorem d17 : decode yB 17 = .ok (.sipush 255, 3) := by decide +kernel
theorem d20 : decode yB 20 = .ok (.if_icmp (.le) 6, 3) := by decide +kernel
theorem d26 : decode yB 26 = .ok (.aload_n 2, 1) := by decide +kernel
theorem d27 : decode yB 27 = .ok (.iload_n 3, 1) := by decide +kernel
theorem d28 : decode yB 28 = .ok (.iload 6, 2) := by decide +kernel
theorem d30 : decode yB 30 = .ok (.i2b, 1) := by decide +kernel
theorem d31 : decode yB 31 = .ok (.bastore, 1) := by decide +kernel
theorem d32 : decode yB 32 = .ok (.iinc 1 1, 3) := by decide +kernel
theorem d35 : decode yB 35 = .ok (.iinc 3 1, 3) := by decide +kernel
theorem d38 : decode yB 38 = .ok (.iinc 5 1, 3) := by decide +kernel
theorem d41 : decode yB 41 = .ok (.goto (-38), 3) := by decide +kernel
theorem d44 : decode yB 44 = .ok (.iload 4, 2) := by decide +kernel
theorem d46 : decode yB 46 = .ok (.ireturn, 1) := by decide +kernel
def site : List Cond := []
def tab : Cond := tabOf yN yB 7 (some .int) site
def P (b : Addr) (A : Cell) (d : Addr) (B : Cell) (o q len : Nat) (args : Array Value) (s : State) : Prop := args = #[.ref b, .int (Int32.ofNat o), .ref d, .int (Int32.ofNat q), .int (Int32.ofNat len)] ∧ Ch b A s ∧ Arr .byte d B s ∧ b ≠ d ∧ o + len ≤ A.slots.size ∧ q + len ≤ B.slots.size ∧ ∀ i, i < len → ¬ 255 < cv A (o + i)
def E (b : Addr) (A : Cell) (d : Addr) (B : Cell) (o q len : Nat) (r : Option Value) (s u : State) : Prop := r = some (.int (Int32.ofNat len)) ∧ ∃ B', Put d B' s u ∧ Laid B B' q (q + len) (fun j => Value.int (lo8 (cv A (o + (j - q)))))
/-- no char of the range above 255: len; the places written hold each char's low byte -/
theorem law (l : Launch) (b : Addr) (A : Cell) (d : Addr) (B : Cell) (o q len : Nat) : Law l yN 5 5 0 0 yB 7 (some .int) site (P b A d B o q len) (E b A d B o q len) (copyLocs d q len) 0 0 := by
  refine Law.of_walk (plainFor_of_name (by decide +kernel)) (by decide +kernel) (by decide +kernel) (by decide) (fun _ _ h => by rw [h.1]; rfl) (fun _ U U' hal hh h => ⟨h.1, h.2.1.mv hal hh, h.2.2.1.mv hal hh, h.2.2.2⟩) (fun r U U' V V' h1 hal h2 h => ⟨h.1, h.2.elim fun B' q => ⟨B', q.1.mv h1 h2, q.2⟩⟩) ?_
  intro p e s m args below meth c s₁ X0 hexec hbytes hml hret hlk hnm hown hh0 W hP
  obtain ⟨rfl, hA, hB, hne, l1, l2, hp⟩ := hP
  have c1 : Steps p.tables e below (s₁.setTop (entryFrame m #[.ref b, .int (Int32.ofNat o), .ref d, .int (Int32.ofNat q), .int (Int32.ofNat len)] 7)) (s₁.setTop (mkF m 0 #[.val (.ref b), .val (.int (Int32.ofNat o)), .val (.ref d), .val (.int (Int32.ofNat q)), .val (.int (Int32.ofNat len)), .unset, .unset] [])) := entry rfl
  have hA0 := hA.1.mv X0.warmed.alike hh0
  have hB0 := hB.mv X0.warmed.alike hh0
  have a31 := hA.1.2.2.2
  have c2 : Steps p.tables e below (s₁.setTop (entryFrame m #[.ref b, .int (Int32.ofNat o), .ref d, .int (Int32.ofNat q), .int (Int32.ofNat len)] 7)) (s₁.setTop (mkF m 3 #[.val (.ref b), .val (.int (Int32.ofNat o)), .val (.ref d), .val (.int (Int32.ofNat q)), .val (.int (Int32.ofNat len)), .val (.int 0), .unset] [])) := c1.trans (by
    refine iconstV X0.here hexec rfl 0 (hb hbytes d0) (by decide) ?_
    refine XS.istore X0.here hexec rfl (hb hbytes d1) rfl rfl ?_
    exact Steps.refl _)
  have loop : ∀ (r i : Nat), i + r = len → ∀ (z : Slot), (z = .unset ∨ ∃ w, z = .val w ∧ w.category = 1) → ∀ (Tl : State) (Bk : Cell), Stand p l e { frames := 0, locals := 0, cells := 0, slots := 0 } s m #[.ref b, .int (Int32.ofNat o), .ref d, .int (Int32.ofNat q), .int (Int32.ofNat len)] below meth c Tl ([] ++ copyLocs d q i) 0 0 → Put d Bk s₁ Tl → Laid B Bk q (q + i) (fun j => Value.int (lo8 (cv A (o + (j - q))))) →
      Steps p.tables e below (s₁.setTop (entryFrame m #[.ref b, .int (Int32.ofNat o), .ref d, .int (Int32.ofNat q), .int (Int32.ofNat len)] 7)) (Tl.setTop (mkF m 3 #[.val (.ref b), .val (.int (Int32.ofNat (o + i))), .val (.ref d), .val (.int (Int32.ofNat (q + i))), .val (.int (Int32.ofNat len)), .val (.int (Int32.ofNat i)), z] [])) → ∃ (T' : State) (B' : Cell) (z' : Slot), Stand p l e { frames := 0, locals := 0, cells := 0, slots := 0 } s m #[.ref b, .int (Int32.ofNat o), .ref d, .int (Int32.ofNat q), .int (Int32.ofNat len)] below meth c T' ([] ++ copyLocs d q len) 0 0 ∧ Put d B' s₁ T' ∧ Laid B B' q (q + len) (fun j => Value.int (lo8 (cv A (o + (j - q))))) ∧
      Steps p.tables e below (s₁.setTop (entryFrame m #[.ref b, .int (Int32.ofNat o), .ref d, .int (Int32.ofNat q), .int (Int32.ofNat len)] 7)) (T'.setTop (mkF m 3 #[.val (.ref b), .val (.int (Int32.ofNat (o + len))), .val (.ref d), .val (.int (Int32.ofNat (q + len))), .val (.int (Int32.ofNat len)), .val (.int (Int32.ofNat len)), z'] [])) := by
    intro r
    induction r with
    | zero =>
      intro i hi z hz Tl Bk Xl pl fl cl
      have hil : i = len := by omega
      rw [hil] at Xl fl cl
      exact ⟨Tl, Bk, z, Xl, pl, fl, cl⟩
    | succ r ih =>
      intro i hi z hz Tl Bk Xl pl fl cl
      have all := X0.warmed.alike.symm.trans Xl.warmed.alike
      have hAl := hA0.keep all (pl.other hne hA0.1)
      have hBk := hB0.like all pl.1 fl.1 fl.2.1 fl.2.2.1
      have hlt : q + i < Bk.slots.size := by rw [fl.2.2.1]; omega
      have c3 : Steps p.tables e below (s₁.setTop (entryFrame m #[.ref b, .int (Int32.ofNat o), .ref d, .int (Int32.ofNat q), .int (Int32.ofNat len)] 7)) (Tl.setTop (mkF m 12 #[.val (.ref b), .val (.int (Int32.ofNat (o + i))), .val (.ref d), .val (.int (Int32.ofNat (q + i))), .val (.int (Int32.ofNat len)), .val (.int (Int32.ofNat i)), z] [.int (Int32.ofNat (o + i)), .ref b])) := cl.trans (by
        refine XS.iload Xl.here hexec rfl (hb hbytes d3) rfl ?_
        refine XS.iload Xl.here hexec rfl (hb hbytes d5) rfl ?_
        refine XS.icmpNo Xl.here hexec rfl (hb hbytes d7) rfl (ii_ge_f (lt32 (by omega) (by omega))) ?_
        refine XS.aloadN Xl.here hexec rfl (hb hbytes d10) rfl rfl ?_
        refine XS.iloadN Xl.here hexec rfl (hb hbytes d11) rfl ?_
        exact Steps.refl _)
      have c4 : Steps p.tables e below (s₁.setTop (entryFrame m #[.ref b, .int (Int32.ofNat o), .ref d, .int (Int32.ofNat q), .int (Int32.ofNat len)] 7)) (Tl.setTop (mkF m 13 #[.val (.ref b), .val (.int (Int32.ofNat (o + i))), .val (.ref d), .val (.int (Int32.ofNat (q + i))), .val (.int (Int32.ofNat len)), .val (.int (Int32.ofNat i)), z] [.int (cv A (o + i))])) := c3.trans (by
        refine Xl.aget hexec hAl rfl (hA.get (i := o + i) (by omega)) rfl rfl (hb hbytes d12) ?_
        exact Steps.refl _)
      have c5 : Steps p.tables e below (s₁.setTop (entryFrame m #[.ref b, .int (Int32.ofNat o), .ref d, .int (Int32.ofNat q), .int (Int32.ofNat len)] 7)) (Tl.setTop (mkF m 15 #[.val (.ref b), .val (.int (Int32.ofNat (o + i))), .val (.ref d), .val (.int (Int32.ofNat (q + i))), .val (.int (Int32.ofNat len)), .val (.int (Int32.ofNat i)), .val (.int (cv A (o + i)))] [])) := c4.trans (by
        refine XS.istoreS Xl.here hexec rfl (hb hbytes d13) rfl rfl hz ?_
        exact Steps.refl _)
      have c6 : Steps p.tables e below (s₁.setTop (entryFrame m #[.ref b, .int (Int32.ofNat o), .ref d, .int (Int32.ofNat q), .int (Int32.ofNat len)] 7)) (Tl.setTop (mkF m 31 #[.val (.ref b), .val (.int (Int32.ofNat (o + i))), .val (.ref d), .val (.int (Int32.ofNat (q + i))), .val (.int (Int32.ofNat len)), .val (.int (Int32.ofNat i)), .val (.int (cv A (o + i)))] [.int (lo8 (cv A (o + i))), .int (Int32.ofNat (q + i)), .ref d])) := c5.trans (by
        refine XS.iload Xl.here hexec rfl (hb hbytes d15) rfl ?_
        refine sipushV Xl.here hexec rfl 255 (hb hbytes d17) (by decide) ?_
        refine XS.icmpYes Xl.here hexec rfl (pc0 := 20) rfl (hb hbytes d20) rfl (ii_le_t (hp i (by omega))) (by decide) rfl ?_
        refine XS.aloadN Xl.here hexec rfl (hb hbytes d26) rfl rfl ?_
        refine XS.iloadN Xl.here hexec rfl (hb hbytes d27) rfl ?_
        refine XS.iload Xl.here hexec rfl (hb hbytes d28) rfl ?_
        refine i2b Xl.here hexec rfl (hb hbytes d30) rfl ?_
        exact Steps.refl _)
      obtain ⟨T7, X7, p7, st7⟩ := Xl.aput hexec hBk rfl hlt rfl (fits_lo8 (cv A (o + i))) (g := (mkF m 31 #[.val (.ref b), .val (.int (Int32.ofNat (o + i))), .val (.ref d), .val (.int (Int32.ofNat (q + i))), .val (.int (Int32.ofNat len)), .val (.int (Int32.ofNat i)), .val (.int (cv A (o + i)))] [.int (lo8 (cv A (o + i))), .int (Int32.ofNat (q + i)), .ref d])) rfl (rest := []) rfl (hb hbytes d31)
      have c8 : Steps p.tables e below (s₁.setTop (entryFrame m #[.ref b, .int (Int32.ofNat o), .ref d, .int (Int32.ofNat q), .int (Int32.ofNat len)] 7)) (T7.setTop (mkF m 32 #[.val (.ref b), .val (.int (Int32.ofNat (o + i))), .val (.ref d), .val (.int (Int32.ofNat (q + i))), .val (.int (Int32.ofNat len)), .val (.int (Int32.ofNat i)), .val (.int (cv A (o + i)))] [])) := c6.trans (st7 _ (Steps.refl _))
      have c9 : Steps p.tables e below (s₁.setTop (entryFrame m #[.ref b, .int (Int32.ofNat o), .ref d, .int (Int32.ofNat q), .int (Int32.ofNat len)] 7)) (T7.setTop (mkF m 3 #[.val (.ref b), .val (.int (Int32.ofNat (o + i) + 1)), .val (.ref d), .val (.int (Int32.ofNat (q + i) + 1)), .val (.int (Int32.ofNat len)), .val (.int (Int32.ofNat i + 1)), .val (.int (cv A (o + i)))] [])) := c8.trans (by
        refine iincV X7.here hexec rfl 1 (hb hbytes d32) (by decide) rfl rfl ?_
        refine iincV X7.here hexec rfl 1 (hb hbytes d35) (by decide) rfl rfl ?_
        refine iincV X7.here hexec rfl 1 (hb hbytes d38) (by decide) rfl rfl ?_
        refine XS.goto X7.here hexec rfl (pc0 := 41) rfl (hb hbytes d41) (by decide) rfl ?_
        exact Steps.refl _)
      have c10 : Steps p.tables e below (s₁.setTop (entryFrame m #[.ref b, .int (Int32.ofNat o), .ref d, .int (Int32.ofNat q), .int (Int32.ofNat len)] 7)) (T7.setTop (mkF m 3 #[.val (.ref b), .val (.int (Int32.ofNat (o + (i + 1)))), .val (.ref d), .val (.int (Int32.ofNat (q + (i + 1)))), .val (.int (Int32.ofNat len)), .val (.int (Int32.ofNat (i + 1))), .val (.int (cv A (o + i)))] [])) := by
        have := c9
        rw [succ32, succ32, succ32] at this
        exact this
      exact ih (i + 1) (by omega) _ (Or.inr ⟨_, rfl, rfl⟩) T7 _ (by rw [copyLocs_step, ← List.append_assoc]; exact X7) (pl.trans p7) (fl.step (by omega) hlt (by simp)) c10
  obtain ⟨T9, B9, z9, X9, p9, f9, g9⟩ := loop len 0 (by omega) .unset (Or.inl rfl) s₁ B (by simpa [copyLocs] using X0) ⟨hB0.1, fun _ _ => rfl, rfl⟩ (Laid.zero _ _ _) c2
  have c11 : Steps p.tables e below (s₁.setTop (entryFrame m #[.ref b, .int (Int32.ofNat o), .ref d, .int (Int32.ofNat q), .int (Int32.ofNat len)] 7)) (T9.setTop (mkF m 46 #[.val (.ref b), .val (.int (Int32.ofNat (o + len))), .val (.ref d), .val (.int (Int32.ofNat (q + len))), .val (.int (Int32.ofNat len)), .val (.int (Int32.ofNat len)), z9] [.int (Int32.ofNat len)])) := g9.trans (by
    refine XS.iload X9.here hexec rfl (hb hbytes d3) rfl ?_
    refine XS.iload X9.here hexec rfl (hb hbytes d5) rfl ?_
    refine XS.icmpYes X9.here hexec rfl (pc0 := 7) rfl (hb hbytes d7) rfl (ii_ge_t (nlt32 (by omega) (Nat.le_refl _))) (by decide) rfl ?_
    refine XS.iload X9.here hexec rfl (hb hbytes d44) rfl ?_
    exact Steps.refl _)
  exact ⟨T9, some (.int (Int32.ofNat len)), _, _, _, X9, by simp, rfl, rfl, (fun h => by cases h), ⟨rfl, B9, p9.from hh0, f9⟩, fun fs hl => c11.trans (X9.ireturnOut hexec hret rfl (Or.inl rfl) (hb hbytes d46) hl)⟩
end Cmp5
namespace Cmp3
def yN : MethodName := ⟨"java/lang/StringUTF16", "compress", "([CII)[B"⟩
abbrev yB : ByteArray := jdk_52_method_16_code
theorem d0 : decode yB 0 = .ok (.iload_n 2, 1) := by decide +kernel
theorem d1 : decode yB 1 = .ok (.newarray .byte, 2) := by decide +kernel
theorem d3 : decode yB 3 = .ok (.astore_n 3, 1) := by decide +kernel
theorem d4 : decode yB 4 = .ok (.aload_n 0, 1) := by decide +kernel
theorem d5 : decode yB 5 = .ok (.iload_n 1, 1) := by decide +kernel
theorem d6 : decode yB 6 = .ok (.aload_n 3, 1) := by decide +kernel
theorem d7 : decode yB 7 = .ok (.iconst 0, 1) := by decide +kernel
theorem d8 : decode yB 8 = .ok (.iload_n 2, 1) := by decide +kernel
theorem d9 : decode yB 9 = .ok (.invokestatic 115, 3) := by decide +kernel
theorem d12 : decode yB 12 = .ok (.istore 4, 2) := by decide +kernel
theorem d14 : decode yB 14 = .ok (.iload 4, 2) := by decide +kernel
theorem d16 : decode yB 16 = .ok (.iload_n 2, 1) := by decide +kernel
theorem d17 : decode yB 17 = .ok (.if_icmp (.eq) 40, 3) := by decide +kernel
theorem d57 : decode yB 57 = .ok (.aload_n 3, 1) := by decide +kernel
theorem d58 : decode yB 58 = .ok (.areturn, 1) := by decide +kernel
def site : List Cond := [.arrayClass .byte, Cmp5.tab] ++ staticW U16 115 Cmp5.yN
def tab : Cond := tabOf yN yB 6 (some (.array .byte)) site
def P (b : Addr) (A : Cell) (o len : Nat) (args : Array Value) (s : State) : Prop := args = #[.ref b, .int (Int32.ofNat o), .int (Int32.ofNat len)] ∧ Ch b A s ∧ o + len ≤ A.slots.size ∧ len ≤ 536870912 ∧ ∀ i, i < len → ¬ 255 < cv A (o + i)
def E (b : Addr) (A : Cell) (o len : Nat) (r : Option Value) (s u : State) : Prop := NewArr .byte "[B" len (fun j => .int (lo8 (cv A (o + j)))) r s u ∧ u.heap.size = s.heap.size + 1
/-- no char of the range above 255: a new byte[] of their low bytes -/
theorem law (l : Launch) (b : Addr) (A : Cell) (o len : Nat) : Law l yN 3 3 1 18 yB 6 (some (.array .byte)) site (P b A o len) (E b A o len) [] 1 len := by
  refine Law.of_walk (plainFor_of_name (by decide +kernel)) (by decide +kernel) (by decide +kernel) (by decide) (fun _ _ h => by rw [h.1]; rfl) (fun _ U U' hal hh h => ⟨h.1, h.2.1.mv hal hh, h.2.2⟩) (fun r U U' V V' h1 hal h2 h => ⟨NewArr.mv r U U' V V' h1 hal h2 h.1, by rw [h1, h2]; exact h.2⟩) ?_
  intro p e s m args below meth c s₁ X0 hexec hbytes hml hret hlk hnm hown hh0 W hP
  obtain ⟨rfl, hA, l1, l2, hp⟩ := hP
  have a31 := hA.1.2.2.2
  have c1 : Steps p.tables e below (s₁.setTop (entryFrame m #[.ref b, .int (Int32.ofNat o), .int (Int32.ofNat len)] 6)) (s₁.setTop (mkF m 0 #[.val (.ref b), .val (.int (Int32.ofNat o)), .val (.int (Int32.ofNat len)), .unset, .unset, .unset] [])) := entry rfl
  have c2 : Steps p.tables e below (s₁.setTop (entryFrame m #[.ref b, .int (Int32.ofNat o), .int (Int32.ofNat len)] 6)) (s₁.setTop (mkF m 1 #[.val (.ref b), .val (.int (Int32.ofNat o)), .val (.int (Int32.ofNat len)), .unset, .unset, .unset] [.int (Int32.ofNat len)])) := c1.trans (by
    refine XS.iloadN X0.here hexec rfl (hb hbytes d0) rfl ?_
    exact Steps.refl _)
  obtain ⟨T3, B3, X3, ba3, bs3, bv3, bh3, bf3, st3⟩ := X0.anew hexec (atype := .byte) (wk W (.arrayClass .byte)) rfl (by show len * 1 ≤ _; omega) (by omega) (g := (mkF m 1 #[.val (.ref b), .val (.int (Int32.ofNat o)), .val (.int (Int32.ofNat len)), .unset, .unset, .unset] [.int (Int32.ofNat len)])) rfl (hb hbytes d1) (rest := []) rfl (Nat.le_refl _) (by show 0 + len ≤ len; omega)
  rw [hh0] at ba3 st3
  have kp3 : XT.Kept s T3 := (XT.Kept.of_eq hh0).push bh3
  have hA3 := hA.keep X3.warmed.alike (kp3 _ _ hA.1.1)
  have hne : b ≠ s.heap.size := hA.1.ne
  have c4 : Steps p.tables e below (s₁.setTop (entryFrame m #[.ref b, .int (Int32.ofNat o), .int (Int32.ofNat len)] 6)) (T3.setTop (mkF m 3 #[.val (.ref b), .val (.int (Int32.ofNat o)), .val (.int (Int32.ofNat len)), .unset, .unset, .unset] [.ref s.heap.size])) := c2.trans (st3 _ (Steps.refl _))
  have c5 : Steps p.tables e below (s₁.setTop (entryFrame m #[.ref b, .int (Int32.ofNat o), .int (Int32.ofNat len)] 6)) (T3.setTop (mkF m 9 #[.val (.ref b), .val (.int (Int32.ofNat o)), .val (.int (Int32.ofNat len)), .val (.ref s.heap.size), .unset, .unset] [.int (Int32.ofNat len), .int 0, .ref s.heap.size, .int (Int32.ofNat o), .ref b])) := c4.trans (by
    refine XS.astoreN X3.here hexec rfl (hb hbytes d3) rfl rfl rfl ?_
    refine XS.aloadN X3.here hexec rfl (hb hbytes d4) rfl rfl ?_
    refine XS.iloadN X3.here hexec rfl (hb hbytes d5) rfl ?_
    refine XS.aloadN X3.here hexec rfl (hb hbytes d6) rfl rfl ?_
    refine iconstV X3.here hexec rfl 0 (hb hbytes d7) (by decide) ?_
    refine XS.iloadN X3.here hexec rfl (hb hbytes d8) rfl ?_
    exact Steps.refl _)
  obtain ⟨v6, T6, X6, E6, g6⟩ := X3.callS hexec (Cmp5.law l b A s.heap.size B3 o 0 len) hown (wks W (staticW U16 115 Cmp5.yN)) (wk W Cmp5.tab) (W := 0) (Nat.le_of_ble_eq_true rfl) (Nat.le_of_ble_eq_true rfl) (Nat.le_refl _) (by show 0 + len + 0 ≤ len; omega) (g := (mkF m 9 #[.val (.ref b), .val (.int (Int32.ofNat o)), .val (.int (Int32.ofNat len)), .val (.ref s.heap.size), .unset, .unset] [.int (Int32.ofNat len), .int (Int32.ofNat 0), .ref s.heap.size, .int (Int32.ofNat o), .ref b])) rfl (by rw [hml]; rfl) c5 (argsL := [.ref b, .int (Int32.ofNat o), .ref s.heap.size, .int (Int32.ofNat 0), .int (Int32.ofNat len)]) (rest := []) rfl rfl (by show 2 * 0 + 0 ≤ _; decide) (hb hbytes d9) (⟨rfl, hA3, ba3, hne, l1, by rw [bs3]; simp, hp⟩)
  obtain ⟨rfl, B6, p6, f6⟩ := E6
  have c7 : Steps p.tables e below (s₁.setTop (entryFrame m #[.ref b, .int (Int32.ofNat o), .int (Int32.ofNat len)] 6)) (T6.setTop (mkF m 12 #[.val (.ref b), .val (.int (Int32.ofNat o)), .val (.int (Int32.ofNat len)), .val (.ref s.heap.size), .unset, .unset] [.int (Int32.ofNat len)])) := g6
  have c8 : Steps p.tables e below (s₁.setTop (entryFrame m #[.ref b, .int (Int32.ofNat o), .int (Int32.ofNat len)] 6)) (T6.setTop (mkF m 58 #[.val (.ref b), .val (.int (Int32.ofNat o)), .val (.int (Int32.ofNat len)), .val (.ref s.heap.size), .val (.int (Int32.ofNat len)), .unset] [.ref s.heap.size])) := c7.trans (by
    refine XS.istore X6.here hexec rfl (hb hbytes d12) rfl rfl ?_
    refine XS.iload X6.here hexec rfl (hb hbytes d14) rfl ?_
    refine XS.iloadN X6.here hexec rfl (hb hbytes d16) rfl ?_
    refine XS.icmpYes X6.here hexec rfl (pc0 := 17) rfl (hb hbytes d17) rfl (ii_eq_t rfl) (by decide) rfl ?_
    refine XS.aloadN X6.here hexec rfl (hb hbytes d57) rfl rfl ?_
    exact Steps.refl _)
  have X8 := X6.wide (L' := []) (cells' := 1) (slots' := len) (fun x hx hlt => by
    simp only [List.nil_append, copyLocs, List.mem_map, List.mem_range] at hx
    obtain ⟨i, -, rfl⟩ := hx
    exact absurd hlt (Nat.lt_irrefl _)) (Nat.le_refl _) (by omega)
  exact ⟨T6, some (.ref s.heap.size), _, _, _, X8, rfl, rfl, rfl, (fun h => by cases h), ⟨⟨rfl, B6, ba3.like (X3.warmed.alike.symm.trans X6.warmed.alike) p6.1 f6.1 f6.2.1 f6.2.2.1, f6.2.1.trans bv3, by rw [X6.warmed.alike.findClass, f6.1]; exact bf3, by rw [f6.2.2.1, bs3]; simp, fun j hj => by rw [f6.2.2.2 j, if_pos (by omega)]; rfl, kp3.put p6 (Nat.le_refl _)⟩, by rw [p6.2.2, bh3, hh0]; simp⟩, fun fs hl => c8.trans (X8.areturnOut hexec rfl hret rfl (hb hbytes d58) hl)⟩
end Cmp3
namespace CodL
def yN : MethodName := ⟨"java/lang/StringUTF16", "coderFromArrayLen", "([BI)B"⟩
abbrev yB : ByteArray := jdk_52_method_15_code
theorem d0 : decode yB 0 = .ok (.iload_n 1, 1) := by decide +kernel
theorem d1 : decode yB 1 = .ok (.aload_n 0, 1) := by decide +kernel
theorem d2 : decode yB 2 = .ok (.arraylength, 1) := by decide +kernel
theorem d3 : decode yB 3 = .ok (.isub, 1) := by decide +kernel
theorem d4 : decode yB 4 = .ok (.bipush 31, 2) := by decide +kernel
theorem d6 : decode yB 6 = .ok (.iushr, 1) := by decide +kernel
theorem d7 : decode yB 7 = .ok (.i2b, 1) := by decide +kernel
theorem d8 : decode yB 8 = .ok (.ireturn, 1) := by decide +kernel
def site : List Cond := []
def tab : Cond := tabOf yN yB 2 (some .byte) site
def P (d : Addr) (B : Cell) (args : Array Value) (s : State) : Prop := args = #[.ref d, .int (Int32.ofNat B.slots.size)] ∧ Arr .byte d B s
def E (r : Option Value) (s u : State) : Prop := XT.PureE (some (.int 0)) r s u
/-- an array as long as the number of chars: LATIN1 -/
theorem law (l : Launch) (d : Addr) (B : Cell) : Law l yN 2 2 0 0 yB 2 (some .byte) site (P d B) E [] 0 0 := by
  refine Law.of_walk (plainFor_of_name (by decide +kernel)) (by decide +kernel) (by decide +kernel) (by decide) (fun _ _ h => by rw [h.1]; rfl) (fun _ U U' hal hh h => ⟨h.1, h.2.mv hal hh⟩) (fun r U U' V V' h1 hal h2 h => XT.PureE.mv r U U' V V' h1 hal h2 h) ?_
  intro p e s m args below meth c s₁ X0 hexec hbytes hml hret hlk hnm hown hh0 W hP
  obtain ⟨rfl, hB⟩ := hP
  have hB0 := hB.mv X0.warmed.alike hh0
  have c1 : Steps p.tables e below (s₁.setTop (entryFrame m #[.ref d, .int (Int32.ofNat B.slots.size)] 2)) (s₁.setTop (mkF m 0 #[.val (.ref d), .val (.int (Int32.ofNat B.slots.size))] [])) := entry rfl
  have c2 : Steps p.tables e below (s₁.setTop (entryFrame m #[.ref d, .int (Int32.ofNat B.slots.size)] 2)) (s₁.setTop (mkF m 2 #[.val (.ref d), .val (.int (Int32.ofNat B.slots.size))] [.ref d, .int (Int32.ofNat B.slots.size)])) := c1.trans (by
    refine XS.iloadN X0.here hexec rfl (hb hbytes d0) rfl ?_
    refine XS.aloadN X0.here hexec rfl (hb hbytes d1) rfl rfl ?_
    exact Steps.refl _)
  have c3 : Steps p.tables e below (s₁.setTop (entryFrame m #[.ref d, .int (Int32.ofNat B.slots.size)] 2)) (s₁.setTop (mkF m 8 #[.val (.ref d), .val (.int (Int32.ofNat B.slots.size))] [.int (lo8 (ushr (Int32.ofNat B.slots.size - Int32.ofNat B.slots.size) 31))])) := c2.trans (by
    refine X0.alen hexec hB0 rfl rfl (hb hbytes d2) ?_
    refine XS.isub X0.here hexec rfl (hb hbytes d3) rfl ?_
    refine bipushV X0.here hexec rfl 31 (hb hbytes d4) (by decide) ?_
    refine iushr X0.here hexec rfl (hb hbytes d6) rfl ?_
    refine i2b X0.here hexec rfl (hb hbytes d7) rfl ?_
    exact Steps.refl _)
  have e0 : lo8 (ushr (Int32.ofNat B.slots.size - Int32.ofNat B.slots.size) 31) = 0 := by rw [Int32.sub_self]; decide
  rw [e0] at c3
  exact ⟨s₁, some (.int 0), _, _, _, X0, rfl, rfl, rfl, (fun h => by cases h), ⟨rfl, hh0⟩, fun fs hl => c3.trans (X0.ireturnOut hexec hret rfl (Or.inr (Or.inr (Or.inl rfl))) (hb hbytes d8) hl)⟩
end CodL
/-- the String at a is Latin-1 over a new byte[] (the heap's one new cell): the low bytes of the len chars of A from o on; every cell but a is kept -/
def Got (a : Addr) (D : Cell) (fV fC : Field) (A : Cell) (o len : Nat) (r : Option Value) (s u : State) : Prop := r = none ∧ ∃ D' V : Cell, Blank "java/lang/String" a D' u ∧ Same D D' [fV.slot, fC.slot] ∧ D'.slots[fV.slot]? = some (.ref s.heap.size) ∧ D'.slots[fC.slot]? = some (.int 0) ∧ Arr .byte s.heap.size V u ∧ V.vm = .none ∧ u.vm.findClass "[B" = some V.cls ∧ V.slots.size = len ∧ (∀ j, j < len → V.slots[j]? = some (.int (lo8 (cv A (o + j))))) ∧ (∀ (y : Addr) (c : Cell), y ≠ a → s.heap[y]? = some c → u.heap[y]? = some c) ∧ u.heap.size = s.heap.size + 1
theorem Got.mv {a : Addr} {D A : Cell} {fV fC : Field} {o len : Nat} : ∀ r (U U' V V' : State), U'.heap = U.heap → V.vm.Alike V'.vm → V'.heap = V.heap → Got a D fV fC A o len r U V → Got a D fV fC A o len r U' V' :=
  fun r U U' V V' h1 hal h2 ⟨e0, D', X, a1, a2, a3, a4, a5, a6, a7, a8, a9, a10, a11⟩ => ⟨e0, D', X, a1.mv hal h2, a2, by rw [h1]; exact a3, a4, by rw [h1]; exact a5.mv hal h2, a6, by rw [hal.findClass]; exact a7, a8, a9, by rw [h1, h2]; exact a10, by rw [h1, h2]; exact a11⟩
namespace New4
def yN : MethodName := ⟨"java/lang/String", "<init>", "([CIILjava/lang/Void;)V"⟩
abbrev yB : ByteArray := jdk_42_method_149_code
theorem d0 : decode yB 0 = .ok (.aload_n 0, 1) := by decide +kernel
theorem d1 : decode yB 1 = .ok (.invokespecial 1, 3) := by decide +kernel
theorem d4 : decode yB 4 = .ok (.iload_n 3, 1) := by decide +kernel
theorem d5 : decode yB 5 = .ok (.ifCond (.ne) 22, 3) := by decide +kernel
theorem d27 : decode yB 27 = .ok (.getstatic 38, 3) := by decide +kernel
theorem d30 : decode yB 30 = .ok (.ifCond (.eq) 28, 3) := by decide +kernel
theorem d33 : decode yB 33 = .ok (.aload_n 1, 1) := by decide +kernel
theorem d34 : decode yB 34 = .ok (.iload_n 2, 1) := by decide +kernel
theorem d35 : decode yB 35 = .ok (.iload_n 3, 1) := by decide +kernel
theorem d36 : decode yB 36 = .ok (.invokestatic 177, 3) := by decide +kernel
theorem d39 : decode yB 39 = .ok (.astore 5, 2) := by decide +kernel
theorem d41 : decode yB 41 = .ok (.aload_n 0, 1) := by decide +kernel
theorem d42 : decode yB 42 = .ok (.aload 5, 2) := by decide +kernel
theorem d44 : decode yB 44 = .ok (.iload_n 3, 1) := by decide +kernel
theorem d45 : decode yB 45 = .ok (.invokestatic 47, 3) := by decide +kernel
theorem d48 : decode yB 48 = .ok (.putfield 15, 3) := by decide +kernel
theorem d51 : decode yB 51 = .ok (.aload_n 0, 1) := by decide +kernel
theorem d52 : decode yB 52 = .ok (.aload 5, 2) := by decide +kernel
theorem d54 : decode yB 54 = .ok (.putfield 9, 3) := by decide +kernel
theorem d57 : decode yB 57 = .ok (.return_, 1) := by decide +kernel
def site : List Cond := [.fieldLink "java/lang/String" 38 "java/lang/String" "COMPACT_STRINGS" "Z", Cmp3.tab, CodL.tab, .laysFinal "java/lang/String" "java/lang/String" "value" "[B", .fieldLink "java/lang/String" 9 "java/lang/String" "value" "[B", .laysFinal "java/lang/String" "java/lang/String" "coder" "B", .fieldLink "java/lang/String" 15 "java/lang/String" "coder" "B"] ++ objW "java/lang/String" 1 ++ staticW "java/lang/String" 177 Cmp3.yN ++ staticW "java/lang/String" 47 CodL.yN
def tab : Cond := tabOf yN yB 6 none site
def P (a : Addr) (D : Cell) (fV fC : Field) (b : Addr) (A : Cell) (z : Int32) (o len : Nat) (args : Array Value) (s : State) : Prop := args = #[.ref a, .ref b, .int (Int32.ofNat o), .int (Int32.ofNat len), .null] ∧ Blank "java/lang/String" a D s ∧ Found "java/lang/String" "value" "[B" fV s ∧ Found "java/lang/String" "coder" "B" fC s ∧ Ch b A s ∧ StaticIs s "java/lang/String" "COMPACT_STRINGS" "Z" (.int z) ∧ ¬ z = 0 ∧ 0 < len ∧ o + len ≤ A.slots.size ∧ len ≤ 536870912 ∧ ∀ i, i < len → ¬ 255 < cv A (o + i)
def E (a : Addr) (D : Cell) (fV fC : Field) (A : Cell) (o len : Nat) (r : Option Value) (s u : State) : Prop := Got a D fV fC A o len r s u
/-- len > 0, no char of the range above 255: a Latin-1 String of their low bytes -/
theorem law (l : Launch) (a : Addr) (D : Cell) (fV fC : Field) (b : Addr) (A : Cell) (z : Int32) (o len : Nat) : Law l yN 5 4 2 35 yB 6 none site (P a D fV fC b A z o len) (E a D fV fC A o len) [⟨a, fC.slot⟩, ⟨a, fV.slot⟩] 1 len := by
  refine Law.of_walk (plainFor_of_name (by decide +kernel)) (by decide +kernel) (by decide +kernel) (by decide) (fun _ _ h => by rw [h.1]; rfl) (fun _ U U' hal hh h => ⟨h.1, h.2.1.mv hal hh, h.2.2.1.al hal, h.2.2.2.1.al hal, h.2.2.2.2.1.mv hal hh, h.2.2.2.2.2.1.there hal hh, h.2.2.2.2.2.2⟩) (fun r U U' V V' h1 hal h2 h => Got.mv r U U' V V' h1 hal h2 h) ?_
  intro p e s m args below meth c s₁ X0 hexec hbytes hml hret hlk hnm hown hh0 W hP
  obtain ⟨rfl, hB, f1, f2, hA, s1, hz, l0, l1, l2, hp⟩ := hP
  have a31 := hA.1.2.2.2
  have c1 : Steps p.tables e below (s₁.setTop (entryFrame m #[.ref a, .ref b, .int (Int32.ofNat o), .int (Int32.ofNat len), .null] 6)) (s₁.setTop (mkF m 0 #[.val (.ref a), .val (.ref b), .val (.int (Int32.ofNat o)), .val (.int (Int32.ofNat len)), .val .null, .unset] [])) := entry rfl
  have c2 : Steps p.tables e below (s₁.setTop (entryFrame m #[.ref a, .ref b, .int (Int32.ofNat o), .int (Int32.ofNat len), .null] 6)) (s₁.setTop (mkF m 1 #[.val (.ref a), .val (.ref b), .val (.int (Int32.ofNat o)), .val (.int (Int32.ofNat len)), .val .null, .unset] [.ref a])) := c1.trans (by
    refine XS.aloadN X0.here hexec rfl (hb hbytes d0) rfl rfl ?_
    exact Steps.refl _)
  obtain ⟨T3, X3, q3, st3⟩ := X0.oinit hexec hown (wks W (objW "java/lang/String" 1)) (g := (mkF m 1 #[.val (.ref a), .val (.ref b), .val (.int (Int32.ofNat o)), .val (.int (Int32.ofNat len)), .val .null, .unset] [.ref a])) rfl (by rw [hml]; rfl) (rest := []) rfl (hb hbytes d1) (W := 0) (by show 2 * 0 + 0 ≤ _; decide) (Nat.le_of_ble_eq_true rfl) (Nat.le_of_ble_eq_true rfl)
  have hh3 := q3.trans hh0
  have c4 : Steps p.tables e below (s₁.setTop (entryFrame m #[.ref a, .ref b, .int (Int32.ofNat o), .int (Int32.ofNat len), .null] 6)) (T3.setTop (mkF m 27 #[.val (.ref a), .val (.ref b), .val (.int (Int32.ofNat o)), .val (.int (Int32.ofNat len)), .val .null, .unset] [])) := (c2.trans (st3 _ (Steps.refl _))).trans (by
    refine XS.iloadN X3.here hexec rfl (hb hbytes d4) rfl ?_
    refine XS.ifYes X3.here hexec rfl (pc0 := 5) rfl (hb hbytes d5) rfl (i0_ne_t (nz32 (by omega) l0)) (by decide) rfl ?_
    exact Steps.refl _)
  obtain ⟨T5, X5, q5, st5⟩ := X3.sget hexec hown (wk W (.fieldLink "java/lang/String" 38 "java/lang/String" "COMPACT_STRINGS" "Z")) s1 (fun _ _ h => by rw [hh3]; exact h) (g := (mkF m 27 #[.val (.ref a), .val (.ref b), .val (.int (Int32.ofNat o)), .val (.int (Int32.ofNat len)), .val .null, .unset] [])) rfl (hb hbytes d27)
  have hh5 := q5.trans hh3
  have c6 : Steps p.tables e below (s₁.setTop (entryFrame m #[.ref a, .ref b, .int (Int32.ofNat o), .int (Int32.ofNat len), .null] 6)) (T5.setTop (mkF m 30 #[.val (.ref a), .val (.ref b), .val (.int (Int32.ofNat o)), .val (.int (Int32.ofNat len)), .val .null, .unset] [.int z])) := c4.trans (st5 _ (Steps.refl _))
  have c7 : Steps p.tables e below (s₁.setTop (entryFrame m #[.ref a, .ref b, .int (Int32.ofNat o), .int (Int32.ofNat len), .null] 6)) (T5.setTop (mkF m 36 #[.val (.ref a), .val (.ref b), .val (.int (Int32.ofNat o)), .val (.int (Int32.ofNat len)), .val .null, .unset] [.int (Int32.ofNat len), .int (Int32.ofNat o), .ref b])) := c6.trans (by
    refine XS.ifNo X5.here hexec rfl (hb hbytes d30) rfl (i0_eq_f hz) ?_
    refine XS.aloadN X5.here hexec rfl (hb hbytes d33) rfl rfl ?_
    refine XS.iloadN X5.here hexec rfl (hb hbytes d34) rfl ?_
    refine XS.iloadN X5.here hexec rfl (hb hbytes d35) rfl ?_
    exact Steps.refl _)
  obtain ⟨v8, T8, X8, E8, g8⟩ := X5.callS hexec (Cmp3.law l b A o len) hown (wks W (staticW "java/lang/String" 177 Cmp3.yN)) (wk W Cmp3.tab) (W := 0) (Nat.le_of_ble_eq_true rfl) (Nat.le_of_ble_eq_true rfl) (Nat.le_refl _) (by show 0 + len ≤ len; omega) (g := (mkF m 36 #[.val (.ref a), .val (.ref b), .val (.int (Int32.ofNat o)), .val (.int (Int32.ofNat len)), .val .null, .unset] [.int (Int32.ofNat len), .int (Int32.ofNat o), .ref b])) rfl (by rw [hml]; rfl) c7 (argsL := [.ref b, .int (Int32.ofNat o), .int (Int32.ofNat len)]) (rest := []) rfl rfl (by show 2 * 0 + 0 ≤ _; decide) (hb hbytes d36) (⟨rfl, hA.mv X5.warmed.alike hh5, l1, l2, hp⟩)
  obtain ⟨e8, z8⟩ := E8
  obtain ⟨rfl, N, n1, n2, n3, n4, n5, n6⟩ := NewArr.mv _ T5 s _ _ hh5.symm (Vm.Alike.refl _) rfl e8
  rw [hh5] at z8
  have hB1 := hB.keep X8.warmed.alike (n6 _ _ hB.1)
  have hne : s.heap.size ≠ a := (Nat.ne_of_lt (Array.getElem?_eq_some_iff.mp hB.1).1).symm
  have c9 : Steps p.tables e below (s₁.setTop (entryFrame m #[.ref a, .ref b, .int (Int32.ofNat o), .int (Int32.ofNat len), .null] 6)) (T8.setTop (mkF m 39 #[.val (.ref a), .val (.ref b), .val (.int (Int32.ofNat o)), .val (.int (Int32.ofNat len)), .val .null, .unset] [.ref s.heap.size])) := g8
  have c10 : Steps p.tables e below (s₁.setTop (entryFrame m #[.ref a, .ref b, .int (Int32.ofNat o), .int (Int32.ofNat len), .null] 6)) (T8.setTop (mkF m 45 #[.val (.ref a), .val (.ref b), .val (.int (Int32.ofNat o)), .val (.int (Int32.ofNat len)), .val .null, .val (.ref s.heap.size)] [.int (Int32.ofNat N.slots.size), .ref s.heap.size, .ref a])) := by
    have hc : Steps p.tables e below (s₁.setTop (entryFrame m #[.ref a, .ref b, .int (Int32.ofNat o), .int (Int32.ofNat len), .null] 6)) (T8.setTop (mkF m 45 #[.val (.ref a), .val (.ref b), .val (.int (Int32.ofNat o)), .val (.int (Int32.ofNat len)), .val .null, .val (.ref s.heap.size)] [.int (Int32.ofNat len), .ref s.heap.size, .ref a])) := c9.trans (by
      refine XS.astore X8.here hexec rfl (hb hbytes d39) rfl rfl rfl ?_
      refine XS.aloadN X8.here hexec rfl (hb hbytes d41) rfl rfl ?_
      refine XS.aload X8.here hexec rfl (hb hbytes d42) rfl rfl ?_
      refine XS.iloadN X8.here hexec rfl (hb hbytes d44) rfl ?_
      exact Steps.refl _)
    rw [n4]; exact hc
  obtain ⟨v11, T11, X11, E11, g11⟩ := X8.callS hexec (CodL.law l s.heap.size N) hown (wks W (staticW "java/lang/String" 47 CodL.yN)) (wk W CodL.tab) (W := 1) (Nat.le_of_ble_eq_true rfl) (Nat.le_of_ble_eq_true rfl) (Nat.le_refl _) (by show 0 + len + 0 ≤ len; omega) (g := (mkF m 45 #[.val (.ref a), .val (.ref b), .val (.int (Int32.ofNat o)), .val (.int (Int32.ofNat len)), .val .null, .val (.ref s.heap.size)] [.int (Int32.ofNat N.slots.size), .ref s.heap.size, .ref a])) rfl (by rw [hml]; rfl) c10 (argsL := [.ref s.heap.size, .int (Int32.ofNat N.slots.size)]) (rest := [.ref a]) rfl rfl (by show 2 * 0 + (1 + 0) ≤ _; decide) (hb hbytes d45) (⟨rfl, n1⟩)
  obtain ⟨rfl, q11⟩ := E11
  have hB11 := hB1.mv (X8.warmed.alike.symm.trans X11.warmed.alike) q11
  have c12 : Steps p.tables e below (s₁.setTop (entryFrame m #[.ref a, .ref b, .int (Int32.ofNat o), .int (Int32.ofNat len), .null] 6)) (T11.setTop (mkF m 48 #[.val (.ref a), .val (.ref b), .val (.int (Int32.ofNat o)), .val (.int (Int32.ofNat len)), .val .null, .val (.ref s.heap.size)] [.int 0, .ref a])) := g11
  obtain ⟨T13, X13, p13, bl13, sl13, st13⟩ := X11.finit hexec hown (wk W (.fieldLink "java/lang/String" 15 "java/lang/String" "coder" "B")) (Or.inr ⟨_, (wk W (.laysFinal "java/lang/String" "java/lang/String" "coder" "B"))⟩) (Or.inl ⟨rfl, hnm⟩) f2 (Or.inl rfl) hB11 (t := .byte) (by decide +kernel) rfl (g := (mkF m 48 #[.val (.ref a), .val (.ref b), .val (.int (Int32.ofNat o)), .val (.int (Int32.ofNat len)), .val .null, .val (.ref s.heap.size)] [.int 0, .ref a])) rfl (rest := []) rfl (hb hbytes d48)
  have c14 : Steps p.tables e below (s₁.setTop (entryFrame m #[.ref a, .ref b, .int (Int32.ofNat o), .int (Int32.ofNat len), .null] 6)) (T13.setTop (mkF m 54 #[.val (.ref a), .val (.ref b), .val (.int (Int32.ofNat o)), .val (.int (Int32.ofNat len)), .val .null, .val (.ref s.heap.size)] [.ref s.heap.size, .ref a])) := (c12.trans (st13 _ (Steps.refl _))).trans (by
    refine XS.aloadN X13.here hexec rfl (hb hbytes d51) rfl rfl ?_
    refine XS.aload X13.here hexec rfl (hb hbytes d52) rfl rfl ?_
    exact Steps.refl _)
  obtain ⟨T15, X15, p15, bl15, sl15, st15⟩ := X13.finit hexec hown (wk W (.fieldLink "java/lang/String" 9 "java/lang/String" "value" "[B")) (Or.inr ⟨_, (wk W (.laysFinal "java/lang/String" "java/lang/String" "value" "[B"))⟩) (Or.inl ⟨rfl, hnm⟩) f1 (Or.inl rfl) bl13 (t := (.array .byte)) (by decide +kernel) rfl (g := (mkF m 54 #[.val (.ref a), .val (.ref b), .val (.int (Int32.ofNat o)), .val (.int (Int32.ofNat len)), .val .null, .val (.ref s.heap.size)] [.ref s.heap.size, .ref a])) rfl (rest := []) rfl (hb hbytes d54)
  have c16 : Steps p.tables e below (s₁.setTop (entryFrame m #[.ref a, .ref b, .int (Int32.ofNat o), .int (Int32.ofNat len), .null] 6)) (T15.setTop (mkF m 57 #[.val (.ref a), .val (.ref b), .val (.int (Int32.ofNat o)), .val (.int (Int32.ofNat len)), .val .null, .val (.ref s.heap.size)] [])) := c14.trans (st15 _ (Steps.refl _))
  have ap := apart (Or.inr ⟨_, (wk W (.laysFinal "java/lang/String" "java/lang/String" "value" "[B"))⟩) (Or.inr ⟨_, (wk W (.laysFinal "java/lang/String" "java/lang/String" "coder" "B"))⟩) f1 f2 (t₁ := .array .byte) (t₂ := .byte) (by decide +kernel) (by decide +kernel) (by decide)
  have al := X8.warmed.alike.symm.trans X15.warmed.alike
  have n7 : T11.heap[s.heap.size]? = some N := by rw [q11]; exact n1.1
  exact ⟨T15, none, _, _, _, X15, by simp, rfl, by omega, (fun _ => rfl), ⟨rfl, _, N, bl15, ((Same.refl D _).set _ (by simp)).set _ (by simp), sl15, (Cell.slots_setSlot_ne _ ap).trans sl13, n1.keep al (p15.other hne (p13.other hne n7)), n2, by rw [al.findClass]; exact n3, n4, n5, fun y c h1 h2 => p15.other h1 (p13.other h1 (by rw [q11]; exact n6 y c h2)), by rw [p15.2.2, p13.2.2, q11]; exact z8⟩, fun fs hl => c16.trans (X15.returnOut hexec hret (hb hbytes d57) hl)⟩
end New4
namespace New1
def yN : MethodName := ⟨"java/lang/String", "<init>", "([C)V"⟩
abbrev yB : ByteArray := jdk_42_method_3_code
theorem d0 : decode yB 0 = .ok (.aload_n 0, 1) := by decide +kernel
theorem d1 : decode yB 1 = .ok (.aload_n 1, 1) := by decide +kernel
theorem d2 : decode yB 2 = .ok (.iconst 0, 1) := by decide +kernel
theorem d3 : decode yB 3 = .ok (.aload_n 1, 1) := by decide +kernel
theorem d4 : decode yB 4 = .ok (.arraylength, 1) := by decide +kernel
theorem d5 : decode yB 5 = .ok (.aconst_null, 1) := by decide +kernel
theorem d6 : decode yB 6 = .ok (.invokespecial 27, 3) := by decide +kernel
theorem d9 : decode yB 9 = .ok (.return_, 1) := by decide +kernel
def site : List Cond := [New4.tab] ++ initW "java/lang/String" 27 New4.yN
def tab : Cond := tabOf yN yB 2 none site
def P (a : Addr) (D : Cell) (fV fC : Field) (b : Addr) (A : Cell) (z : Int32) (args : Array Value) (s : State) : Prop := args = #[.ref a, .ref b] ∧ Blank "java/lang/String" a D s ∧ Found "java/lang/String" "value" "[B" fV s ∧ Found "java/lang/String" "coder" "B" fC s ∧ Ch b A s ∧ StaticIs s "java/lang/String" "COMPACT_STRINGS" "Z" (.int z) ∧ ¬ z = 0 ∧ 0 < A.slots.size ∧ A.slots.size ≤ 536870912 ∧ ∀ i, i < A.slots.size → ¬ 255 < cv A i
def E (a : Addr) (D : Cell) (fV fC : Field) (A : Cell) (r : Option Value) (s u : State) : Prop := Got a D fV fC A 0 A.slots.size r s u
/-- new String(chars), not empty, no char above 255: a Latin-1 String of their low bytes -/
theorem law (l : Launch) (a : Addr) (D : Cell) (fV fC : Field) (b : Addr) (A : Cell) (z : Int32) : Law l yN 2 1 3 52 yB 2 none site (P a D fV fC b A z) (E a D fV fC A) [⟨a, fC.slot⟩, ⟨a, fV.slot⟩] 1 A.slots.size := by
  refine Law.of_walk (plainFor_of_name (by decide +kernel)) (by decide +kernel) (by decide +kernel) (by decide) (fun _ _ h => by rw [h.1]; rfl) (fun _ U U' hal hh h => ⟨h.1, h.2.1.mv hal hh, h.2.2.1.al hal, h.2.2.2.1.al hal, h.2.2.2.2.1.mv hal hh, h.2.2.2.2.2.1.there hal hh, h.2.2.2.2.2.2⟩) (fun r U U' V V' h1 hal h2 h => Got.mv r U U' V V' h1 hal h2 h) ?_
  intro p e s m args below meth c s₁ X0 hexec hbytes hml hret hlk hnm hown hh0 W hP
  obtain ⟨rfl, hB, f1, f2, hA, s1, hz, l0, l2, hp⟩ := hP
  have c1 : Steps p.tables e below (s₁.setTop (entryFrame m #[.ref a, .ref b] 2)) (s₁.setTop (mkF m 0 #[.val (.ref a), .val (.ref b)] [])) := entry rfl
  have c2 : Steps p.tables e below (s₁.setTop (entryFrame m #[.ref a, .ref b] 2)) (s₁.setTop (mkF m 6 #[.val (.ref a), .val (.ref b)] [.null, .int (Int32.ofNat A.slots.size), .int 0, .ref b, .ref a])) := c1.trans (by
    refine XS.aloadN X0.here hexec rfl (hb hbytes d0) rfl rfl ?_
    refine XS.aloadN X0.here hexec rfl (hb hbytes d1) rfl rfl ?_
    refine iconstV X0.here hexec rfl 0 (hb hbytes d2) (by decide) ?_
    refine XS.aloadN X0.here hexec rfl (hb hbytes d3) rfl rfl ?_
    refine X0.alen hexec (hA.1.mv X0.warmed.alike hh0) rfl rfl (hb hbytes d4) ?_
    refine XS.aconstNull X0.here hexec rfl (hb hbytes d5) ?_
    exact Steps.refl _)
  obtain ⟨v3, T3, X3, E3, g3⟩ := X0.callN hexec (New4.law l a D fV fC b A z 0 A.slots.size) rfl hown (wks W (initW "java/lang/String" 27 New4.yN)) (W New4.tab (by simp only [site, List.mem_cons, List.mem_append, true_or, or_true])) (W := 0) (Nat.le_of_ble_eq_true rfl) (Nat.le_of_ble_eq_true rfl) (Nat.le_refl _) (by show 0 + A.slots.size ≤ A.slots.size; omega) (g := (mkF m 6 #[.val (.ref a), .val (.ref b)] [.null, .int (Int32.ofNat A.slots.size), .int (Int32.ofNat 0), .ref b, .ref a])) rfl (by rw [hml]; rfl) c2 (argsL := [.ref b, .int (Int32.ofNat 0), .int (Int32.ofNat A.slots.size), .null]) (rest := []) rfl rfl (by show 2 * 0 + 0 ≤ _; decide) (hb hbytes d6) (⟨rfl, hB.mv X0.warmed.alike hh0, f1.al X0.warmed.alike, f2.al X0.warmed.alike, hA.mv X0.warmed.alike hh0, s1.there X0.warmed.alike hh0, hz, l0, by omega, l2, fun i hi => by rw [Nat.zero_add]; exact hp i hi⟩)
  have e0 := Got.mv _ s₁ s _ _ hh0.symm (Vm.Alike.refl _) rfl E3
  obtain rfl := e0.1
  have c4 : Steps p.tables e below (s₁.setTop (entryFrame m #[.ref a, .ref b] 2)) (T3.setTop (mkF m 9 #[.val (.ref a), .val (.ref b)] [])) := g3
  exact ⟨T3, none, _, _, _, X3, by simp, rfl, by omega, (fun _ => rfl), e0, fun fs hl => c4.trans (X3.returnOut hexec hret (hb hbytes d9) hl)⟩
theorem pays {l : Launch} {R : Room} {p : Program} {e : Env} {below : List Frame} {s : State} {sargs : Array Value} {len W : Nat} (a : Addr) (D : Cell) (fV fC : Field) (b : Addr) (A : Cell) (z : Int32) (htab : tab.before sargs s = true) (hfr : 4 ≤ R.frames) (hlo : W + 65 ≤ R.locals) :
    Back l R p e below s sargs yN len W (fun A₁ a₁ => A₁.cells + 1 ≤ R.cells ∧ A₁.slots + A.slots.size ≤ R.slots ∧ P a D fV fC b A z a₁ A₁.U) (fun A₁ _ v₁ B₁ => E a D fV fC A v₁ A₁.U B₁.U ∧ B₁.locs = A₁.locs ++ [⟨a, fC.slot⟩, ⟨a, fV.slot⟩] ∧ B₁.cells = A₁.cells + 1 ∧ B₁.slots = A₁.slots + A.slots.size) :=
  (law l a D fV fC b A z).pays htab hfr (by omega)
end New1
/-- the byte, read back as charAt reads it, is the char -/
theorem lo8_mask {x : Int32} (h0 : ¬ x < 0) (h1 : ¬ 255 < x) : lo8 x &&& 255 = x := by
  have t : ∀ k : Fin 256, lo8 (Int32.ofNat k.val) &&& 255 = Int32.ofNat k.val := by decide +kernel
  rw [Int32.lt_iff_toInt_lt] at h0 h1
  have e0 : (0 : Int32).toInt = 0 := rfl
  have e1 : (255 : Int32).toInt = 255 := rfl
  obtain ⟨k, hk⟩ : ∃ k : Nat, x.toInt = k := ⟨x.toInt.toNat, by omega⟩
  have hx : x = Int32.ofNat k := Int32.toInt_inj.mp (by rw [hk, Int32.toInt_ofNat_small (by omega)])
  rw [hx]
  exact t ⟨k, by omega⟩
end StrChars
namespace StrChars.Road
open Jvm Sem ClassFile Op Lib Jvm.Stand Jvm.Free Jvm.Free.XT
open Jvm.Lib.Cold (StaticIs)
abbrev ST : String := "java/lang/String"
/-- every table word that New1's law asks, flat -/
abbrev words : List Jvm.Cond := [.code New1.yN New1.yB 2 none, .initialized ST, .methodLink ST 27 New4.yN, .instanceMethod New4.yN,
  .code New4.yN New4.yB 6 none, .fieldLink ST 38 ST "COMPACT_STRINGS" "Z", .laysFinal ST ST "value" "[B", .fieldLink ST 9 ST "value" "[B", .laysFinal ST ST "coder" "B", .fieldLink ST 15 ST "coder" "B",
  .methodLink ST 1 Lib.objectInit, .instanceMethod Lib.objectInit, .code Lib.objectInit ⟨#[0xb1]⟩ 1 none, .methodLink ST 177 Cmp3.yN, .static Cmp3.yN, .methodLink ST 47 CodL.yN, .static CodL.yN,
  .code Cmp3.yN Cmp3.yB 6 (some (.array .byte)), .initialized U16, .arrayClass .byte, .methodLink U16 115 Cmp5.yN, .static Cmp5.yN, .code Cmp5.yN Cmp5.yB 7 (some .int), .code CodL.yN CodL.yB 2 (some .byte)]
theorem tab_of {a : Array Value} {s : State} (h : ∀ w ∈ words, w.before a s = true) : New1.tab.before a s = true := by
  have h5 : Cmp5.tab.before a s = true := unparts (wk h (.code Cmp5.yN Cmp5.yB 7 (some .int))) (wks h (.initialized Cmp5.yN.cls :: Cmp5.site))
  have hc : CodL.tab.before a s = true := unparts (wk h (.code CodL.yN CodL.yB 2 (some .byte))) (wks h (.initialized CodL.yN.cls :: CodL.site))
  have q5 : ∀ w ∈ Cmp5.tab :: words, w.before a s = true := fun w hw => (List.mem_cons.mp hw).elim (fun e => e ▸ h5) (h w)
  have h3 : Cmp3.tab.before a s = true := unparts (wk q5 (.code Cmp3.yN Cmp3.yB 6 (some (.array .byte)))) (wks q5 (.initialized Cmp3.yN.cls :: Cmp3.site))
  have q3 : ∀ w ∈ Cmp3.tab :: CodL.tab :: words, w.before a s = true := fun w hw => (List.mem_cons.mp hw).elim (fun e => e ▸ h3) fun hw => (List.mem_cons.mp hw).elim (fun e => e ▸ hc) (h w)
  have h4 : New4.tab.before a s = true := unparts (wk q3 (.code New4.yN New4.yB 6 none)) (wks q3 (.initialized New4.yN.cls :: New4.site))
  have q4 : ∀ w ∈ New4.tab :: words, w.before a s = true := fun w hw => (List.mem_cons.mp hw).elim (fun e => e ▸ h4) (h w)
  exact unparts (wk q4 (.code New1.yN New1.yB 2 none)) (wks q4 (.initialized New1.yN.cls :: New1.site))
/-- the words ride from the start Z to the walk's own state -/
theorem moved {Z s : State} {a0 args : Array Value} (hZ : Z.Warmed39 s.vm) (hw : ∀ d ∈ words, d.before a0 Z = true) : ∀ d ∈ words, d.before args s = true := fun d hd => by
  have q := hw d hd
  have t : ∀ d ∈ words, d = .arrayClass .byte ∨ (d.onTables && d.keepsFace) = true := by decide +kernel
  rcases t d hd with rfl | t
  · exact RoadKit.mvA hZ q
  · exact RoadKit.mv hZ q t
/-- WHAT COMES BACK, over the tables of the start Z: h the heap at the call, h' behind it -/
def Q (Z : State) (x : Addr) (A : Cell) (h : Heap) (v : Option Value) (h' : Heap) (L : List Loc) : Prop := v = none ∧ (∀ y ∈ L, y.base = x) ∧ RoadKit.Keep h h' [x] ∧ h'.size = h.size + 1 ∧ RoadKit.Exa Z h' x ST ∧ RoadKit.Fld Z h' x ST "value" "[B" (.ref h.size) ∧ RoadKit.Fld Z h' x ST "coder" "B" (.int 0) ∧
  (∃ V : Cell, RoadKit.Arr Z h' h.size V .byte ∧ V.vm = .none ∧ Z.vm.findClass "[B" = some V.cls ∧ V.slots.size = A.slots.size ∧ ∀ j, j < A.slots.size → V.slots[j]? = some (.int (lo8 (cv A j)))) ∧
  ∀ (O n d : String) (w : Value), RoadKit.Fld Z h x O n d w → RoadKit.slotOf Z O n d ≠ RoadKit.slotOf Z ST "value" "[B" → RoadKit.slotOf Z O n d ≠ RoadKit.slotOf Z ST "coder" "B" → RoadKit.Fld Z h' x O n d w
/-- **new String(chars) AT A CALL, IN THE ROAD'S FORM**: for specialBack behind newO: x the fresh String, b the char[] with the cell A -/
theorem back {p : Program} {l : Launch} {e : Env} {R : Room} {s : State} {args : Array Value} {below : List Frame} {len W : Nat} {Z : State} {a0 : Array Value} {h : Heap} (hZ : Z.Warmed39 s.vm) (hw : ∀ d ∈ words, d.before a0 Z = true) {kI : Nat} (wi : (Jvm.Cond.instantiable ST kI).before a0 Z = true)
    {x b : Addr} {A : Cell} {z : Int32} {v0 c0 : Value} (E : RoadKit.Exa Z h x ST) (V : RoadKit.Fld Z h x ST "value" "[B" v0) (C : RoadKit.Fld Z h x ST "coder" "B" c0) (K : RoadKit.Arr Z h b A .char) (hty : Typed .char A) (S : RoadKit.Sta Z h ST "COMPACT_STRINGS" "Z" (.int z)) (hz : ¬ z = 0)
    (l0 : 0 < A.slots.size) (l2 : A.slots.size ≤ 536870912) (hp : ∀ i, i < A.slots.size → ¬ 255 < cv A i) (hfr : 4 ≤ R.frames) (hlo : W + 65 ≤ R.locals) :
    Back l R p e below s args New1.yN len W (fun P a => a = #[.ref x, .ref b] ∧ P.U.heap = h ∧ P.cells + 1 ≤ R.cells ∧ P.slots + A.slots.size ≤ R.slots)
      (fun P _ v B => ∃ L, Q Z x A h v B.U.heap L ∧ B.locs = P.locs ++ L ∧ B.cells = P.cells + 1 ∧ B.slots = P.slots + A.slots.size) := by
  intro m meth c P g ig mk a X hg hsize hdg hW hn hp'
  obtain ⟨rfl, rfl, r1, r2⟩ := hp'
  have al : Z.vm.Alike P.U.vm := hZ.alike.trans X.warmed.alike
  obtain ⟨D, cfV, kV, iV, fV, hD, gV, stV, knV, obV, asV, slV⟩ := id V
  obtain ⟨D', cfC, kC, iC, fC, hD', gC, stC, -, -, asC, slC⟩ := id C
  cases hD.symm.trans hD'
  obtain ⟨D2, kD, e1, e2, e3, e4, e5⟩ := id E
  cases hD.symm.trans e1
  obtain ⟨c2, k2, i1, i2, i3, -⟩ := Cond.instantiable_spec wi
  cases e2.symm.trans i1
  cases e3.symm.trans i2
  obtain ⟨kU, u1, u2⟩ := al.2.2 _ _ e3
  have hB : Blank ST x D P.U := ⟨hD, ⟨knV, fun q hq => by rw [hq] at obV; cases obV⟩, by rw [al.findClass]; exact e2, kU, u1, by rw [u2]; exact i3, by rw [u2]; exact e5 i3⟩
  have F1 : Found ST "value" "[B" fV P.U := ⟨SBG.found_only al ⟨cfV, kV, iV, gV⟩, stV⟩
  have F2 : Found ST "coder" "B" fC P.U := ⟨SBG.found_only al ⟨cfC, kC, iC, gC⟩, stC⟩
  have hA : Ch b A P.U := ⟨⟨K.1, State.isArrayOf_alike al K.2.1, K.2.2, by omega⟩, hty⟩
  have hS : StaticIs P.U ST "COMPACT_STRINGS" "Z" (.int z) := by
    obtain ⟨cfS, iS, kS, fS, st, cS, t1, t2, t3, t4, t5, t6, t7⟩ := S
    exact StaticIs.there (s := { Z with heap := P.U.heap }) ⟨cfS, iS, kS, fS, st, cS, t1, t2, t3, t4, t5, (fun q => by rw [q] at t6; cases t6), t7⟩ al rfl
  obtain ⟨v, B, X', ⟨⟨hv, E', V', q1, q2, q3, q4, q5, q6, q7, q8, q9, q10, q11⟩, hl, hc, hs⟩, st⟩ := New1.pays x D fV fC b A z (tab_of (moved hZ hw)) hfr hlo m meth c P g ig mk _ X hg hsize hdg hW hn ⟨r1, r2, rfl, hB, F1, F2, hA, hS, hz, l0, l2, hp⟩
  have al' : Z.vm.Alike B.U.vm := hZ.alike.trans X'.warmed.alike
  have hsz : E'.slots.size = D.slots.size := by
    obtain ⟨-, -, -, kB, w1, w2, w3⟩ := q1
    obtain ⟨kB', y1, y2⟩ := al'.2.2 _ _ e3
    rw [q2.2.1] at w1
    cases w1.symm.trans y1
    rw [w3, e5 i3, y2]
  refine ⟨v, B, X', ⟨_, ⟨hv, ?_, ⟨by omega, fun y cy hy hn' => q10 y cy (by simpa using hn') hy, fun y cy hy => ?_⟩, q11, ⟨E', _, q1.1, by rw [q2.2.1]; exact e2, by rw [q2.2.1]; exact e3, by rw [q2.1]; exact obV, fun _ => by rw [hsz]; exact e5 i3⟩,
    ⟨E', cfV, kV, iV, fV, q1.1, gV, stV, by rw [q2.1]; exact knV, by rw [q2.1]; exact obV, by rw [q2.2.1]; exact asV, q3⟩, ⟨E', cfC, kC, iC, fC, q1.1, gC, stC, by rw [q2.1]; exact knV, by rw [q2.1]; exact obV, by rw [q2.2.1]; exact asC, q4⟩,
    ⟨V', ⟨q5.1, State.isArrayOf_alike al'.symm q5.2.1, q5.2.2.1⟩, q6, by rw [← al'.findClass]; exact q7, q8, fun j hj => by have := q9 j hj; rwa [Nat.zero_add] at this⟩, fun O n d w F n1 n2 => ?_⟩, hl, hc, hs⟩, st⟩
  · intro y hy
    simp only [List.mem_cons, List.not_mem_nil, or_false] at hy
    rcases hy with rfl | rfl <;> rfl
  · by_cases q : y = x
    · subst q
      cases hD.symm.trans hy
      exact ⟨E', q1.1, q2.2.1, q2.1, hsz⟩
    · exact ⟨cy, q10 y cy q hy, rfl, rfl, rfl⟩
  · obtain ⟨D3, cf, k, i, f, g1, g2, g3, g4, g5, g6, g7⟩ := F
    cases hD.symm.trans g1
    simp only [RoadKit.slotOf, g2, gV, gC, Option.map_some, Option.getD_some] at n1 n2
    exact ⟨E', cf, k, i, f, q1.1, g2, g3, by rw [q2.1]; exact g4, by rw [q2.1]; exact g5, by rw [q2.2.1]; exact g6, by rw [q2.2.2 f.slot (by simp [n1, n2])]; exact g7⟩
end StrChars.Road
namespace StrChars.Road
open Jvm Sem ClassFile Op Lib Jvm.Stand Jvm.Free Jvm.Free.XT
/-- WHAT COMES BACK, the byte[] as a list of values -/
def QA (Z : State) (x : Addr) (zn : Int32) (cs : List Int32) (h : Heap) (v : Option Value) (h' : Heap) (L : List Loc) : Prop := v = none ∧ (∀ y ∈ L, y.base = x) ∧ RoadKit.Keep h h' [x] ∧ h'.size = h.size + 1 ∧ RoadKit.Exa Z h' x ST ∧ RoadKit.Fld Z h' x ST "value" "[B" (.ref h.size) ∧ RoadKit.Fld Z h' x ST "coder" "B" (.int 0) ∧
  (∃ kb, Z.vm.findClass "[B" = some kb ∧ RoadKit.Arv Z h' h.size kb .byte zn (cs.map fun c => .int (lo8 c)) (.int 0)) ∧
  ∀ (O n d : String) (w : Value), RoadKit.Fld Z h x O n d w → RoadKit.slotOf Z O n d ≠ RoadKit.slotOf Z ST "value" "[B" → RoadKit.slotOf Z O n d ≠ RoadKit.slotOf Z ST "coder" "B" → RoadKit.Fld Z h' x O n d w
/-- **new String(chars) AT A CALL, THE ARRAYS AS LISTS**: the char[] at b holds cs, not empty, no char above 255 -/
theorem backArv {p : Program} {l : Launch} {e : Env} {R : Room} {s : State} {args : Array Value} {below : List Frame} {len W : Nat} {Z : State} {a0 : Array Value} {h : Heap} (hZ : Z.Warmed39 s.vm) (hw : ∀ d ∈ words, d.before a0 Z = true) {kI : Nat} (wi : (Jvm.Cond.instantiable ST kI).before a0 Z = true)
    {x b : Addr} {k : ClassId} {zn z : Int32} {cs : List Int32} {dv v0 c0 : Value} (E : RoadKit.Exa Z h x ST) (V : RoadKit.Fld Z h x ST "value" "[B" v0) (C : RoadKit.Fld Z h x ST "coder" "B" c0) (K : RoadKit.Arv Z h b k .char zn (cs.map Value.int) dv) (S : RoadKit.Sta Z h ST "COMPACT_STRINGS" "Z" (.int z)) (hz : ¬ z = 0)
    (hlen : zn.toNatClampNeg = cs.length) (h0 : 0 < cs.length) (hbig : cs.length ≤ 536870912) (hall : ∀ c ∈ cs, ¬ 255 < c) (hfr : 4 ≤ R.frames) (hlo : W + 65 ≤ R.locals) :
    Back l R p e below s args New1.yN len W (fun P a => a = #[.ref x, .ref b] ∧ P.U.heap = h ∧ P.cells + 1 ≤ R.cells ∧ P.slots + cs.length ≤ R.slots)
      (fun P _ v B => ∃ L, QA Z x zn cs h v B.U.heap L ∧ B.locs = P.locs ++ L ∧ B.cells = P.cells + 1 ∧ B.slots = P.slots + cs.length) := by
  obtain ⟨A, K1, K2, K3, K4, K5, K6⟩ := K
  have e : A.slots.size = cs.length := K3.trans hlen
  have hat : ∀ (i : Nat) (hi : i < cs.length), A.slots[i]? = some (.int cs[i]) := fun i hi => by rw [K5 i (by omega)]; simp [List.getD_eq_getElem?_getD, hi]
  have hcv : ∀ (i : Nat) (hi : i < cs.length), cv A i = cs[i] := fun i hi => by unfold cv; rw [hat i hi]
  have hty : Typed .char A := fun i v hv => by
    have hi : i < A.slots.size := (Array.getElem?_eq_some_iff.mp hv).1
    have q := K5 i hi
    rw [hv] at q
    rw [Option.some.inj q]
    exact K6 i hi
  refine Back.mono (back hZ hw wi E V C K1 hty S hz (by omega) (by omega) (fun i hi => by rw [hcv i (by omega)]; exact hall _ (List.getElem_mem _)) hfr hlo) (fun P a hp => ⟨hp.1, hp.2.1, hp.2.2.1, by rw [e]; exact hp.2.2.2⟩) (fun P a v B hp hq => ?_)
  obtain ⟨L, ⟨q1, q2, q3, q4, q5, q6, q7, ⟨V', v1, v2, v3, v4, v5⟩, q9⟩, hl, hc, hs⟩ := hq
  refine ⟨L, ⟨q1, q2, q3, q4, q5, q6, q7, ⟨V'.cls, v3, V', v1, rfl, by rw [v4, e, hlen], K4, fun i hi => ?_, fun i hi => ?_⟩, q9⟩, hl, hc, by rw [hs, e]⟩
  · have hi' : i < cs.length := by omega
    rw [v5 i (by omega), hcv i hi']; simp [List.getD_eq_getElem?_getD, hi']
  · have hi' : i < cs.length := by omega
    simp only [List.getD_eq_getElem?_getD, List.getElem?_map, List.getElem?_eq_getElem hi', Option.map_some, Option.getD_some]
    exact fits_lo8 _
end StrChars.Road
namespace StrChars.Road
open Jvm Sem ClassFile Op Lib Jvm.Stand Jvm.Free Jvm.Free.XT
/-- WHAT COMES BACK, in the writer's own shape -/
def QV (Z : State) (x : Addr) (N : Int32) (bs : List Int32) (h : Heap) (n0 : Nat) (v : Option Value) (h' : Heap) (L : List Loc) : Prop := v = none ∧ RoadKit.Fr n0 L ∧ RoadKit.Keep h h' [x] ∧ RoadKit.Exa Z h' x ST ∧ RoadKit.Fld Z h' x ST "coder" "B" (.int 0) ∧
  ∃ (t : Addr) (kb : ClassId), n0 ≤ t ∧ h.size ≤ t ∧ ¬ t = x ∧ RoadKit.Fld Z h' x ST "value" "[B" (.ref t) ∧ RoadKit.Arv Z h' t kb .byte N (bs.map Value.int) (.int 0)
/-- **new String(chars) AT A CALL, FOR THE WRITER**: a char[] of n known ints, each 0 to 255 -/
theorem backV {p : Program} {l : Launch} {e : Env} {R : Room} {s : State} {args : Array Value} {below : List Frame} {len W : Nat} {Z : State} {a0 : Array Value} {h : Heap} (hZ : Z.Warmed39 s.vm) (hw : ∀ d ∈ words, d.before a0 Z = true) {kI : Nat} (wi : (Jvm.Cond.instantiable ST kI).before a0 Z = true)
    {x b : Addr} {kC : ClassId} {cs bs : List Int32} {d v0 c0 : Value} {z N : Int32} {n n0 : Nat} (hx0 : n0 ≤ x) (hh0 : n0 ≤ h.size) (E : RoadKit.Exa Z h x ST) (V : RoadKit.Fld Z h x ST "value" "[B" v0) (C : RoadKit.Fld Z h x ST "coder" "B" c0) (K : RoadKit.Arv Z h b kC .char N (cs.map Value.int) d) (S : RoadKit.Sta Z h ST "COMPACT_STRINGS" "Z" (.int z)) (hz : ¬ z = 0)
    (hn : cs.length = n) (hN : N = Int32.ofNat n) (l0 : 0 < n) (l2 : n ≤ 4000) (hp : ∀ c ∈ cs, ¬ c < 0 ∧ ¬ (255 : Int32) < c) (hb : bs = cs.map (fun c => c.toInt8.toInt32)) (hfr : 4 ≤ R.frames) (hlo : W + 65 ≤ R.locals) :
    Back l R p e below s args (⟨"java/lang/String", "<init>", "([C)V"⟩ : MethodName) len W (fun P a => a = #[.ref x, .ref b] ∧ P.U.heap = h ∧ P.cells + 1 ≤ R.cells ∧ P.slots + n ≤ R.slots)
      (fun P _ v B => ∃ L, QV Z x N bs h n0 v B.U.heap L ∧ B.locs = P.locs ++ L ∧ B.cells = P.cells + 1 ∧ B.slots = P.slots + n) := by
  subst hn hN hb
  refine Back.mono (backArv hZ hw wi E V C K S hz (n32 (by omega)) l0 (by omega) (fun c hc => (hp c hc).2) hfr hlo) (fun P a hp => hp) (fun P a v B hp hq => ?_)
  obtain ⟨L, ⟨q1, q2, q3, q4, q5, q6, q7, ⟨kb, v1, v2⟩, q9⟩, hl, hc, hs⟩ := hq
  exact ⟨L, ⟨q1, fun y hy => by rw [q2 y hy]; exact hx0, q3, q5, q7, h.size, kb, hh0, Nat.le_refl _, Nat.ne_of_gt E.lt, q6, by rw [List.map_map]; exact v2⟩, hl, hc, hs⟩
end StrChars.Road
namespace StrChars
open Jvm Sem ClassFile Op Lib Jvm.Stand Jvm.Free.XT Jvm.Free.ALB Jvm.Free.JM Jvm.Free
open Jvm.Lib.Cold (StaticIs)
def hi8 (x : Int32) : Int32 := lo8 (x >>> ((8 : Int32) &&& 31))
/-- what StringUTF16.getChar makes of two bytes -/
def pairCh (u v : Int32) : Int32 := (((u &&& 255) <<< ((0 : Int32) &&& 31)) ||| ((v &&& 255) <<< ((8 : Int32) &&& 31))).toUInt32.toUInt16.toUInt32.toInt32
theorem shr0 (c : Int32) : c >>> ((0 : Int32) &&& 31) = c := by
  have e : ((0 : Int32) &&& 31) = 0 := by decide
  rw [e]
  apply Int32.toBitVec_inj.mp
  rw [Int32.toBitVec_shiftRight]
  have e1 : ((0 : Int32).toBitVec.smod 32) = 0#32 := by decide
  rw [e1, BitVec.sshiftRight_eq']
  exact BitVec.sshiftRight_zero
theorem lo8_and (x : Int32) : (lo8 x &&& 255).toBitVec.toNat = x.toBitVec.toNat % 256 := by
  have h : (lo8 x).toBitVec = (x.toBitVec.signExtend 8).signExtend 32 := by rw [lo8, Int8.toBitVec_toInt32, Int32.toBitVec_toInt8]
  rw [Int32.toBitVec_and, BitVec.toNat_and, h]
  have e : ((x.toBitVec.signExtend 8).signExtend 32).toNat % 256 = x.toBitVec.toNat % 256 := by
    rw [BitVec.toNat_signExtend]
    have hlt := x.toBitVec.isLt
    simp only [BitVec.toNat_setWidth, BitVec.toNat_signExtend]
    split <;> split <;> omega
  rw [← e]
  exact Nat.and_two_pow_sub_one_eq_mod _ 8
theorem pair_says {c : Int32} (h0 : ¬ c < 0) (h1 : ¬ 65535 < c) : pairCh (lo8 c) (hi8 c) = c := by
  rw [Int32.lt_iff_toInt_lt] at h0 h1
  have e0 : (0 : Int32).toInt = 0 := rfl
  have e1 : (65535 : Int32).toInt = 65535 := rfl
  have hc : c.toInt = c.toBitVec.toNat := by
    have := c.toBitVec.isLt
    have e : c.toInt = c.toBitVec.toInt := rfl
    rw [e] at h0 h1
    rw [e]
    rw [BitVec.toInt_eq_toNat_cond] at h0 h1 ⊢
    split at h0 <;> split <;> omega
  have hn : c.toBitVec.toNat < 65536 := by omega
  have a1 := lo8_and c
  have a2 : (hi8 c &&& 255).toBitVec.toNat = c.toBitVec.toNat / 256 := by
    rw [hi8, lo8_and]
    have e : ((8 : Int32) &&& 31) = 8 := by decide
    rw [e, Int32.toBitVec_shiftRight]
    have e2 : ((8 : Int32).toBitVec.smod 32) = 8#32 := by decide
    rw [e2, BitVec.sshiftRight_eq', BitVec.toNat_sshiftRight_of_msb_false (by rw [BitVec.msb_eq_false_iff_two_mul_lt]; omega)]
    show c.toBitVec.toNat >>> 8 % 256 = _
    rw [Nat.shiftRight_eq_div_pow]
    omega
  unfold pairCh
  apply Int32.toBitVec_inj.mp
  apply BitVec.eq_of_toNat_eq
  have f0 : ((0 : Int32) &&& 31) = 0 := by decide
  have f8 : ((8 : Int32) &&& 31) = 8 := by decide
  rw [f0, f8]
  have g : (((lo8 c &&& 255) <<< (0 : Int32)) ||| ((hi8 c &&& 255) <<< (8 : Int32))).toBitVec.toNat = c.toBitVec.toNat := by
    rw [Int32.toBitVec_or, Int32.toBitVec_shiftLeft, Int32.toBitVec_shiftLeft]
    have s0 : ((0 : Int32).toBitVec.smod 32) = 0#32 := by decide
    have s8 : ((8 : Int32).toBitVec.smod 32) = 8#32 := by decide
    rw [s0, s8, BitVec.toNat_or]
    simp only [BitVec.shiftLeft_eq', BitVec.toNat_shiftLeft, a1, a2]
    show (c.toBitVec.toNat % 256) <<< 0 % 2 ^ 32 ||| (c.toBitVec.toNat / 256) <<< 8 % 2 ^ 32 = _
    rw [Nat.shiftLeft_zero, Nat.mod_eq_of_lt (show c.toBitVec.toNat % 256 < 2 ^ 32 by omega), Nat.mod_eq_of_lt (show (c.toBitVec.toNat / 256) <<< 8 < 2 ^ 32 by rw [Nat.shiftLeft_eq]; omega), Nat.or_comm, ← Nat.shiftLeft_add_eq_or_of_lt (by omega), Nat.shiftLeft_eq]
    omega
  show BitVec.toNat (((((lo8 c &&& 255) <<< (0 : Int32)) ||| ((hi8 c &&& 255) <<< (8 : Int32))).toBitVec.setWidth 16).setWidth 32) = _
  rw [BitVec.toNat_setWidth, BitVec.toNat_setWidth, g]
  omega
end StrChars
namespace StrChars
open Jvm Sem ClassFile Op Lib Jvm.Stand Jvm.Free.XT Jvm.Free.ALB Jvm.Free.JM Jvm.Free
open Jvm.Lib.Cold (StaticIs)
theorem shr1 {n : Nat} (h : 2 * n < 2 ^ 31) : Int32.ofNat (2 * n) >>> ((1 : Int32) &&& 31) = Int32.ofNat n := by
  have e : ((1 : Int32) &&& 31) = 1 := by decide
  rw [e]
  apply Int32.toBitVec_inj.mp
  rw [Int32.toBitVec_shiftRight]
  have e1 : ((1 : Int32).toBitVec.smod 32) = 1#32 := by decide
  have hm : (BitVec.ofNat 32 (2 * n)).toNat = 2 * n := by rw [BitVec.toNat_ofNat, Nat.mod_eq_of_lt (by omega)]
  rw [e1, BitVec.sshiftRight_eq']
  apply BitVec.eq_of_toNat_eq
  show ((BitVec.ofNat 32 (2 * n)).sshiftRight 1).toNat = (BitVec.ofNat 32 n).toNat
  rw [BitVec.toNat_sshiftRight_of_msb_false (by rw [BitVec.msb_eq_false_iff_two_mul_lt, hm]; omega), hm, BitVec.toNat_ofNat, Nat.shiftRight_eq_div_pow]
  omega
/-- the array's cell V codes the n chars f 0 .. f (n - 1) by the coder cd, as the JDK does: coder 1 just where some char is above 255 -/
def Cod (cd : Int32) (n : Nat) (f : Nat → Int32) (V : Cell) : Prop := (cd = 0 ∧ V.slots.size = n ∧ ∀ j, j < n → V.slots[j]? = some (.int (lo8 (f j))) ∧ ¬ 255 < f j) ∨ (cd = 1 ∧ V.slots.size = 2 * n ∧ (∀ j, j < n → V.slots[2 * j]? = some (.int (lo8 (f j))) ∧ V.slots[2 * j + 1]? = some (.int (hi8 (f j)))) ∧ ∃ j, j < n ∧ 255 < f j)
theorem Cod.cd {cd : Int32} {n : Nat} {f : Nat → Int32} {V : Cell} (h : Cod cd n f V) : cd = 0 ∨ cd = 1 := h.imp (fun q => q.1) fun q => q.1
theorem Cod.len {cd : Int32} {n : Nat} {f : Nat → Int32} {V : Cell} (h : Cod cd n f V) (hs : V.slots.size < 2 ^ 31) : Int32.ofNat V.slots.size >>> (cd &&& 31) = Int32.ofNat n := by
  rcases h with ⟨rfl, h, -⟩ | ⟨rfl, h, -⟩
  · rw [shr0, h]
  · rw [h, shr1 (by omega)]
/-- **x is a String of the n chars f 0 .. f (n - 1)**, Latin-1 or UTF-16; its array at t has the cell V -/
def Txt (x t : Addr) (V : Cell) (cd : Int32) (n : Nat) (f : Nat → Int32) (U : State) : Prop := Exact "java/lang/String" x U ∧ Has x "java/lang/String" "value" "[B" (.ref t) U ∧ Has x "java/lang/String" "coder" "B" (.int cd) U ∧ XT.Arr .byte t V U ∧ Cod cd n f V ∧ ∀ j, j < n → ¬ f j < 0 ∧ ¬ 65535 < f j
theorem Txt.mv {x t : Addr} {V : Cell} {cd : Int32} {n : Nat} {f : Nat → Int32} {U U' : State} (h : Txt x t V cd n f U) (hal : U.vm.Alike U'.vm) (hh : U'.heap = U.heap) : Txt x t V cd n f U' := ⟨h.1.mv hal hh, h.2.1.mv hal hh, h.2.2.1.mv hal hh, h.2.2.2.1.mv hal hh, h.2.2.2.2⟩
namespace Cdr
def yN : MethodName := ⟨"java/lang/String", "coder", "()B"⟩
abbrev yB : ByteArray := jdk_42_method_152_code
theorem d0 : decode yB 0 = .ok (.getstatic 38, 3) := by decide +kernel
theorem d3 : decode yB 3 = .ok (.ifCond (.eq) 10, 3) := by decide +kernel
theorem d6 : decode yB 6 = .ok (.aload_n 0, 1) := by decide +kernel
theorem d7 : decode yB 7 = .ok (.getfield 15, 3) := by decide +kernel
theorem d10 : decode yB 10 = .ok (.goto 4, 3) := by decide +kernel
theorem d14 : decode yB 14 = .ok (.ireturn, 1) := by decide +kernel
def site : List Cond := [.fieldLink "java/lang/String" 38 "java/lang/String" "COMPACT_STRINGS" "Z", .fieldLink "java/lang/String" 15 "java/lang/String" "coder" "B"]
def tab : Cond := tabOf yN yB 1 (some .byte) site
def P (x : Addr) (cd z : Int32) (args : Array Value) (s : State) : Prop := args = #[.ref x] ∧ Has x "java/lang/String" "coder" "B" (.int cd) s ∧ (cd = 0 ∨ cd = 1) ∧ StaticIs s "java/lang/String" "COMPACT_STRINGS" "Z" (.int z) ∧ ¬ z = 0
def E (cd : Int32) (r : Option Value) (s u : State) : Prop := XT.PureE (some (.int cd)) r s u
theorem law (l : Launch) (x : Addr) (cd z : Int32) : Law l yN 1 0 0 0 yB 1 (some .byte) site (P x cd z) (E cd) [] 0 0 := by
  refine Law.of_walk (plainFor_of_name (by decide +kernel)) (by decide +kernel) (by decide +kernel) (by decide) (fun _ _ h => by rw [h.1]; rfl) (fun _ U U' hal hh h => ⟨h.1, h.2.1.mv hal hh, h.2.2.1, h.2.2.2.1.there hal hh, h.2.2.2.2⟩) (fun r U U' V V' h1 hal h2 h => XT.PureE.mv r U U' V V' h1 hal h2 h) ?_
  intro p e s m args below meth c s₁ X0 hexec hbytes hml hret hlk hnm hown hh0 W hP
  obtain ⟨rfl, hx, hc, s1, hz⟩ := hP
  have c1 : Steps p.tables e below (s₁.setTop (entryFrame m #[.ref x] 1)) (s₁.setTop (mkF m 0 #[.val (.ref x)] [])) := entry rfl
  obtain ⟨T2, X2, q2, st2⟩ := X0.sget hexec hown (wk W (.fieldLink "java/lang/String" 38 "java/lang/String" "COMPACT_STRINGS" "Z")) s1 (fun _ _ h => by rw [hh0]; exact h) (g := (mkF m 0 #[.val (.ref x)] [])) rfl (hb hbytes d0)
  have hh2 := q2.trans hh0
  have c3 : Steps p.tables e below (s₁.setTop (entryFrame m #[.ref x] 1)) (T2.setTop (mkF m 7 #[.val (.ref x)] [.ref x])) := (c1.trans (st2 _ (Steps.refl _))).trans (by
    refine XS.ifNo X2.here hexec rfl (hb hbytes d3) rfl (i0_eq_f hz) ?_
    refine XS.aloadN X2.here hexec rfl (hb hbytes d6) rfl rfl ?_
    exact Steps.refl _)
  obtain ⟨T4, X4, q4, st4⟩ := X2.hget hexec hown (wk W (.fieldLink "java/lang/String" 15 "java/lang/String" "coder" "B")) (hx.mv X2.warmed.alike hh2) (g := (mkF m 7 #[.val (.ref x)] [.ref x])) rfl (rest := []) rfl (hb hbytes d7)
  have c5 : Steps p.tables e below (s₁.setTop (entryFrame m #[.ref x] 1)) (T4.setTop (mkF m 14 #[.val (.ref x)] [.int cd])) := (c3.trans (st4 _ (Steps.refl _))).trans (by
    refine XS.goto X4.here hexec rfl (pc0 := 10) rfl (hb hbytes d10) (by decide) rfl ?_
    exact Steps.refl _)
  exact ⟨T4, some (.int cd), _, _, _, X4, rfl, rfl, rfl, (fun h => by cases h), ⟨rfl, q4.trans hh2⟩, fun fs hl => c5.trans (X4.ireturnOut hexec hret (by rcases hc with rfl | rfl <;> rfl) (Or.inr (Or.inr (Or.inl rfl))) (hb hbytes d14) hl)⟩
end Cdr
namespace Len
def yN : MethodName := ⟨"java/lang/String", "length", "()I"⟩
abbrev yB : ByteArray := jdk_42_method_54_code
theorem d0 : decode yB 0 = .ok (.aload_n 0, 1) := by decide +kernel
theorem d1 : decode yB 1 = .ok (.getfield 9, 3) := by decide +kernel
theorem d4 : decode yB 4 = .ok (.arraylength, 1) := by decide +kernel
theorem d5 : decode yB 5 = .ok (.aload_n 0, 1) := by decide +kernel
theorem d6 : decode yB 6 = .ok (.invokevirtual 335, 3) := by decide +kernel
theorem d9 : decode yB 9 = .ok (.ishr, 1) := by decide +kernel
theorem d10 : decode yB 10 = .ok (.ireturn, 1) := by decide +kernel
def site : List Cond := [.fieldLink "java/lang/String" 9 "java/lang/String" "value" "[B", Cdr.tab] ++ virtW "java/lang/String" 335 "java/lang/String" Cdr.yN Cdr.yN
def tab : Cond := tabOf yN yB 1 (some .int) site
def P (x t : Addr) (V : Cell) (cd : Int32) (n : Nat) (f : Nat → Int32) (z : Int32) (args : Array Value) (s : State) : Prop := args = #[.ref x] ∧ Txt x t V cd n f s ∧ StaticIs s "java/lang/String" "COMPACT_STRINGS" "Z" (.int z) ∧ ¬ z = 0
def E (n : Nat) (r : Option Value) (s u : State) : Prop := XT.PureE (some (.int (Int32.ofNat n))) r s u
/-- length() of a String of n chars, in either coding -/
theorem law (l : Launch) (x t : Addr) (V : Cell) (cd : Int32) (n : Nat) (f : Nat → Int32) (z : Int32) : Law l yN 1 0 1 13 yB 1 (some .int) site (P x t V cd n f z) (E n) [] 0 0 := by
  refine Law.of_walk (plainFor_of_name (by decide +kernel)) (by decide +kernel) (by decide +kernel) (by decide) (fun _ _ h => by rw [h.1]; rfl) (fun _ U U' hal hh h => ⟨h.1, h.2.1.mv hal hh, h.2.2.1.there hal hh, h.2.2.2⟩) (fun r U U' V V' h1 hal h2 h => XT.PureE.mv r U U' V V' h1 hal h2 h) ?_
  intro p e s m args below meth c s₁ X0 hexec hbytes hml hret hlk hnm hown hh0 W hP
  obtain ⟨rfl, hx, s1, hz⟩ := hP
  have v31 := hx.2.2.2.1.2.2.2
  have c1 : Steps p.tables e below (s₁.setTop (entryFrame m #[.ref x] 1)) (s₁.setTop (mkF m 1 #[.val (.ref x)] [.ref x])) := Steps.trans (entry rfl) (by
    show Steps p.tables e below (s₁.setTop (mkF m 0 #[.val (.ref x)] [])) _
    refine XS.aloadN X0.here hexec rfl (hb hbytes d0) rfl rfl ?_
    exact Steps.refl _)
  obtain ⟨T2, X2, q2, st2⟩ := X0.hget hexec hown (wk W (.fieldLink "java/lang/String" 9 "java/lang/String" "value" "[B")) (hx.mv X0.warmed.alike hh0).2.1 (g := (mkF m 1 #[.val (.ref x)] [.ref x])) rfl (rest := []) rfl (hb hbytes d1)
  have hh2 := q2.trans hh0
  have hx2 := hx.mv X2.warmed.alike hh2
  have c3 : Steps p.tables e below (s₁.setTop (entryFrame m #[.ref x] 1)) (T2.setTop (mkF m 6 #[.val (.ref x)] [.ref x, .int (Int32.ofNat V.slots.size)])) := (c1.trans (st2 _ (Steps.refl _))).trans (by
    refine X2.alen hexec hx2.2.2.2.1 rfl rfl (hb hbytes d4) ?_
    refine XS.aloadN X2.here hexec rfl (hb hbytes d5) rfl rfl ?_
    exact Steps.refl _)
  obtain ⟨v4, T4, X4, E4, g4⟩ := X2.callV hexec (Cdr.law l x cd z) hown (wks W (virtW "java/lang/String" 335 "java/lang/String" Cdr.yN Cdr.yN)) rfl (by decide) (wk W Cdr.tab) (W := 1) (Nat.le_of_ble_eq_true rfl) (Nat.le_of_ble_eq_true rfl) (Nat.le_refl _) (Nat.le_refl _) (hx2.1.fc X2.warmed.alike) hx2.1.is (g := (mkF m 6 #[.val (.ref x)] [.ref x, .int (Int32.ofNat V.slots.size)])) rfl (by rw [hml]; rfl) c3 (argsL := []) (rest := [.int (Int32.ofNat V.slots.size)]) rfl rfl (by show 2 * 0 + (1 + 0) ≤ _; decide) (hb hbytes d6) (⟨rfl, hx2.2.2.1, hx.2.2.2.2.1.cd, s1.there X2.warmed.alike hh2, hz⟩)
  obtain ⟨rfl, q4⟩ := E4
  have c5 : Steps p.tables e below (s₁.setTop (entryFrame m #[.ref x] 1)) (T4.setTop (mkF m 10 #[.val (.ref x)] [.int (Int32.ofNat V.slots.size >>> (cd &&& 31))])) := Steps.trans g4 (by
    refine ishr X4.here hexec rfl (hb hbytes d9) rfl ?_
    exact Steps.refl _)
  rw [hx.2.2.2.2.1.len v31] at c5
  exact ⟨T4, some (.int (Int32.ofNat n)), _, _, _, X4, rfl, rfl, rfl, (fun h => by cases h), ⟨rfl, q4.trans hh2⟩, fun fs hl => c5.trans (X4.ireturnOut hexec hret rfl (Or.inl rfl) (hb hbytes d10) hl)⟩
theorem pays {l : Launch} {R : Room} {p : Program} {e : Env} {below : List Frame} {s : State} {sargs : Array Value} {len W : Nat} (x t : Addr) (V : Cell) (cd : Int32) (n : Nat) (f : Nat → Int32) (z : Int32) (htab : tab.before sargs s = true) (hfr : 2 ≤ R.frames) (hlo : W + 25 ≤ R.locals) :
    Back l R p e below s sargs yN len W (fun A₁ a₁ => A₁.cells + 0 ≤ R.cells ∧ A₁.slots + 0 ≤ R.slots ∧ P x t V cd n f z a₁ A₁.U) (fun A₁ _ v₁ B₁ => E n v₁ A₁.U B₁.U ∧ B₁.locs = A₁.locs ++ [] ∧ B₁.cells = A₁.cells + 0 ∧ B₁.slots = A₁.slots + 0) :=
  (law l x t V cd n f z).pays htab hfr (by omega)
end Len
end StrChars
namespace StrChars.Road
open Jvm Sem ClassFile Op Lib Jvm.Stand Jvm.Free Jvm.Free.XT
open Jvm.Lib.Cold (StaticIs)
theorem consq {a : Array Value} {s : State} {c : Jvm.Cond} {L : List Jvm.Cond} (h0 : c.before a s = true) (h : ∀ w ∈ L, w.before a s = true) : ∀ w ∈ c :: L, w.before a s = true := fun w hw => (List.mem_cons.mp hw).elim (fun e => e ▸ h0) (h w)
/-- the words of String.length(), either coding -/
abbrev wordsLen : List Jvm.Cond := [.code Len.yN Len.yB 1 (some .int), .initialized ST, .fieldLink ST 9 ST "value" "[B", .fieldLink ST 38 ST "COMPACT_STRINGS" "Z", .fieldLink ST 15 ST "coder" "B", .code Cdr.yN Cdr.yB 1 (some .byte), .methodLink ST 335 Cdr.yN, .declares Cdr.yN, .selects ST Cdr.yN Cdr.yN, .instanceMethod Cdr.yN]
theorem tabLen_of {a : Array Value} {s : State} (h : ∀ w ∈ wordsLen, w.before a s = true) : Len.tab.before a s = true := by
  have hc : Cdr.tab.before a s = true := unparts (wk h (.code Cdr.yN Cdr.yB 1 (some .byte))) (wks h (.initialized Cdr.yN.cls :: Cdr.site))
  have q := consq hc h
  exact unparts (wk q (.code Len.yN Len.yB 1 (some .int))) (wks q (.initialized Len.yN.cls :: Len.site))
theorem movedLen {Z s : State} {a0 args : Array Value} (hZ : Z.Warmed39 s.vm) (hw : ∀ d ∈ wordsLen, d.before a0 Z = true) : ∀ d ∈ wordsLen, d.before args s = true := fun d hd => by
  have q := hw d hd
  have t : ∀ d ∈ wordsLen, d = .arrayClass .byte ∨ (d.onTables && d.keepsFace) = true := by decide +kernel
  rcases t d hd with rfl | t
  · exact RoadKit.mvA hZ q
  · exact RoadKit.mv hZ q t
/-- the bytes of the chars cs, low before high -/
def wideBytes : List Int32 → List Value
  | [] => []
  | c :: cs => .int (lo8 c) :: .int (hi8 c) :: wideBytes cs
theorem wide_lo (d : Value) : ∀ (cs : List Int32) (j : Nat), j < cs.length → (wideBytes cs).getD (2 * j) d = .int (lo8 (cs.getD j 0))
  | [], j, h => absurd h (Nat.not_lt_zero j)
  | c :: cs, 0, _ => rfl
  | c :: cs, j + 1, h => by
    have q := wide_lo d cs j (by simpa using h)
    rw [show 2 * (j + 1) = 2 * j + 1 + 1 from by omega]
    simpa [wideBytes] using q
theorem wide_hi (d : Value) : ∀ (cs : List Int32) (j : Nat), j < cs.length → (wideBytes cs).getD (2 * j + 1) d = .int (hi8 (cs.getD j 0))
  | [], j, h => absurd h (Nat.not_lt_zero j)
  | c :: cs, 0, _ => rfl
  | c :: cs, j + 1, h => by
    have q := wide_hi d cs j (by simpa using h)
    rw [show 2 * (j + 1) + 1 = 2 * j + 1 + 1 + 1 from by omega]
    simpa [wideBytes] using q
theorem low_at (d : Value) (cs : List Int32) (j : Nat) (h : j < cs.length) : (cs.map fun c => Value.int (lo8 c)).getD j d = .int (lo8 (cs.getD j 0)) := by
  simp [List.getD_eq_getElem?_getD, h]
/-- an array of N2 bytes vs codes the chars cs by the coder cd -/
def CodA (cs : List Int32) (cd N2 : Int32) (vs : List Value) : Prop := (cd = 0 ∧ N2 = Int32.ofNat cs.length ∧ vs = (cs.map fun c => Value.int (lo8 c)) ∧ ∀ c ∈ cs, ¬ 255 < c) ∨ (cd = 1 ∧ N2 = Int32.ofNat (2 * cs.length) ∧ vs = wideBytes cs ∧ ∃ c ∈ cs, 255 < c)
theorem CodA.cod {cs : List Int32} {cd N2 : Int32} {vs : List Value} {V : Cell} (h : CodA cs cd N2 vs) (hn : 2 * cs.length < 2 ^ 31) (hs : V.slots.size = N2.toNatClampNeg) (hv : RoadKit.Has V vs (.int 0)) : Cod cd cs.length (fun j => cs.getD j 0) V := by
  rcases h with ⟨rfl, rfl, rfl, h⟩ | ⟨rfl, rfl, rfl, c, hc, hw⟩
  · rw [n32 (by omega)] at hs
    exact Or.inl ⟨rfl, hs, fun j hj => ⟨by rw [hv j (by omega), low_at _ _ _ hj], by
      have e : cs.getD j 0 = cs[j] := by simp [List.getD_eq_getElem?_getD, hj]
      show ¬ 255 < cs.getD j 0
      rw [e]; exact h _ (List.getElem_mem _)⟩⟩
  · rw [n32 (by omega)] at hs
    obtain ⟨j, hj, rfl⟩ := List.getElem_of_mem hc
    exact Or.inr ⟨rfl, hs, fun j hj => ⟨by rw [hv _ (by omega), wide_lo _ _ _ hj], by rw [hv _ (by omega), wide_hi _ _ _ hj]⟩, j, hj, by
      have e : cs.getD j 0 = cs[j] := by simp [List.getD_eq_getElem?_getD, hj]
      show 255 < cs.getD j 0
      rw [e]; exact hw⟩
/-- an object of exactly java/lang/String, its two fields found: as the laws ask it -/
theorem strObj {Z U : State} {a0 : Array Value} {kI : Nat} (wi : (Jvm.Cond.instantiable ST kI).before a0 Z = true) (al : Z.vm.Alike U.vm) {x : Addr} {v0 c0 : Value} (E : RoadKit.Exa Z U.heap x ST) (V : RoadKit.Fld Z U.heap x ST "value" "[B" v0) (C : RoadKit.Fld Z U.heap x ST "coder" "B" c0) :
    ∃ (D : Cell) (fV fC : Field), Blank ST x D U ∧ Found ST "value" "[B" fV U ∧ Found ST "coder" "B" fC U ∧ D.slots[fV.slot]? = some v0 ∧ D.slots[fC.slot]? = some c0 ∧ RoadKit.slotOf Z ST "value" "[B" = fV.slot ∧ RoadKit.slotOf Z ST "coder" "B" = fC.slot := by
  obtain ⟨D, cfV, kV, iV, fV, hD, gV, stV, knV, obV, asV, slV⟩ := V
  obtain ⟨D', cfC, kC, iC, fC, hD', gC, stC, -, -, asC, slC⟩ := C
  cases hD.symm.trans hD'
  obtain ⟨D2, kD, e1, e2, e3, e4, e5⟩ := E
  cases hD.symm.trans e1
  obtain ⟨c2, k2, i1, i2, i3, -⟩ := Cond.instantiable_spec wi
  cases e2.symm.trans i1
  cases e3.symm.trans i2
  obtain ⟨kU, u1, u2⟩ := al.2.2 _ _ e3
  exact ⟨D, fV, fC, ⟨hD, ⟨knV, fun q hq => by rw [hq] at obV; cases obV⟩, by rw [al.findClass]; exact e2, kU, u1, by rw [u2]; exact i3, by rw [u2]; exact e5 i3⟩, ⟨SBG.found_only al ⟨cfV, kV, iV, gV⟩, stV⟩, ⟨SBG.found_only al ⟨cfC, kC, iC, gC⟩, stC⟩, slV, slC, by simp [RoadKit.slotOf, gV], by simp [RoadKit.slotOf, gC]⟩
theorem sta_is {Z U : State} (al : Z.vm.Alike U.vm) {C n d : String} {v : Value} (S : RoadKit.Sta Z U.heap C n d v) : StaticIs U C n d v := by
  obtain ⟨cfS, iS, kS, fS, st, cS, t1, t2, t3, t4, t5, t6, t7⟩ := S
  exact StaticIs.there (s := { Z with heap := U.heap }) ⟨cfS, iS, kS, fS, st, cS, t1, t2, t3, t4, t5, (fun q => by rw [q] at t6; cases t6), t7⟩ al rfl
/-- **length() OF SUCH A STRING** -/
theorem lenW {p : Program} {l : Launch} {e : Env} {R : Room} {s : State} {args : Array Value} {below : List Frame} {len W : Nat} {Z : State} {a0 : Array Value} {h : Heap} (hZ : Z.Warmed39 s.vm) (hw : ∀ d ∈ wordsLen, d.before a0 Z = true) {kI : Nat} (wi : (Jvm.Cond.instantiable ST kI).before a0 Z = true)
    {x t : Addr} {kb : ClassId} {cs : List Int32} {cd N2 z : Int32} {vs : List Value} (E : RoadKit.Exa Z h x ST) (V : RoadKit.Fld Z h x ST "value" "[B" (.ref t)) (C : RoadKit.Fld Z h x ST "coder" "B" (.int cd)) (K : RoadKit.Arv Z h t kb .byte N2 vs (.int 0)) (hc : CodA cs cd N2 vs) (hb : ∀ c ∈ cs, ¬ c < 0 ∧ ¬ (65535 : Int32) < c)
    (S : RoadKit.Sta Z h ST "COMPACT_STRINGS" "Z" (.int z)) (hz : ¬ z = 0) (l2 : cs.length ≤ 4000) (hfr : 2 ≤ R.frames) (hlo : W + 25 ≤ R.locals) :
    Back l R p e below s args (⟨"java/lang/String", "length", "()I"⟩ : MethodName) len W (fun P a => a = #[.ref x] ∧ P.U.heap = h ∧ P.cells + 0 ≤ R.cells ∧ P.slots + 0 ≤ R.slots)
      (fun P _ v B => ∃ L, (v = some (.int (Int32.ofNat cs.length)) ∧ L = [] ∧ B.U.heap = h) ∧ B.locs = P.locs ++ L ∧ B.cells = P.cells + 0 ∧ B.slots = P.slots + 0) := by
  obtain ⟨A, K1, K2, K3, K4, K5, K6⟩ := K
  have hcod := hc.cod (by omega) K3 K5
  intro m meth c P g ig mk a X hg hsize hdg hW hn hp'
  obtain ⟨rfl, rfl, r1, r2⟩ := hp'
  have al : Z.vm.Alike P.U.vm := hZ.alike.trans X.warmed.alike
  obtain ⟨D, fV, fC, hB, F1, F2, g1, g2, -, -⟩ := strObj wi al E V C
  have hx : Txt x t A cd cs.length (fun j => cs.getD j 0) P.U := ⟨⟨_, hB.2.2.1, D, hB.1, rfl, by cases q : D.vm <;> first | rfl | exact absurd q (hB.2.1.2 _)⟩, Has.of hB F1 g1, Has.of hB F2 g2, ⟨K1.1, State.isArrayOf_alike al K1.2.1, K1.2.2, by rcases hcod with ⟨-, q, -⟩ | ⟨-, q, -⟩ <;> omega⟩, hcod, fun j hj => by
    have e : cs.getD j 0 = cs[j] := by simp [List.getD_eq_getElem?_getD, hj]
    show ¬ cs.getD j 0 < 0 ∧ ¬ 65535 < cs.getD j 0
    rw [e]; exact hb _ (List.getElem_mem _)⟩
  obtain ⟨v, B, X', ⟨⟨hv, hh⟩, hl, hk, hs⟩, st⟩ := Len.pays x t A cd cs.length (fun j => cs.getD j 0) z (tabLen_of (movedLen hZ hw)) hfr hlo m meth c P g ig mk _ X hg hsize hdg hW hn ⟨r1, r2, rfl, hx, sta_is al S, hz⟩
  exact ⟨v, B, X', ⟨[], ⟨hv, rfl, hh⟩, hl, hk, hs⟩, st⟩
end StrChars.Road
namespace StrChars
open Jvm Sem ClassFile Op Lib Jvm.Stand Jvm.Free.XT Jvm.Free.ALB Jvm.Free.JM Jvm.Free
open Jvm.Lib.Cold (StaticIs)
/-- what place i of a byte[]'s cell holds -/
def yv (A : Cell) (i : Nat) : Int32 := match A.slots[i]? with | some (.int x) => x | _ => 0
theorem yv_get {a : Addr} {A : Cell} {U : State} (h : XT.Arr .byte a A U) (ht : Typed .byte A) {i : Nat} (hi : i < A.slots.size) : A.slots[i]? = some (.int (yv A i)) := by
  have e := Array.getElem?_eq_getElem hi
  have f := ht i _ e
  unfold yv; rw [e]
  generalize A.slots[i] = v at f
  cases v <;> simp [fits] at f ⊢
/-- the two arrays are equal, place for place -/
def EqC (A B : Cell) : Prop := A.slots.size = B.slots.size ∧ ∀ i, i < A.slots.size → yv A i = yv B i
/-- a boolean that says whether p -/
def Says01 (q : Prop) (r : Option Value) (s u : State) : Prop := ∃ v : Int32, r = some (.int v) ∧ u.heap = s.heap ∧ ((v = 1 ∧ q) ∨ (v = 0 ∧ ¬ q))
theorem Says01.mv {q : Prop} : ∀ r (U U' V V' : State), U'.heap = U.heap → V.vm.Alike V'.vm → V'.heap = V.heap → Says01 q r U V → Says01 q r U' V' :=
  fun r U U' V V' h1 _ h2 ⟨v, a, b, c⟩ => ⟨v, a, by rw [h1, h2]; exact b, c⟩
namespace LEq
def yN : MethodName := ⟨"java/lang/StringLatin1", "equals", "([B[B)Z"⟩
abbrev yB : ByteArray := jdk_43_method_13_code
theorem d0 : decode yB 0 = .ok (.aload_n 0, 1) := by decide +kernel
theorem d1 : decode yB 1 = .ok (.arraylength, 1) := by decide +kernel
theorem d2 : decode yB 2 = .ok (.aload_n 1, 1) := by decide +kernel
theorem d3 : decode yB 3 = .ok (.arraylength, 1) := by decide +kernel
theorem d4 : decode yB 4 = .ok (.if_icmp (.ne) 30, 3) := by decide +kernel
theorem d7 : decode yB 7 = .ok (.iconst 0, 1) := by decide +kernel
theorem d8 : decode yB 8 = .ok (.istore_n 2, 1) := by decide +kernel
theorem d9 : decode yB 9 = .ok (.iload_n 2, 1) := by decide +kernel
theorem d10 : decode yB 10 = .ok (.aload_n 0, 1) := by decide +kernel
theorem d11 : decode yB 11 = .ok (.arraylength, 1) := by decide +kernel
theorem d12 : decode yB 12 = .ok (.if_icmp (.ge) 20, 3) := by decide +kernel
theorem d15 : decode yB 15 = .ok (.aload_n 0, 1) := by decide +kernel
theorem d16 : decode yB 16 = .ok (.iload_n 2, 1) := by decide +kernel
theorem d17 : decode yB 17 = .ok (.baload, 1) := by decide +kernel
theorem d18 : decode yB 18 = .ok (.aload_n 1, 1) := by decide +kernel
theorem d19 : decode yB 19 = .ok (.iload_n 2, 1) := by decide +kernel
theorem d20 : decode yB 20 = .ok (.baload, 1) := by decide +kernel
theorem d21 : decode yB 21 = .ok (.if_icmp (.eq) 5, 3) := by decide +kernel
theorem d24 : decode yB 24 = .ok (.iconst 0, 1) := by decide +kernel
theorem d25 : decode yB 25 = .ok (.ireturn, 1) := by decide +kernel
theorem d26 : decode yB 26 = .ok (.iinc 2 1, 3) := by decide +kernel
theorem d29 : decode yB 29 = .ok (.goto (-20), 3) := by decide +kernel
theorem d32 : decode yB 32 = .ok (.iconst 1, 1) := by decide +kernel
theorem d33 : decode yB 33 = .ok (.ireturn, 1) := by decide +kernel
theorem d34 : decode yB 34 = .ok (.iconst 0, 1) := by decide +kernel
theorem d35 : decode yB 35 = .ok (.ireturn, 1) := by decide +kernel
def site : List Cond := []
def tab : Cond := tabOf yN yB 3 (some .boolean) site
def P (a : Addr) (A : Cell) (b : Addr) (B : Cell) (args : Array Value) (s : State) : Prop := args = #[.ref a, .ref b] ∧ XT.Arr .byte a A s ∧ Typed .byte A ∧ XT.Arr .byte b B s ∧ Typed .byte B
/-- whether two byte[] are equal, place for place -/
theorem law (l : Launch) (a : Addr) (A : Cell) (b : Addr) (B : Cell) : Law l yN 2 2 0 0 yB 3 (some .boolean) site (P a A b B) (Says01 (EqC A B)) [] 0 0 := by
  refine Law.of_walk (plainFor_of_name (by decide +kernel)) (by decide +kernel) (by decide +kernel) (by decide) (fun _ _ h => by rw [h.1]; rfl) (fun _ U U' hal hh h => ⟨h.1, h.2.1.mv hal hh, h.2.2.1, h.2.2.2.1.mv hal hh, h.2.2.2.2⟩) (fun r U U' V V' h1 hal h2 h => Says01.mv r U U' V V' h1 hal h2 h) ?_
  intro p e s m args below meth c s₁ X0 hexec hbytes hml hret hlk hnm hown hh0 W hP
  obtain ⟨rfl, hA, tA, hB, tB⟩ := hP
  have a31 := hA.2.2.2
  have b31 := hB.2.2.2
  have hA0 := hA.mv X0.warmed.alike hh0
  have hB0 := hB.mv X0.warmed.alike hh0
  have c1 : Steps p.tables e below (s₁.setTop (entryFrame m #[.ref a, .ref b] 3)) (s₁.setTop (mkF m 0 #[.val (.ref a), .val (.ref b), .unset] [])) := entry rfl
  have c2 : Steps p.tables e below (s₁.setTop (entryFrame m #[.ref a, .ref b] 3)) (s₁.setTop (mkF m 4 #[.val (.ref a), .val (.ref b), .unset] [.int (Int32.ofNat B.slots.size), .int (Int32.ofNat A.slots.size)])) := c1.trans (by
    refine XS.aloadN X0.here hexec rfl (hb hbytes d0) rfl rfl ?_
    refine X0.alen hexec hA0 rfl rfl (hb hbytes d1) ?_
    refine XS.aloadN X0.here hexec rfl (hb hbytes d2) rfl rfl ?_
    refine X0.alen hexec hB0 rfl rfl (hb hbytes d3) ?_
    exact Steps.refl _)
  by_cases hs : A.slots.size = B.slots.size
  · have c3 : Steps p.tables e below (s₁.setTop (entryFrame m #[.ref a, .ref b] 3)) (s₁.setTop (mkF m 9 #[.val (.ref a), .val (.ref b), .val (.int 0)] [])) := c2.trans (by
      refine XS.icmpNo X0.here hexec rfl (hb hbytes d4) rfl (ii_ne_f (by rw [hs])) ?_
      refine iconstV X0.here hexec rfl 0 (hb hbytes d7) (by decide) ?_
      refine XS.istoreN X0.here hexec rfl (hb hbytes d8) rfl rfl ?_
      exact Steps.refl _)
    have loop : ∀ (r i : Nat), i + r = A.slots.size → (∀ j, j < i → yv A j = yv B j) → Steps p.tables e below (s₁.setTop (entryFrame m #[.ref a, .ref b] 3)) (s₁.setTop (mkF m 9 #[.val (.ref a), .val (.ref b), .val (.int (Int32.ofNat i))] [])) → ∃ (pc : Nat) (Ls : Array Slot) (v : Int32), (pc = 25 ∨ pc = 33) ∧ ((v = 1 ∧ EqC A B) ∨ (v = 0 ∧ ¬ EqC A B)) ∧ Steps p.tables e below (s₁.setTop (entryFrame m #[.ref a, .ref b] 3)) (s₁.setTop (mkF m pc Ls [.int v])) := by
      intro r
      induction r with
      | zero =>
        intro i hi he cl
        exact ⟨33, _, 1, Or.inr rfl, Or.inl ⟨rfl, hs, fun j hj => he j (by omega)⟩, cl.trans (by
          refine XS.iloadN X0.here hexec rfl (hb hbytes d9) rfl ?_
          refine XS.aloadN X0.here hexec rfl (hb hbytes d10) rfl rfl ?_
          refine X0.alen hexec hA0 rfl rfl (hb hbytes d11) ?_
          refine XS.icmpYes X0.here hexec rfl (pc0 := 12) rfl (hb hbytes d12) rfl (ii_ge_t (nlt32 (by omega) (by omega))) (by decide) rfl ?_
          refine iconstV X0.here hexec rfl 1 (hb hbytes d32) (by decide) ?_
          exact Steps.refl _)⟩
      | succ r ih =>
        intro i hi he cl
        have c4 : Steps p.tables e below (s₁.setTop (entryFrame m #[.ref a, .ref b] 3)) (s₁.setTop (mkF m 21 #[.val (.ref a), .val (.ref b), .val (.int (Int32.ofNat i))] [.int (yv B i), .int (yv A i)])) := cl.trans (by
          refine XS.iloadN X0.here hexec rfl (hb hbytes d9) rfl ?_
          refine XS.aloadN X0.here hexec rfl (hb hbytes d10) rfl rfl ?_
          refine X0.alen hexec hA0 rfl rfl (hb hbytes d11) ?_
          refine XS.icmpNo X0.here hexec rfl (hb hbytes d12) rfl (ii_ge_f (lt32 (by omega) (by omega))) ?_
          refine XS.aloadN X0.here hexec rfl (hb hbytes d15) rfl rfl ?_
          refine XS.iloadN X0.here hexec rfl (hb hbytes d16) rfl ?_
          refine X0.aget hexec hA0 rfl (yv_get hA tA (i := i) (by omega)) rfl rfl (hb hbytes d17) ?_
          refine XS.aloadN X0.here hexec rfl (hb hbytes d18) rfl rfl ?_
          refine XS.iloadN X0.here hexec rfl (hb hbytes d19) rfl ?_
          refine X0.aget hexec hB0 rfl (yv_get hB tB (i := i) (by omega)) rfl rfl (hb hbytes d20) ?_
          exact Steps.refl _)
        by_cases hv : yv A i = yv B i
        · have c5 : Steps p.tables e below (s₁.setTop (entryFrame m #[.ref a, .ref b] 3)) (s₁.setTop (mkF m 9 #[.val (.ref a), .val (.ref b), .val (.int (Int32.ofNat i + 1))] [])) := c4.trans (by
            refine XS.icmpYes X0.here hexec rfl (pc0 := 21) rfl (hb hbytes d21) rfl (ii_eq_t hv) (by decide) rfl ?_
            refine iincV X0.here hexec rfl 1 (hb hbytes d26) (by decide) rfl rfl ?_
            refine XS.goto X0.here hexec rfl (pc0 := 29) rfl (hb hbytes d29) (by decide) rfl ?_
            exact Steps.refl _)
          rw [succ32] at c5
          exact ih (i + 1) (by omega) (fun j hj => by
            by_cases e : j = i
            · rw [e]; exact hv
            · exact he j (by omega)) c5
        · exact ⟨25, _, 0, Or.inl rfl, Or.inr ⟨rfl, fun q => hv (q.2 i (by omega))⟩, c4.trans (by
            refine XS.icmpNo X0.here hexec rfl (hb hbytes d21) rfl (ii_eq_f hv) ?_
            refine iconstV X0.here hexec rfl 0 (hb hbytes d24) (by decide) ?_
            exact Steps.refl _)⟩
    obtain ⟨pc, Ls, v, hpc, hv, cz⟩ := loop A.slots.size 0 (by omega) (fun j hj => absurd hj (Nat.not_lt_zero j)) c3
    have nv : narrow .boolean (.int v) = .int v := by rcases hv with ⟨rfl, -⟩ | ⟨rfl, -⟩ <;> rfl
    rcases hpc with rfl | rfl
    · exact ⟨s₁, some (.int v), _, _, _, X0, rfl, rfl, rfl, (fun h => by cases h), ⟨v, rfl, hh0, hv⟩, fun fs hl => cz.trans (X0.ireturnOut hexec hret nv (Or.inr (Or.inl rfl)) (hb hbytes d25) hl)⟩
    · exact ⟨s₁, some (.int v), _, _, _, X0, rfl, rfl, rfl, (fun h => by cases h), ⟨v, rfl, hh0, hv⟩, fun fs hl => cz.trans (X0.ireturnOut hexec hret nv (Or.inr (Or.inl rfl)) (hb hbytes d33) hl)⟩
  · have c3 : Steps p.tables e below (s₁.setTop (entryFrame m #[.ref a, .ref b] 3)) (s₁.setTop (mkF m 35 #[.val (.ref a), .val (.ref b), .unset] [.int 0])) := c2.trans (by
      refine XS.icmpYes X0.here hexec rfl (pc0 := 4) rfl (hb hbytes d4) rfl (ii_ne_t (ne32 a31 b31 hs)) (by decide) rfl ?_
      refine iconstV X0.here hexec rfl 0 (hb hbytes d34) (by decide) ?_
      exact Steps.refl _)
    exact ⟨s₁, some (.int 0), _, _, _, X0, rfl, rfl, rfl, (fun h => by cases h), ⟨0, rfl, hh0, Or.inr ⟨rfl, fun q => hs q.1⟩⟩, fun fs hl => c3.trans (X0.ireturnOut hexec hret rfl (Or.inr (Or.inl rfl)) (hb hbytes d35) hl)⟩
end LEq
theorem Cod.ty {cd : Int32} {n : Nat} {f : Nat → Int32} {V : Cell} (h : Cod cd n f V) : Typed .byte V := fun i v hv => by
  have hi : i < V.slots.size := (Array.getElem?_eq_some_iff.mp hv).1
  rcases h with ⟨-, k1, k2⟩ | ⟨-, k1, k2, -⟩
  · rw [(k2 i (by omega)).1] at hv; cases hv; exact fits_lo8 _
  · rcases Nat.mod_two_eq_zero_or_one i with e | e
    · obtain ⟨j, rfl⟩ : ∃ j, i = 2 * j := ⟨i / 2, by omega⟩
      rw [(k2 j (by omega)).1] at hv; cases hv; exact fits_lo8 _
    · obtain ⟨j, rfl⟩ : ∃ j, i = 2 * j + 1 := ⟨i / 2, by omega⟩
      rw [(k2 j (by omega)).2] at hv; cases hv; exact fits_lo8 _
/-- the same text -/
def SameT (n : Nat) (f : Nat → Int32) (k : Nat) (g : Nat → Int32) : Prop := n = k ∧ ∀ j, j < n → f j = g j
theorem lo8_inj {x y : Int32} (h0 : ¬ x < 0) (h1 : ¬ 255 < x) (k0 : ¬ y < 0) (k1 : ¬ 255 < y) (h : lo8 x = lo8 y) : x = y := by
  rw [← lo8_mask h0 h1, ← lo8_mask k0 k1, h]
/-- arrays coded by one coder are equal just where the texts are -/
theorem Cod.eqv {cd : Int32} {n k : Nat} {f g : Nat → Int32} {V V' : Cell} (h : Cod cd n f V) (h' : Cod cd k g V') (hf : ∀ j, j < n → ¬ f j < 0 ∧ ¬ 65535 < f j) (hg : ∀ j, j < k → ¬ g j < 0 ∧ ¬ 65535 < g j) : EqC V V' ↔ SameT n f k g := by
  have yvv : ∀ {W : Cell} {i : Nat} {x : Int32}, W.slots[i]? = some (.int x) → yv W i = x := fun q => by unfold yv; rw [q]
  rcases h with ⟨rfl, k1, k2⟩ | ⟨rfl, k1, k2, -⟩
  · rcases h' with ⟨-, m1, m2⟩ | ⟨e, -⟩
    · constructor
      · rintro ⟨e1, e2⟩
        refine ⟨by omega, fun j hj => ?_⟩
        have q := e2 j (by omega)
        rw [yvv (k2 j hj).1, yvv (m2 j (by omega)).1] at q
        exact lo8_inj (hf j hj).1 (k2 j hj).2 (hg j (by omega)).1 (m2 j (by omega)).2 q
      · rintro ⟨rfl, e2⟩
        refine ⟨by omega, fun j hj => ?_⟩
        rw [yvv (k2 j (by omega)).1, yvv (m2 j (by omega)).1, e2 j (by omega)]
    · exact absurd e (by decide)
  · rcases h' with ⟨e, -⟩ | ⟨-, m1, m2, -⟩
    · exact absurd e (by decide)
    · constructor
      · rintro ⟨e1, e2⟩
        refine ⟨by omega, fun j hj => ?_⟩
        have q1 := e2 (2 * j) (by omega)
        have q2 := e2 (2 * j + 1) (by omega)
        rw [yvv (k2 j hj).1, yvv (m2 j (by omega)).1] at q1
        rw [yvv (k2 j hj).2, yvv (m2 j (by omega)).2] at q2
        rw [← pair_says (hf j hj).1 (hf j hj).2, ← pair_says (hg j (by omega)).1 (hg j (by omega)).2, q1, q2]
      · rintro ⟨rfl, e2⟩
        refine ⟨by omega, fun i hi => ?_⟩
        rcases Nat.mod_two_eq_zero_or_one i with e | e
        · obtain ⟨j, rfl⟩ : ∃ j, i = 2 * j := ⟨i / 2, by omega⟩
          rw [yvv (k2 j (by omega)).1, yvv (m2 j (by omega)).1, e2 j (by omega)]
        · obtain ⟨j, rfl⟩ : ∃ j, i = 2 * j + 1 := ⟨i / 2, by omega⟩
          rw [yvv (k2 j (by omega)).2, yvv (m2 j (by omega)).2, e2 j (by omega)]
/-- two codings differ: so do the texts -/
theorem Cod.dif {cd cd' : Int32} {n k : Nat} {f g : Nat → Int32} {V V' : Cell} (h : Cod cd n f V) (h' : Cod cd' k g V') (hne : ¬ cd = cd') : ¬ SameT n f k g := by
  rintro ⟨rfl, e⟩
  rcases h with ⟨rfl, -, k2⟩ | ⟨rfl, -, -, j, hj, hw⟩
  · rcases h' with ⟨rfl, -⟩ | ⟨-, -, -, j, hj, hw⟩
    · exact hne rfl
    · exact (k2 j hj).2 (by rw [e j hj]; exact hw)
  · rcases h' with ⟨-, -, m2⟩ | ⟨rfl, -⟩
    · exact (m2 j hj).2 (by rw [← e j hj]; exact hw)
    · exact hne rfl
/-- an object of exactly C is an instance of C -/
theorem cinst {p : Program} {l : Launch} {e : Env} {R : Room} {s : State} {m : MethodId} {args : Array Value} {below : List Frame} {meth : Method} {c : Code} {T : State} {locs : List Loc} {cells slots : Nat} (X : Stand p l e R s m args below meth c T locs cells slots) (hexec : p.tables.exec = Jvm.exec) {own C : String} {index : Nat} (hown : s.vm.findClass own = some m.cls) (hlink : (Cond.classLink own index C).before args s = true) {a : Addr} (hE : Exact C a T)
    {g : JFrame} (hg : g.method = m) {rest : List Value} (hstack : g.stack = .ref a :: rest) (hdg : decode c.code g.pc = .ok (.instanceof index, 3)) :
    ∃ T', Stand p l e R s m args below meth c T' locs cells slots ∧ T'.heap = T.heap ∧ ∀ target, Steps p.tables e below (T'.setTop { g with pc := g.pc + 3, stack := .int 1 :: rest }) target → Steps p.tables e below (T.setTop g) target := by
  obtain ⟨cB, h1, D, h2, h3, h4⟩ := hE
  have h1' : s.vm.findClass C = some cB := by rw [← X.warmed.alike.findClass]; exact h1
  obtain ⟨vm', X', st⟩ := X.instanceofYes hexec hown hlink h2 h4 h1' (by rw [h3]; exact Jvm.Free.SB.assignable_self _ _) hg hstack hdg
  exact ⟨_, X', rfl, st⟩
theorem cself {p : Program} {l : Launch} {e : Env} {R : Room} {s : State} {m : MethodId} {args : Array Value} {below : List Frame} {meth : Method} {c : Code} {T : State} {locs : List Loc} {cells slots : Nat} (X : Stand p l e R s m args below meth c T locs cells slots) (hexec : p.tables.exec = Jvm.exec) {own C : String} {index : Nat} (hown : s.vm.findClass own = some m.cls) (hlink : (Cond.classLink own index C).before args s = true) {a : Addr} (hE : Exact C a T)
    {g : JFrame} (hg : g.method = m) {rest : List Value} (hstack : g.stack = .ref a :: rest) (hdg : decode c.code g.pc = .ok (.checkcast index, 3)) :
    ∃ T', Stand p l e R s m args below meth c T' locs cells slots ∧ T'.heap = T.heap ∧ ∀ target, Steps p.tables e below (T'.setTop { g with pc := g.pc + 3, stack := .ref a :: rest }) target → Steps p.tables e below (T.setTop g) target := by
  obtain ⟨cB, h1, D, h2, h3, h4⟩ := hE
  have h1' : s.vm.findClass C = some cB := by rw [← X.warmed.alike.findClass]; exact h1
  obtain ⟨vm', X', st⟩ := X.checkcastYes hexec hown hlink h2 h4 h1' (by rw [h3]; exact Jvm.Free.SB.assignable_self _ _) hg hstack hdg
  exact ⟨_, X', rfl, fun t h => st t (by rw [← hstack] at h; exact h)⟩
namespace SEq
def yN : MethodName := ⟨"java/lang/String", "equals", "(Ljava/lang/Object;)Z"⟩
abbrev yB : ByteArray := jdk_42_method_66_code
theorem d0 : decode yB 0 = .ok (.aload_n 0, 1) := by decide +kernel
theorem d1 : decode yB 1 = .ok (.aload_n 1, 1) := by decide +kernel
theorem d2 : decode yB 2 = .ok (.if_acmp (.ne) 5, 3) := by decide +kernel
theorem d5 : decode yB 5 = .ok (.iconst 1, 1) := by decide +kernel
theorem d6 : decode yB 6 = .ok (.ireturn, 1) := by decide +kernel
theorem d7 : decode yB 7 = .ok (.aload_n 1, 1) := by decide +kernel
theorem d8 : decode yB 8 = .ok (.instanceof 10, 3) := by decide +kernel
theorem d11 : decode yB 11 = .ok (.ifCond (.eq) 43, 3) := by decide +kernel
theorem d14 : decode yB 14 = .ok (.aload_n 1, 1) := by decide +kernel
theorem d15 : decode yB 15 = .ok (.checkcast 10, 3) := by decide +kernel
theorem d18 : decode yB 18 = .ok (.astore_n 2, 1) := by decide +kernel
theorem d19 : decode yB 19 = .ok (.getstatic 38, 3) := by decide +kernel
theorem d22 : decode yB 22 = .ok (.ifCond (.eq) 14, 3) := by decide +kernel
theorem d25 : decode yB 25 = .ok (.aload_n 0, 1) := by decide +kernel
theorem d26 : decode yB 26 = .ok (.getfield 15, 3) := by decide +kernel
theorem d29 : decode yB 29 = .ok (.aload_n 2, 1) := by decide +kernel
theorem d30 : decode yB 30 = .ok (.getfield 15, 3) := by decide +kernel
theorem d33 : decode yB 33 = .ok (.if_icmp (.ne) 21, 3) := by decide +kernel
theorem d36 : decode yB 36 = .ok (.aload_n 0, 1) := by decide +kernel
theorem d37 : decode yB 37 = .ok (.getfield 9, 3) := by decide +kernel
theorem d40 : decode yB 40 = .ok (.aload_n 2, 1) := by decide +kernel
theorem d41 : decode yB 41 = .ok (.getfield 9, 3) := by decide +kernel
theorem d44 : decode yB 44 = .ok (.invokestatic 541, 3) := by decide +kernel
theorem d47 : decode yB 47 = .ok (.ifCond (.eq) 7, 3) := by decide +kernel
theorem d50 : decode yB 50 = .ok (.iconst 1, 1) := by decide +kernel
theorem d51 : decode yB 51 = .ok (.goto 4, 3) := by decide +kernel
theorem d54 : decode yB 54 = .ok (.iconst 0, 1) := by decide +kernel
theorem d55 : decode yB 55 = .ok (.ireturn, 1) := by decide +kernel
def site : List Cond := [.classLink "java/lang/String" 10 "java/lang/String", .fieldLink "java/lang/String" 38 "java/lang/String" "COMPACT_STRINGS" "Z", .fieldLink "java/lang/String" 15 "java/lang/String" "coder" "B", .fieldLink "java/lang/String" 9 "java/lang/String" "value" "[B", LEq.tab] ++ staticW "java/lang/String" 541 LEq.yN
def tab : Cond := tabOf yN yB 3 (some .boolean) site
def P (x t : Addr) (V : Cell) (cd : Int32) (n : Nat) (f : Nat → Int32) (y t' : Addr) (V' : Cell) (cd' : Int32) (k : Nat) (g : Nat → Int32) (z : Int32) (args : Array Value) (s : State) : Prop := args = #[.ref x, .ref y] ∧ Txt x t V cd n f s ∧ Txt y t' V' cd' k g s ∧ StaticIs s "java/lang/String" "COMPACT_STRINGS" "Z" (.int z) ∧ ¬ z = 0
/-- equals(Object) of two Strings: whether the texts are the same -/
theorem law (l : Launch) (x t : Addr) (V : Cell) (cd : Int32) (n : Nat) (f : Nat → Int32) (y t' : Addr) (V' : Cell) (cd' : Int32) (k : Nat) (g : Nat → Int32) (z : Int32) : Law l yN 2 1 1 14 yB 3 (some .boolean) site (P x t V cd n f y t' V' cd' k g z) (Says01 (SameT n f k g)) [] 0 0 := by
  refine Law.of_walk (plainFor_of_name (by decide +kernel)) (by decide +kernel) (by decide +kernel) (by decide) (fun _ _ h => by rw [h.1]; rfl) (fun _ U U' hal hh h => ⟨h.1, h.2.1.mv hal hh, h.2.2.1.mv hal hh, h.2.2.2.1.there hal hh, h.2.2.2.2⟩) (fun r U U' V V' h1 hal h2 h => Says01.mv r U U' V V' h1 hal h2 h) ?_
  intro p e s m args below meth c s₁ X0 hexec hbytes hml hret hlk hnm hown hh0 W hP
  obtain ⟨rfl, hx, hy, s1, hz⟩ := hP
  have c1 : Steps p.tables e below (s₁.setTop (entryFrame m #[.ref x, .ref y] 3)) (s₁.setTop (mkF m 2 #[.val (.ref x), .val (.ref y), .unset] [.ref y, .ref x])) := Steps.trans (entry rfl) (by
    show Steps p.tables e below (s₁.setTop (mkF m 0 #[.val (.ref x), .val (.ref y), .unset] [])) _
    refine XS.aloadN X0.here hexec rfl (hb hbytes d0) rfl rfl ?_
    refine XS.aloadN X0.here hexec rfl (hb hbytes d1) rfl rfl ?_
    exact Steps.refl _)
  by_cases hxy : x = y
  · have c2 : Steps p.tables e below (s₁.setTop (entryFrame m #[.ref x, .ref y] 3)) (s₁.setTop (mkF m 6 #[.val (.ref x), .val (.ref y), .unset] [.int 1])) := c1.trans (by
      refine acmpNo X0.here hexec rfl (hb hbytes d2) rfl rfl rfl (by simp [acmp, hxy]) ?_
      refine iconstV X0.here hexec rfl 1 (hb hbytes d5) (by decide) ?_
      exact Steps.refl _)
    subst hxy
    have ec : cd = cd' := by
      obtain ⟨D, fd, a1, a2, a3⟩ := hx.2.2.1
      obtain ⟨D', fd', b1, b2, b3⟩ := hy.2.2.1
      cases a1.symm.trans b1
      obtain ⟨q1, q2, q3, q4⟩ := a2.1
      obtain ⟨r1, r2, r3, r4⟩ := b2.1
      cases q4.symm.trans r4
      cases a3.symm.trans b3; rfl
    have et : t = t' := by
      obtain ⟨D, fd, a1, a2, a3⟩ := hx.2.1
      obtain ⟨D', fd', b1, b2, b3⟩ := hy.2.1
      cases a1.symm.trans b1
      obtain ⟨q1, q2, q3, q4⟩ := a2.1
      obtain ⟨r1, r2, r3, r4⟩ := b2.1
      cases q4.symm.trans r4
      cases a3.symm.trans b3; rfl
    subst ec et
    have ev : V = V' := by cases hx.2.2.2.1.1.symm.trans hy.2.2.2.1.1; rfl
    subst ev
    have hs : SameT n f k g := (Cod.eqv hx.2.2.2.2.1 hy.2.2.2.2.1 hx.2.2.2.2.2 hy.2.2.2.2.2).mp ⟨rfl, fun _ _ => rfl⟩
    exact ⟨s₁, some (.int 1), _, _, _, X0, rfl, rfl, rfl, (fun h => by cases h), ⟨1, rfl, hh0, Or.inl ⟨rfl, hs⟩⟩, fun fs hl => c2.trans (X0.ireturnOut hexec hret rfl (Or.inr (Or.inl rfl)) (hb hbytes d6) hl)⟩
  · have c2 : Steps p.tables e below (s₁.setTop (entryFrame m #[.ref x, .ref y] 3)) (s₁.setTop (mkF m 8 #[.val (.ref x), .val (.ref y), .unset] [.ref y])) := c1.trans (by
      refine acmpYes X0.here hexec rfl (pc0 := 2) rfl (hb hbytes d2) rfl rfl rfl (by simp [acmp, hxy]) (by decide) rfl ?_
      refine XS.aloadN X0.here hexec rfl (hb hbytes d7) rfl rfl ?_
      exact Steps.refl _)
    obtain ⟨T3, X3, q3, st3⟩ := cinst X0 hexec hown (wk W (.classLink "java/lang/String" 10 "java/lang/String")) (hy.mv X0.warmed.alike hh0).1 (g := (mkF m 8 #[.val (.ref x), .val (.ref y), .unset] [.ref y])) rfl (rest := []) rfl (hb hbytes d8)
    have hh3 := q3.trans hh0
    have c4 : Steps p.tables e below (s₁.setTop (entryFrame m #[.ref x, .ref y] 3)) (T3.setTop (mkF m 15 #[.val (.ref x), .val (.ref y), .unset] [.ref y])) := (c2.trans (st3 _ (Steps.refl _))).trans (by
      refine XS.ifNo X3.here hexec rfl (hb hbytes d11) rfl (i0_eq_f (by decide)) ?_
      refine XS.aloadN X3.here hexec rfl (hb hbytes d14) rfl rfl ?_
      exact Steps.refl _)
    obtain ⟨T5, X5, q5, st5⟩ := cself X3 hexec hown (wk W (.classLink "java/lang/String" 10 "java/lang/String")) (hy.mv X3.warmed.alike hh3).1 (g := (mkF m 15 #[.val (.ref x), .val (.ref y), .unset] [.ref y])) rfl (rest := []) rfl (hb hbytes d15)
    have hh5 := q5.trans hh3
    have c6 : Steps p.tables e below (s₁.setTop (entryFrame m #[.ref x, .ref y] 3)) (T5.setTop (mkF m 19 #[.val (.ref x), .val (.ref y), .val (.ref y)] [])) := (c4.trans (st5 _ (Steps.refl _))).trans (by
      refine XS.astoreN X5.here hexec rfl (hb hbytes d18) rfl rfl rfl ?_
      exact Steps.refl _)
    obtain ⟨T7, X7, q7, st7⟩ := X5.sget hexec hown (wk W (.fieldLink "java/lang/String" 38 "java/lang/String" "COMPACT_STRINGS" "Z")) s1 (fun _ _ h => by rw [hh5]; exact h) (g := (mkF m 19 #[.val (.ref x), .val (.ref y), .val (.ref y)] [])) rfl (hb hbytes d19)
    have hh7 := q7.trans hh5
    have c8 : Steps p.tables e below (s₁.setTop (entryFrame m #[.ref x, .ref y] 3)) (T7.setTop (mkF m 26 #[.val (.ref x), .val (.ref y), .val (.ref y)] [.ref x])) := (c6.trans (st7 _ (Steps.refl _))).trans (by
      refine XS.ifNo X7.here hexec rfl (hb hbytes d22) rfl (i0_eq_f hz) ?_
      refine XS.aloadN X7.here hexec rfl (hb hbytes d25) rfl rfl ?_
      exact Steps.refl _)
    obtain ⟨T9, X9, q9, st9⟩ := X7.hget hexec hown (wk W (.fieldLink "java/lang/String" 15 "java/lang/String" "coder" "B")) (hx.mv X7.warmed.alike hh7).2.2.1 (g := (mkF m 26 #[.val (.ref x), .val (.ref y), .val (.ref y)] [.ref x])) rfl (rest := []) rfl (hb hbytes d26)
    have hh9 := q9.trans hh7
    have c10 : Steps p.tables e below (s₁.setTop (entryFrame m #[.ref x, .ref y] 3)) (T9.setTop (mkF m 30 #[.val (.ref x), .val (.ref y), .val (.ref y)] [.ref y, .int cd])) := (c8.trans (st9 _ (Steps.refl _))).trans (by
      refine XS.aloadN X9.here hexec rfl (hb hbytes d29) rfl rfl ?_
      exact Steps.refl _)
    obtain ⟨T11, X11, q11, st11⟩ := X9.hget hexec hown (wk W (.fieldLink "java/lang/String" 15 "java/lang/String" "coder" "B")) (hy.mv X9.warmed.alike hh9).2.2.1 (g := (mkF m 30 #[.val (.ref x), .val (.ref y), .val (.ref y)] [.ref y, .int cd])) rfl (rest := [.int cd]) rfl (hb hbytes d30)
    have hh11 := q11.trans hh9
    have c12 : Steps p.tables e below (s₁.setTop (entryFrame m #[.ref x, .ref y] 3)) (T11.setTop (mkF m 33 #[.val (.ref x), .val (.ref y), .val (.ref y)] [.int cd', .int cd])) := c10.trans (st11 _ (Steps.refl _))
    by_cases hcd : cd = cd'
    · subst hcd
      have c13 : Steps p.tables e below (s₁.setTop (entryFrame m #[.ref x, .ref y] 3)) (T11.setTop (mkF m 37 #[.val (.ref x), .val (.ref y), .val (.ref y)] [.ref x])) := c12.trans (by
        refine XS.icmpNo X11.here hexec rfl (hb hbytes d33) rfl (ii_ne_f rfl) ?_
        refine XS.aloadN X11.here hexec rfl (hb hbytes d36) rfl rfl ?_
        exact Steps.refl _)
      obtain ⟨T14, X14, q14, st14⟩ := X11.hget hexec hown (wk W (.fieldLink "java/lang/String" 9 "java/lang/String" "value" "[B")) (hx.mv X11.warmed.alike hh11).2.1 (g := (mkF m 37 #[.val (.ref x), .val (.ref y), .val (.ref y)] [.ref x])) rfl (rest := []) rfl (hb hbytes d37)
      have hh14 := q14.trans hh11
      have c15 : Steps p.tables e below (s₁.setTop (entryFrame m #[.ref x, .ref y] 3)) (T14.setTop (mkF m 41 #[.val (.ref x), .val (.ref y), .val (.ref y)] [.ref y, .ref t])) := (c13.trans (st14 _ (Steps.refl _))).trans (by
        refine XS.aloadN X14.here hexec rfl (hb hbytes d40) rfl rfl ?_
        exact Steps.refl _)
      obtain ⟨T16, X16, q16, st16⟩ := X14.hget hexec hown (wk W (.fieldLink "java/lang/String" 9 "java/lang/String" "value" "[B")) (hy.mv X14.warmed.alike hh14).2.1 (g := (mkF m 41 #[.val (.ref x), .val (.ref y), .val (.ref y)] [.ref y, .ref t])) rfl (rest := [.ref t]) rfl (hb hbytes d41)
      have hh16 := q16.trans hh14
      have c17 : Steps p.tables e below (s₁.setTop (entryFrame m #[.ref x, .ref y] 3)) (T16.setTop (mkF m 44 #[.val (.ref x), .val (.ref y), .val (.ref y)] [.ref t', .ref t])) := c15.trans (st16 _ (Steps.refl _))
      obtain ⟨v18, T18, X18, E18, g18⟩ := X16.callS hexec (LEq.law l t V t' V') hown (wks W (staticW "java/lang/String" 541 LEq.yN)) (wk W LEq.tab) (W := 0) (Nat.le_of_ble_eq_true rfl) (Nat.le_of_ble_eq_true rfl) (Nat.le_refl _) (Nat.le_refl _) (g := (mkF m 44 #[.val (.ref x), .val (.ref y), .val (.ref y)] [.ref t', .ref t])) rfl (by rw [hml]; rfl) c17 (argsL := [.ref t, .ref t']) (rest := []) rfl rfl (by show 2 * 0 + 0 ≤ _; decide) (hb hbytes d44) (⟨rfl, hx.2.2.2.1.mv X16.warmed.alike hh16, hx.2.2.2.2.1.ty, hy.2.2.2.1.mv X16.warmed.alike hh16, hy.2.2.2.2.1.ty⟩)
      obtain ⟨v, rfl, q18, hv⟩ := E18
      have iff := Cod.eqv hx.2.2.2.2.1 hy.2.2.2.2.1 hx.2.2.2.2.2 hy.2.2.2.2.2
      rcases hv with ⟨rfl, he⟩ | ⟨rfl, he⟩
      · have c19 : Steps p.tables e below (s₁.setTop (entryFrame m #[.ref x, .ref y] 3)) (T18.setTop (mkF m 55 #[.val (.ref x), .val (.ref y), .val (.ref y)] [.int 1])) := Steps.trans g18 (by
          refine XS.ifNo X18.here hexec rfl (hb hbytes d47) rfl (i0_eq_f (by decide)) ?_
          refine iconstV X18.here hexec rfl 1 (hb hbytes d50) (by decide) ?_
          refine XS.goto X18.here hexec rfl (pc0 := 51) rfl (hb hbytes d51) (by decide) rfl ?_
          exact Steps.refl _)
        exact ⟨T18, some (.int 1), _, _, _, X18, rfl, rfl, rfl, (fun h => by cases h), ⟨1, rfl, q18.trans hh16, Or.inl ⟨rfl, iff.mp he⟩⟩, fun fs hl => c19.trans (X18.ireturnOut hexec hret rfl (Or.inr (Or.inl rfl)) (hb hbytes d55) hl)⟩
      · have c19 : Steps p.tables e below (s₁.setTop (entryFrame m #[.ref x, .ref y] 3)) (T18.setTop (mkF m 55 #[.val (.ref x), .val (.ref y), .val (.ref y)] [.int 0])) := Steps.trans g18 (by
          refine XS.ifYes X18.here hexec rfl (pc0 := 47) rfl (hb hbytes d47) rfl (i0_eq_t rfl) (by decide) rfl ?_
          refine iconstV X18.here hexec rfl 0 (hb hbytes d54) (by decide) ?_
          exact Steps.refl _)
        exact ⟨T18, some (.int 0), _, _, _, X18, rfl, rfl, rfl, (fun h => by cases h), ⟨0, rfl, q18.trans hh16, Or.inr ⟨rfl, fun q => he (iff.mpr q)⟩⟩, fun fs hl => c19.trans (X18.ireturnOut hexec hret rfl (Or.inr (Or.inl rfl)) (hb hbytes d55) hl)⟩
    · have c13 : Steps p.tables e below (s₁.setTop (entryFrame m #[.ref x, .ref y] 3)) (T11.setTop (mkF m 55 #[.val (.ref x), .val (.ref y), .val (.ref y)] [.int 0])) := c12.trans (by
        refine XS.icmpYes X11.here hexec rfl (pc0 := 33) rfl (hb hbytes d33) rfl (ii_ne_t hcd) (by decide) rfl ?_
        refine iconstV X11.here hexec rfl 0 (hb hbytes d54) (by decide) ?_
        exact Steps.refl _)
      exact ⟨T11, some (.int 0), _, _, _, X11, rfl, rfl, rfl, (fun h => by cases h), ⟨0, rfl, hh11, Or.inr ⟨rfl, Cod.dif hx.2.2.2.2.1 hy.2.2.2.2.1 hcd⟩⟩, fun fs hl => c13.trans (X11.ireturnOut hexec hret rfl (Or.inr (Or.inl rfl)) (hb hbytes d55) hl)⟩
theorem pays {l : Launch} {R : Room} {p : Program} {e : Env} {below : List Frame} {s : State} {sargs : Array Value} {len W : Nat} (x t : Addr) (V : Cell) (cd : Int32) (n : Nat) (f : Nat → Int32) (y t' : Addr) (V' : Cell) (cd' : Int32) (k : Nat) (g : Nat → Int32) (z : Int32) (htab : tab.before sargs s = true) (hfr : 2 ≤ R.frames) (hlo : W + 28 ≤ R.locals) :
    Back l R p e below s sargs yN len W (fun A₁ a₁ => A₁.cells + 0 ≤ R.cells ∧ A₁.slots + 0 ≤ R.slots ∧ P x t V cd n f y t' V' cd' k g z a₁ A₁.U) (fun A₁ _ v₁ B₁ => Says01 (SameT n f k g) v₁ A₁.U B₁.U ∧ B₁.locs = A₁.locs ++ [] ∧ B₁.cells = A₁.cells + 0 ∧ B₁.slots = A₁.slots + 0) :=
  (law l x t V cd n f y t' V' cd' k g z).pays htab hfr (by omega)
end SEq
end StrChars
namespace StrChars.Road
open Jvm Sem ClassFile Op Lib Jvm.Stand Jvm.Free Jvm.Free.XT
open Jvm.Lib.Cold (StaticIs)
/-- the words of String.equals(Object) -/
abbrev wordsEq : List Jvm.Cond := [.code SEq.yN SEq.yB 3 (some .boolean), .initialized ST, .classLink ST 10 ST, .fieldLink ST 38 ST "COMPACT_STRINGS" "Z", .fieldLink ST 15 ST "coder" "B", .fieldLink ST 9 ST "value" "[B", .methodLink ST 541 LEq.yN, .static LEq.yN, .code LEq.yN LEq.yB 3 (some .boolean), .initialized "java/lang/StringLatin1"]
theorem tabEq_of {a : Array Value} {s : State} (h : ∀ w ∈ wordsEq, w.before a s = true) : SEq.tab.before a s = true := by
  have hl : LEq.tab.before a s = true := unparts (wk h (.code LEq.yN LEq.yB 3 (some .boolean))) (wks h (.initialized LEq.yN.cls :: LEq.site))
  have q := consq hl h
  exact unparts (wk q (.code SEq.yN SEq.yB 3 (some .boolean))) (wks q (.initialized SEq.yN.cls :: SEq.site))
theorem movedEq {Z s : State} {a0 args : Array Value} (hZ : Z.Warmed39 s.vm) (hw : ∀ d ∈ wordsEq, d.before a0 Z = true) : ∀ d ∈ wordsEq, d.before args s = true := fun d hd => by
  have t : ∀ d ∈ wordsEq, (d.onTables && d.keepsFace) = true := by decide +kernel
  exact RoadKit.mv hZ (hw d hd) (t d hd)
/-- the road's facts of a String, as the laws ask it -/
theorem txt_of {Z U : State} {a0 : Array Value} {kI : Nat} (wi : (Jvm.Cond.instantiable ST kI).before a0 Z = true) (al : Z.vm.Alike U.vm) {x t : Addr} {kb : ClassId} {cs : List Int32} {cd N2 : Int32} {vs : List Value} (E : RoadKit.Exa Z U.heap x ST) (V : RoadKit.Fld Z U.heap x ST "value" "[B" (.ref t)) (C : RoadKit.Fld Z U.heap x ST "coder" "B" (.int cd)) (K : RoadKit.Arv Z U.heap t kb .byte N2 vs (.int 0)) (hc : CodA cs cd N2 vs) (hb : ∀ c ∈ cs, ¬ c < 0 ∧ ¬ (65535 : Int32) < c) (l2 : cs.length ≤ 4000) :
    ∃ A, Txt x t A cd cs.length (fun j => cs.getD j 0) U := by
  obtain ⟨A, K1, K2, K3, K4, K5, K6⟩ := K
  have hcod := hc.cod (by omega) K3 K5
  obtain ⟨D, fV, fC, hB, F1, F2, g1, g2, -, -⟩ := strObj wi al E V C
  exact ⟨A, ⟨_, hB.2.2.1, D, hB.1, rfl, by cases q : D.vm <;> first | rfl | exact absurd q (hB.2.1.2 _)⟩, Has.of hB F1 g1, Has.of hB F2 g2, ⟨K1.1, State.isArrayOf_alike al K1.2.1, K1.2.2, by rcases hcod with ⟨-, q, -⟩ | ⟨-, q, -⟩ <;> omega⟩, hcod, fun j hj => by
    have e : cs.getD j 0 = cs[j] := by simp [List.getD_eq_getElem?_getD, hj]
    show ¬ cs.getD j 0 < 0 ∧ ¬ 65535 < cs.getD j 0
    rw [e]; exact hb _ (List.getElem_mem _)⟩
theorem same_list (cs ds : List Int32) : SameT cs.length (fun j => cs.getD j 0) ds.length (fun j => ds.getD j 0) ↔ cs = ds := by
  constructor
  · rintro ⟨e, q⟩
    refine List.ext_getElem e fun j h1 h2 => ?_
    have := q j h1
    simpa [List.getD_eq_getElem?_getD, h1, h2] using this
  · rintro rfl
    exact ⟨rfl, fun _ _ => rfl⟩
/-- **equals(Object) OF TWO SUCH STRINGS**: 1 just where the chars are the same -/
theorem eqW {p : Program} {l : Launch} {e : Env} {R : Room} {s : State} {args : Array Value} {below : List Frame} {len W : Nat} {Z : State} {a0 : Array Value} {h : Heap} (hZ : Z.Warmed39 s.vm) (hw : ∀ d ∈ wordsEq, d.before a0 Z = true) {kI : Nat} (wi : (Jvm.Cond.instantiable ST kI).before a0 Z = true)
    {x t : Addr} {kb : ClassId} {cs : List Int32} {cd N2 : Int32} {vs : List Value} (E : RoadKit.Exa Z h x ST) (V : RoadKit.Fld Z h x ST "value" "[B" (.ref t)) (C : RoadKit.Fld Z h x ST "coder" "B" (.int cd)) (K : RoadKit.Arv Z h t kb .byte N2 vs (.int 0)) (hc : CodA cs cd N2 vs) (hb : ∀ c ∈ cs, ¬ c < 0 ∧ ¬ (65535 : Int32) < c) (l2 : cs.length ≤ 4000)
    {y t' : Addr} {kb' : ClassId} {ds : List Int32} {cd' N2' : Int32} {vs' : List Value} (E' : RoadKit.Exa Z h y ST) (V' : RoadKit.Fld Z h y ST "value" "[B" (.ref t')) (C' : RoadKit.Fld Z h y ST "coder" "B" (.int cd')) (K' : RoadKit.Arv Z h t' kb' .byte N2' vs' (.int 0)) (hc' : CodA ds cd' N2' vs') (hb' : ∀ c ∈ ds, ¬ c < 0 ∧ ¬ (65535 : Int32) < c) (l2' : ds.length ≤ 4000)
    {z : Int32} (S : RoadKit.Sta Z h ST "COMPACT_STRINGS" "Z" (.int z)) (hz : ¬ z = 0) (hfr : 2 ≤ R.frames) (hlo : W + 28 ≤ R.locals) :
    Back l R p e below s args (⟨"java/lang/String", "equals", "(Ljava/lang/Object;)Z"⟩ : MethodName) len W (fun P a => a = #[.ref x, .ref y] ∧ P.U.heap = h ∧ P.cells + 0 ≤ R.cells ∧ P.slots + 0 ≤ R.slots)
      (fun P _ v B => ∃ L, (((v = some (.int 1) ∧ cs = ds) ∨ (v = some (.int 0) ∧ ¬ cs = ds)) ∧ L = [] ∧ B.U.heap = h) ∧ B.locs = P.locs ++ L ∧ B.cells = P.cells + 0 ∧ B.slots = P.slots + 0) := by
  intro m meth c P g ig mk a X hg hsize hdg hW hn hp'
  obtain ⟨rfl, rfl, r1, r2⟩ := hp'
  have al : Z.vm.Alike P.U.vm := hZ.alike.trans X.warmed.alike
  obtain ⟨A, hx⟩ := txt_of wi al E V C K hc hb l2
  obtain ⟨A', hy⟩ := txt_of wi al E' V' C' K' hc' hb' l2'
  obtain ⟨v, B, X', ⟨⟨w, hv, hh, hq⟩, hl, hk, hs⟩, st⟩ := SEq.pays x t A cd cs.length (fun j => cs.getD j 0) y t' A' cd' ds.length (fun j => ds.getD j 0) z (tabEq_of (movedEq hZ hw)) hfr hlo m meth c P g ig mk _ X hg hsize hdg hW hn ⟨r1, r2, rfl, hx, hy, sta_is al S, hz⟩
  refine ⟨v, B, X', ⟨[], ⟨?_, rfl, hh⟩, hl, hk, hs⟩, st⟩
  rcases hq with ⟨rfl, q⟩ | ⟨rfl, q⟩
  · exact Or.inl ⟨hv, (same_list cs ds).mp q⟩
  · exact Or.inr ⟨hv, fun e => q ((same_list cs ds).mpr e)⟩
end StrChars.Road
end Jvm.Pilot.@@N@@
namespace Jvm.Pilot.@@N@@
namespace Own
open Jvm Jvm.ClassFile Sem Op Lib Jvm.Free Jvm.Stand Jvm.LawKit Jvm.RoadKit
/-- what stays through a whole case: the launch, the start, its arguments, the assumed constants, the start heap's size -/
def Gl : Type := Launch × State × Array Value × List (String × Nat) × Nat
def Gl.l (G : Gl) : Launch := G.1
def Gl.Z (G : Gl) : State := G.2.1
def Gl.a0 (G : Gl) : Array Value := G.2.2.1
def Gl.EL (G : Gl) : List (String × Nat) := G.2.2.2.1
def Gl.n0 (G : Gl) : Nat := G.2.2.2.2
/-- one run of one body -/
def Rn : Type := Program × Env × State × MethodId × Array Value × List Frame × Method × Code
def Rn.p (X : Rn) : Program := X.1
def Rn.e (X : Rn) : Env := X.2.1
def Rn.s (X : Rn) : State := X.2.2.1
def Rn.m (X : Rn) : MethodId := X.2.2.2.1
def Rn.args (X : Rn) : Array Value := X.2.2.2.2.1
def Rn.below (X : Rn) : List Frame := X.2.2.2.2.2.1
def Rn.meth (X : Rn) : Method := X.2.2.2.2.2.2.1
def Rn.c (X : Rn) : Code := X.2.2.2.2.2.2.2
/-- one body: its name, bytes, locals, what it returns, its room -/
def Bo : Type := MethodName × ByteArray × Nat × Option FieldType × Room
abbrev Bo.y (M : Bo) : MethodName := M.1
abbrev Bo.bytes (M : Bo) : ByteArray := M.2.1
abbrev Bo.maxL (M : Bo) : Nat := M.2.2.1
abbrev Bo.ret (M : Bo) : Option FieldType := M.2.2.2.1
abbrev Bo.R (M : Bo) : Room := M.2.2.2.2
/-- what is known of a run's body throughout -/
def Fixd (G : Gl) (X : Rn) (M : Bo) : Prop := X.p.tables.exec = Jvm.exec ∧ X.c.code = M.bytes ∧ X.c.maxLocals = M.maxL ∧ X.meth.sig.returnType = M.ret ∧ X.meth.locks = false ∧ X.meth.name = M.y.name ∧ EW G.Z G.a0 G.EL
/-- WHERE A WALK STANDS: the tables of its base vm, the state T, its heap h, at most C new cells of S slots -/
def Here (G : Gl) (X : Rn) (M : Bo) (vm : Vm) (T : State) (h : Heap) (C S : Nat) : Prop :=
  Fixd G X M ∧ ∃ (k0 : Nat) (locs : List Loc) (cells slots : Nat), Stand X.p G.l X.e M.R (X.s.setVm vm) X.m X.args X.below X.meth X.c T locs cells slots ∧ T.heap = h ∧ X.s.Since vm k0 ∧ k0 ≤ h.size ∧ G.Z.Warmed39 vm ∧ vm.findClass M.y.cls = some X.m.cls ∧
    CHr G.Z G.EL X.s.vm X.s.heap vm h ∧ Fr G.n0 locs ∧ Old G.Z G.n0 h ∧ cells ≤ C ∧ slots ≤ S
/-- THE GOAL: from this frame the body comes to its end, and there Q holds -/
def Go (G : Gl) (X : Rn) (M : Bo) (Q : Option Value → Heap → Prop) (T : State) (pc : Nat) (Ls : Array Slot) (st : List Value) : Prop :=
  ∃ s₂ o, Steps X.p.tables X.e X.below (T.setTop (mkF X.m pc Ls st)) s₂ ∧ s₂.status = .running ∧ Ended s₂ X.below o ∧ ∃ v L, o = .returned v ∧ (Q v s₂.heap ∧ Fr G.n0 L ∧ Old G.Z G.n0 s₂.heap) ∧ CHr G.Z G.EL X.s.vm X.s.heap s₂.vm s₂.heap ∧ ReturnedEndW X.s o s₂ L M.R.cells M.R.slots
/-- A BODY's CONTRACT: called with as' in the heap h (the places sf not booked by a constant), it returns and Q holds -/
def Con (G : Gl) (ws : List Jvm.Cond) (M : Bo) (as' : Array Value) (h : Heap) (sf : List Addr) (Q : Option Value → Heap → Prop) : Prop :=
  MetFree G.l M.y (head1 (Jvm.Cond.code M.y M.bytes M.maxL M.ret :: ws) M.R) (fun a U => a = as' ∧ G.Z.Warmed39 U.vm ∧ U.heap = h ∧ CHv G.Z G.EL U.vm h ∧ ∀ x ∈ sf, Safe G.Z G.EL U.vm h x) (fun _ _ _ _ _ => True)
    (fun _ U o U' => ∃ v L, o = .returned v ∧ (Q v U'.heap ∧ Fr G.n0 L ∧ Old G.Z G.n0 U'.heap) ∧ CHr G.Z G.EL U.vm U.heap U'.vm U'.heap ∧ ReturnedEndW U o U' L M.R.cells M.R.slots)
/-- A CALL THAT IS PAID -/
def Pay (G : Gl) (X : Rn) (M : Bo) (vm : Vm) (h : Heap) (y : MethodName) (len W : Nat) (as' : Array Value) (kc ks : Nat) (Q : Option Value → Heap → Prop) : Prop :=
  BackS G.l M.R X.p X.e X.below (X.s.setVm vm) X.args y len W (fun A a => a = as' ∧ A.U.heap = h ∧ A.cells + kc ≤ M.R.cells ∧ A.slots + ks ≤ M.R.slots)
    (fun A _ v B => ∃ L, (Q v B.U.heap ∧ Fr G.n0 L ∧ Old G.Z G.n0 B.U.heap) ∧ B.locs = A.locs ++ L ∧ B.cells ≤ A.cells + kc ∧ B.slots ≤ A.slots + ks ∧ CHr G.Z G.EL vm h B.U.vm B.U.heap)
section Kit
variable {G : Gl} {X : Rn} {M : Bo} {vm : Vm} {T : State} {h : Heap} {C S : Nat} {Q : Option Value → Heap → Prop} {pc pc' : Nat} {Ls Ls' : Array Slot} {st : List Value}
theorem Go.stp {T' : State} {st' : List Value} (hs : ∀ t, Steps X.p.tables X.e X.below (T'.setTop (mkF X.m pc' Ls' st')) t → Steps X.p.tables X.e X.below (T.setTop (mkF X.m pc Ls st)) t) (k : Go G X M Q T' pc' Ls' st') : Go G X M Q T pc Ls st := by
  obtain ⟨s₂, o, h1, r⟩ := k
  exact ⟨s₂, o, hs _ h1, r⟩
theorem Here.x (W : Here G X M vm T h C S) : X.p.tables.exec = Jvm.exec := W.1.1
theorem Here.d (W : Here G X M vm T h C S) {pc : Nat} {r : Except ClassFile.DecodeError (ClassFile.Instr × Nat)} (h2 : ClassFile.decode M.bytes pc = r) : ClassFile.decode X.c.code pc = r := hb W.1.2.1 h2
theorem Here.at (W : Here G X M vm T h C S) : Jvm.At T X.m X.c X.below := by obtain ⟨-, _, _, _, _, X1, -⟩ := W; exact X1.here
theorem Here.old (W : Here G X M vm T h C S) : Old G.Z G.n0 h := by obtain ⟨-, _, _, _, _, -, -, -, -, -, -, -, -, o, -⟩ := W; exact o
theorem Here.ch (W : Here G X M vm T h C S) : CHv G.Z G.EL vm h := by obtain ⟨-, _, _, _, _, -, -, -, -, -, -, q, -⟩ := W; exact q.1
theorem Here.wz (W : Here G X M vm T h C S) : G.Z.Warmed39 vm := by obtain ⟨-, _, _, _, _, -, -, -, -, q, -⟩ := W; exact q
theorem Here.le (W : Here G X M vm T h C S) {C' S' : Nat} (hc : C ≤ C') (hs : S ≤ S') : Here G X M vm T h C' S' := by
  obtain ⟨F, k0, L, c, s, h1, h2, h3, h4, h5, h6, h7, h8, h9, h10, h11⟩ := W
  exact ⟨F, k0, L, c, s, h1, h2, h3, h4, h5, h6, h7, h8, h9, Nat.le_trans h10 hc, Nat.le_trans h11 hs⟩
theorem Here.n0 (W : Here G X M vm T h C S) : G.n0 ≤ h.size := W.old.1 ▸ W.old.2.1
/-- the start heap's fact, now -/
theorem Here.sta (W : Here G X M vm T h C S) {c n d : String} {v : Value} (F : Sta G.Z G.Z.heap c n d v) : Sta G.Z h c n d v := F.ext W.old.2
/-! ### plain steps -/
theorem iconst (W : Here G X M vm T h C S) {i : Int} (hd : decode M.bytes pc = .ok (.iconst i, 1)) (pc' : Nat) (hp : pc + 1 = pc') (v : Int32) (hv : Int32.ofInt i = v) (k : Go G X M Q T pc' Ls (.int v :: st)) : Go G X M Q T pc Ls st := by
  subst hp hv; exact Go.stp (fun t r => XS.iconst W.at W.x rfl (W.d hd) r) k
theorem bipush (W : Here G X M vm T h C S) {i : Int} (hd : decode M.bytes pc = .ok (.bipush i, 2)) (pc' : Nat) (hp : pc + 2 = pc') (v : Int32) (hv : (Int8.ofInt i).toInt32 = v) (k : Go G X M Q T pc' Ls (.int v :: st)) : Go G X M Q T pc Ls st := by
  subst hp hv; exact Go.stp (fun t r => XS.bipush W.at W.x rfl (W.d hd) r) k
theorem sipush (W : Here G X M vm T h C S) {i : Int} (hd : decode M.bytes pc = .ok (.sipush i, 3)) (pc' : Nat) (hp : pc + 3 = pc') (v : Int32) (hv : (Int16.ofInt i).toInt32 = v) (k : Go G X M Q T pc' Ls (.int v :: st)) : Go G X M Q T pc Ls st := by
  subst hp hv; exact Go.stp (fun t r => XS.sipush W.at W.x rfl (W.d hd) r) k
theorem aconstNull (W : Here G X M vm T h C S) (hd : decode M.bytes pc = .ok (.aconst_null, 1)) (pc' : Nat) (hp : pc + 1 = pc') (k : Go G X M Q T pc' Ls (.null :: st)) : Go G X M Q T pc Ls st := by
  subst hp; exact Go.stp (fun t r => XS.aconstNull W.at W.x rfl (W.d hd) r) k
theorem iloadN (W : Here G X M vm T h C S) {j : Fin 4} (hd : decode M.bytes pc = .ok (.iload_n j, 1)) (pc' : Nat) (hp : pc + 1 = pc') (v : Int32) (hl : Ls[j.val]? = some (.val (.int v))) (k : Go G X M Q T pc' Ls (.int v :: st)) : Go G X M Q T pc Ls st := by
  subst hp; exact Go.stp (fun t r => XS.iloadN W.at W.x rfl (W.d hd) hl r) k
theorem iload (W : Here G X M vm T h C S) {j : Nat} (hd : decode M.bytes pc = .ok (.iload j, 2)) (pc' : Nat) (hp : pc + 2 = pc') (v : Int32) (hl : Ls[j]? = some (.val (.int v))) (k : Go G X M Q T pc' Ls (.int v :: st)) : Go G X M Q T pc Ls st := by
  subst hp; exact Go.stp (fun t r => XS.iload W.at W.x rfl (W.d hd) hl r) k
theorem aloadN (W : Here G X M vm T h C S) {j : Fin 4} (hd : decode M.bytes pc = .ok (.aload_n j, 1)) (pc' : Nat) (hp : pc + 1 = pc') (v : Value) (hl : Ls[j.val]? = some (.val v)) (hv : v.isRef = true) (k : Go G X M Q T pc' Ls (v :: st)) : Go G X M Q T pc Ls st := by
  subst hp; exact Go.stp (fun t r => XS.aloadN W.at W.x rfl (W.d hd) hl hv r) k
theorem aload (W : Here G X M vm T h C S) {j : Nat} (hd : decode M.bytes pc = .ok (.aload j, 2)) (pc' : Nat) (hp : pc + 2 = pc') (v : Value) (hl : Ls[j]? = some (.val v)) (hv : v.isRef = true) (k : Go G X M Q T pc' Ls (v :: st)) : Go G X M Q T pc Ls st := by
  subst hp; exact Go.stp (fun t r => XS.aload W.at W.x rfl (W.d hd) hl hv r) k
theorem istoreN (W : Here G X M vm T h C S) {j : Fin 4} {x : Int32} (hd : decode M.bytes pc = .ok (.istore_n j, 1)) (pc' : Nat) (hp : pc + 1 = pc') (Ls' : Array Slot) (hl : storeLocals Ls j.val (.int x) = some Ls') (k : Go G X M Q T pc' Ls' st) : Go G X M Q T pc Ls (.int x :: st) := by
  subst hp; exact Go.stp (fun t r => XS.istoreN W.at W.x rfl (W.d hd) rfl hl r) k
theorem istore (W : Here G X M vm T h C S) {j : Nat} {x : Int32} (hd : decode M.bytes pc = .ok (.istore j, 2)) (pc' : Nat) (hp : pc + 2 = pc') (Ls' : Array Slot) (hl : storeLocals Ls j (.int x) = some Ls') (k : Go G X M Q T pc' Ls' st) : Go G X M Q T pc Ls (.int x :: st) := by
  subst hp; exact Go.stp (fun t r => XS.istore W.at W.x rfl (W.d hd) rfl hl r) k
theorem astoreN (W : Here G X M vm T h C S) {j : Fin 4} {x : Value} (hd : decode M.bytes pc = .ok (.astore_n j, 1)) (pc' : Nat) (hp : pc + 1 = pc') (hv : x.isRef = true) (Ls' : Array Slot) (hl : storeLocals Ls j.val x = some Ls') (k : Go G X M Q T pc' Ls' st) : Go G X M Q T pc Ls (x :: st) := by
  subst hp; exact Go.stp (fun t r => XS.astoreN W.at W.x rfl (W.d hd) rfl hv hl r) k
theorem astore (W : Here G X M vm T h C S) {j : Nat} {x : Value} (hd : decode M.bytes pc = .ok (.astore j, 2)) (pc' : Nat) (hp : pc + 2 = pc') (hv : x.isRef = true) (Ls' : Array Slot) (hl : storeLocals Ls j x = some Ls') (k : Go G X M Q T pc' Ls' st) : Go G X M Q T pc Ls (x :: st) := by
  subst hp; exact Go.stp (fun t r => XS.astore W.at W.x rfl (W.d hd) rfl hv hl r) k
theorem iinc (W : Here G X M vm T h C S) {j : Nat} {cst : Int} {x : Int32} (hd : decode M.bytes pc = .ok (.iinc j cst, 3)) (pc' : Nat) (hp : pc + 3 = pc') (hl : Ls[j]? = some (.val (.int x))) (Ls' : Array Slot) (hl' : storeLocals Ls j (.int (x + Int32.ofInt cst)) = some Ls') (k : Go G X M Q T pc' Ls' st) : Go G X M Q T pc Ls st := by
  subst hp; exact Go.stp (fun t r => XS.iinc W.at W.x rfl (W.d hd) hl hl' r) k
theorem iadd (W : Here G X M vm T h C S) {x y : Int32} (hd : decode M.bytes pc = .ok (.iadd, 1)) (pc' : Nat) (hp : pc + 1 = pc') (k : Go G X M Q T pc' Ls (.int (x + y) :: st)) : Go G X M Q T pc Ls (.int y :: .int x :: st) := by
  subst hp; exact Go.stp (fun t r => XS.iadd W.at W.x rfl (W.d hd) rfl r) k
theorem isub (W : Here G X M vm T h C S) {x y : Int32} (hd : decode M.bytes pc = .ok (.isub, 1)) (pc' : Nat) (hp : pc + 1 = pc') (k : Go G X M Q T pc' Ls (.int (x - y) :: st)) : Go G X M Q T pc Ls (.int y :: .int x :: st) := by
  subst hp; exact Go.stp (fun t r => XS.isub W.at W.x rfl (W.d hd) rfl r) k
theorem iand (W : Here G X M vm T h C S) {x y : Int32} (hd : decode M.bytes pc = .ok (.iand, 1)) (pc' : Nat) (hp : pc + 1 = pc') (k : Go G X M Q T pc' Ls (.int (x &&& y) :: st)) : Go G X M Q T pc Ls (.int y :: .int x :: st) := by
  subst hp; exact Go.stp (fun t r => XS.iand W.at W.x rfl (W.d hd) rfl r) k
theorem ixor (W : Here G X M vm T h C S) {x y : Int32} (hd : decode M.bytes pc = .ok (.ixor, 1)) (pc' : Nat) (hp : pc + 1 = pc') (k : Go G X M Q T pc' Ls (.int (x ^^^ y) :: st)) : Go G X M Q T pc Ls (.int y :: .int x :: st) := by
  subst hp; exact Go.stp (fun t r => XS.ixor W.at W.x rfl (W.d hd) rfl r) k
theorem iushr (W : Here G X M vm T h C S) {x y : Int32} (hd : decode M.bytes pc = .ok (.iushr, 1)) (pc' : Nat) (hp : pc + 1 = pc') (k : Go G X M Q T pc' Ls (.int ((x.toUInt32 >>> (y &&& 31).toUInt32).toInt32) :: st)) : Go G X M Q T pc Ls (.int y :: .int x :: st) := by
  subst hp; exact Go.stp (fun t r => XS.iushr W.at W.x rfl (W.d hd) rfl r) k
theorem ineg (W : Here G X M vm T h C S) {x : Int32} (hd : decode M.bytes pc = .ok (.ineg, 1)) (pc' : Nat) (hp : pc + 1 = pc') (k : Go G X M Q T pc' Ls (.int (-x) :: st)) : Go G X M Q T pc Ls (.int x :: st) := by
  subst hp; exact Go.stp (fun t r => XS.ineg W.at W.x rfl (W.d hd) rfl r) k
theorem i2c (W : Here G X M vm T h C S) {x : Int32} (hd : decode M.bytes pc = .ok (.i2c, 1)) (pc' : Nat) (hp : pc + 1 = pc') (k : Go G X M Q T pc' Ls (.int x.toUInt32.toUInt16.toUInt32.toInt32 :: st)) : Go G X M Q T pc Ls (.int x :: st) := by
  subst hp; exact Go.stp (fun t r => XS.i2c W.at W.x rfl (W.d hd) rfl r) k
theorem i2b (W : Here G X M vm T h C S) {x : Int32} (hd : decode M.bytes pc = .ok (.i2b, 1)) (pc' : Nat) (hp : pc + 1 = pc') (k : Go G X M Q T pc' Ls (.int x.toInt8.toInt32 :: st)) : Go G X M Q T pc Ls (.int x :: st) := by
  subst hp; exact Go.stp (fun t r => XS.i2b W.at W.x rfl (W.d hd) rfl r) k
theorem irem (W : Here G X M vm T h C S) {x y : Int32} (hd : decode M.bytes pc = .ok (.irem, 1)) (pc' : Nat) (hp : pc + 1 = pc') (hy : y ≠ 0) (k : Go G X M Q T pc' Ls (.int (x % y) :: st)) : Go G X M Q T pc Ls (.int y :: .int x :: st) := by
  subst hp
  obtain ⟨F, k0, L, c, s, X1, -⟩ := id W
  exact Go.stp (fun t r => iremM X1 W.x rfl (W.d hd) rfl hy r) k
theorem dup (W : Here G X M vm T h C S) {x : Value} (hd : decode M.bytes pc = .ok (.dup, 1)) (pc' : Nat) (hp : pc + 1 = pc') (hc : x.category = 1) (k : Go G X M Q T pc' Ls (x :: x :: st)) : Go G X M Q T pc Ls (x :: st) := by
  subst hp; exact Go.stp (fun t r => XS.dup W.at W.x rfl (W.d hd) rfl hc r) k
theorem pop (W : Here G X M vm T h C S) {x : Value} (hd : decode M.bytes pc = .ok (.pop, 1)) (pc' : Nat) (hp : pc + 1 = pc') (hc : x.category = 1) (k : Go G X M Q T pc' Ls st) : Go G X M Q T pc Ls (x :: st) := by
  subst hp; exact Go.stp (fun t r => XS.pop W.at W.x rfl (W.d hd) rfl hc r) k
theorem goto (W : Here G X M vm T h C S) {o : Int} (hd : decode M.bytes pc = .ok (.goto o, 3)) (pc' : Nat) (ho : 0 ≤ (pc : Int) + o) (hp : ((pc : Int) + o).toNat = pc') (k : Go G X M Q T pc' Ls st) : Go G X M Q T pc Ls st :=
  Go.stp (fun t r => XS.goto W.at W.x rfl (pc0 := pc) (pc' := pc') rfl (W.d hd) ho hp r) k
theorem ifYes (W : Here G X M vm T h C S) {cd : ClassFile.Cond} {x : Int32} {o : Int} (hd : decode M.bytes pc = .ok (.ifCond cd o, 3)) (pc' : Nat) (hc : ifCond.holds cd x = true) (ho : 0 ≤ (pc : Int) + o) (hp : ((pc : Int) + o).toNat = pc') (k : Go G X M Q T pc' Ls st) : Go G X M Q T pc Ls (.int x :: st) :=
  Go.stp (fun t r => XS.ifYes W.at W.x rfl (pc0 := pc) (pc' := pc') rfl (W.d hd) rfl hc ho hp r) k
theorem ifNo (W : Here G X M vm T h C S) {cd : ClassFile.Cond} {x : Int32} {o : Int} (hd : decode M.bytes pc = .ok (.ifCond cd o, 3)) (pc' : Nat) (hc : ifCond.holds cd x = false) (hp : pc + 3 = pc') (k : Go G X M Q T pc' Ls st) : Go G X M Q T pc Ls (.int x :: st) := by
  subst hp; exact Go.stp (fun t r => XS.ifNo W.at W.x rfl (W.d hd) rfl hc r) k
theorem icmpYes (W : Here G X M vm T h C S) {cd : ClassFile.Cond} {x y : Int32} {o : Int} (hd : decode M.bytes pc = .ok (.if_icmp cd o, 3)) (pc' : Nat) (hc : if_icmp.holds cd x y = true) (ho : 0 ≤ (pc : Int) + o) (hp : ((pc : Int) + o).toNat = pc') (k : Go G X M Q T pc' Ls st) : Go G X M Q T pc Ls (.int y :: .int x :: st) :=
  Go.stp (fun t r => XS.icmpYes W.at W.x rfl (pc0 := pc) (pc' := pc') rfl (W.d hd) rfl hc ho hp r) k
theorem icmpNo (W : Here G X M vm T h C S) {cd : ClassFile.Cond} {x y : Int32} {o : Int} (hd : decode M.bytes pc = .ok (.if_icmp cd o, 3)) (pc' : Nat) (hc : if_icmp.holds cd x y = false) (hp : pc + 3 = pc') (k : Go G X M Q T pc' Ls st) : Go G X M Q T pc Ls (.int y :: .int x :: st) := by
  subst hp; exact Go.stp (fun t r => XS.icmpNo W.at W.x rfl (W.d hd) rfl hc r) k
theorem ifnullYes (W : Here G X M vm T h C S) {o : Int} (hd : decode M.bytes pc = .ok (.ifnull o, 3)) (pc' : Nat) (ho : 0 ≤ (pc : Int) + o) (hp : ((pc : Int) + o).toNat = pc') (k : Go G X M Q T pc' Ls st) : Go G X M Q T pc Ls (.null :: st) :=
  Go.stp (fun t r => XS.ifnullYes W.at W.x rfl (pc0 := pc) (pc' := pc') rfl (W.d hd) rfl ho hp r) k
theorem ifnullNo (W : Here G X M vm T h C S) {o : Int} {b : Addr} (hd : decode M.bytes pc = .ok (.ifnull o, 3)) (pc' : Nat) (hp : pc + 3 = pc') (k : Go G X M Q T pc' Ls st) : Go G X M Q T pc Ls (.ref b :: st) := by
  subst hp; exact Go.stp (fun t r => XS.ifnullNo W.at W.x rfl (W.d hd) rfl r) k
theorem ifnonnullYes (W : Here G X M vm T h C S) {o : Int} {b : Addr} (hd : decode M.bytes pc = .ok (.ifnonnull o, 3)) (pc' : Nat) (ho : 0 ≤ (pc : Int) + o) (hp : ((pc : Int) + o).toNat = pc') (k : Go G X M Q T pc' Ls st) : Go G X M Q T pc Ls (.ref b :: st) :=
  Go.stp (fun t r => XT.nonnullYes W.at W.x rfl (pc0 := pc) (pc' := pc') rfl (W.d hd) rfl rfl (fun q => nomatch q) ho hp r) k
theorem ifnonnullNo (W : Here G X M vm T h C S) {o : Int} (hd : decode M.bytes pc = .ok (.ifnonnull o, 3)) (pc' : Nat) (hp : pc + 3 = pc') (k : Go G X M Q T pc' Ls st) : Go G X M Q T pc Ls (.null :: st) := by
  subst hp; exact Go.stp (fun t r => XT.nonnullNo W.at W.x rfl (W.d hd) rfl rfl r) k
theorem acmp (W : Here G X M vm T h C S) {cd : ACond} {x y : Value} {o : Int} (hd : decode M.bytes pc = .ok (.if_acmp cd o, 3)) (pc' : Nat) (h1 : x.isRef = true) (h2 : y.isRef = true) (same : Bool) (hs : decide (x = y) = same) (ho : 0 ≤ (pc : Int) + o) (hp : pc' = if acV cd same = true then ((pc : Int) + o).toNat else pc + 3) (k : Go G X M Q T pc' Ls st) : Go G X M Q T pc Ls (y :: x :: st) := by
  obtain ⟨F, k0, L, c, s, X1, -⟩ := id W
  exact Go.stp (fun t r => Jvm.RoadKit.acmp (g := mkF X.m pc Ls (y :: x :: st)) X1 W.x rfl h1 h2 (pc0 := pc) (pc' := pc') (same := same) rfl (W.d hd) rfl hs ho hp r) k
end Kit
end Own
end Jvm.Pilot.@@N@@
namespace Jvm.Pilot.@@N@@
namespace Own
open Jvm Jvm.ClassFile Sem Op Lib Jvm.Free Jvm.Stand Jvm.LawKit Jvm.RoadKit
section Kit2
variable {G : Gl} {X : Rn} {M : Bo} {vm : Vm} {T : State} {h : Heap} {C S : Nat} {Q : Option Value → Heap → Prop} {pc pc' : Nat} {Ls Ls' : Array Slot} {st : List Value}
theorem Ext.rfl' (h : Heap) : Ext h h := ⟨Nat.le_refl _, fun _ _ q => q⟩
theorem Ext.tr {h1 h2 h3 : Heap} (a : Ext h1 h2) (b : Ext h2 h3) : Ext h1 h3 := ⟨Nat.le_trans a.1 b.1, fun x c q => b.2 x c (a.2 x c q)⟩
theorem Ext.wr' {h1 h2 h3 : Heap} {a : Addr} {sl : Nat} {v : Value} (e : Ext h1 h2) (w : Wr h2 h3 a sl v) (ha : h1.size ≤ a) : Ext h1 h3 := ⟨Nat.le_trans e.1 (Keep.of_wr w).1, fun x c q => (Keep.of_wr w).2.1 x c (e.2 x c q) fun z => by
  cases List.mem_singleton.mp z; exact absurd (Array.getElem?_eq_some_iff.mp q).1 (Nat.not_lt.mpr ha)⟩
theorem Ext.kp {h1 h2 h3 : Heap} {ws : List Addr} (e : Ext h1 h2) (k : Keep h2 h3 ws) (ha : ∀ x ∈ ws, h1.size ≤ x) : Ext h1 h3 := ⟨Nat.le_trans e.1 k.1, fun x c q => k.2.1 x c (e.2 x c q) fun z => absurd (Array.getElem?_eq_some_iff.mp q).1 (Nat.not_lt.mpr (ha x z))⟩
theorem Ext.keep {h1 h2 : Heap} (e : Ext h1 h2) : Keep h1 h2 [] := ⟨e.1, fun x c q _ => e.2 x c q, fun x c q => ⟨c, e.2 x c q, rfl, rfl, rfl⟩⟩
/-! ### the end -/
theorem Go.retW (W : Here G X M vm T h C S) (hC : C ≤ M.R.cells) (hS : S ≤ M.R.slots) {v : Option Value} (hv : M.ret = none → v = none)
    (hst : ∀ fs, (∀ (f : JFrame) (acts : List Action), f.method = X.m → f.locked = none → f.entered = [] → (doReturn X.e (T.setTop f) acts v).1 = T.setFrames fs) → Steps X.p.tables X.e X.below (T.setTop (mkF X.m pc Ls st)) (T.setFrames fs)) (hQ : Q v h) : Go G X M Q T pc Ls st := by
  obtain ⟨⟨hx, hby, hml, hret, hlk, hnm, hEL⟩, k0, L, c, s, X1, e1, S1, hk, hZ, hown, hCH, N, O, c1, s1⟩ := W
  obtain ⟨fs, hr, hrun, hended, h1, h2, h3, h4⟩ := X1.leaveW S1 (by rw [e1]; exact hk) (v := v) (fun q => hv (hret.symm.trans q)) hlk
  refine ⟨_, _, hst fs hr, hrun, hended, v, L, rfl, ⟨?_, N, ?_⟩, ?_, h1, h2, h3, h4.mono (Nat.le_trans c1 hC) (Nat.le_trans s1 hS)⟩
  · show Q v T.heap
    rw [e1]; exact hQ
  · show Old G.Z G.n0 T.heap
    rw [e1]; exact O
  · show CHr G.Z G.EL X.s.vm X.s.heap T.vm T.heap
    rw [e1]; exact hCH.trans (CHv.at X1 hZ hEL hCH.1)
theorem retI (W : Here G X M vm T h C S) (hC : C ≤ M.R.cells) (hS : S ≤ M.R.slots) (hr : M.ret = some .int) (hd : decode M.bytes pc = .ok (.ireturn, 1)) {z : Int32} (hQ : Q (some (.int z)) h) : Go G X M Q T pc Ls (.int z :: st) := by
  obtain ⟨F, k0, L, c, s, X1, -⟩ := id W
  exact Go.retW W hC hS (fun q => by rw [hr] at q; cases q) (fun fs q => retOut X1 W.x (F.2.2.2.1.trans hr) rfl (Or.inl ⟨rfl, Or.inl rfl, z, rfl⟩) (W.d hd) q) hQ
theorem retB (W : Here G X M vm T h C S) (hC : C ≤ M.R.cells) (hS : S ≤ M.R.slots) (hr : M.ret = some .boolean) (hd : decode M.bytes pc = .ok (.ireturn, 1)) {z : Int32} (hz : narrow .boolean (.int z) = .int z) (hQ : Q (some (.int z)) h) : Go G X M Q T pc Ls (.int z :: st) := by
  obtain ⟨F, k0, L, c, s, X1, -⟩ := id W
  exact Go.retW W hC hS (fun q => by rw [hr] at q; cases q) (fun fs q => retOut X1 W.x (F.2.2.2.1.trans hr) hz (Or.inl ⟨rfl, Or.inr (Or.inl rfl), z, rfl⟩) (W.d hd) q) hQ
theorem retC (W : Here G X M vm T h C S) (hC : C ≤ M.R.cells) (hS : S ≤ M.R.slots) (hr : M.ret = some .char) (hd : decode M.bytes pc = .ok (.ireturn, 1)) {z : Int32} (hz : narrow .char (.int z) = .int z) (hQ : Q (some (.int z)) h) : Go G X M Q T pc Ls (.int z :: st) := by
  obtain ⟨F, k0, L, c, s, X1, -⟩ := id W
  exact Go.retW W hC hS (fun q => by rw [hr] at q; cases q) (fun fs q => retOut X1 W.x (F.2.2.2.1.trans hr) hz (Or.inl ⟨rfl, Or.inr (Or.inr (Or.inr (Or.inl rfl))), z, rfl⟩) (W.d hd) q) hQ
theorem retY (W : Here G X M vm T h C S) (hC : C ≤ M.R.cells) (hS : S ≤ M.R.slots) (hr : M.ret = some .byte) (hd : decode M.bytes pc = .ok (.ireturn, 1)) {z : Int32} (hz : narrow .byte (.int z) = .int z) (hQ : Q (some (.int z)) h) : Go G X M Q T pc Ls (.int z :: st) := by
  obtain ⟨F, k0, L, c, s, X1, -⟩ := id W
  exact Go.retW W hC hS (fun q => by rw [hr] at q; cases q) (fun fs q => retOut X1 W.x (F.2.2.2.1.trans hr) hz (Or.inl ⟨rfl, Or.inr (Or.inr (Or.inl rfl)), z, rfl⟩) (W.d hd) q) hQ
theorem retA (W : Here G X M vm T h C S) (hC : C ≤ M.R.cells) (hS : S ≤ M.R.slots) {t : FieldType} (hr : M.ret = some t) (ht : t.isReference = true) {w : Value} (hw : w.isRef = true) (hd : decode M.bytes pc = .ok (.areturn, 1)) (hQ : Q (some w) h) : Go G X M Q T pc Ls (w :: st) := by
  obtain ⟨F, k0, L, c, s, X1, -⟩ := id W
  refine Go.retW W hC hS (fun q => by rw [hr] at q; cases q) (fun fs q => retOut X1 W.x (F.2.2.2.1.trans hr) ?_ (Or.inr (Or.inr (Or.inr (Or.inr ⟨rfl, ht, hw⟩)))) (W.d hd) q) hQ
  rcases ref_cases hw with rfl | ⟨b, rfl⟩ <;> cases t <;> first | rfl | cases ht
theorem retL (W : Here G X M vm T h C S) (hC : C ≤ M.R.cells) (hS : S ≤ M.R.slots) (hr : M.ret = some .long) (hd : decode M.bytes pc = .ok (.lreturn, 1)) {z : Int64} (hQ : Q (some (.long z)) h) : Go G X M Q T pc Ls (.long z :: st) := by
  obtain ⟨F, k0, L, c, s, X1, -⟩ := id W
  exact Go.retW W hC hS (fun q => by rw [hr] at q; cases q) (fun fs q => retOut X1 W.x (F.2.2.2.1.trans hr) rfl (Or.inr (Or.inl ⟨rfl, rfl, z, rfl⟩)) (W.d hd) q) hQ
theorem retV (W : Here G X M vm T h C S) (hC : C ≤ M.R.cells) (hS : S ≤ M.R.slots) (hr : M.ret = none) (hd : decode M.bytes pc = .ok (.return_, 1)) (hQ : Q none h) : Go G X M Q T pc Ls [] := by
  obtain ⟨F, k0, L, c, s, X1, -⟩ := id W
  exact Go.retW W hC hS (fun _ => rfl) (fun fs q => X1.returnOut W.x (F.2.2.2.1.trans hr) (W.d hd) q) hQ
/-! ### the entry -/
theorem Con.intro {ws : List Jvm.Cond} {as' : Array Value} {sf : List Addr} (hpn : plainFor M.y = true) (hO : Old G.Z G.n0 h) (hEL : EW G.Z G.a0 G.EL) (Ls0 : Array Slot) (hef : ∀ m, entryFrame m as' M.maxL = mkF m 0 Ls0 [])
    (body : ∀ (X : Rn) (T : State), Here G X M X.s.vm T h 0 0 → (∀ x ∈ sf, Safe G.Z G.EL X.s.vm h x) → Go G X M Q T 0 Ls0 []) : Con G ws M as' h sf Q := by
  refine MetFree.of_bodySF hpn hisR ?_
  intro p e s m args below meth c s₁ Bd hml0 hP hK
  obtain ⟨rfl, hZ, rfl, hCH, hsf⟩ := hP
  have hown : s.vm.findClass M.y.cls = some m.cls := findClass_of_methodNamed Bd.named
  have hnm := (name_of_methodNamed Bd.named Bd.method).1
  have X0 : Stand p G.l e M.R s m args below meth c s₁ [] 0 0 := Stand.of_body Bd
  have e0 : s₁.heap = s.heap := by rw [Bd.state]; rfl
  have q := body (p, e, s, m, args, below, meth, c) s₁ ⟨⟨Bd.exec, Bd.bytes, hml0, Bd.returns, Bd.notSynchronized, hnm, hEL⟩, s.heap.size, [], 0, 0, X0, e0, (State.WarmedH.refl s).since _, Nat.le_refl _, hZ, hown, CHr.refl hCH, Fr.nil _, hO, Nat.le_refl 0, Nat.le_refl 0⟩ hsf
  rw [hef m]
  exact q
/-! ### calls -/
theorem Con.pay {N : Bo} {as' : Array Value} {sf : List Addr} {Qy : Option Value → Heap → Prop} (K : Con G [] N as' h sf Qy) (W : Here G X M vm T h C S) (wc : (Jvm.Cond.code N.y N.bytes N.maxL N.ret).before G.a0 G.Z = true) (wz : (Jvm.Cond.initialized N.y.cls).before G.a0 G.Z = true) {len wd : Nat}
    (hf : N.R.frames + 1 ≤ M.R.frames) (hl : wd + (N.maxL + 11) + N.R.locals ≤ M.R.locals) (hsf : ∀ x ∈ sf, x < h.size ∧ Safe G.Z G.EL vm h x) : Pay G X M vm h N.y len wd as' N.R.cells N.R.slots Qy := by
  have hZ := W.wz
  have hEL := W.1.2.2.2.2.2.2
  have H := W.ch
  exact BackS.of_freeW (bytes := N.bytes) (maxL := N.maxL) (ret := N.ret) (E := fun _ first o t L k n => k = N.R.cells ∧ n = N.R.slots ∧ (∃ v, o = .returned v ∧ Qy v t.heap ∧ Fr G.n0 L ∧ Old G.Z G.n0 t.heap) ∧ CHr G.Z G.EL first.vm first.heap t.vm t.heap) K hf hl
    (fun m meth c A a Y hp => have hU : G.Z.Warmed39 A.U.vm := wtrans (s := X.s.setVm vm) hZ Y.warmed
      ⟨by show (Cond.and _ .tt).before a A.U = true; rw [Cond.before_and, mv hU wc]; rfl, mv hU wc, mv hU wz, hp.2.2.1, hp.2.2.2⟩)
    (fun m meth c A a g mk Y hp => ⟨hp.1, wtrans (s := X.s.setVm vm) hZ Y.warmed, hp.2.1, (CHv.at Y hZ hEL H).1, fun x hx => (CHv.at Y hZ hEL H).safe (hsf x hx).1 (hsf x hx).2⟩) (fun _ _ _ _ _ _ _ _ _ => trivial)
    (fun _ _ _ _ ⟨v, L, h1, h2, h3, h4⟩ => ⟨L, _, _, h4, rfl, rfl, ⟨v, h1, h2⟩, h3⟩)
    (fun m meth c A a g mk v t L k n Y hp _ _ ⟨e1, e2, ⟨v', e3, e4⟩, e5⟩ => by
      cases e3; subst e1 e2
      refine ⟨L, e4, rfl, Nat.le_refl _, Nat.le_refl _, (CHv.at Y hZ hEL H).trans ?_⟩
      rw [← hp.2.1]; exact e5)
/-- a law of the other shape pays too: its callee interns nothing -/
theorem payB {y : MethodName} {len wd kc ks : Nat} {as' : Array Value} {Qy : Option Value → Heap → List Loc → Prop} {Q' : Option Value → Heap → Prop}
    (B : Back G.l M.R X.p X.e X.below (X.s.setVm vm) X.args y len wd (fun P a => a = as' ∧ P.U.heap = h ∧ P.cells + kc ≤ M.R.cells ∧ P.slots + ks ≤ M.R.slots) (fun P _ v B => ∃ L, Qy v B.U.heap L ∧ B.locs = P.locs ++ L ∧ B.cells = P.cells + kc ∧ B.slots = P.slots + ks))
    (W : Here G X M vm T h C S) (hq : ∀ v h' L, Qy v h' L → Q' v h' ∧ Fr G.n0 L ∧ Old G.Z G.n0 h' ∧ CHr G.Z G.EL vm h vm h') : Pay G X M vm h y len wd as' kc ks Q' := by
  intro m meth c A g ig mk a X1 hg hsize hdg hW hn hp
  obtain ⟨v, B', X', ⟨L, q, e1, e2, e3⟩, st⟩ := B m meth c A g ig mk a X1 hg hsize hdg hW hn hp
  obtain ⟨q1, q2, q3, q4⟩ := hq _ _ _ q
  refine ⟨v, B', X'.retabled X'.warmed.wide, X'.warmed.since _, ?_, ⟨L, ⟨q1, q2, q3⟩, e1, Nat.le_of_eq e2, Nat.le_of_eq e3, q4.trans (CHv.at X' W.wz W.1.2.2.2.2.2.2 q4.1)⟩, st⟩
  rw [hp.2.1]; exact q4.2.1
theorem Here.call (W : Here G X M vm T h C S) {kc ks C' S' : Nat} {v : Option Value} {Qy : Option Value → Heap → Prop} (hc : C + kc ≤ C') (hs : S + ks ≤ S')
    {k0 : Nat} {locs : List Loc} {cells slots : Nat} (hS : X.s.Since vm k0) (hk : k0 ≤ h.size) (hown : vm.findClass M.y.cls = some X.m.cls) (hCH : CHr G.Z G.EL X.s.vm X.s.heap vm h) (hF : Fr G.n0 locs) (c1 : cells ≤ C) (s1 : slots ≤ S) {B : Pt}
    (X' : Stand X.p G.l X.e M.R ((X.s.setVm vm).setVm B.U.vm) X.m X.args X.below X.meth X.c B.U B.locs B.cells B.slots) (h2 : (X.s.setVm vm).Since B.U.vm B.U.heap.size) (hg : h.size ≤ B.U.heap.size) {L : List Loc}
    (hq : (Qy v B.U.heap ∧ Fr G.n0 L ∧ Old G.Z G.n0 B.U.heap) ∧ B.locs = locs ++ L ∧ B.cells ≤ cells + kc ∧ B.slots ≤ slots + ks ∧ CHr G.Z G.EL vm h B.U.vm B.U.heap) : Here G X M B.U.vm B.U B.U.heap C' S' := by
  obtain ⟨X2, S2, Z2, o2⟩ := rebS hS hk X' h2 hg W.wz hown
  obtain ⟨⟨-, q2, q3⟩, e1, e2, e3, q4⟩ := hq
  refine ⟨W.1, _, _, _, _, X2, rfl, S2, Nat.le_refl _, Z2, o2, hCH.trans q4, ?_, q3, ?_, ?_⟩
  · rw [e1]; exact hF.app q2
  · omega
  · omega
theorem callS (W : Here G X M vm T h C S) {y : MethodName} {idx : Nat} {bytes : ByteArray} {maxL : Nat} {ret : Option FieldType} (w1 : (Jvm.Cond.methodLink M.y.cls idx y).before G.a0 G.Z = true) (w2 : (Jvm.Cond.static y).before G.a0 G.Z = true) (w3 : (Jvm.Cond.initialized y.cls).before G.a0 G.Z = true) (w4 : (Jvm.Cond.code y bytes maxL ret).before G.a0 G.Z = true)
    (hy : y.cls ≠ "java/lang/invoke/MethodHandle" ∧ y.cls ≠ "java/lang/invoke/VarHandle") {wd kc ks : Nat} {argsL rest : List Value} {Qy : Option Value → Heap → Prop} (P : Pay G X M vm h y 3 wd argsL.toArray kc ks Qy) (hsz : Ls.size = M.maxL) (hlen : ∀ sig, parseMethodDescriptor y.desc = some sig → argsL.length = sig.parameters.length)
    (hstk : st = argsL.reverse ++ rest) (hwd : (rest.map fun v => v.category).sum ≤ wd) (hd : decode M.bytes pc = .ok (.invokestatic idx, 3)) (pc' : Nat) (hp : pc + 3 = pc') (C' S' : Nat) (hc : C + kc ≤ C') (hs : S + ks ≤ S') (hc' : C' ≤ M.R.cells) (hs' : S' ≤ M.R.slots)
    (k : ∀ (vm' : Vm) (T' : State) (h' : Heap) (v : Option Value), Here G X M vm' T' h' C' S' → CHr G.Z G.EL vm h vm' h' → Qy v h' → Go G X M Q T' pc' Ls (v.toList ++ rest)) : Go G X M Q T pc Ls st := by
  subst hp hstk
  obtain ⟨F, k0, locs, cells, slots, X1, e1, hS, hk, hZ, hown, hCH, hF, O, c1, s1⟩ := id W
  subst e1
  obtain ⟨v, vm₁, B, -, X', h2, hg, ⟨L, hq⟩, st'⟩ := callSS X1 W.x (y := y) hown (mv (s := X.s.setVm vm) hZ w1) (mv (s := X.s.setVm vm) hZ w2) (mv (s := X.s.setVm vm) hZ w3) (mv (s := X.s.setVm vm) hZ w4) hy P (g := mkF X.m pc Ls (argsL.reverse ++ rest)) rfl (hsz.trans F.2.2.1.symm) (argsL := argsL) (rest := rest) hlen rfl (by show 2 * 0 + _ ≤ _; omega) (W.d hd) (fun _ _ => ⟨rfl, rfl, by show cells + kc ≤ _; omega, by show slots + ks ≤ _; omega⟩)
  exact Go.stp (fun t r => st'.trans r) (k B.U.vm B.U B.U.heap v (Here.call W hc hs hS hk hown hCH hF c1 s1 X' h2 hg hq) hq.2.2.2.2 hq.1.1)
theorem callX (W : Here G X M vm T h C S) {y : MethodName} {idx : Nat} {bytes : ByteArray} {maxL : Nat} (hy1 : y.name = "<init>") (w1 : (Jvm.Cond.methodLink M.y.cls idx y).before G.a0 G.Z = true) (w2 : (Jvm.Cond.instanceMethod y).before G.a0 G.Z = true) (w4 : (Jvm.Cond.code y bytes maxL none).before G.a0 G.Z = true)
    (hy : y.cls ≠ "java/lang/invoke/MethodHandle" ∧ y.cls ≠ "java/lang/invoke/VarHandle") {wd kc ks : Nat} {a : Addr} {argsL rest : List Value} {Qy : Option Value → Heap → Prop} (P : Pay G X M vm h y 3 wd (.ref a :: argsL).toArray kc ks Qy) (hsz : Ls.size = M.maxL) (hlen : ∀ sig, parseMethodDescriptor y.desc = some sig → argsL.length = sig.parameters.length)
    (hstk : st = argsL.reverse ++ .ref a :: rest) (hwd : (rest.map fun v => v.category).sum ≤ wd) (hd : decode M.bytes pc = .ok (.invokespecial idx, 3)) (pc' : Nat) (hp : pc + 3 = pc') (C' S' : Nat) (hc : C + kc ≤ C') (hs : S + ks ≤ S') (hc' : C' ≤ M.R.cells) (hs' : S' ≤ M.R.slots)
    (k : ∀ (vm' : Vm) (T' : State) (h' : Heap) (v : Option Value), Here G X M vm' T' h' C' S' → CHr G.Z G.EL vm h vm' h' → Qy v h' → Go G X M Q T' pc' Ls (v.toList ++ rest)) : Go G X M Q T pc Ls st := by
  subst hp hstk
  obtain ⟨F, k0, locs, cells, slots, X1, e1, hS, hk, hZ, hown, hCH, hF, O, c1, s1⟩ := id W
  subst e1
  obtain ⟨v, vm₁, B, -, X', h2, hg, ⟨L, hq⟩, st'⟩ := X1.specialBackS W.x (y := y) hy1 hown (mv (s := X.s.setVm vm) hZ w1) (mv (s := X.s.setVm vm) hZ w2) (mv (s := X.s.setVm vm) hZ w4) hy P (g := mkF X.m pc Ls (argsL.reverse ++ .ref a :: rest)) rfl (hsz.trans F.2.2.1.symm) (Steps.refl _) (a := a) (argsL := argsL) (rest := rest) hlen rfl (by show 2 * 0 + _ ≤ _; omega) (W.d hd) (fun _ _ => ⟨rfl, rfl, by show cells + kc ≤ _; omega, by show slots + ks ≤ _; omega⟩)
  exact Go.stp (fun t r => st'.trans r) (k B.U.vm B.U B.U.heap v (Here.call W hc hs hS hk hown hCH hF c1 s1 X' h2 hg hq) hq.2.2.2.2 hq.1.1)
theorem callV (W : Here G X M vm T h C S) {y z : MethodName} {idx : Nat} {cl : String} (w1 : (Jvm.Cond.methodLink M.y.cls idx y).before G.a0 G.Z = true) (w2 : (Jvm.Cond.declares y).before G.a0 G.Z = true) (nf : ∀ s : State, G.Z.Warmed39 s.vm → NotFace s y) (w3 : (Jvm.Cond.selects cl y z).before G.a0 G.Z = true) (w4 : (Jvm.Cond.instanceMethod z).before G.a0 G.Z = true)
    (hy : y.cls ≠ "java/lang/invoke/MethodHandle" ∧ y.cls ≠ "java/lang/invoke/VarHandle") {wd kc ks : Nat} {a : Addr} {argsL rest : List Value} {Qy : Option Value → Heap → Prop} (P : Pay G X M vm h z 3 wd (.ref a :: argsL).toArray kc ks Qy) (E : Exa G.Z h a cl) (hsz : Ls.size = M.maxL) (hlen : ∀ sig, parseMethodDescriptor y.desc = some sig → argsL.length = sig.parameters.length)
    (hstk : st = argsL.reverse ++ .ref a :: rest) (hwd : (rest.map fun v => v.category).sum ≤ wd) (hd : decode M.bytes pc = .ok (.invokevirtual idx, 3)) (pc' : Nat) (hp : pc + 3 = pc') (C' S' : Nat) (hc : C + kc ≤ C') (hs : S + ks ≤ S') (hc' : C' ≤ M.R.cells) (hs' : S' ≤ M.R.slots)
    (k : ∀ (vm' : Vm) (T' : State) (h' : Heap) (v : Option Value), Here G X M vm' T' h' C' S' → CHr G.Z G.EL vm h vm' h' → Qy v h' → Go G X M Q T' pc' Ls (v.toList ++ rest)) : Go G X M Q T pc Ls st := by
  subst hp hstk
  obtain ⟨F, k0, locs, cells, slots, X1, e1, hS, hk, hZ, hown, hCH, hF, O, c1, s1⟩ := id W
  obtain ⟨cq, kq, qa, qb, qc⟩ := isOf (s := X.s.setVm vm) hZ e1 E
  subst e1
  obtain ⟨v, vm₁, B, -, X', h2, hg, ⟨L, hq⟩, st'⟩ := X1.virtualBackS W.x (y := y) (z := z) hown (mv (s := X.s.setVm vm) hZ w1) (mv (s := X.s.setVm vm) hZ w2) (nf _ hZ) (mv (s := X.s.setVm vm) hZ w3) (mv (s := X.s.setVm vm) hZ w4) hy P qa qc (g := mkF X.m pc Ls (argsL.reverse ++ .ref a :: rest)) rfl (hsz.trans F.2.2.1.symm) (Steps.refl _) (argsL := argsL) (rest := rest) hlen rfl (by show 2 * 0 + _ ≤ _; omega) (W.d hd) (fun _ _ => ⟨rfl, rfl, by show cells + kc ≤ _; omega, by show slots + ks ≤ _; omega⟩)
  exact Go.stp (fun t r => st'.trans r) (k B.U.vm B.U B.U.heap v (Here.call W hc hs hS hk hown hCH hF c1 s1 X' h2 hg hq) hq.2.2.2.2 hq.1.1)
theorem callI (W : Here G X M vm T h C S) {y z : MethodName} {idx count : Nat} {cl : String} (w1 : (Jvm.Cond.methodLink M.y.cls idx y).before G.a0 G.Z = true) (w2 : (Jvm.Cond.declares y).before G.a0 G.Z = true) (wf : (Jvm.Cond.interfaceMethod y.cls y.cls y.name y.desc).before G.a0 G.Z = true) (hfa : ((Jvm.Cond.interfaceMethod y.cls y.cls y.name y.desc).onTables && (Jvm.Cond.interfaceMethod y.cls y.cls y.name y.desc).keepsFace) = true) (w3 : (Jvm.Cond.selects cl y z).before G.a0 G.Z = true) (w4 : (Jvm.Cond.instanceMethod z).before G.a0 G.Z = true)
    (w5 : (Jvm.Cond.publicMethod z).before G.a0 G.Z = true) (w6 : (Jvm.Cond.unhidden cl y.name y.desc).before G.a0 G.Z = true) (w7 : (Jvm.Cond.castable cl y.cls).before G.a0 G.Z = true)
    (hy : y.cls ≠ "java/lang/invoke/MethodHandle" ∧ y.cls ≠ "java/lang/invoke/VarHandle") {wd kc ks : Nat} {a : Addr} {argsL rest : List Value} {Qy : Option Value → Heap → Prop} (P : Pay G X M vm h z 5 wd (.ref a :: argsL).toArray kc ks Qy) (E : Exa G.Z h a cl) (hsz : Ls.size = M.maxL) (hlen : ∀ sig, parseMethodDescriptor y.desc = some sig → argsL.length = sig.parameters.length)
    (hstk : st = argsL.reverse ++ .ref a :: rest) (hwd : (rest.map fun v => v.category).sum ≤ wd) (hd : decode M.bytes pc = .ok (.invokeinterface idx count, 5)) (pc' : Nat) (hp : pc + 5 = pc') (C' S' : Nat) (hc : C + kc ≤ C') (hs : S + ks ≤ S') (hc' : C' ≤ M.R.cells) (hs' : S' ≤ M.R.slots)
    (k : ∀ (vm' : Vm) (T' : State) (h' : Heap) (v : Option Value), Here G X M vm' T' h' C' S' → CHr G.Z G.EL vm h vm' h' → Qy v h' → Go G X M Q T' pc' Ls (v.toList ++ rest)) : Go G X M Q T pc Ls st := by
  subst hp hstk
  obtain ⟨F, k0, locs, cells, slots, X1, e1, hS, hk, hZ, hown, hCH, hF, O, c1, s1⟩ := id W
  obtain ⟨cq, kq, qa, qb, qc⟩ := isOf (s := X.s.setVm vm) hZ e1 E
  subst e1
  obtain ⟨v, vm₁, B, -, X', h2, hg, ⟨L, hq⟩, st'⟩ := X1.interfaceBackS W.x (xi := y) (y := z) hown (mv (s := X.s.setVm vm) hZ w1) (mv (s := X.s.setVm vm) hZ w2) (mv (s := X.s.setVm vm) hZ wf hfa) (mv (s := X.s.setVm vm) hZ w3) (mv (s := X.s.setVm vm) hZ w4) (mv (s := X.s.setVm vm) hZ w5) (mv (s := X.s.setVm vm) hZ w6) (mv (s := X.s.setVm vm) hZ w7) hy P qa qb qc (g := mkF X.m pc Ls (argsL.reverse ++ .ref a :: rest)) rfl (hsz.trans F.2.2.1.symm) (Steps.refl _) (argsL := argsL) (rest := rest) hlen rfl (by show 2 * 0 + _ ≤ _; omega) (W.d hd) (fun _ _ => ⟨rfl, rfl, by show cells + kc ≤ _; omega, by show slots + ks ≤ _; omega⟩)
  exact Go.stp (fun t r => st'.trans r) (k B.U.vm B.U B.U.heap v (Here.call W hc hs hS hk hown hCH hF c1 s1 X' h2 hg hq) hq.2.2.2.2 hq.1.1)
/-! ### steps on the heap -/
theorem Here.ext (W : Here G X M vm T h C S) {T' : State} {h' : Heap} {k0 : Nat} {locs : List Loc} {cells slots C' S' : Nat} (hS : X.s.Since vm k0) (hk : k0 ≤ h.size) (hown : vm.findClass M.y.cls = some X.m.cls) (hCH : CHr G.Z G.EL X.s.vm X.s.heap vm h) (hF : Fr G.n0 locs)
    (X' : Stand X.p G.l X.e M.R (X.s.setVm vm) X.m X.args X.below X.meth X.c T' locs cells slots) (e' : T'.heap = h') (E : Ext h h') (hc : cells ≤ C') (hs : slots ≤ S') : Here G X M vm T' h' C' S' :=
  ⟨W.1, k0, locs, cells, slots, X', e', hS, Nat.le_trans hk E.1, W.wz, hown, hCH.trans (CHr.ext E hCH.1), hF, W.old.ext E, hc, hs⟩
theorem newO (W : Here G X M vm T h C S) {cl : String} {idx n : Nat} (w : (Jvm.Cond.classLink M.y.cls idx cl).before G.a0 G.Z = true) (wi : (Jvm.Cond.instantiable cl n).before G.a0 G.Z = true) (wz : (Jvm.Cond.initialized cl).before G.a0 G.Z = true) (hd : decode M.bytes pc = .ok (.new idx, 3)) (pc' : Nat) (hp : pc + 3 = pc') (C' S' : Nat) (hc : C + 1 ≤ C') (hs : S + n ≤ S') (hc' : C' ≤ M.R.cells) (hs' : S' ≤ M.R.slots)
    (k : ∀ (T' : State) (h' : Heap) (a : Addr), a = h.size → Here G X M vm T' h' C' S' → Ext h h' → Exa G.Z h' a cl → (∀ {O nm d : String} {ty : FieldType}, Laid G.Z G.a0 cl O nm d → parseFieldDescriptor d = some ty → Fld G.Z h' a O nm d (defaultValue ty)) → Safe G.Z G.EL vm h' a → (∀ y, Safe G.Z G.EL vm h y → Safe G.Z G.EL vm h' y) → Go G X M Q T' pc' Ls (.ref a :: st)) : Go G X M Q T pc Ls st := by
  subst hp
  obtain ⟨F, k0, locs, cells, slots, X1, e1, hS, hk, hZ, hown, hCH, hF, O, c1, s1⟩ := id W
  obtain ⟨T', h', X', e', E, A, D, -, st'⟩ := RoadKit.newO X1 W.x hZ hown w wi wz e1 (g := mkF X.m pc Ls st) rfl (W.d hd) (by omega) (by omega)
  exact Go.stp (fun t r => st' t r) (k T' h' h.size rfl (Here.ext W hS hk hown hCH hF X' e' E (by omega) (by omega)) E A D (Safe.ext E hCH.1 (Safe.new (Nat.le_refl _))) (fun y q => Safe.ext E hCH.1 q))
theorem newA (W : Here G X M vm T h C S) {aty : ArrayType} {n : Int32} (w : (Jvm.Cond.arrayClass (newarray.typeOf aty)).before G.a0 G.Z = true) (hd : decode M.bytes pc = .ok (.newarray aty, 2)) (pc' : Nat) (hp : pc + 2 = pc') (hn : ¬ n < 0) (cap : Nat) (hcap : n.toNatClampNeg ≤ cap) (hb : cap * 8 ≤ 536870912) (C' S' : Nat) (hc : C + 1 ≤ C') (hs : S + cap ≤ S') (hc' : C' ≤ M.R.cells) (hs' : S' ≤ M.R.slots)
    (k : ∀ (T' : State) (h' : Heap) (a : Addr) (kA : ClassId), a = h.size → Here G X M vm T' h' C' S' → Ext h h' → Arv G.Z h' a kA (newarray.typeOf aty) n (List.replicate cap (defaultValue (newarray.typeOf aty))) (defaultValue (newarray.typeOf aty)) → Safe G.Z G.EL vm h' a → (∀ y, Safe G.Z G.EL vm h y → Safe G.Z G.EL vm h' y) → Go G X M Q T' pc' Ls (.ref a :: st)) : Go G X M Q T pc Ls (.int n :: st) := by
  subst hp
  obtain ⟨F, k0, locs, cells, slots, X1, e1, hS, hk, hZ, hown, hCH, hF, O, c1, s1⟩ := id W
  obtain ⟨T', h', kA, X', e', E, A, st'⟩ := RoadKit.newP X1 W.x hZ w e1 (g := mkF X.m pc Ls (.int n :: st)) rfl (W.d hd) rfl hn hcap hb (by omega) (by omega)
  exact Go.stp (fun t r => st' t r) (k T' h' h.size kA rfl (Here.ext W hS hk hown hCH hF X' e' E (by omega) (by omega)) E ((Arv.new A hn).pad (pad_rep [] _ cap)) (Safe.ext E hCH.1 (Safe.new (Nat.le_refl _))) (fun y q => Safe.ext E hCH.1 q))
theorem getF (W : Here G X M vm T h C S) {R0 O n d : String} {idx : Nat} {a : Addr} {v : Value} (w : (Jvm.Cond.fieldLink M.y.cls idx R0 n d).before G.a0 G.Z = true) (via : Via G.Z R0 O n d) (F : Fld G.Z h a O n d v) (hd : decode M.bytes pc = .ok (.getfield idx, 3)) (pc' : Nat) (hp : pc + 3 = pc')
    (k : ∀ T' : State, Here G X M vm T' h C S → Go G X M Q T' pc' Ls (v :: st)) : Go G X M Q T pc Ls (.ref a :: st) := by
  subst hp
  obtain ⟨F', k0, locs, cells, slots, X1, e1, hS, hk, hZ, hown, hCH, hF, O', c1, s1⟩ := id W
  obtain ⟨T', X', e', st'⟩ := RoadKit.getF X1 W.x hZ hown (host := "") (Or.inl w) via e1 F (g := mkF X.m pc Ls (.ref a :: st)) rfl rfl (W.d hd)
  exact Go.stp (fun t r => st' t r) (k T' (Here.ext W hS hk hown hCH hF X' e' (Ext.rfl' h) c1 s1))
theorem getS (W : Here G X M vm T h C S) {R0 O n d : String} {idx : Nat} {v : Value} (w : (Jvm.Cond.fieldLink M.y.cls idx R0 n d).before G.a0 G.Z = true) (via : Via G.Z R0 O n d) (F : Sta G.Z h O n d v) (hd : decode M.bytes pc = .ok (.getstatic idx, 3)) (pc' : Nat) (hp : pc + 3 = pc')
    (k : ∀ T' : State, Here G X M vm T' h C S → Go G X M Q T' pc' Ls (v :: st)) : Go G X M Q T pc Ls st := by
  subst hp
  obtain ⟨F', k0, locs, cells, slots, X1, e1, hS, hk, hZ, hown, hCH, hF, O', c1, s1⟩ := id W
  obtain ⟨T', X', e', st'⟩ := RoadKit.getS X1 W.x hZ (host := "") hown w via e1 F (g := mkF X.m pc Ls st) rfl (W.d hd)
  exact Go.stp (fun t r => st' t r) (k T' (Here.ext W hS hk hown hCH hF X' e' (Ext.rfl' h) c1 s1))
theorem castY (W : Here G X M vm T h C S) {K : String} {idx : Nat} {a : Addr} (w : (Jvm.Cond.classLink M.y.cls idx K).before G.a0 G.Z = true) (F : Ins G.Z h a K true) (hd : decode M.bytes pc = .ok (.checkcast idx, 3)) (pc' : Nat) (hp : pc + 3 = pc')
    (k : ∀ T' : State, Here G X M vm T' h C S → Go G X M Q T' pc' Ls (.ref a :: st)) : Go G X M Q T pc Ls (.ref a :: st) := by
  subst hp
  obtain ⟨F', k0, locs, cells, slots, X1, e1, hS, hk, hZ, hown, hCH, hF, O', c1, s1⟩ := id W
  obtain ⟨T', X', e', st'⟩ := RoadKit.castY X1 W.x hZ hown w e1 F (g := mkF X.m pc Ls (.ref a :: st)) rfl rfl (W.d hd)
  exact Go.stp (fun t r => st' t r) (k T' (Here.ext W hS hk hown hCH hF X' e' (Ext.rfl' h) c1 s1))
theorem instY (W : Here G X M vm T h C S) {K : String} {idx : Nat} {a : Addr} (w : (Jvm.Cond.classLink M.y.cls idx K).before G.a0 G.Z = true) (F : Ins G.Z h a K true) (hd : decode M.bytes pc = .ok (.instanceof idx, 3)) (pc' : Nat) (hp : pc + 3 = pc')
    (k : ∀ T' : State, Here G X M vm T' h C S → Go G X M Q T' pc' Ls (.int 1 :: st)) : Go G X M Q T pc Ls (.ref a :: st) := by
  subst hp
  obtain ⟨F', k0, locs, cells, slots, X1, e1, hS, hk, hZ, hown, hCH, hF, O', c1, s1⟩ := id W
  obtain ⟨T', X', e', st'⟩ := RoadKit.instY X1 W.x hZ hown w e1 F (g := mkF X.m pc Ls (.ref a :: st)) rfl rfl (W.d hd)
  exact Go.stp (fun t r => st' t r) (k T' (Here.ext W hS hk hown hCH hF X' e' (Ext.rfl' h) c1 s1))
theorem instNo (W : Here G X M vm T h C S) {K c0 : String} {idx : Nat} {a : Addr} (w : (Jvm.Cond.classLink M.y.cls idx K).before G.a0 G.Z = true) (E : Exa G.Z h a c0) (F : ∃ c t, G.Z.vm.findClass c0 = some c ∧ G.Z.vm.findClass K = some t ∧ G.Z.vm.assignable c t = false) (hd : decode M.bytes pc = .ok (.instanceof idx, 3)) (pc' : Nat) (hp : pc + 3 = pc')
    (k : ∀ T' : State, Here G X M vm T' h C S → Go G X M Q T' pc' Ls (.int 0 :: st)) : Go G X M Q T pc Ls (.ref a :: st) := by
  subst hp
  obtain ⟨F', k0, locs, cells, slots, X1, e1, hS, hk, hZ, hown, hCH, hF, O', c1, s1⟩ := id W
  obtain ⟨T', X', e', st'⟩ := RoadKit.instNo X1 W.x hZ hown w e1 E F (g := mkF X.m pc Ls (.ref a :: st)) rfl rfl (W.d hd)
  exact Go.stp (fun t r => st' t r) (k T' (Here.ext W hS hk hown hCH hF X' e' (Ext.rfl' h) c1 s1))
theorem instNull (W : Here G X M vm T h C S) {idx : Nat} (hd : decode M.bytes pc = .ok (.instanceof idx, 3)) (pc' : Nat) (hp : pc + 3 = pc') (k : Go G X M Q T pc' Ls (.int 0 :: st)) : Go G X M Q T pc Ls (.null :: st) := by
  subst hp
  obtain ⟨F', k0, locs, cells, slots, X1, -⟩ := id W
  exact Go.stp (fun t r => X1.instanceofNull W.x (g := mkF X.m pc Ls (.null :: st)) rfl rfl (W.d hd) t r) k
theorem castNull (W : Here G X M vm T h C S) {idx : Nat} (hd : decode M.bytes pc = .ok (.checkcast idx, 3)) (pc' : Nat) (hp : pc + 3 = pc') (k : Go G X M Q T pc' Ls (.null :: st)) : Go G X M Q T pc Ls (.null :: st) := by
  subst hp
  obtain ⟨F', k0, locs, cells, slots, X1, -⟩ := id W
  exact Go.stp (fun t r => X1.checkcastNull W.x (g := mkF X.m pc Ls (.null :: st)) rfl rfl (W.d hd) t r) k
theorem Here.wr (W : Here G X M vm T h C S) {T' : State} {h' : Heap} {k0 : Nat} {locs : List Loc} {cells slots : Nat} {a : Addr} {sl : Nat} {v : Value} (hS : X.s.Since vm k0) (hk : k0 ≤ h.size) (hown : vm.findClass M.y.cls = some X.m.cls) (hCH : CHr G.Z G.EL X.s.vm X.s.heap vm h) (hF : Fr G.n0 locs) (ha : G.n0 ≤ a) (sf : Safe G.Z G.EL vm h a)
    (X' : Stand X.p G.l X.e M.R (X.s.setVm vm) X.m X.args X.below X.meth X.c T' (locs ++ [⟨a, sl⟩]) cells slots) (e' : T'.heap = h') (E : Wr h h' a sl v) (hc : cells ≤ C) (hs : slots ≤ S) : Here G X M vm T' h' C S :=
  ⟨W.1, k0, _, cells, slots, X', e', hS, by rw [E.size]; exact hk, W.wz, hown, hCH.trans (CHr.wr E sf hCH.1), Fr.snoc X' hF ha, W.old.wr E ha, hc, hs⟩
theorem putF (W : Here G X M vm T h C S) {R0 O n d cl : String} {idx kk : Nat} {ty : FieldType} {a : Addr} {v v' old : Value} (w : (Jvm.Cond.fieldLink M.y.cls idx R0 n d).before G.a0 G.Z = true) (via : Via G.Z R0 O n d) (F : Fld G.Z h a O n d old) (E : Exa G.Z h a cl)
    (L : (Jvm.Cond.lays cl O n d).before G.a0 G.Z = true ∨ ((Jvm.Cond.laysFinal cl O n d).before G.a0 G.Z = true ∧ M.y.cls = O ∧ M.y.name = "<init>")) (wi : (Jvm.Cond.instantiable cl kk).before G.a0 G.Z = true) (hty : parseFieldDescriptor d = some ty) (hn : narrow ty v = v') (hf : fits ty v' = true) (ha : G.n0 ≤ a) (sf : Safe G.Z G.EL vm h a)
    (hd : decode M.bytes pc = .ok (.putfield idx, 3)) (pc' : Nat) (hp : pc + 3 = pc') (k : ∀ (T' : State) (h' : Heap), Here G X M vm T' h' C S → Wr h h' a (RoadKit.slotOf G.Z O n d) v' → (∀ y, Safe G.Z G.EL vm h y → Safe G.Z G.EL vm h' y) → Go G X M Q T' pc' Ls st) : Go G X M Q T pc Ls (v :: .ref a :: st) := by
  subst hp
  obtain ⟨F', k0, locs, cells, slots, X1, e1, hS, hk, hZ, hown, hCH, hF, O', c1, s1⟩ := id W
  obtain ⟨T', h', X', e', Wq, st'⟩ := RoadKit.putFN X1 W.x hZ hown w via e1 F E (L.imp id fun q => ⟨q.1, q.2.1, F'.2.2.2.2.2.1.trans q.2.2⟩) wi hty hn hf (g := mkF X.m pc Ls (v :: .ref a :: st)) rfl rfl (W.d hd)
  exact Go.stp (fun t r => st' t r) (k T' h' (Here.wr W hS hk hown hCH hF ha sf X' e' Wq c1 s1) Wq (fun y q => Safe.wr Wq sf hCH.1 q))
theorem castore (W : Here G X M vm T h C S) {a : Addr} {kA : ClassId} {z j x : Int32} {vs : List Value} {dv : Value} (A : Arv G.Z h a kA .char z vs dv) (i : Nat) (hj : j.toNatClampNeg = i) (hj0 : ¬ j < 0 ∧ j < z) (hi : i < vs.length) (ha : G.n0 ≤ a) {x' : Int32} (hx' : nar .char x = x') (hd : decode M.bytes pc = .ok (.castore, 1)) (pc' : Nat) (hp : pc + 1 = pc')
    (k : ∀ (T' : State) (h' : Heap), Here G X M vm T' h' C S → Wr h h' a i (.int x') → Arv G.Z h' a kA .char z (vs.set i (.int x')) dv → (∀ y, Safe G.Z G.EL vm h y → Safe G.Z G.EL vm h' y) → Go G X M Q T' pc' Ls st) : Go G X M Q T pc Ls (.int x :: .int j :: .ref a :: st) := by
  subst hp hj hx'
  obtain ⟨F', k0, locs, cells, slots, X1, e1, hS, hk, hZ, hown, hCH, hF, O', c1, s1⟩ := id W
  have sf : Safe G.Z G.EL vm h a := Safe.arv hZ.alike A (by decide)
  obtain ⟨cl, A1, q, Sz, Nz, H, Gz⟩ := A
  obtain ⟨T', h', X', e', Wq, st'⟩ := RoadKit.stC X1 W.x hZ e1 A1 (j := j) (inb_of Sz hj0) (g := mkF X.m pc Ls (.int x :: .int j :: .ref a :: st)) rfl rfl (W.d hd)
  exact Go.stp (fun t r => st' t r) (k T' h' (Here.wr W hS hk hown hCH hF ha sf X' e' Wq c1 s1) Wq (Arv.set A1 q Sz Nz H Gz (fits_nar_char _) Wq _ rfl hi) (fun y q => Safe.wr Wq sf hCH.1 q))
theorem arrlen (W : Here G X M vm T h C S) {a : Addr} {kA : ClassId} {ty : FieldType} {z : Int32} {vs : List Value} {dv : Value} (A : Arv G.Z h a kA ty z vs dv) (hd : decode M.bytes pc = .ok (.arraylength, 1)) (pc' : Nat) (hp : pc + 1 = pc') (k : Go G X M Q T pc' Ls (.int z :: st)) : Go G X M Q T pc Ls (.ref a :: st) := by
  subst hp
  obtain ⟨F', k0, locs, cells, slots, X1, e1, hS, hk, hZ, hown, hCH, hF, O', c1, s1⟩ := id W
  obtain ⟨cl, A1, q, Sz, Nz, H, Gz⟩ := A
  rw [← len_of Sz Nz] at k
  exact Go.stp (fun t r => X1.arraylength W.x (by rw [e1]; exact A1.1) (State.isArrayOf_alike (T := X.s.setVm vm) hZ.alike A1.2.1) (g := mkF X.m pc Ls (.ref a :: st)) rfl rfl (W.d hd) t r) k
theorem caload (W : Here G X M vm T h C S) {a : Addr} {kA : ClassId} {z j : Int32} {vs : List Value} {dv : Value} (A : Arv G.Z h a kA .char z vs dv) (hj0 : ¬ j < 0 ∧ j < z) (v : Value) (hv : vs.getD j.toNatClampNeg dv = v) (hd : decode M.bytes pc = .ok (.caload, 1)) (pc' : Nat) (hp : pc + 1 = pc') (k : Go G X M Q T pc' Ls (v :: st)) : Go G X M Q T pc Ls (.int j :: .ref a :: st) := by
  subst hp
  obtain ⟨F', k0, locs, cells, slots, X1, e1, hS, hk, hZ, hown, hCH, hF, O', c1, s1⟩ := id W
  obtain ⟨cl, A1, q, Sz, Nz, H, Gz⟩ := A
  exact Go.stp (fun t r => X1.caload W.x (by rw [e1]; exact A1.1) (State.isArrayOf_alike (T := X.s.setVm vm) hZ.alike A1.2.1) A1.2.2 (inb_of Sz hj0) (H.at (inb_of Sz hj0) hv) (g := mkF X.m pc Ls (.int j :: .ref a :: st)) rfl rfl (W.d hd) t r) k
theorem bastore (W : Here G X M vm T h C S) {a : Addr} {kA : ClassId} {z j x : Int32} {vs : List Value} {dv : Value} (A : Arv G.Z h a kA .byte z vs dv) (i : Nat) (hj : j.toNatClampNeg = i) (hj0 : ¬ j < 0 ∧ j < z) (hi : i < vs.length) (ha : G.n0 ≤ a) (sf : Safe G.Z G.EL vm h a) {x' : Int32} (hx' : nar .byte x = x') (hd : decode M.bytes pc = .ok (.bastore, 1)) (pc' : Nat) (hp : pc + 1 = pc')
    (k : ∀ (T' : State) (h' : Heap), Here G X M vm T' h' C S → Wr h h' a i (.int x') → Arv G.Z h' a kA .byte z (vs.set i (.int x')) dv → (∀ y, Safe G.Z G.EL vm h y → Safe G.Z G.EL vm h' y) → Go G X M Q T' pc' Ls st) : Go G X M Q T pc Ls (.int x :: .int j :: .ref a :: st) := by
  subst hp hj hx'
  obtain ⟨F', k0, locs, cells, slots, X1, e1, hS, hk, hZ, hown, hCH, hF, O', c1, s1⟩ := id W
  obtain ⟨cl, A1, q, Sz, Nz, H, Gz⟩ := A
  obtain ⟨T', h', X', e', Wq, st'⟩ := RoadKit.stB X1 W.x hZ e1 A1 (j := j) (inb_of Sz hj0) (g := mkF X.m pc Ls (.int x :: .int j :: .ref a :: st)) rfl rfl (W.d hd)
  exact Go.stp (fun t r => st' t r) (k T' h' (Here.wr W hS hk hown hCH hF ha sf X' e' Wq c1 s1) Wq (Arv.set A1 q Sz Nz H Gz (fits_nar_byte _) Wq _ rfl hi) (fun y q => Safe.wr Wq sf hCH.1 q))
theorem baload (W : Here G X M vm T h C S) {a : Addr} {kA : ClassId} {z j : Int32} {vs : List Value} {dv : Value} (A : Arv G.Z h a kA .byte z vs dv) (hj0 : ¬ j < 0 ∧ j < z) (v : Value) (hv : vs.getD j.toNatClampNeg dv = v) (hd : decode M.bytes pc = .ok (.baload, 1)) (pc' : Nat) (hp : pc + 1 = pc') (k : Go G X M Q T pc' Ls (v :: st)) : Go G X M Q T pc Ls (.int j :: .ref a :: st) := by
  subst hp
  obtain ⟨F', k0, locs, cells, slots, X1, e1, hS, hk, hZ, hown, hCH, hF, O', c1, s1⟩ := id W
  obtain ⟨cl, A1, q, Sz, Nz, H, Gz⟩ := A
  exact Go.stp (fun t r => X1.baloadBytes W.x (by rw [e1]; exact A1.1) (State.isArrayOf_alike (T := X.s.setVm vm) hZ.alike A1.2.1) A1.2.2 (inb_of Sz hj0) (H.at (inb_of Sz hj0) hv) (g := mkF X.m pc Ls (.int j :: .ref a :: st)) rfl rfl (W.d hd) t r) k
theorem initO (W : Here G X M vm T h C S) {idx : Nat} {a : Addr} (w1 : (Jvm.Cond.methodLink M.y.cls idx Lib.objectInit).before G.a0 G.Z = true) (w2 : (Jvm.Cond.instanceMethod Lib.objectInit).before G.a0 G.Z = true) (w3 : (Jvm.Cond.code Lib.objectInit ⟨#[0xb1]⟩ 1 none).before G.a0 G.Z = true) (hsz : Ls.size = M.maxL)
    (hd : decode M.bytes pc = .ok (.invokespecial idx, 3)) (pc' : Nat) (hp : pc + 3 = pc') (hf : 1 ≤ M.R.frames) (hl : (st.map fun v => v.category).sum + 12 ≤ M.R.locals) (k : ∀ T' : State, Here G X M vm T' h C S → Go G X M Q T' pc' Ls st) : Go G X M Q T pc Ls (.ref a :: st) := by
  subst hp
  obtain ⟨F', k0, locs, cells, slots, X1, e1, hS, hk, hZ, hown, hCH, hF, O', c1, s1⟩ := id W
  obtain ⟨T', X', e', st'⟩ := RoadKit.initO X1 W.x hZ hown w1 w2 w3 e1 (g := mkF X.m pc Ls (.ref a :: st)) rfl (hsz.trans F'.2.2.1.symm) rfl (W.d hd) hf (W := (st.map fun v => v.category).sum) (by show 2 * 0 + _ ≤ _; omega) hl
  exact Go.stp (fun t r => st' t r) (k T' (Here.ext W hS hk hown hCH hF X' e' (Ext.rfl' h) c1 s1))
/-! ### more plain steps -/
theorem imul (W : Here G X M vm T h C S) {x y : Int32} (hd : decode M.bytes pc = .ok (.imul, 1)) (pc' : Nat) (hp : pc + 1 = pc') (k : Go G X M Q T pc' Ls (.int (x * y) :: st)) : Go G X M Q T pc Ls (.int y :: .int x :: st) := by
  subst hp; exact Go.stp (fun t r => XS.imul W.at W.x rfl (W.d hd) rfl r) k
theorem ior (W : Here G X M vm T h C S) {x y : Int32} (hd : decode M.bytes pc = .ok (.ior, 1)) (pc' : Nat) (hp : pc + 1 = pc') (k : Go G X M Q T pc' Ls (.int (x ||| y) :: st)) : Go G X M Q T pc Ls (.int y :: .int x :: st) := by
  subst hp; exact Go.stp (fun t r => XS.ior W.at W.x rfl (W.d hd) rfl r) k
theorem ishr (W : Here G X M vm T h C S) {x y : Int32} (hd : decode M.bytes pc = .ok (.ishr, 1)) (pc' : Nat) (hp : pc + 1 = pc') (k : Go G X M Q T pc' Ls (.int (x >>> (y &&& 31)) :: st)) : Go G X M Q T pc Ls (.int y :: .int x :: st) := by
  subst hp; exact Go.stp (fun t r => XS.ishr W.at W.x rfl (W.d hd) rfl r) k
theorem ishl (W : Here G X M vm T h C S) {x y : Int32} (hd : decode M.bytes pc = .ok (.ishl, 1)) (pc' : Nat) (hp : pc + 1 = pc') (k : Go G X M Q T pc' Ls (.int (x <<< (y &&& 31)) :: st)) : Go G X M Q T pc Ls (.int y :: .int x :: st) := by
  subst hp; exact Go.stp (fun t r => XS.ishl W.at W.x rfl (W.d hd) rfl r) k
theorem ladd (W : Here G X M vm T h C S) {x y : Int64} (hd : decode M.bytes pc = .ok (.ladd, 1)) (pc' : Nat) (hp : pc + 1 = pc') (k : Go G X M Q T pc' Ls (.long (x + y) :: st)) : Go G X M Q T pc Ls (.long y :: .long x :: st) := by
  subst hp; exact Go.stp (fun t r => XS.ladd W.at W.x rfl (W.d hd) rfl r) k
theorem lsub (W : Here G X M vm T h C S) {x y : Int64} (hd : decode M.bytes pc = .ok (.lsub, 1)) (pc' : Nat) (hp : pc + 1 = pc') (k : Go G X M Q T pc' Ls (.long (x - y) :: st)) : Go G X M Q T pc Ls (.long y :: .long x :: st) := by
  subst hp; exact Go.stp (fun t r => XS.lsub W.at W.x rfl (W.d hd) rfl r) k
theorem lcmp (W : Here G X M vm T h C S) {x y : Int64} (hd : decode M.bytes pc = .ok (.lcmp, 1)) (pc' : Nat) (hp : pc + 1 = pc') (k : Go G X M Q T pc' Ls (.int (XT.cmpL x y) :: st)) : Go G X M Q T pc Ls (.long y :: .long x :: st) := by
  subst hp; exact Go.stp (fun t r => XS.lcmp W.at W.x rfl (W.d hd) rfl r) k
theorem lneg (W : Here G X M vm T h C S) {x : Int64} (hd : decode M.bytes pc = .ok (.lneg, 1)) (pc' : Nat) (hp : pc + 1 = pc') (k : Go G X M Q T pc' Ls (.long (-x) :: st)) : Go G X M Q T pc Ls (.long x :: st) := by
  subst hp; exact Go.stp (fun t r => XS.lneg W.at W.x rfl (W.d hd) rfl r) k
theorem i2l (W : Here G X M vm T h C S) {x : Int32} (hd : decode M.bytes pc = .ok (.i2l, 1)) (pc' : Nat) (hp : pc + 1 = pc') (k : Go G X M Q T pc' Ls (.long x.toInt64 :: st)) : Go G X M Q T pc Ls (.int x :: st) := by
  subst hp; exact Go.stp (fun t r => XS.i2l W.at W.x rfl (W.d hd) rfl r) k
theorem l2i (W : Here G X M vm T h C S) {x : Int64} (hd : decode M.bytes pc = .ok (.l2i, 1)) (pc' : Nat) (hp : pc + 1 = pc') (k : Go G X M Q T pc' Ls (.int x.toInt32 :: st)) : Go G X M Q T pc Ls (.long x :: st) := by
  subst hp; exact Go.stp (fun t r => XS.l2i W.at W.x rfl (W.d hd) rfl r) k
theorem lushr (W : Here G X M vm T h C S) {x : Int64} {y : Int32} (hd : decode M.bytes pc = .ok (.lushr, 1)) (pc' : Nat) (hp : pc + 1 = pc') (k : Go G X M Q T pc' Ls (.long ((x.toUInt64 >>> (y &&& 0x3f).toInt64.toUInt64).toInt64) :: st)) : Go G X M Q T pc Ls (.int y :: .long x :: st) := by
  subst hp; exact Go.stp (fun t r => XS.lushr W.at W.x rfl (W.d hd) rfl r) k
theorem idiv (W : Here G X M vm T h C S) {x y : Int32} (hd : decode M.bytes pc = .ok (.idiv, 1)) (pc' : Nat) (hp : pc + 1 = pc') (hy : y ≠ 0) (k : Go G X M Q T pc' Ls (.int (x / y) :: st)) : Go G X M Q T pc Ls (.int y :: .int x :: st) := by
  subst hp; exact Go.stp (fun t r => XS.idiv W.at W.x rfl (W.d hd) rfl hy r) k
theorem lconst (W : Here G X M vm T h C S) {j : Fin 2} (hd : decode M.bytes pc = .ok (.lconst j, 1)) (pc' : Nat) (hp : pc + 1 = pc') (v : Int64) (hv : Int64.ofNat j = v) (k : Go G X M Q T pc' Ls (.long v :: st)) : Go G X M Q T pc Ls st := by
  subst hp hv; exact Go.stp (fun t r => XS.lconst W.at W.x rfl (W.d hd) r) k
theorem lloadN (W : Here G X M vm T h C S) {j : Fin 4} (hd : decode M.bytes pc = .ok (.lload_n j, 1)) (pc' : Nat) (hp : pc + 1 = pc') (v : Int64) (hl : Ls[j.val]? = some (.val (.long v))) (k : Go G X M Q T pc' Ls (.long v :: st)) : Go G X M Q T pc Ls st := by
  subst hp; exact Go.stp (fun t r => XS.lloadN W.at W.x rfl (W.d hd) hl r) k
theorem lload (W : Here G X M vm T h C S) {j : Nat} (hd : decode M.bytes pc = .ok (.lload j, 2)) (pc' : Nat) (hp : pc + 2 = pc') (v : Int64) (hl : Ls[j]? = some (.val (.long v))) (k : Go G X M Q T pc' Ls (.long v :: st)) : Go G X M Q T pc Ls st := by
  subst hp; exact Go.stp (fun t r => XS.lload W.at W.x rfl (W.d hd) hl r) k
theorem lstoreN (W : Here G X M vm T h C S) {j : Fin 4} {x : Int64} (hd : decode M.bytes pc = .ok (.lstore_n j, 1)) (pc' : Nat) (hp : pc + 1 = pc') (Ls' : Array Slot) (hl : storeLocals Ls j.val (.long x) = some Ls') (k : Go G X M Q T pc' Ls' st) : Go G X M Q T pc Ls (.long x :: st) := by
  subst hp; exact Go.stp (fun t r => XS.lstoreN W.at W.x rfl (W.d hd) rfl hl r) k
theorem lstore (W : Here G X M vm T h C S) {j : Nat} {x : Int64} (hd : decode M.bytes pc = .ok (.lstore j, 2)) (pc' : Nat) (hp : pc + 2 = pc') (Ls' : Array Slot) (hl : storeLocals Ls j (.long x) = some Ls') (k : Go G X M Q T pc' Ls' st) : Go G X M Q T pc Ls (.long x :: st) := by
  subst hp; exact Go.stp (fun t r => XS.lstore W.at W.x rfl (W.d hd) rfl hl r) k
theorem ldcI (W : Here G X M vm T h C S) {idx : Nat} {v : Int32} (w : (Jvm.Cond.constant M.y.cls idx v).before G.a0 G.Z = true) (hd : decode M.bytes pc = .ok (.ldc idx, 2)) (pc' : Nat) (hp : pc + 2 = pc') (k : Go G X M Q T pc' Ls (.int v :: st)) : Go G X M Q T pc Ls st := by
  subst hp
  obtain ⟨F', k0, locs, cells, slots, X1, e1, hS, hk, hZ, hown, -⟩ := id W
  exact Go.stp (fun t r => X1.ldcInt W.x hown (mv (s := X.s.setVm vm) hZ w) (g := mkF X.m pc Ls st) rfl (W.d hd) t r) k
theorem ldc2 (W : Here G X M vm T h C S) {idx : Nat} {v : Int64} (w : (Jvm.Cond.constantLong M.y.cls idx v).before G.a0 G.Z = true) (hd : decode M.bytes pc = .ok (.ldc2_w idx, 3)) (pc' : Nat) (hp : pc + 3 = pc') (k : Go G X M Q T pc' Ls (.long v :: st)) : Go G X M Q T pc Ls st := by
  subst hp
  obtain ⟨F', k0, locs, cells, slots, X1, e1, hS, hk, hZ, hown, -⟩ := id W
  exact Go.stp (fun t r => X1.ldc2Long W.x hown (mv (s := X.s.setVm vm) hZ w) (g := mkF X.m pc Ls st) rfl (W.d hd) t r) k
/-! ### String constants -/
theorem ldcR (W : Here G X M vm T h C S) {idx : Nat} {text : String} (w : (Jvm.Cond.stringLink M.y.cls idx text).before G.a0 G.Z = true) (wS : ∀ a ∈ Bundle.stringAtoms, a.before G.a0 G.Z = true) (hmem : (M.y.cls, idx) ∈ G.EL) {vs : List Value} {z : Int32} (ht : (∀ c ∈ text.toList, c.toNat < 256) ∧ text.toList.map (fun c => Value.int (Jvm.Lit.byteI c.toNat.toUInt16)) = vs) (hz : ¬ z < 0) (hl : z.toNatClampNeg = vs.length)
    (hd : decode M.bytes pc = .ok (.ldc idx, 2)) (pc' : Nat) (hp : pc + 2 = pc') (n : Nat) (hn : 4 * text.toList.length ≤ n) (hbig : n ≤ 536870912) (C' S' : Nat) (hc : C + 2 ≤ C') (hs : S + (n + 4) ≤ S') (hc' : C' ≤ M.R.cells) (hs' : S' ≤ M.R.slots)
    (k : ∀ (vm' : Vm) (T' : State) (h' : Heap) (a b : Addr) (kb : ClassId), Here G X M vm' T' h' C' S' → CHr G.Z G.EL vm h vm' h' → Ext h h' → Exa G.Z h' a "java/lang/String" → Fld G.Z h' a "java/lang/String" "coder" "B" (.int 0) → Fld G.Z h' a "java/lang/String" "value" "[B" (.ref b) → Arv G.Z h' b kb .byte z vs (.int 0) → (∀ x, Safe G.Z G.EL vm' h' x → x ≠ a ∧ x ≠ b) → Go G X M Q T' pc' Ls (.ref a :: st)) : Go G X M Q T pc Ls st := by
  subst hp
  obtain ⟨F', k0, locs, cells, slots, X1, e1, hS, hk, hZ, hown, hCH, hF, O', c1, s1⟩ := id W
  obtain ⟨a, T', h', k1, b, kb, X', e', E, hS', hk', hZ', ho', f1, f2, f3, f4, -, -, r1, -, r2, st'⟩ := ldcCH X1 W.x hZ hown w wS e1 hS hk F'.2.2.2.2.2.2 hmem hCH.1 ht hz hl (g := mkF X.m pc Ls st) rfl (W.d hd) hn hbig (by omega) (by omega)
  exact Go.stp (fun t r => st' t r) (k T'.vm T' h' a b kb ⟨F', k1, locs, _, _, X', e', hS', hk', hZ', ho', hCH.trans r1, hF, O'.ext E, by omega, by omega⟩ r1 E f1 f2 f3 f4 r2)
theorem ldcO (W : Here G X M vm T h C S) {idx : Nat} {text : String} (w : (Jvm.Cond.stringLink M.y.cls idx text).before G.a0 G.Z = true) (wS : ∀ a ∈ Bundle.stringAtoms, a.before G.a0 G.Z = true)
    (hd : decode M.bytes pc = .ok (.ldc idx, 2)) (pc' : Nat) (hp : pc + 2 = pc') (n : Nat) (hn : 4 * text.toList.length ≤ n) (hbig : n ≤ 536870912) (C' S' : Nat) (hc : C + 2 ≤ C') (hs : S + (n + 4) ≤ S') (hc' : C' ≤ M.R.cells) (hs' : S' ≤ M.R.slots)
    (k : ∀ (vm' : Vm) (T' : State) (h' : Heap) (a : Addr), Here G X M vm' T' h' C' S' → CHr G.Z G.EL vm h vm' h' → Ext h h' → Go G X M Q T' pc' Ls (.ref a :: st)) : Go G X M Q T pc Ls st := by
  subst hp
  obtain ⟨F', k0, locs, cells, slots, X1, e1, hS, hk, hZ, hown, hCH, hF, O', c1, s1⟩ := id W
  obtain ⟨a, T', h', k1, X', e', E, hS', hk', hZ', ho', r1, -, st'⟩ := ldcOH X1 W.x hZ hown w wS e1 hS hk F'.2.2.2.2.2.2 hCH.1 (g := mkF X.m pc Ls st) rfl (W.d hd) hn hbig (by omega) (by omega)
  exact Go.stp (fun t r => st' t r) (k T'.vm T' h' a ⟨F', k1, locs, _, _, X', e', hS', hk', hZ', ho', hCH.trans r1, hF, O'.ext E, by omega, by omega⟩ r1 E)
end Kit2
end Own
end Jvm.Pilot.@@N@@
namespace Jvm.Pilot.@@N@@
namespace Own
open Jvm Jvm.ClassFile Sem Op Lib Jvm.Free Jvm.Stand Jvm.LawKit Jvm.RoadKit
abbrev ST : String := "java/lang/String"
/-- a String that spells the chars cs, each 0 to 255 -/
def Str (Z : State) (h : Heap) (a : Addr) (cs : List Int32) : Prop := Exa Z h a ST ∧ Fld Z h a ST "coder" "B" (.int 0) ∧ (∀ c ∈ cs, ¬ c < 0 ∧ ¬ (255 : Int32) < c) ∧ cs.length ≤ 4000 ∧
  ∃ (b : Addr) (kb : ClassId), Fld Z h a ST "value" "[B" (.ref b) ∧ Arv Z h b kb .byte (Int32.ofNat cs.length) ((cs.map fun c => c.toInt8.toInt32).map Value.int) (.int 0)
theorem Str.ext {Z : State} {h h' : Heap} {a : Addr} {cs : List Int32} (F : Str Z h a cs) (E : Ext h h') : Str Z h' a cs := by
  obtain ⟨h1, h2, h3, h4, b, kb, h5, h6⟩ := F
  exact ⟨h1.ext E, h2.ext E, h3, h4, b, kb, h5.ext E, h6.ext E⟩
theorem Str.lt {Z : State} {h : Heap} {a : Addr} {cs : List Int32} (F : Str Z h a cs) : a < h.size := F.1.lt
theorem Str.exa {Z : State} {h : Heap} {a : Addr} {cs : List Int32} (F : Str Z h a cs) : Exa Z h a ST := F.1
/-- over a change of other objects, none of them a String or a byte[] -/
theorem Str.keep {Z : State} {h h' : Heap} {a : Addr} {cs : List Int32} {ws : List Addr} (F : Str Z h a cs) (K : Keep h h' ws) (ha : a ∉ ws) (hb : ∀ x ∈ ws, ∀ (cl : Cell), ¬ Arr Z h x cl .byte) : Str Z h' a cs := by
  obtain ⟨h1, h2, h3, h4, b, kb, h5, h6⟩ := F
  refine ⟨h1.keep K, h2.keep K ha, h3, h4, b, kb, h5.keep K ha, h6.keep K fun q => ?_⟩
  obtain ⟨cl, A, -⟩ := h6
  exact hb b q cl A
theorem codS {cs : List Int32} (hb : ∀ c ∈ cs, ¬ c < 0 ∧ ¬ (255 : Int32) < c) : StrChars.Road.CodA cs 0 (Int32.ofNat cs.length) ((cs.map fun c => c.toInt8.toInt32).map Value.int) :=
  Or.inl ⟨rfl, rfl, by rw [List.map_map]; rfl, fun c hc => (hb c hc).2⟩
theorem wide16 {cs : List Int32} (hb : ∀ c ∈ cs, ¬ c < 0 ∧ ¬ (255 : Int32) < c) : ∀ c ∈ cs, ¬ c < 0 ∧ ¬ (65535 : Int32) < c := fun c hc => ⟨(hb c hc).1, fun q => (hb c hc).2 (Int32.lt_trans (by decide) q)⟩
/-- the words of a String constant's load, and of the empty road of new String(char[]) -/
abbrev wordsS : List Jvm.Cond := StrChars.Road.words ++ [.initialized ST, .instantiable ST 4, .soleField ST "value", .soleField ST "coder", .stringLink ST 7 ""]
section Kit3
variable {G : Gl} {X : Rn} {M : Bo} {vm : Vm} {T : State} {h : Heap} {C S : Nat} {Q : Option Value → Heap → Prop} {pc pc' : Nat} {Ls Ls' : Array Slot} {st : List Value}
theorem sAtoms (hw : ∀ d ∈ wordsS, d.before G.a0 G.Z = true) : ∀ a ∈ Bundle.stringAtoms, a.before G.a0 G.Z = true := fun d hd => hw d ((by decide +kernel : ∀ d ∈ Bundle.stringAtoms, d ∈ wordsS) d hd)
theorem w1 (hw : ∀ d ∈ wordsS, d.before G.a0 G.Z = true) (d : Jvm.Cond) (hd : d ∈ wordsS := by decide +kernel) : d.before G.a0 G.Z = true := hw d hd
abbrev bNew4 : Bo := (StrChars.New4.yN, StrChars.New4.yB, 6, none, ({ frames := 1, cells := 4, slots := 8, locals := 12 } : Room))
abbrev bNew1 : Bo := (StrChars.New1.yN, StrChars.New1.yB, 2, none, ({ frames := 2, cells := 4, slots := 8, locals := 29 } : Room))
theorem e4_8 : decode StrChars.New4.yB 8 = .ok (.aload_n 0, 1) := by decide +kernel
theorem e4_9 : decode StrChars.New4.yB 9 = .ok (.ldc 7, 2) := by decide +kernel
theorem e4_11 : decode StrChars.New4.yB 11 = .ok (.getfield 9, 3) := by decide +kernel
theorem e4_14 : decode StrChars.New4.yB 14 = .ok (.putfield 9, 3) := by decide +kernel
theorem e4_17 : decode StrChars.New4.yB 17 = .ok (.aload_n 0, 1) := by decide +kernel
theorem e4_18 : decode StrChars.New4.yB 18 = .ok (.ldc 7, 2) := by decide +kernel
theorem e4_20 : decode StrChars.New4.yB 20 = .ok (.getfield 15, 3) := by decide +kernel
theorem e4_23 : decode StrChars.New4.yB 23 = .ok (.putfield 15, 3) := by decide +kernel
theorem e4_26 : decode StrChars.New4.yB 26 = .ok (.return_, 1) := by decide +kernel
theorem pnST : plainName "java/lang/String" = true := by first | (simp [plainName, overriddenIn]; done) | decide +kernel
theorem pd4 : parseMethodDescriptor "([CIILjava/lang/Void;)V" = some ⟨[.array .char, .int, .int, .object "java/lang/Void"], none⟩ := by decide +kernel
theorem pd1 : parseMethodDescriptor "([C)V" = some ⟨[.array .char], none⟩ := by decide +kernel
theorem ef4 (m : MethodId) (x b : Addr) : entryFrame m #[.ref x, .ref b, .int 0, .int 0, .null] 6 = mkF m 0 #[.val (.ref x), .val (.ref b), .val (.int 0), .val (.int 0), .val .null, .unset] [] := by first | (simp [entryFrame, mkF, argsToLocals, Value.category]; done) | rfl
theorem ef1 (m : MethodId) (x b : Addr) : entryFrame m #[.ref x, .ref b] 2 = mkF m 0 #[.val (.ref x), .val (.ref b)] [] := by first | (simp [entryFrame, mkF, argsToLocals, Value.category]; done) | rfl
set_option maxRecDepth 65536 in
set_option maxHeartbeats 4000000 in
theorem con_new4e (hw : ∀ d ∈ wordsS, d.before G.a0 G.Z = true) (hEL : EW G.Z G.a0 G.EL) (hmem : (ST, 7) ∈ G.EL) {x b : Addr} {v0 c0 : Value} (hO : Old G.Z G.n0 h) (hx0 : G.n0 ≤ x) (E : Exa G.Z h x ST) (V : Fld G.Z h x ST "value" "[B" v0) (Cd : Fld G.Z h x ST "coder" "B" c0) :
    Con G [] bNew4 #[.ref x, .ref b, .int 0, .int 0, .null] h [x] (fun v h' => v = none ∧ Keep h h' [x] ∧ Str G.Z h' x []) := by
  refine Con.intro (plainFor_of_name pnST) hO hEL _ (fun m => ef4 m x b) ?_
  intro X T W sf
  have sx := sf x (List.mem_singleton.mpr rfl)
  have wS := sAtoms hw
  refine aloadN W StrChars.New4.d0 1 rfl _ rfl rfl ?_
  refine initO W (w1 hw (.methodLink ST 1 Lib.objectInit)) (w1 hw (.instanceMethod Lib.objectInit)) (w1 hw (.code Lib.objectInit ⟨#[0xb1]⟩ 1 none)) rfl StrChars.New4.d1 4 rfl (by decide) (by decide) ?_
  intro T1 W1
  refine iloadN W1 StrChars.New4.d4 5 rfl _ rfl ?_
  refine ifNo W1 StrChars.New4.d5 8 (by decide) rfl ?_
  refine aloadN W1 e4_8 9 rfl _ rfl rfl ?_
  refine ldcR W1 (w1 hw (.stringLink ST 7 "")) wS hmem (vs := []) (z := 0) ⟨by decide, by decide⟩ (by decide) (by decide) e4_9 11 rfl 0 (by decide) (by decide) 2 4 (by decide) (by decide) (by decide) (by decide) ?_
  intro vm2 T2 h2 a2 b2 kb2 W2 R2 E2 fa fc fv fb hne
  have sx2 : Safe G.Z G.EL vm2 h2 x := R2.safe E.lt sx
  have ne2 := hne x sx2
  refine getF W2 (w1 hw (.fieldLink ST 9 ST "value" "[B")) Via.refl fv e4_11 14 rfl ?_
  intro T3 W3
  refine putF W3 (w1 hw (.fieldLink ST 9 ST "value" "[B")) Via.refl (V.ext E2) (E.ext E2) (Or.inr ⟨w1 hw (.laysFinal ST ST "value" "[B"), rfl, rfl⟩) (w1 hw (.instantiable ST 4)) (ty := .array .byte) (by decide) rfl rfl hx0 sx2 e4_14 17 rfl ?_
  intro T4 h4 W4 Wr4 k4
  refine aloadN W4 e4_17 18 rfl _ rfl rfl ?_
  refine ldcR W4 (w1 hw (.stringLink ST 7 "")) wS hmem (vs := []) (z := 0) ⟨by decide, by decide⟩ (by decide) (by decide) e4_18 20 rfl 0 (by decide) (by decide) 4 8 (by decide) (by decide) (by decide) (by decide) ?_
  intro vm5 T5 h5 a5 b5 kb5 W5 R5 E5 ga gc gv gb hne5
  have x4 : x < h4.size := by rw [Wr4.size]; exact (E.ext E2).lt
  have sx4 : Safe G.Z G.EL vm2 h4 x := k4 x sx2
  have sx5 : Safe G.Z G.EL vm5 h5 x := R5.safe x4 sx4
  refine getF W5 (w1 hw (.fieldLink ST 15 ST "coder" "B")) Via.refl gc e4_20 23 rfl ?_
  intro T6 W6
  have Ex5 : Exa G.Z h5 x ST := ((E.ext E2).wr Wr4).ext E5
  have sne : RoadKit.slotOf G.Z ST "coder" "B" ≠ RoadKit.slotOf G.Z ST "value" "[B" := slot_ne (Or.inr (w1 hw (.laysFinal ST ST "coder" "B"))) (Or.inr (w1 hw (.laysFinal ST ST "value" "[B"))) (by decide) (t := .byte) (t' := .array .byte) (by decide) (by decide)
  have Cd5 : Fld G.Z h5 x ST "coder" "B" c0 := ((Cd.ext E2).other Wr4 (Or.inr sne)).ext E5
  have V5 : Fld G.Z h5 x ST "value" "[B" (.ref b2) := ((V.ext E2).same Wr4).ext E5
  have B5 : Arv G.Z h5 b2 kb2 .byte 0 [] (.int 0) := (fb.other Wr4 (Ne.symm ne2.2)).ext E5
  refine putF W6 (w1 hw (.fieldLink ST 15 ST "coder" "B")) Via.refl Cd5 Ex5 (Or.inr ⟨w1 hw (.laysFinal ST ST "coder" "B"), rfl, rfl⟩) (w1 hw (.instantiable ST 4)) (ty := .byte) (v' := .int 0) (by decide) rfl rfl hx0 sx5 e4_23 26 rfl ?_
  intro T7 h7 W7 Wr7 _
  refine retV W7 (by decide) (by decide) rfl e4_26 ⟨rfl, ?_, ?_⟩
  · exact ((((Keep.refl h [x]).ext E2).wr Wr4 (Or.inl (List.mem_singleton.mpr rfl))).ext E5).wr Wr7 (Or.inl (List.mem_singleton.mpr rfl))
  · have nb : b2 ≠ x := Ne.symm ne2.2
    exact ⟨Ex5.wr Wr7, Cd5.same Wr7, by simp, by simp, b2, kb2, V5.other Wr7 (Or.inr (Ne.symm sne)), B5.other Wr7 nb⟩
set_option maxRecDepth 65536 in
set_option maxHeartbeats 4000000 in
theorem con_new1e (hw : ∀ d ∈ wordsS, d.before G.a0 G.Z = true) (hEL : EW G.Z G.a0 G.EL) (hmem : (ST, 7) ∈ G.EL) {x b : Addr} {kC : ClassId} {v0 c0 dv : Value} {vs : List Value} (hO : Old G.Z G.n0 h) (hx0 : G.n0 ≤ x) (E : Exa G.Z h x ST) (V : Fld G.Z h x ST "value" "[B" v0) (Cd : Fld G.Z h x ST "coder" "B" c0) (A : Arv G.Z h b kC .char 0 vs dv) :
    Con G [] bNew1 #[.ref x, .ref b] h [x] (fun v h' => v = none ∧ Keep h h' [x] ∧ Str G.Z h' x []) := by
  refine Con.intro (plainFor_of_name pnST) hO hEL _ (fun m => ef1 m x b) ?_
  intro X T W sf
  have sx := sf x (List.mem_singleton.mpr rfl)
  refine aloadN W StrChars.New1.d0 1 rfl _ rfl rfl ?_
  refine aloadN W StrChars.New1.d1 2 rfl _ rfl rfl ?_
  refine iconst W StrChars.New1.d2 3 rfl 0 rfl ?_
  refine aloadN W StrChars.New1.d3 4 rfl _ rfl rfl ?_
  refine arrlen W A StrChars.New1.d4 5 rfl ?_
  refine aconstNull W StrChars.New1.d5 6 rfl ?_
  refine callX W (y := StrChars.New4.yN) rfl (w1 hw (.methodLink ST 27 StrChars.New4.yN)) (w1 hw (.instanceMethod StrChars.New4.yN)) (w1 hw (.code StrChars.New4.yN StrChars.New4.yB 6 none)) (by decide) (argsL := [.ref b, .int 0, .int 0, .null]) (rest := [])
    (Con.pay (con_new4e hw hEL hmem hO hx0 E V Cd) W (w1 hw (.code StrChars.New4.yN StrChars.New4.yB 6 none)) (w1 hw (.initialized ST)) (len := 3) (wd := 0) (by decide) (by decide) (fun y hy => by cases List.mem_singleton.mp hy; exact ⟨E.lt, sx⟩)) rfl (lenOf pd4 rfl) rfl (by decide) StrChars.New1.d6 9 rfl 4 8 (by decide) (by decide) (by decide) (by decide) ?_
  intro vm1 T1 h1 v W1 R1 hq
  obtain ⟨rfl, K, F⟩ := hq
  exact retV W1 (by decide) (by decide) rfl StrChars.New1.d9 ⟨rfl, K, F⟩
/-- **new String(char[]) AT ITS CALL**: x the fresh String, b the char[] that holds cs -/
theorem payStr (hw : ∀ d ∈ wordsS, d.before G.a0 G.Z = true) (hEL : EW G.Z G.a0 G.EL) (hmem : (ST, 7) ∈ G.EL) (W : Here G X M vm T h C S) {x b : Addr} {kC : ClassId} {v0 c0 dv : Value} {cs : List Int32} {z cz : Int32} (hx0 : G.n0 ≤ x) (sx : Safe G.Z G.EL vm h x) (E : Exa G.Z h x ST) (V : Fld G.Z h x ST "value" "[B" v0) (Cd : Fld G.Z h x ST "coder" "B" c0)
    (A : Arv G.Z h b kC .char z (cs.map Value.int) dv) (hz : z = Int32.ofNat cs.length) (hcs : ∀ c ∈ cs, ¬ c < 0 ∧ ¬ (255 : Int32) < c) (hl : cs.length ≤ 4000) (hS : Sta G.Z G.Z.heap ST "COMPACT_STRINGS" "Z" (.int cz)) (hcz : ¬ cz = 0) {len wd : Nat} (hf : 4 ≤ M.R.frames) (hlo : wd + 65 ≤ M.R.locals) :
    Pay G X M vm h StrChars.New1.yN len wd #[.ref x, .ref b] 4 (8 + cs.length) (fun v h' => v = none ∧ Keep h h' [x] ∧ Str G.Z h' x cs) := by
  have hO := W.old
  subst hz
  match cs, A, hcs, hl with
  | [], A, _, _ =>
    exact Con.pay (con_new1e hw hEL hmem hO hx0 E V Cd A) W (w1 hw (.code StrChars.New1.yN StrChars.New1.yB 2 none)) (w1 hw (.initialized ST)) (by show 2 + 1 ≤ _; omega) (by show wd + (2 + 11) + 29 ≤ _; omega) (fun y hy => by cases List.mem_singleton.mp hy; exact ⟨E.lt, sx⟩)
  | c :: cs, A, hcs, hl =>
    have B := StrChars.Road.backV (p := X.p) (l := G.l) (e := X.e) (R := M.R) (s := X.s.setVm vm) (args := X.args) (below := X.below) (len := len) (W := wd) (Z := G.Z) (a0 := G.a0) W.wz (fun d hd => hw d (List.mem_append_left _ hd)) (kI := 4) (w1 hw (.instantiable ST 4)) hx0 W.n0 E V Cd A (W.sta hS) hcz (n := (c :: cs).length) rfl rfl (by simp) hl hcs rfl hf hlo
    have P := payB (Q' := fun v h' => v = none ∧ Keep h h' [x] ∧ Str G.Z h' x (c :: cs)) B W (fun v h' L q => by
      obtain ⟨q1, q2, q3, q4, q5, t, kb, q6, q7, q8, q9, q10⟩ := q
      have ks : ∀ y ∈ [x], Safe G.Z G.EL vm h y := fun y hy => by cases List.mem_singleton.mp hy; exact sx
      exact ⟨⟨q1, q3, q4, q5, hcs, hl, t, kb, q9, q10⟩, q2, hO.keep q3 (fun y hy => by cases List.mem_singleton.mp hy; exact hx0), CHr.keep q3 ks W.ch⟩)
    intro m meth c' A' g ig mk a X1 hg hsize hdg hW hn hp
    obtain ⟨v, B', r1, r2, r3, ⟨L, r4, r5, r6, r7, r8⟩, r9⟩ := P m meth c' A' g ig mk a X1 hg hsize hdg hW hn ⟨hp.1, hp.2.1, by have := hp.2.2.1; omega, by have := hp.2.2.2; omega⟩
    exact ⟨v, B', r1, r2, r3, ⟨L, r4, r5, by omega, by omega, r8⟩, r9⟩
end Kit3
/-! ### chars -/
def chr (x : Int32) : Int32 := x.toUInt32.toUInt16.toUInt32.toInt32
def us (x k : Int32) : Int32 := (x.toUInt32 >>> (k &&& 31).toUInt32).toInt32
/-- the low eight bits, as a char -/
def lo (x : Int32) : Int32 := chr (x &&& 255)
theorem chr_id {x : Int32} (h0 : 0 ≤ x.toInt) (h1 : x.toInt < 65536) : chr x = x := Int32.toInt_inj.mp (by
  have q := c_i2c x
  unfold chr
  omega)
theorem and255 (x : Int32) : 0 ≤ (x &&& 255).toInt ∧ (x &&& 255).toInt ≤ 255 := c_and x 255 (by decide)
theorem lo_eq (x : Int32) : lo x = x &&& 255 := chr_id (and255 x).1 (by have := (and255 x).2; omega)
theorem lo_rng (x : Int32) : ¬ lo x < 0 ∧ ¬ (255 : Int32) < lo x := by
  rw [lo_eq, Int32.lt_iff_toInt_lt, Int32.lt_iff_toInt_lt]
  have q := and255 x
  have e1 : (0 : Int32).toInt = 0 := by decide
  have e2 : (255 : Int32).toInt = 255 := by decide
  rw [e1, e2]; omega
theorem nar_of {c : Int32} (q : ¬ c < 0 ∧ ¬ (255 : Int32) < c) : nar .char c = c := by
  rw [Int32.lt_iff_toInt_lt, Int32.lt_iff_toInt_lt] at q
  have e1 : (0 : Int32).toInt = 0 := by decide
  have e2 : (255 : Int32).toInt = 255 := by decide
  rw [e1, e2] at q
  show chr c = c
  exact chr_id (by omega) (by omega)
theorem nar_b8 (x : Int32) : nar .byte x.toInt8.toInt32 = x.toInt8.toInt32 := by
  show (x.toInt8.toInt32).toInt8.toInt32 = x.toInt8.toInt32
  simp
theorem nar_lo (x : Int32) : nar .char (lo x) = lo x := by
  show chr (lo x) = lo x
  rw [lo_eq]; exact chr_id (and255 x).1 (by have := (and255 x).2; omega)
end Own
end Jvm.Pilot.@@N@@
namespace Jvm.Pilot.@@N@@
namespace Own
open Jvm Jvm.ClassFile Sem Op Lib Jvm.Free Jvm.Stand Jvm.LawKit Jvm.RoadKit
/-- the words of new String(char[]) of one char or more, and of a String constant's load -/
abbrev wordsN : List Jvm.Cond := StrChars.Road.words ++ [.initialized ST, .instantiable ST 4, .soleField ST "value", .soleField ST "coder"]
section KitN
variable {G : Gl} {X : Rn} {M : Bo} {vm : Vm} {T : State} {h : Heap} {C S : Nat} {Q : Option Value → Heap → Prop} {pc pc' : Nat} {Ls Ls' : Array Slot} {st : List Value}
theorem sAtomsN (hw : ∀ d ∈ wordsN, d.before G.a0 G.Z = true) : ∀ a ∈ Bundle.stringAtoms, a.before G.a0 G.Z = true := fun d hd => hw d ((by decide +kernel : ∀ d ∈ Bundle.stringAtoms, d ∈ wordsN) d hd)
theorem w1N (hw : ∀ d ∈ wordsN, d.before G.a0 G.Z = true) (d : Jvm.Cond) (hd : d ∈ wordsN := by decide +kernel) : d.before G.a0 G.Z = true := hw d hd
set_option maxRecDepth 65536 in
set_option maxHeartbeats 4000000 in
theorem payStrN (hw : ∀ d ∈ wordsN, d.before G.a0 G.Z = true) (W : Here G X M vm T h C S) {x b : Addr} {kC : ClassId} {v0 c0 dv : Value} {cs : List Int32} {z cz : Int32} (hx0 : G.n0 ≤ x) (sx : Safe G.Z G.EL vm h x) (E : Exa G.Z h x ST) (V : Fld G.Z h x ST "value" "[B" v0) (Cd : Fld G.Z h x ST "coder" "B" c0)
    (A : Arv G.Z h b kC .char z (cs.map Value.int) dv) (hne : cs ≠ []) (hz : z = Int32.ofNat cs.length) (hcs : ∀ c ∈ cs, ¬ c < 0 ∧ ¬ (255 : Int32) < c) (hl : cs.length ≤ 4000) (hS : Sta G.Z G.Z.heap ST "COMPACT_STRINGS" "Z" (.int cz)) (hcz : ¬ cz = 0) {len wd : Nat} (hf : 4 ≤ M.R.frames) (hlo : wd + 65 ≤ M.R.locals) :
    Pay G X M vm h StrChars.New1.yN len wd #[.ref x, .ref b] 1 cs.length (fun v h' => v = none ∧ Keep h h' [x] ∧ Str G.Z h' x cs) := by
  have hO := W.old
  subst hz
  cases cs with
  | nil => exact absurd rfl hne
  | cons c cs =>
    have B := StrChars.Road.backV (p := X.p) (l := G.l) (e := X.e) (R := M.R) (s := X.s.setVm vm) (args := X.args) (below := X.below) (len := len) (W := wd) (Z := G.Z) (a0 := G.a0) W.wz (fun d hd => hw d (List.mem_append_left _ hd)) (kI := 4) (w1N hw (.instantiable ST 4)) hx0 W.n0 E V Cd A (W.sta hS) hcz (n := (c :: cs).length) rfl rfl (by simp) hl hcs rfl hf hlo
    have P := payB (Q' := fun v h' => v = none ∧ Keep h h' [x] ∧ Str G.Z h' x (c :: cs)) B W (fun v h' L q => by
      obtain ⟨q1, q2, q3, q4, q5, t, kb, q6, q7, q8, q9, q10⟩ := q
      have ks : ∀ y ∈ [x], Safe G.Z G.EL vm h y := fun y hy => by cases List.mem_singleton.mp hy; exact sx
      exact ⟨⟨q1, q3, q4, q5, hcs, hl, t, kb, q9, q10⟩, q2, hO.keep q3 (fun y hy => by cases List.mem_singleton.mp hy; exact hx0), CHr.keep q3 ks W.ch⟩)
    exact P
end KitN
end Own
end Jvm.Pilot.@@N@@
namespace Jvm.Pilot.@@N@@
namespace Own
open Jvm Jvm.ClassFile Sem Op Lib Jvm.Free Jvm.Stand Jvm.LawKit Jvm.RoadKit
theorem payLen {G : Gl} {X : Rn} {M : Bo} {vm : Vm} {T : State} {h : Heap} {C S : Nat} {cs : List Int32} {x : Addr} {cz : Int32} (hwE : ∀ d ∈ StrChars.Road.wordsLen, d.before G.a0 G.Z = true) {kI : Nat} (wi : (Jvm.Cond.instantiable ST kI).before G.a0 G.Z = true) (W : Here G X M vm T h C S) (F : Str G.Z h x cs)
    (hS : Sta G.Z G.Z.heap ST "COMPACT_STRINGS" "Z" (.int cz)) (hcz : ¬ cz = 0) {len wd : Nat} (hf : 2 ≤ M.R.frames) (hlo : wd + 25 ≤ M.R.locals) :
    Pay G X M vm h ⟨"java/lang/String", "length", "()I"⟩ len wd #[.ref x] 0 0 (fun v h' => v = some (.int (Int32.ofNat cs.length)) ∧ h' = h) := by
  obtain ⟨h1, h2, h3, h4, b, kb, h5, h6⟩ := F
  exact payB (Qy := fun v h' L => v = some (.int (Int32.ofNat cs.length)) ∧ L = [] ∧ h' = h) (StrChars.Road.lenW (p := X.p) (l := G.l) (e := X.e) (R := M.R) (s := X.s.setVm vm) (args := X.args) (below := X.below) (len := len) (W := wd) W.wz hwE wi h1 h5 h2 h6 (codS h3) (wide16 h3) (W.sta hS) hcz h4 hf hlo) W (fun v h' L q => by
    obtain ⟨q1, rfl, q3⟩ := q
    subst q3
    exact ⟨⟨q1, rfl⟩, Fr.nil _, W.old, CHr.refl W.ch⟩)
end Own
end Jvm.Pilot.@@N@@
namespace Jvm.Pilot.@@N@@
namespace Own
open Jvm Jvm.ClassFile Sem Op Lib Jvm.Free Jvm.Stand Jvm.LawKit Jvm.RoadKit
theorem payEq {G : Gl} {X : Rn} {M : Bo} {vm : Vm} {T : State} {h : Heap} {C S : Nat} {cs ds : List Int32} {x y : Addr} {cz : Int32} (hwE : ∀ d ∈ StrChars.Road.wordsEq, d.before G.a0 G.Z = true) {kI : Nat} (wi : (Jvm.Cond.instantiable ST kI).before G.a0 G.Z = true) (W : Here G X M vm T h C S) (F : Str G.Z h x cs) (F' : Str G.Z h y ds)
    (hS : Sta G.Z G.Z.heap ST "COMPACT_STRINGS" "Z" (.int cz)) (hcz : ¬ cz = 0) {len wd : Nat} (hf : 2 ≤ M.R.frames) (hlo : wd + 28 ≤ M.R.locals) :
    Pay G X M vm h ⟨"java/lang/String", "equals", "(Ljava/lang/Object;)Z"⟩ len wd #[.ref x, .ref y] 0 0 (fun v h' => ((v = some (.int 1) ∧ cs = ds) ∨ (v = some (.int 0) ∧ ¬ cs = ds)) ∧ h' = h) := by
  obtain ⟨h1, h2, h3, h4, b, kb, h5, h6⟩ := F
  obtain ⟨g1, g2, g3, g4, b', kb', g5, g6⟩ := F'
  exact payB (Qy := fun v h' L => ((v = some (.int 1) ∧ cs = ds) ∨ (v = some (.int 0) ∧ ¬ cs = ds)) ∧ L = [] ∧ h' = h) (StrChars.Road.eqW (p := X.p) (l := G.l) (e := X.e) (R := M.R) (s := X.s.setVm vm) (args := X.args) (below := X.below) (len := len) (W := wd) W.wz hwE wi h1 h5 h2 h6 (codS h3) (wide16 h3) h4 g1 g5 g2 g6 (codS g3) (wide16 g3) g4 (W.sta hS) hcz hf hlo) W (fun v h' L q => by
    obtain ⟨q1, rfl, q3⟩ := q
    subst q3
    exact ⟨⟨q1, rfl⟩, Fr.nil _, W.old, CHr.refl W.ch⟩)
end Own
end Jvm.Pilot.@@N@@
namespace Jvm.Pilot.@@N@@
namespace Own
open Jvm Jvm.ClassFile Sem Op Lib Jvm.Free Jvm.Stand Jvm.LawKit Jvm.RoadKit
/-- a case's word 'the field of that object is this int', as a fact on the start's heap -/
theorem fldOf {s : State} {args : Array Value} {t : Term} {r : Addr} {cl n d : String} {k : Int32} (ev : t.eval args s none [] s = some (.ref r)) (m : (Jvm.Cond.eq (.field t cl n d) (.int k)).value args s none s [] = some true) : Fld s s.heap r cl n d (.int k) := by
  have e := Cond.eq_int (Cond.before_iff.mpr m) rfl
  rw [fld_at ev] at e
  exact Fld.start e
end Own
end Jvm.Pilot.@@N@@
namespace Jvm.Pilot.@@N@@
namespace Own
open Jvm Jvm.ClassFile Sem Op Lib Jvm.Free Jvm.Stand Jvm.LawKit Jvm.RoadKit
section Enum
variable {G : Gl} {X : Rn} {M : Bo} {vm : Vm} {T : State} {h : Heap} {C S : Nat} {Q : Option Value → Heap → Prop} {pc pc' : Nat} {Ls Ls' : Array Slot} {st : List Value}
theorem aaload (W : Here G X M vm T h C S) {a : Addr} {kA : ClassId} {ty : FieldType} {z j : Int32} {vs : List Value} {dv : Value} (A : Arv G.Z h a kA ty z vs dv) (hty : ty.isReference = true) (hj0 : ¬ j < 0 ∧ j < z) (v : Value) (hv : vs.getD j.toNatClampNeg dv = v) (hd : decode M.bytes pc = .ok (.aaload, 1)) (pc' : Nat) (hp : pc + 1 = pc') (k : Go G X M Q T pc' Ls (v :: st)) : Go G X M Q T pc Ls (.int j :: .ref a :: st) := by
  subst hp
  obtain ⟨F', k0, locs, cells, slots, X1, e1, hS, hk, hZ, hown, hCH, hF, O', c1, s1⟩ := id W
  obtain ⟨cl, A1, q, Sz, Nz, H, Gz⟩ := A
  exact Go.stp (fun t r => X1.aaload W.x (by rw [e1]; exact A1.1) (State.isArrayOf_alike (T := X.s.setVm vm) hZ.alike A1.2.1) hty A1.2.2 (inb_of Sz hj0) (H.at (inb_of Sz hj0) hv) (g := mkF X.m pc Ls (.int j :: .ref a :: st)) rfl rfl (W.d hd) t r) k
theorem cloneV (W : Here G X M vm T h C S) {ad : String} {idx : Nat} {a : Addr} {kA : ClassId} {ty : FieldType} {z : Int32} {vs : List Value} {dv : Value} (w1 : (Jvm.Cond.methodLink M.y.cls idx ⟨ad, "clone", "()Ljava/lang/Object;"⟩).before G.a0 G.Z = true) (w2 : (Jvm.Cond.sameMethod ad "java/lang/Object" "clone" "()Ljava/lang/Object;").before G.a0 G.Z = true) (w3 : (Jvm.Cond.native ⟨"java/lang/Object", "clone", "()Ljava/lang/Object;"⟩).before G.a0 G.Z = true)
    (w4 : (Jvm.Cond.instanceMethod ⟨"java/lang/Object", "clone", "()Ljava/lang/Object;"⟩).before G.a0 G.Z = true) (w5 : (Jvm.Cond.selects ad ⟨ad, "clone", "()Ljava/lang/Object;"⟩ ⟨"java/lang/Object", "clone", "()Ljava/lang/Object;"⟩).before G.a0 G.Z = true) (w6 : (Jvm.Cond.castable ad "java/lang/Cloneable").before G.a0 G.Z = true)
    (A : Arv G.Z h a kA ty z vs dv) (E : Exa G.Z h a ad) (hsz : Ls.size = M.maxL) (hd : decode M.bytes pc = .ok (.invokevirtual idx, 3)) (pc' : Nat) (hp : pc + 3 = pc') (hf : 1 ≤ M.R.frames) (hl : (st.map fun v => v.category).sum + 14 ≤ M.R.locals) (cap : Nat) (hcap : z.toNatClampNeg ≤ cap) (C' S' : Nat) (hc : C + 1 ≤ C') (hs : S + cap ≤ S') (hc' : C' ≤ M.R.cells) (hs' : S' ≤ M.R.slots)
    (k : ∀ (T' : State) (h' : Heap) (b : Addr), b = h.size → Here G X M vm T' h' C' S' → Ext h h' → Arv G.Z h' b kA ty z vs dv → Exa G.Z h' b ad → Go G X M Q T' pc' Ls (.ref b :: st)) : Go G X M Q T pc Ls (.ref a :: st) := by
  subst hp
  obtain ⟨F', k0, locs, cells, slots, X1, e1, hS, hk, hZ, hown, hCH, hF, O', c1, s1⟩ := id W
  obtain ⟨T', h', X', e', E', A', Ex', st'⟩ := RoadKit.cloneH X1 W.x hZ hown w1 w2 w3 w4 w5 w6 e1 A.arh E (g := mkF X.m pc Ls (.ref a :: st)) rfl (hsz.trans F'.2.2.1.symm) rfl (W.d hd) hf (W := (st.map fun v => v.category).sum) (cap := cap) (by show 2 * 0 + _ ≤ _; omega) hl hcap (by omega) (by omega)
  exact Go.stp (fun t r => st' t r) (k T' h' h.size rfl (Here.ext W hS hk hown hCH hF X' e' E' (by omega) (by omega)) E' A' Ex')
end Enum
/-! ### a case's words on its start: arrays and Strings -/
section Start
variable {s : State} {args : Array Value} {t : Term} {r : Addr}
theorem eqRef {a b : Term} {r : Addr} (m : (Jvm.Cond.eq a b).value args s none s [] = some true) (ev : b.eval args s none [] s = some (.ref r)) : a.eval args s none [] s = some (.ref r) := by
  simp only [Cond.value, ev] at m
  cases ha : a.eval args s none [] s with
  | none => simp [ha] at m
  | some x => cases x <;> simp [ha] at m ⊢ <;> exact m
theorem eqI {a : Term} {k : Int32} (m : (Jvm.Cond.eq a (.int k)).value args s none s [] = some true) : a.eval args s none [] s = some (.int k) := Cond.eq_int (Cond.before_iff.mpr m) rfl
theorem hasL_of {cl : Cell} : ∀ (vs : List Value) (i : Nat), (∀ j (hj : j < vs.length), cl.slots[i + j]? = some vs[j]) → HasL cl i vs
  | [], _, _ => trivial
  | v :: vs, i, q => ⟨q 0 (by simp), hasL_of vs (i + 1) fun j hj => by
      have z := q (j + 1) (by simp; omega)
      rw [show i + 1 + j = i + (j + 1) from by omega]
      simpa using z⟩
theorem arvStart (hf : Fit s) {ty : FieldType} {z : Int32} {vs : List Value} {dv : Value} (ev : t.eval args s none [] s = some (.ref r)) (ha : (Jvm.Cond.arrayOf t ty).value args s none s [] = some true) (hl : (Jvm.Cond.eq (.length t) (.int z)).value args s none s [] = some true) (hz : ¬ z < 0) (hn : z.toNatClampNeg = vs.length)
    (hel : ∀ i (hi : i < vs.length), (Term.elem t (.int (Int32.ofNat i))).eval args s none [] s = some vs[i]) : ∃ k, Arv s s.heap r k ty z vs dv := by
  obtain ⟨cl, A⟩ := Arr.start ev ha
  have e := eqI hl
  obtain ⟨sd, SA, hev, harrAt, -⟩ := Term.length_spec e
  have h31 := SBG.length_lt hev harrAt e
  cases ev.symm.trans hev
  have hcl : SA = cl := by
    have q := Arr.fin (U := s) (Vm.Alike.refl _) A
    exact Option.some.inj (harrAt.symm.trans q)
  subst hcl
  have e2 := len_f (o := none) (idx := []) ev harrAt h31
  have ez : SA.slots.size.toInt32 = z := by
    have q := e2.symm.trans e
    simpa using q
  refine ⟨SA.cls, Arv.start hf A h31 ez hz hn (hasL_of vs 0 fun j hj => ?_)⟩
  have q := elem_in (hel j hj) ev rfl A.1
  have z2 := q.2
  rw [show (Int32.ofNat j).toNatClampNeg = j from by
    have := Int32.toInt_ofNat_small (n := j) (by have := back32 hz; omega)
    simp [Int32.toNatClampNeg, this]] at z2
  rw [Nat.zero_add]; exact z2
end Start
end Own
end Jvm.Pilot.@@N@@
namespace Jvm.Pilot.@@N@@
namespace Own
open Jvm Jvm.ClassFile Sem Op Lib Jvm.Free Jvm.Stand Jvm.LawKit Jvm.RoadKit
section L
variable {G : Gl} {X : Rn} {M : Bo} {vm : Vm} {T : State} {h : Heap} {C S : Nat} {Q : Option Value → Heap → Prop} {pc pc' : Nat} {Ls Ls' : Array Slot} {st : List Value}
theorem dupX1 (W : Here G X M vm T h C S) {x y : Value} (hd : decode M.bytes pc = .ok (.dup_x1, 1)) (pc' : Nat) (hp : pc + 1 = pc') (hc : x.category = 1) (hc' : y.category = 1) (k : Go G X M Q T pc' Ls (x :: y :: x :: st)) : Go G X M Q T pc Ls (x :: y :: st) := by
  subst hp; exact Go.stp (fun t r => XT.dupX1 W.at W.x rfl (W.d hd) rfl hc hc' r) k
theorem newR (W : Here G X M vm T h C S) {C0 ad : String} {idx : Nat} {n : Int32} (w1 : (Jvm.Cond.classLink M.y.cls idx C0).before G.a0 G.Z = true) (w2 : (Jvm.Cond.arrayOver (.object C0)).before G.a0 G.Z = true) (had : "[" ++ (FieldType.object C0).toString = ad) (hd : decode M.bytes pc = .ok (.anewarray idx, 3)) (pc' : Nat) (hp : pc + 3 = pc') (hn : ¬ n < 0) (cap : Nat) (hcap : n.toNatClampNeg ≤ cap) (hb : cap * 8 ≤ 536870912) (C' S' : Nat) (hc : C + 1 ≤ C') (hs : S + cap ≤ S') (hc' : C' ≤ M.R.cells) (hs' : S' ≤ M.R.slots)
    (k : ∀ (T' : State) (h' : Heap) (a : Addr) (kA : ClassId), a = h.size → Here G X M vm T' h' C' S' → Ext h h' → Arv G.Z h' a kA (.object C0) n (List.replicate cap .null) .null → Exa G.Z h' a ad → Ovr G.Z kA C0 → Safe G.Z G.EL vm h' a → (∀ y, Safe G.Z G.EL vm h y → Safe G.Z G.EL vm h' y) → Go G X M Q T' pc' Ls (.ref a :: st)) : Go G X M Q T pc Ls (.int n :: st) := by
  subst hp
  obtain ⟨F, k0, locs, cells, slots, X1, e1, hS, hk, hZ, hown, hCH, hF, O, c1, s1⟩ := id W
  obtain ⟨T', h', kA, X', e', E, A, Ex, Ov, st'⟩ := RoadKit.newRE X1 W.x hZ hown w1 w2 e1 (g := mkF X.m pc Ls (.int n :: st)) rfl (W.d hd) rfl hn hcap hb (by omega) (by omega) had
  exact Go.stp (fun t r => st' t r) (k T' h' h.size kA rfl (Here.ext W hS hk hown hCH hF X' e' E (by omega) (by omega)) E ((Arv.new A hn).pad (pad_rep [] _ cap)) Ex Ov (Safe.ext E hCH.1 (Safe.new (Nat.le_refl _))) (fun y q => Safe.ext E hCH.1 q))
theorem aastore (W : Here G X M vm T h C S) {a : Addr} {kA : ClassId} {C0 : String} {z j : Int32} {vs : List Value} {dv : Value} {y : Addr} (A : Arv G.Z h a kA (.object C0) z vs dv) (O : Ovr G.Z kA C0) (I : Ins G.Z h y C0 true) (i : Nat) (hj : j.toNatClampNeg = i) (hj0 : ¬ j < 0 ∧ j < z) (hi : i < vs.length) (ha : G.n0 ≤ a) (hd : decode M.bytes pc = .ok (.aastore, 1)) (pc' : Nat) (hp : pc + 1 = pc')
    (k : ∀ (T' : State) (h' : Heap), Here G X M vm T' h' C S → Wr h h' a i (.ref y) → Arv G.Z h' a kA (.object C0) z (vs.set i (.ref y)) dv → (∀ y, Safe G.Z G.EL vm h y → Safe G.Z G.EL vm h' y) → Go G X M Q T' pc' Ls st) : Go G X M Q T pc Ls (.ref y :: .int j :: .ref a :: st) := by
  subst hp hj
  obtain ⟨F', k0, locs, cells, slots, X1, e1, hS, hk, hZ, hown, hCH, hF, O', c1, s1⟩ := id W
  have sf : Safe G.Z G.EL vm h a := Safe.arv hZ.alike A (fun q => by cases q)
  obtain ⟨cl, A1, q, Sz, Nz, H, Gz⟩ := A
  obtain ⟨T', h', X', e', Wq, st'⟩ := RoadKit.stR X1 W.x hZ e1 A1 (j := j) (inb_of Sz hj0) rfl (Sto.ofV A1 q O I) (g := mkF X.m pc Ls (.ref y :: .int j :: .ref a :: st)) rfl rfl (W.d hd)
  exact Go.stp (fun t r => st' t r) (k T' h' (Here.wr W hS hk hown hCH hF ha sf X' e' Wq c1 s1) Wq (Arv.set A1 q Sz Nz H Gz rfl Wq _ rfl hi) (fun y q => Safe.wr Wq sf hCH.1 q))
theorem priv_warm {Z U : State} {a0 a1 : Array Value} {y : MethodName} (hZ : Z.Warmed39 U.vm) (h : (Jvm.Cond.privateMethod y).before a0 Z = true) : (Jvm.Cond.privateMethod y).before a1 U = true := by
  have hal := hZ.alike
  have e1 : U.methodNamed? y = Z.methodNamed? y := by rw [State.methodNamed?_of_vm (show U.vm = (Z.setVm U.vm).vm from rfl), State.methodNamed?_setVm hal]
  have e2 : U.vm.method? = Z.vm.method? := funext hal.method?
  simp only [Cond.before, Cond.holds, Cond.value] at h ⊢
  rw [e1, e2]; exact h
theorem callP (W : Here G X M vm T h C S) {y : MethodName} {idx : Nat} {cl : String} {bytes : ByteArray} {maxL : Nat} {ret : Option FieldType} (w1 : (Jvm.Cond.methodLink M.y.cls idx y).before G.a0 G.Z = true) (w2 : (Jvm.Cond.instanceMethod y).before G.a0 G.Z = true) (w3 : (Jvm.Cond.selects y.cls y y).before G.a0 G.Z = true) (w4 : (Jvm.Cond.privateMethod y).before G.a0 G.Z = true) (w5 : (Jvm.Cond.code y bytes maxL ret).before G.a0 G.Z = true)
    (hy : y.cls ≠ "java/lang/invoke/MethodHandle" ∧ y.cls ≠ "java/lang/invoke/VarHandle") {wd kc ks : Nat} {a : Addr} {argsL rest : List Value} {Qy : Option Value → Heap → Prop} (P : Pay G X M vm h y 3 wd (.ref a :: argsL).toArray kc ks Qy) (E : Exa G.Z h a cl) (hsz : Ls.size = M.maxL) (hlen : ∀ sig, parseMethodDescriptor y.desc = some sig → argsL.length = sig.parameters.length)
    (hstk : st = argsL.reverse ++ .ref a :: rest) (hwd : (rest.map fun v => v.category).sum ≤ wd) (hd : decode M.bytes pc = .ok (.invokevirtual idx, 3)) (pc' : Nat) (hp : pc + 3 = pc') (C' S' : Nat) (hc : C + kc ≤ C') (hs : S + ks ≤ S') (hc' : C' ≤ M.R.cells) (hs' : S' ≤ M.R.slots)
    (k : ∀ (vm' : Vm) (T' : State) (h' : Heap) (v : Option Value), Here G X M vm' T' h' C' S' → CHr G.Z G.EL vm h vm' h' → Qy v h' → Go G X M Q T' pc' Ls (v.toList ++ rest)) : Go G X M Q T pc Ls st := by
  subst hp hstk
  obtain ⟨F, k0, locs, cells, slots, X1, e1, hS, hk, hZ, hown, hCH, hF, O, c1, s1⟩ := id W
  obtain ⟨cell, qa, qb⟩ := (Ins.self E).cell
  subst e1
  obtain ⟨v, vm₁, B, -, X', h2, hg, ⟨L, hq⟩, st'⟩ := X1.privateBackS W.x (y := y) hown (mv (s := X.s.setVm vm) hZ w1) (mv (s := X.s.setVm vm) hZ w2) (mv (s := X.s.setVm vm) hZ w3) (Cond.privateMethod_at (priv_warm (a1 := X.args) (U := X.s.setVm vm) hZ w4)) (mv (s := X.s.setVm vm) hZ w5) hy P (g := mkF X.m pc Ls (argsL.reverse ++ .ref a :: rest)) rfl (hsz.trans F.2.2.1.symm) (Steps.refl _) qa qb (argsL := argsL) (rest := rest) hlen rfl (by show 2 * 0 + _ ≤ _; omega) (W.d hd) (fun _ _ => ⟨rfl, rfl, by show cells + kc ≤ _; omega, by show slots + ks ≤ _; omega⟩)
  exact Go.stp (fun t r => st'.trans r) (k B.U.vm B.U B.U.heap v (Here.call W hc hs hS hk hown hCH hF c1 s1 X' h2 hg hq) hq.2.2.2.2 hq.1.1)
end L
abbrev ALN : String := "java/util/ArrayList"
/-- an ArrayList of n things in the array e -/
def AL (Z : State) (h : Heap) (a : Addr) (n : Int32) (e : Addr) : Prop := Exa Z h a ALN ∧ (∃ m : Int32, Fld Z h a "java/util/AbstractList" "modCount" "I" (.int m)) ∧ Fld Z h a ALN "size" "I" (.int n) ∧ Fld Z h a ALN "elementData" "[Ljava/lang/Object;" (.ref e)
theorem AL.ext {Z : State} {h h' : Heap} {a : Addr} {n : Int32} {e : Addr} (F : AL Z h a n e) (E : Ext h h') : AL Z h' a n e := by
  obtain ⟨q1, ⟨m, q2⟩, q3, q4⟩ := F
  exact ⟨q1.ext E, ⟨m, q2.ext E⟩, q3.ext E, q4.ext E⟩
theorem AL.lt {Z : State} {h : Heap} {a : Addr} {n : Int32} {e : Addr} (F : AL Z h a n e) : a < h.size := F.1.lt
theorem AL.exa {Z : State} {h : Heap} {a : Addr} {n : Int32} {e : Addr} (F : AL Z h a n e) : Exa Z h a ALN := F.1
theorem AL.keep {Z : State} {h h' : Heap} {a : Addr} {n : Int32} {e : Addr} {ws : List Addr} (F : AL Z h a n e) (K : Keep h h' ws) (q : a ∉ ws) : AL Z h' a n e := by
  obtain ⟨q1, ⟨m, q2⟩, q3, q4⟩ := F
  exact ⟨q1.keep K, ⟨m, q2.keep K q⟩, q3.keep K q, q4.keep K q⟩
theorem AL.other {Z : State} {h h' : Heap} {a b : Addr} {n : Int32} {e : Addr} {sl : Nat} {v : Value} (F : AL Z h b n e) (W : Wr h h' a sl v) (q : b ≠ a) : AL Z h' b n e := by
  obtain ⟨q1, ⟨m, q2⟩, q3, q4⟩ := F
  exact ⟨q1.wr W, ⟨m, q2.other W (Or.inl q)⟩, q3.other W (Or.inl q), q4.other W (Or.inl q)⟩
end Own
end Jvm.Pilot.@@N@@
namespace Jvm.Pilot.@@N@@
namespace Own
open Jvm Jvm.ClassFile Sem Op Lib Bundle Jvm.Free Jvm.Stand Jvm.LawKit Jvm.RoadKit Jvm.Free.SB Jvm.Free.SBG
/-- no entry of EL names a text of n signs -/
def EN (Z : State) (a0 : Array Value) (EL : List (String × Nat)) (n : Nat) : Prop := ∀ p ∈ EL, ∃ text : String, (Cond.stringLink p.1 p.2 text).before a0 Z = true ∧ (∀ c ∈ text.toList, c.toNat < 256) ∧ text.toList.length ≠ n
theorem EN.nil {Z : State} {a0 : Array Value} {n : Nat} : EN Z a0 [] n := fun _ hp => by cases hp
theorem EN.cons {Z : State} {a0 : Array Value} {EL : List (String × Nat)} {n : Nat} {own text : String} {index : Nat} (w : (Cond.stringLink own index text).before a0 Z = true) (ht : ∀ c ∈ text.toList, c.toNat < 256) (hn : text.toList.length ≠ n) (E : EN Z a0 EL n) : EN Z a0 ((own, index) :: EL) n := fun p hp => by
  rcases List.mem_cons.mp hp with rfl | hp
  · exact ⟨text, w, ht, hn⟩
  · exact E p hp
/-- a byte[] as long as no constant's is none of theirs -/
theorem Safe.len {Z : State} {a0 : Array Value} {EL : List (String × Nat)} {vm : Vm} {h : Heap} {x : Addr} {k : ClassId} {z : Int32} {vs : List Value} {dv : Value} {n : Nat} (hW : Z.Warmed39 vm) (hEN : EN Z a0 EL n) (A : Arv Z h x k .byte z vs dv) (hz : z.toNatClampNeg = n) : Safe Z EL vm h x := fun B => by
  have hal : Z.vm.Alike vm := hW.alike
  obtain ⟨p, hp, u, a, hb, q, -, F, hy⟩ := B
  obtain ⟨cl, A0, -, Sz, -⟩ := A
  obtain ⟨A1, ⟨-, kA, hkA, compA, hkindA⟩, -⟩ := A0
  obtain ⟨kA', hkA', ekA⟩ := hal.2.2 _ _ hkA
  rcases hy with rfl | rfl
  · cases (show h[q.sa]? = some q.sC from F.ha).symm.trans A1
    obtain ⟨cS, ⟨-, -, e⟩, ⟨kS, g1, g2, -⟩, -⟩ := F
    subst e
    cases (show vm.classes[q.sC.cls]? = some kS from g1).symm.trans hkA'
    rw [ekA] at g2
    have := hkindA.symm.trans g2
    cases this
  · cases (show h[q.sd]? = some q.SA from F.hd).symm.trans A1
    obtain ⟨cS, -, -, -, hsl⟩ := F
    obtain ⟨text, w, ht, hn⟩ := hEN p hp
    obtain ⟨c, k1, cf, i, b1, b2, b3, b4, b5, -⟩ := hb
    have w2 : (Cond.stringLink p.1 p.2 text).before a0 (Wst Z vm h) = true := mvS (s := { Z with heap := h }) hW w
    obtain ⟨k2, cf2, i2, u2, d1, d2, d3, d4, -, d6, -⟩ := Cond.stringLink_spec (s := Wst Z vm h) b1 w2
    cases b2.symm.trans (show vm.classes[c]? = some k2 from d1)
    cases b3.symm.trans d2
    cases b4.symm.trans d3
    cases b5.symm.trans d4
    have hl := lat_of_text d6 ht
    have hu := units_of_text d6 ht
    have e1 : (stringBytes u).size = u.size := by unfold stringBytes; rw [if_pos hl]; simp
    have e2 : u.size = text.toList.length := by rw [← Array.length_toList, hu, List.length_map]
    rw [hsl, e1, e2, hz] at Sz
    exact hn Sz
end Own
end Jvm.Pilot.@@N@@
namespace Jvm.Pilot.@@N@@
namespace Own
open Jvm Jvm.ClassFile Sem Op Lib Jvm.Free Jvm.Stand Jvm.LawKit Jvm.RoadKit
abbrev SBN : String := "java/lang/StringBuilder"
abbrev ASB : String := "java/lang/AbstractStringBuilder"
/-- the bytes of chars -/
abbrev bs (cs : List Int32) : List Value := (cs.map fun c => c.toInt8.toInt32).map Value.int
theorem bs_len (cs : List Int32) : (bs cs).length = cs.length := by simp [bs]
theorem bs_app (cs ds : List Int32) : bs (cs ++ ds) = bs cs ++ bs ds := by simp [bs]
theorem shr0 (x : Int32) : x >>> ((0 : Int32) &&& 31) = x := by
  rw [show ((0 : Int32) &&& 31) = 0 by decide]; exact Int32.toBitVec_inj.mp (by simp)
theorem shl0 (x : Int32) : x <<< ((0 : Int32) &&& 31) = x := by
  rw [show ((0 : Int32) &&& 31) = 0 by decide]; exact Int32.toBitVec_inj.mp (by simp)
theorem clampN {n : Nat} (h : n ≤ 4000) : (Int32.ofNat n).toNatClampNeg = n := by
  have e : (Int32.ofNat n).toNatClampNeg = (Int32.ofNat n).toInt.toNat := rfl
  rw [e, Int32.toInt_ofNat_of_lt (by omega)]; omega
theorem natI {n : Nat} (h : n ≤ 100000) : (Int32.ofNat n).toInt = n := Int32.toInt_ofNat_of_lt (by omega)
theorem nonneg {n : Nat} (h : n ≤ 4000) : ¬ Int32.ofNat n < 0 := by
  rw [Int32.lt_iff_toInt_lt, natI (by omega), show (0 : Int32).toInt = 0 by decide]; omega
theorem capOK {a b c : Nat} (h : a + b ≤ c) (hc : c ≤ 4000) : ¬ (0 : Int32) < Int32.ofNat a + Int32.ofNat b - Int32.ofNat c := by
  rw [Int32.lt_iff_toInt_lt, ← Int32.ofNat_add]
  have h1 := c_isub (Int32.ofNat (a + b)) (Int32.ofNat c)
  have h2 := Int32.toInt_lt (Int32.ofNat (a + b) - Int32.ofNat c)
  have h3 := Int32.le_toInt (Int32.ofNat (a + b) - Int32.ofNat c)
  rw [natI (by omega), natI (by omega)] at h1
  rw [show (0 : Int32).toInt = 0 by decide]
  omega
theorem rangeGet {vs : List Value} {n : Nat} (dv : Value) (hn : n = vs.length) (k : Nat) (hk : k = 0) : vs = (List.range n).map fun i => vs.getD (k + i) dv := by
  subst hn hk
  apply List.ext_getElem (by simp)
  intro i h1 h2
  simp [List.getD_eq_getElem?_getD, h1]
theorem Arv.cong {Z : State} {h : Heap} {a : Addr} {k : ClassId} {ty : FieldType} {z : Int32} {vs vs' : List Value} {dv : Value} (F : Arv Z h a k ty z vs dv) (q : ∀ i, i < z.toNatClampNeg → vs'.getD i dv = vs.getD i dv) : Arv Z h a k ty z vs' dv := by
  obtain ⟨c, A, r1, r2, r3, H, G⟩ := F
  exact ⟨c, A, r1, r2, r3, fun i hi => by rw [q i (by omega)]; exact H i hi, fun i hi => by rw [q i (by omega)]; exact G i hi⟩
/-- a StringBuilder of Latin-1 chars ts in the array b of cap bytes -/
def SBd (Z : State) (h : Heap) (sb b : Addr) (cap : Nat) (ts : List Int32) : Prop := Exa Z h sb SBN ∧ Fld Z h sb ASB "value" "[B" (.ref b) ∧ Fld Z h sb ASB "coder" "B" (.int 0) ∧ Fld Z h sb ASB "count" "I" (.int (Int32.ofNat ts.length)) ∧ (∀ c ∈ ts, ¬ c < 0 ∧ ¬ (255 : Int32) < c) ∧ ts.length ≤ cap ∧ cap ≤ 4000 ∧
  ∃ (kb : ClassId) (junk : List Value), Arv Z h b kb .byte (Int32.ofNat cap) (bs ts ++ junk) (.int 0) ∧ (bs ts ++ junk).length = cap
theorem SBd.ext {Z : State} {h h' : Heap} {sb b : Addr} {cap : Nat} {ts : List Int32} (F : SBd Z h sb b cap ts) (E : Ext h h') : SBd Z h' sb b cap ts := by
  obtain ⟨h1, h2, h3, h4, h5, h6, h7, kb, j, h8, h9⟩ := F
  exact ⟨h1.ext E, h2.ext E, h3.ext E, h4.ext E, h5, h6, h7, kb, j, h8.ext E, h9⟩
theorem SBd.other {Z : State} {h h' : Heap} {a sb b : Addr} {cap : Nat} {ts : List Int32} {sl : Nat} {v : Value} (F : SBd Z h sb b cap ts) (W : Wr h h' a sl v) (q : sb ≠ a) (qb : b ≠ a) : SBd Z h' sb b cap ts := by
  obtain ⟨h1, h2, h3, h4, h5, h6, h7, kb, j, h8, h9⟩ := F
  exact ⟨h1.wr W, h2.other W (Or.inl q), h3.other W (Or.inl q), h4.other W (Or.inl q), h5, h6, h7, kb, j, h8.other W qb, h9⟩
theorem SBd.lt {Z : State} {h : Heap} {sb b : Addr} {cap : Nat} {ts : List Int32} (F : SBd Z h sb b cap ts) : sb < h.size := F.1.lt
theorem SBd.exa {Z : State} {h : Heap} {sb b : Addr} {cap : Nat} {ts : List Int32} (F : SBd Z h sb b cap ts) : Exa Z h sb SBN := F.1
theorem SBd.ltb {Z : State} {h : Heap} {sb b : Addr} {cap : Nat} {ts : List Int32} (F : SBd Z h sb b cap ts) : b < h.size := by
  obtain ⟨h1, h2, h3, h4, h5, h6, h7, kb, j, h8, h9⟩ := F; exact h8.lt
section SB
variable {G : Gl} {X : Rn} {M : Bo} {vm : Vm} {T : State} {h : Heap} {C S : Nat} {Q : Option Value → Heap → Prop} {pc pc' : Nat} {Ls Ls' : Array Slot} {st : List Value}
theorem acopy (W : Here G X M vm T h C S) {idx : Nat} {a b : Addr} {k k' : ClassId} {z z' sp dp nn : Int32} {vs vd us : List Value} {dv dd : Value} (w1 : (Jvm.Cond.methodLink M.y.cls idx Jvm.Stand.acN).before G.a0 G.Z = true) (w2 : (Jvm.Cond.native Jvm.Stand.acN).before G.a0 G.Z = true) (w3 : (Jvm.Cond.static Jvm.Stand.acN).before G.a0 G.Z = true) (w4 : (Jvm.Cond.initialized "java/lang/System").before G.a0 G.Z = true)
    (A : Arv G.Z h a k .byte z vs dv) (B : Arv G.Z h b k' .byte z' vd dd) (h1 : ¬ sp < 0) (h2 : ¬ dp < 0) (h3 : ¬ nn < 0) (h4 : sp.toNatClampNeg + nn.toNatClampNeg ≤ z.toNatClampNeg) (h5 : dp.toNatClampNeg + nn.toNatClampNeg ≤ z'.toNatClampNeg)
    (hus : us = (List.range nn.toNatClampNeg).map fun i => vs.getD (sp.toNatClampNeg + i) dv) (hl : dp.toNatClampNeg + nn.toNatClampNeg ≤ vd.length) (ge : G.n0 ≤ b) (sf : Safe G.Z G.EL vm h b) (hsz : Ls.size = M.maxL)
    (hd : decode M.bytes pc = .ok (.invokestatic idx, 3)) (pc' : Nat) (hp : pc + 3 = pc') (hf : 1 ≤ M.R.frames) (hlo : (st.map fun v => v.category).sum + 18 ≤ M.R.locals)
    (kk : ∀ (T' : State) (h' : Heap), Here G X M vm T' h' C S → CHr G.Z G.EL vm h vm h' → Keep h h' [b] → Arv G.Z h' b k' .byte z' (vd.take dp.toNatClampNeg ++ us ++ vd.drop (dp.toNatClampNeg + nn.toNatClampNeg)) dd → Go G X M Q T' pc' Ls st) : Go G X M Q T pc Ls (.int nn :: .int dp :: .ref b :: .int sp :: .ref a :: st) := by
  subst hp
  obtain ⟨F, k0, locs, cells, slots, X1, e1, hS, hk, hZ, hown, hCH, hF, O, c1, s1⟩ := id W
  obtain ⟨T', h', L, X', e', N', K, A', st'⟩ := RoadKit.cpA X1 W.x hZ hown w1 w2 w3 w4 e1 A B (Or.inl ⟨rfl, rfl⟩) h1 h2 h3 h4 h5 hus hl hF ge (g := mkF X.m pc Ls (.int nn :: .int dp :: .ref b :: .int sp :: .ref a :: st)) rfl (hsz.trans F.2.2.1.symm) rfl (W.d hd) hf (W := (st.map fun v => v.category).sum) (by show 2 * 0 + _ ≤ _; omega) (by
    rw [show nativeFrameWords "java/lang/System" "arraycopy" 5 + 11 = 18 by decide]; exact hlo)
  have ks : ∀ y ∈ [b], Safe G.Z G.EL vm h y := fun y hy => by cases List.mem_singleton.mp hy; exact sf
  have R := CHr.keep K ks hCH.1
  exact Go.stp (fun t r => st' t r) (kk T' h' ⟨W.1, k0, L, cells, slots, X', e', hS, Nat.le_trans hk K.1, W.wz, hown, hCH.trans R, N', O.keep K (fun y hy => by cases List.mem_singleton.mp hy; exact ge), c1, s1⟩ R K A')
theorem declares_of {Z : State} {a0 : Array Value} {y : MethodName} {bytes : ByteArray} {maxL : Nat} {ret : Option FieldType} (w1 : (Jvm.Cond.instanceMethod y).before a0 Z = true) (w2 : (Jvm.Cond.code y bytes maxL ret).before a0 Z = true) : (Jvm.Cond.declares y).before a0 Z = true := by
  obtain ⟨m, meth, h1, h2, h3, h4⟩ := Cond.instanceMethod_spec w1
  obtain ⟨meth', c, g1, -, -, -, -, -, -, g2⟩ := Cond.code_spec h1 w2
  cases h2.symm.trans g1
  simp [Cond.before, Cond.holds, Cond.value, h1, h2, h3, g2]
theorem same_of {Z : State} {a0 : Array Value} {y y' : MethodName} {K : String} (w1 : (Jvm.Cond.declares y).before a0 Z = true) (w2 : (Jvm.Cond.selects K y' y').before a0 Z = true) (hc : y'.cls = y.cls) (hy : y.cls ≠ "java/lang/invoke/MethodHandle" ∧ y.cls ≠ "java/lang/invoke/VarHandle") : (Jvm.Cond.sameMethod y.cls y.cls y.name y.desc).before a0 Z = true := by
  obtain ⟨m, meth, h1, h2, h3, h4⟩ := Cond.declares_spec w1
  obtain ⟨c2, r2, m2, q1, q2, q3, q4, kP, hkP, hkPi⟩ := Cond.selects_spec w2
  have f1 := findClass_of_methodNamed h1
  have f2 := findClass_of_methodNamed q3
  rw [hc] at f2
  have e := Option.some.inj (f1.symm.trans f2)
  have hf := State.methodFound?_of_named h1 hy
  have h1' : Z.methodNamed? ⟨y.cls, y.name, y.desc⟩ = some m := h1
  simp [Cond.before, Cond.holds, Cond.value, f1, hf, h1', e, hkP, hkPi]
/-- super.m(..): y is declared by the superclass -/
theorem callU (W : Here G X M vm T h C S) {y y' : MethodName} {K' : String} {idx : Nat} {cl : String} {bytes : ByteArray} {maxL : Nat} {ret : Option FieldType} (w1 : (Jvm.Cond.methodLink M.y.cls idx y).before G.a0 G.Z = true) (w2 : (Jvm.Cond.declares y).before G.a0 G.Z = true) (w3 : (Jvm.Cond.selects K' y' y').before G.a0 G.Z = true) (hc0 : y'.cls = y.cls) (w4 : (Jvm.Cond.instanceMethod y).before G.a0 G.Z = true) (w5 : (Jvm.Cond.superclass M.y.cls y.cls).before G.a0 G.Z = true) (w6 : (Jvm.Cond.code y bytes maxL ret).before G.a0 G.Z = true) (hn : y.name ≠ "<init>")
    (hy : y.cls ≠ "java/lang/invoke/MethodHandle" ∧ y.cls ≠ "java/lang/invoke/VarHandle") {wd kc ks : Nat} {a : Addr} {argsL rest : List Value} {Qy : Option Value → Heap → Prop} (P : Pay G X M vm h y 3 wd (.ref a :: argsL).toArray kc ks Qy) (E : Exa G.Z h a cl) (hsz : Ls.size = M.maxL) (hlen : ∀ sig, parseMethodDescriptor y.desc = some sig → argsL.length = sig.parameters.length)
    (hstk : st = argsL.reverse ++ .ref a :: rest) (hwd : (rest.map fun v => v.category).sum ≤ wd) (hd : decode M.bytes pc = .ok (.invokespecial idx, 3)) (pc' : Nat) (hp : pc + 3 = pc') (C' S' : Nat) (hc : C + kc ≤ C') (hs : S + ks ≤ S') (hc' : C' ≤ M.R.cells) (hs' : S' ≤ M.R.slots)
    (k : ∀ (vm' : Vm) (T' : State) (h' : Heap) (v : Option Value), Here G X M vm' T' h' C' S' → CHr G.Z G.EL vm h vm' h' → Qy v h' → Go G X M Q T' pc' Ls (v.toList ++ rest)) : Go G X M Q T pc Ls st := by
  subst hp hstk
  obtain ⟨F, k0, locs, cells, slots, X1, e1, hS, hk, hZ, hown, hCH, hF, O, c1, s1⟩ := id W
  subst e1
  obtain ⟨v, vm₁, B, -, X', h2, hg, ⟨L, hq⟩, st'⟩ := RoadKit.superBackS X1 W.x (Z := G.Z) (a0 := G.a0) hZ (y := y) hown w1 (same_of w2 w3 hc0 hy) w4 w5 hn P rfl (Ins.self E) (g := mkF X.m pc Ls (argsL.reverse ++ .ref a :: rest)) rfl (hsz.trans F.2.2.1.symm) w6 (argsL := argsL) (rest := rest) hlen rfl (by show 2 * 0 + _ ≤ _; omega) (W.d hd) (fun _ _ => ⟨rfl, rfl, by show cells + kc ≤ _; omega, by show slots + ks ≤ _; omega⟩)
  exact Go.stp (fun t r => st'.trans r) (k B.U.vm B.U B.U.heap v (Here.call W hc hs hS hk hown hCH hF c1 s1 X' h2 hg hq) hq.2.2.2.2 hq.1.1)
end SB
theorem notFace_via {args : Array Value} {s : State} {K : String} {y y' : MethodName} (hsel : (Jvm.Cond.selects K y' y').before args s = true) (hc : y'.cls = y.cls) : NotFace s y := fun r0 h0 => by
  obtain ⟨c2, r2, m2, q1, q2, q3, q4, kP, hkP, hkPi⟩ := Cond.selects_spec hsel
  have f1 := findClass_of_methodNamed h0
  have f2 := findClass_of_methodNamed q3
  rw [hc] at f2
  have e := Option.some.inj (f1.symm.trans f2)
  exact ⟨kP, by rw [e]; exact hkP, hkPi⟩
theorem rangePre {ts : List Int32} {junk : List Value} (dv : Value) {n : Nat} (hn : n = ts.length) (k : Nat) (hk : k = 0) : bs ts = (List.range n).map fun i => (bs ts ++ junk).getD (k + i) dv := by
  subst hn hk
  apply List.ext_getElem (by simp [bs])
  intro i h1 h2
  rw [bs_len] at h1
  simp [List.getD_eq_getElem?_getD, List.getElem?_append, h1]
theorem cp_new {ts : List Int32} {vd : List Value} {n : Nat} (hn : n = ts.length) (d : Nat) (hd : d = 0) : ∀ i, i < n → (bs ts).getD i (Value.int 0) = (vd.take d ++ bs ts ++ vd.drop (d + n)).getD i (Value.int 0) := by
  subst hn hd
  intro i hi
  simp [List.getD_eq_getElem?_getD, List.getElem?_append, hi]
theorem ne_cap {a b : Nat} (h : a < b) (hb : b ≤ 4000) : ¬ Int32.ofNat a = Int32.ofNat b := fun q => by
  have := congrArg Int32.toInt q
  rw [natI (by omega), natI (by omega)] at this
  omega
theorem lt_cap {a b : Nat} (h : a < b) (hb : b ≤ 4000) : Int32.ofNat a < Int32.ofNat b := by
  rw [Int32.lt_iff_toInt_lt, natI (by omega), natI (by omega)]; omega
theorem cp_app {ts cs : List Int32} {junk : List Value} (hc : ts.length ≤ 4000) (hd : cs.length ≤ 4000) : (bs ts ++ junk).take (Int32.ofNat ts.length).toNatClampNeg ++ bs cs ++ (bs ts ++ junk).drop ((Int32.ofNat ts.length).toNatClampNeg + (Int32.ofNat cs.length).toNatClampNeg) = bs (ts ++ cs) ++ junk.drop cs.length := by
  rw [clampN hc, clampN hd, bs_app, List.take_left' (bs_len ts), List.drop_append, bs_len, List.drop_eq_nil_of_le (by rw [bs_len]; omega)]
  simp
end Own
end Jvm.Pilot.@@N@@
namespace Jvm.Pilot.@@N@@
namespace Own
open Jvm Jvm.ClassFile Sem Op Lib Jvm.Free Jvm.Stand Jvm.LawKit Jvm.RoadKit
section I
variable {G : Gl} {X : Rn} {M : Bo} {vm : Vm} {T : State} {h : Heap} {C S : Nat} {Q : Option Value → Heap → Prop} {pc pc' : Nat} {Ls Ls' : Array Slot} {st : List Value}
theorem iastore (W : Here G X M vm T h C S) {a : Addr} {kA : ClassId} {z j x : Int32} {vs : List Value} {dv : Value} (A : Arv G.Z h a kA .int z vs dv) (i : Nat) (hj : j.toNatClampNeg = i) (hj0 : ¬ j < 0 ∧ j < z) (hi : i < vs.length) (ha : G.n0 ≤ a) (hd : decode M.bytes pc = .ok (.iastore, 1)) (pc' : Nat) (hp : pc + 1 = pc')
    (k : ∀ (T' : State) (h' : Heap), Here G X M vm T' h' C S → Wr h h' a i (.int x) → Arv G.Z h' a kA .int z (vs.set i (.int x)) dv → (∀ y, Safe G.Z G.EL vm h y → Safe G.Z G.EL vm h' y) → Go G X M Q T' pc' Ls st) : Go G X M Q T pc Ls (.int x :: .int j :: .ref a :: st) := by
  subst hp hj
  obtain ⟨F', k0, locs, cells, slots, X1, e1, hS, hk, hZ, hown, hCH, hF, O', c1, s1⟩ := id W
  have sf : Safe G.Z G.EL vm h a := Safe.arv hZ.alike A (by decide)
  obtain ⟨cl, A1, q, Sz, Nz, H, Gz⟩ := A
  obtain ⟨T', h', X', e', Wq, st'⟩ := RoadKit.stI X1 W.x hZ e1 A1 (j := j) (inb_of Sz hj0) (g := mkF X.m pc Ls (.int x :: .int j :: .ref a :: st)) rfl rfl (W.d hd)
  exact Go.stp (fun t r => st' t r) (k T' h' (Here.wr W hS hk hown hCH hF ha sf X' e' Wq c1 s1) Wq (Arv.set A1 q Sz Nz H Gz rfl Wq _ rfl hi) (fun y q => Safe.wr Wq sf hCH.1 q))
theorem iaload (W : Here G X M vm T h C S) {a : Addr} {kA : ClassId} {z j : Int32} {vs : List Value} {dv : Value} (A : Arv G.Z h a kA .int z vs dv) (hj0 : ¬ j < 0 ∧ j < z) (v : Value) (hv : vs.getD j.toNatClampNeg dv = v) (hd : decode M.bytes pc = .ok (.iaload, 1)) (pc' : Nat) (hp : pc + 1 = pc') (k : Go G X M Q T pc' Ls (v :: st)) : Go G X M Q T pc Ls (.int j :: .ref a :: st) := by
  subst hp
  obtain ⟨F', k0, locs, cells, slots, X1, e1, hS, hk, hZ, hown, hCH, hF, O', c1, s1⟩ := id W
  obtain ⟨cl, A1, q, Sz, Nz, H, Gz⟩ := A
  exact Go.stp (fun t r => X1.iaload W.x (by rw [e1]; exact A1.1) (State.isArrayOf_alike (T := X.s.setVm vm) hZ.alike A1.2.1) A1.2.2 (inb_of Sz hj0) (H.at (inb_of Sz hj0) hv) (g := mkF X.m pc Ls (.int j :: .ref a :: st)) rfl rfl (W.d hd) t r) k
end I
theorem noByteI {Z : State} {a0 : Array Value} {h : Heap} {x : Addr} {K : String} {n : Nat} (w : (Jvm.Cond.instantiable K n).before a0 Z = true) (E : Exa Z h x K) (cl : Cell) : ¬ Arr Z h x cl .byte := fun B => by
  obtain ⟨cell, k, e1, e2, e3, e4, e5⟩ := E
  obtain ⟨c, k', g1, g2, g3, -⟩ := Cond.instantiable_spec w
  cases e2.symm.trans g1
  cases e3.symm.trans g2
  obtain ⟨b1, ⟨-, kB, b2, comp, b3⟩, -⟩ := B
  cases e1.symm.trans b1
  cases e3.symm.trans b2
  have := g3.symm.trans b3
  cases this
theorem noByteA {Z : State} {h : Heap} {x : Addr} {k : ClassId} {ty : FieldType} {z : Int32} {vs : List Value} {dv : Value} (A : Arv Z h x k ty z vs dv) (ht : ty ≠ .byte) (cl : Cell) : ¬ Arr Z h x cl .byte := fun B => by
  obtain ⟨c, A, -⟩ := A
  cases A.1.symm.trans B.1
  obtain ⟨-, k1, a1, c1, a2⟩ := A.2.1
  obtain ⟨-, k2, b1, c2, b2⟩ := B.2.1
  cases a1.symm.trans b1
  rw [a2] at b2
  injection b2 with _ e
  exact ht e
theorem sub_nat {a b : Nat} (h : a ≤ b) (hb : b ≤ 4000) : Int32.ofNat b - Int32.ofNat a = Int32.ofNat (b - a) := by
  apply Int32.toInt_inj.mp
  have h1 := c_isub (Int32.ofNat b) (Int32.ofNat a)
  have h2 := Int32.toInt_lt (Int32.ofNat b - Int32.ofNat a)
  have h3 := Int32.le_toInt (Int32.ofNat b - Int32.ofNat a)
  rw [natI (by omega), natI (by omega)] at h1
  rw [natI (by omega)]
  omega
theorem nlt_nat {a b : Nat} (h : a ≤ b) (hb : b ≤ 4000) : ¬ Int32.ofNat b < Int32.ofNat a := by
  rw [Int32.lt_iff_toInt_lt, natI (by omega), natI (by omega)]; omega
theorem eq0_nat {a : Nat} (ha : a ≤ 4000) (h : Int32.ofNat a = 0) : a = 0 := by
  have := congrArg Int32.toInt h
  rw [natI (by omega), show (0 : Int32).toInt = 0 by decide] at this
  omega
theorem eq_nat {a b : Nat} (ha : a ≤ 4000) (hb : b ≤ 4000) (h : Int32.ofNat a = Int32.ofNat b) : a = b := by
  have := congrArg Int32.toInt h
  rw [natI (by omega), natI (by omega)] at this
  omega
theorem rangeDrop {vs : List Value} {f n : Nat} (dv : Value) (h : f + n ≤ vs.length) (k m : Nat) (hk : k = f) (hm : m = n) : (vs.drop f).take n = (List.range m).map fun i => vs.getD (k + i) dv := by
  subst hk hm
  apply List.ext_getElem (by simp; omega)
  intro i h1 h2
  simp at h2
  simp [List.getD_eq_getElem?_getD, show k + i < vs.length by omega]
theorem cp_new2 {us vd : List Value} {n : Nat} (hn : n = us.length) (d : Nat) (hd : d = 0) : ∀ i, i < n → us.getD i (Value.int 0) = (vd.take d ++ us ++ vd.drop (d + n)).getD i (Value.int 0) := by
  subst hn hd
  intro i hi
  simp [List.getD_eq_getElem?_getD, List.getElem?_append, hi]
theorem bs_cut (J : List Int32) (f n : Nat) : ((bs J).drop f).take n = bs ((J.drop f).take n) := by simp [bs, List.map_drop, List.map_take]
theorem lt_antisymm' {i j : Int32} (h1 : ¬ i < j) (h2 : ¬ j < i) : i = j := by
  rw [Int32.lt_iff_toInt_lt] at h1 h2
  apply Int32.toInt_inj.mp
  omega
end Own
end Jvm.Pilot.@@N@@
namespace Jvm.Pilot.@@N@@
open Jvm Jvm.ClassFile Sem Op Lib Jvm.Free Jvm.Stand Jvm.LawKit Jvm.RoadKit Bundle Jvm.Pilot.@@N@@.Jvm.D
theorem tw {G : Own.Gl} (hw : ∀ d ∈ tables_1, d.before G.a0 G.Z = true) (i : Nat) {d : Jvm.Cond} (h : tables_1[i]? = some d) : d.before G.a0 G.Z = true := hw d (List.mem_of_getElem? h)
theorem wS_in : ∀ d ∈ Own.wordsN, d ∈ tables_1 := by decide +kernel
theorem wS {G : Own.Gl} (hw : ∀ d ∈ tables_1, d.before G.a0 G.Z = true) : ∀ d ∈ Own.wordsN, d.before G.a0 G.Z = true := fun d hd => hw d (wS_in d hd)
theorem wL_in : ∀ d ∈ StrChars.Road.wordsLen, d ∈ tables_1 := by decide +kernel
theorem wL {G : Own.Gl} (hw : ∀ d ∈ tables_1, d.before G.a0 G.Z = true) : ∀ d ∈ StrChars.Road.wordsLen, d.before G.a0 G.Z = true := fun d hd => hw d (wL_in d hd)
theorem wQ_in : ∀ d ∈ StrChars.Road.wordsEq, d ∈ tables_1 := by decide +kernel
theorem wQ {G : Own.Gl} (hw : ∀ d ∈ tables_1, d.before G.a0 G.Z = true) : ∀ d ∈ StrChars.Road.wordsEq, d.before G.a0 G.Z = true := fun d hd => hw d (wQ_in d hd)
theorem d1_0 : decode method_2_code 0 = .ok (.iload_n 0, 1) := by decide +kernel
theorem d1_1 : decode method_2_code 1 = .ok (.sipush 255, 3) := by decide +kernel
theorem d1_4 : decode method_2_code 4 = .ok (.iand, 1) := by decide +kernel
theorem d1_5 : decode method_2_code 5 = .ok (.i2c, 1) := by decide +kernel
theorem d1_6 : decode method_2_code 6 = .ok (.istore_n 2, 1) := by decide +kernel
theorem d1_7 : decode method_2_code 7 = .ok (.iload_n 0, 1) := by decide +kernel
theorem d1_8 : decode method_2_code 8 = .ok (.bipush 8, 2) := by decide +kernel
theorem d1_10 : decode method_2_code 10 = .ok (.iushr, 1) := by decide +kernel
theorem d1_11 : decode method_2_code 11 = .ok (.sipush 255, 3) := by decide +kernel
theorem d1_14 : decode method_2_code 14 = .ok (.iand, 1) := by decide +kernel
theorem d1_15 : decode method_2_code 15 = .ok (.i2c, 1) := by decide +kernel
theorem d1_16 : decode method_2_code 16 = .ok (.istore_n 3, 1) := by decide +kernel
theorem d1_17 : decode method_2_code 17 = .ok (.iload_n 0, 1) := by decide +kernel
theorem d1_18 : decode method_2_code 18 = .ok (.bipush 16, 2) := by decide +kernel
theorem d1_20 : decode method_2_code 20 = .ok (.iushr, 1) := by decide +kernel
theorem d1_21 : decode method_2_code 21 = .ok (.sipush 255, 3) := by decide +kernel
theorem d1_24 : decode method_2_code 24 = .ok (.iand, 1) := by decide +kernel
theorem d1_25 : decode method_2_code 25 = .ok (.i2c, 1) := by decide +kernel
theorem d1_26 : decode method_2_code 26 = .ok (.istore 4, 2) := by decide +kernel
theorem d1_28 : decode method_2_code 28 = .ok (.iload_n 1, 1) := by decide +kernel
theorem d1_29 : decode method_2_code 29 = .ok (.ifCond .ne 6, 3) := by decide +kernel
theorem d1_32 : decode method_2_code 32 = .ok (.ldc 7, 2) := by decide +kernel
theorem d1_34 : decode method_2_code 34 = .ok (.areturn, 1) := by decide +kernel
theorem d1_35 : decode method_2_code 35 = .ok (.iload_n 1, 1) := by decide +kernel
theorem d1_36 : decode method_2_code 36 = .ok (.iconst 1, 1) := by decide +kernel
theorem d1_37 : decode method_2_code 37 = .ok (.if_icmp .ne 8, 3) := by decide +kernel
theorem d1_40 : decode method_2_code 40 = .ok (.iload_n 2, 1) := by decide +kernel
theorem d1_41 : decode method_2_code 41 = .ok (.invokestatic 9, 3) := by decide +kernel
theorem d1_44 : decode method_2_code 44 = .ok (.areturn, 1) := by decide +kernel
theorem d1_45 : decode method_2_code 45 = .ok (.iload_n 1, 1) := by decide +kernel
theorem d1_46 : decode method_2_code 46 = .ok (.iconst 2, 1) := by decide +kernel
theorem d1_47 : decode method_2_code 47 = .ok (.if_icmp .ne 22, 3) := by decide +kernel
theorem d1_50 : decode method_2_code 50 = .ok (.new 10, 3) := by decide +kernel
theorem d1_53 : decode method_2_code 53 = .ok (.dup, 1) := by decide +kernel
theorem d1_54 : decode method_2_code 54 = .ok (.iconst 2, 1) := by decide +kernel
theorem d1_55 : decode method_2_code 55 = .ok (.newarray .char, 2) := by decide +kernel
theorem d1_57 : decode method_2_code 57 = .ok (.dup, 1) := by decide +kernel
theorem d1_58 : decode method_2_code 58 = .ok (.iconst 0, 1) := by decide +kernel
theorem d1_59 : decode method_2_code 59 = .ok (.iload_n 2, 1) := by decide +kernel
theorem d1_60 : decode method_2_code 60 = .ok (.castore, 1) := by decide +kernel
theorem d1_61 : decode method_2_code 61 = .ok (.dup, 1) := by decide +kernel
theorem d1_62 : decode method_2_code 62 = .ok (.iconst 1, 1) := by decide +kernel
theorem d1_63 : decode method_2_code 63 = .ok (.iload_n 3, 1) := by decide +kernel
theorem d1_64 : decode method_2_code 64 = .ok (.castore, 1) := by decide +kernel
theorem d1_65 : decode method_2_code 65 = .ok (.invokespecial 15, 3) := by decide +kernel
theorem d1_68 : decode method_2_code 68 = .ok (.areturn, 1) := by decide +kernel
theorem d1_69 : decode method_2_code 69 = .ok (.new 10, 3) := by decide +kernel
theorem d1_72 : decode method_2_code 72 = .ok (.dup, 1) := by decide +kernel
theorem d1_73 : decode method_2_code 73 = .ok (.iconst 3, 1) := by decide +kernel
theorem d1_74 : decode method_2_code 74 = .ok (.newarray .char, 2) := by decide +kernel
theorem d1_76 : decode method_2_code 76 = .ok (.dup, 1) := by decide +kernel
theorem d1_77 : decode method_2_code 77 = .ok (.iconst 0, 1) := by decide +kernel
theorem d1_78 : decode method_2_code 78 = .ok (.iload_n 2, 1) := by decide +kernel
theorem d1_79 : decode method_2_code 79 = .ok (.castore, 1) := by decide +kernel
theorem d1_80 : decode method_2_code 80 = .ok (.dup, 1) := by decide +kernel
theorem d1_81 : decode method_2_code 81 = .ok (.iconst 1, 1) := by decide +kernel
theorem d1_82 : decode method_2_code 82 = .ok (.iload_n 3, 1) := by decide +kernel
theorem d1_83 : decode method_2_code 83 = .ok (.castore, 1) := by decide +kernel
theorem d1_84 : decode method_2_code 84 = .ok (.dup, 1) := by decide +kernel
theorem d1_85 : decode method_2_code 85 = .ok (.iconst 2, 1) := by decide +kernel
theorem d1_86 : decode method_2_code 86 = .ok (.iload 4, 2) := by decide +kernel
theorem d1_88 : decode method_2_code 88 = .ok (.castore, 1) := by decide +kernel
theorem d1_89 : decode method_2_code 89 = .ok (.invokespecial 15, 3) := by decide +kernel
theorem d1_92 : decode method_2_code 92 = .ok (.areturn, 1) := by decide +kernel
theorem d2_0 : decode jdk_38_method_2_code 0 = .ok (.aload_n 0, 1) := by decide +kernel
theorem d2_1 : decode jdk_38_method_2_code 1 = .ok (.invokespecial 1, 3) := by decide +kernel
theorem d2_4 : decode jdk_38_method_2_code 4 = .ok (.aload_n 0, 1) := by decide +kernel
theorem d2_5 : decode jdk_38_method_2_code 5 = .ok (.getstatic 39, 3) := by decide +kernel
theorem d2_8 : decode jdk_38_method_2_code 8 = .ok (.putfield 9, 3) := by decide +kernel
theorem d2_11 : decode jdk_38_method_2_code 11 = .ok (.return_, 1) := by decide +kernel
theorem d3_0 : decode jdk_39_method_1_code 0 = .ok (.aload_n 0, 1) := by decide +kernel
theorem d3_1 : decode jdk_39_method_1_code 1 = .ok (.invokespecial 1, 3) := by decide +kernel
theorem d3_4 : decode jdk_39_method_1_code 4 = .ok (.aload_n 0, 1) := by decide +kernel
theorem d3_5 : decode jdk_39_method_1_code 5 = .ok (.iconst 0, 1) := by decide +kernel
theorem d3_6 : decode jdk_39_method_1_code 6 = .ok (.putfield 7, 3) := by decide +kernel
theorem d3_9 : decode jdk_39_method_1_code 9 = .ok (.return_, 1) := by decide +kernel
theorem d4_0 : decode jdk_22_method_1_code 0 = .ok (.aload_n 0, 1) := by decide +kernel
theorem d4_1 : decode jdk_22_method_1_code 1 = .ok (.invokespecial 1, 3) := by decide +kernel
theorem d4_4 : decode jdk_22_method_1_code 4 = .ok (.return_, 1) := by decide +kernel
theorem d6_0 : decode prog_8_method_2_code 0 = .ok (.new 17, 3) := by decide +kernel
theorem d6_3 : decode prog_8_method_2_code 3 = .ok (.dup, 1) := by decide +kernel
theorem d6_4 : decode prog_8_method_2_code 4 = .ok (.invokespecial 19, 3) := by decide +kernel
theorem d6_7 : decode prog_8_method_2_code 7 = .ok (.astore_n 1, 1) := by decide +kernel
theorem d6_8 : decode prog_8_method_2_code 8 = .ok (.aload_n 0, 1) := by decide +kernel
theorem d6_9 : decode prog_8_method_2_code 9 = .ok (.invokeinterface 20 1, 5) := by decide +kernel
theorem d6_14 : decode prog_8_method_2_code 14 = .ok (.newarray .int, 2) := by decide +kernel
theorem d6_16 : decode prog_8_method_2_code 16 = .ok (.astore_n 2, 1) := by decide +kernel
theorem d6_17 : decode prog_8_method_2_code 17 = .ok (.iconst 0, 1) := by decide +kernel
theorem d6_18 : decode prog_8_method_2_code 18 = .ok (.istore_n 3, 1) := by decide +kernel
theorem d6_19 : decode prog_8_method_2_code 19 = .ok (.iload_n 3, 1) := by decide +kernel
theorem d6_20 : decode prog_8_method_2_code 20 = .ok (.aload_n 2, 1) := by decide +kernel
theorem d6_21 : decode prog_8_method_2_code 21 = .ok (.arraylength, 1) := by decide +kernel
theorem d6_22 : decode prog_8_method_2_code 22 = .ok (.if_icmp .ge 37, 3) := by decide +kernel
theorem d6_25 : decode prog_8_method_2_code 25 = .ok (.aload_n 1, 1) := by decide +kernel
theorem d6_26 : decode prog_8_method_2_code 26 = .ok (.aload_n 0, 1) := by decide +kernel
theorem d6_27 : decode prog_8_method_2_code 27 = .ok (.iload_n 3, 1) := by decide +kernel
theorem d6_28 : decode prog_8_method_2_code 28 = .ok (.invokeinterface 26 2, 5) := by decide +kernel
theorem d6_33 : decode prog_8_method_2_code 33 = .ok (.checkcast 30, 3) := by decide +kernel
theorem d6_36 : decode prog_8_method_2_code 36 = .ok (.invokestatic 32, 3) := by decide +kernel
theorem d6_39 : decode prog_8_method_2_code 39 = .ok (.checkcast 30, 3) := by decide +kernel
theorem d6_42 : decode prog_8_method_2_code 42 = .ok (.invokevirtual 38, 3) := by decide +kernel
theorem d6_45 : decode prog_8_method_2_code 45 = .ok (.pop, 1) := by decide +kernel
theorem d6_46 : decode prog_8_method_2_code 46 = .ok (.aload_n 2, 1) := by decide +kernel
theorem d6_47 : decode prog_8_method_2_code 47 = .ok (.iload_n 3, 1) := by decide +kernel
theorem d6_48 : decode prog_8_method_2_code 48 = .ok (.aload_n 1, 1) := by decide +kernel
theorem d6_49 : decode prog_8_method_2_code 49 = .ok (.invokevirtual 42, 3) := by decide +kernel
theorem d6_52 : decode prog_8_method_2_code 52 = .ok (.iastore, 1) := by decide +kernel
theorem d6_53 : decode prog_8_method_2_code 53 = .ok (.iinc 3 1, 3) := by decide +kernel
theorem d6_56 : decode prog_8_method_2_code 56 = .ok (.goto (-37), 3) := by decide +kernel
theorem d6_59 : decode prog_8_method_2_code 59 = .ok (.aload_n 2, 1) := by decide +kernel
theorem d6_60 : decode prog_8_method_2_code 60 = .ok (.arraylength, 1) := by decide +kernel
theorem d6_61 : decode prog_8_method_2_code 61 = .ok (.ifCond .ne 9, 3) := by decide +kernel
theorem d6_64 : decode prog_8_method_2_code 64 = .ok (.getstatic 45, 3) := by decide +kernel
theorem d6_67 : decode prog_8_method_2_code 67 = .ok (.goto 15, 3) := by decide +kernel
theorem d6_70 : decode prog_8_method_2_code 70 = .ok (.new 8, 3) := by decide +kernel
theorem d6_73 : decode prog_8_method_2_code 73 = .ok (.dup, 1) := by decide +kernel
theorem d6_74 : decode prog_8_method_2_code 74 = .ok (.aload_n 1, 1) := by decide +kernel
theorem d6_75 : decode prog_8_method_2_code 75 = .ok (.invokevirtual 49, 3) := by decide +kernel
theorem d6_78 : decode prog_8_method_2_code 78 = .ok (.aload_n 2, 1) := by decide +kernel
theorem d6_79 : decode prog_8_method_2_code 79 = .ok (.invokespecial 53, 3) := by decide +kernel
theorem d6_82 : decode prog_8_method_2_code 82 = .ok (.areturn, 1) := by decide +kernel
theorem d7_0 : decode jdk_67_method_1_code 0 = .ok (.aload_n 0, 1) := by decide +kernel
theorem d7_1 : decode jdk_67_method_1_code 1 = .ok (.bipush 16, 2) := by decide +kernel
theorem d7_3 : decode jdk_67_method_1_code 3 = .ok (.invokespecial 1, 3) := by decide +kernel
theorem d7_6 : decode jdk_67_method_1_code 6 = .ok (.return_, 1) := by decide +kernel
theorem d8_0 : decode jdk_68_method_2_code 0 = .ok (.aload_n 0, 1) := by decide +kernel
theorem d8_1 : decode jdk_68_method_2_code 1 = .ok (.invokespecial 3, 3) := by decide +kernel
theorem d8_4 : decode jdk_68_method_2_code 4 = .ok (.getstatic 18, 3) := by decide +kernel
theorem d8_7 : decode jdk_68_method_2_code 7 = .ok (.ifCond .eq 18, 3) := by decide +kernel
theorem d8_10 : decode jdk_68_method_2_code 10 = .ok (.aload_n 0, 1) := by decide +kernel
theorem d8_11 : decode jdk_68_method_2_code 11 = .ok (.iload_n 1, 1) := by decide +kernel
theorem d8_12 : decode jdk_68_method_2_code 12 = .ok (.newarray .byte, 2) := by decide +kernel
theorem d8_14 : decode jdk_68_method_2_code 14 = .ok (.putfield 15, 3) := by decide +kernel
theorem d8_17 : decode jdk_68_method_2_code 17 = .ok (.aload_n 0, 1) := by decide +kernel
theorem d8_18 : decode jdk_68_method_2_code 18 = .ok (.iconst 0, 1) := by decide +kernel
theorem d8_19 : decode jdk_68_method_2_code 19 = .ok (.putfield 22, 3) := by decide +kernel
theorem d8_22 : decode jdk_68_method_2_code 22 = .ok (.goto 16, 3) := by decide +kernel
theorem d8_38 : decode jdk_68_method_2_code 38 = .ok (.return_, 1) := by decide +kernel
theorem d9_0 : decode jdk_38_method_8_code 0 = .ok (.aload_n 0, 1) := by decide +kernel
theorem d9_1 : decode jdk_38_method_8_code 1 = .ok (.getfield 48, 3) := by decide +kernel
theorem d9_4 : decode jdk_38_method_8_code 4 = .ok (.ireturn, 1) := by decide +kernel
theorem d10_0 : decode jdk_38_method_25_code 0 = .ok (.aload_n 0, 1) := by decide +kernel
theorem d10_1 : decode jdk_38_method_25_code 1 = .ok (.dup, 1) := by decide +kernel
theorem d10_2 : decode jdk_38_method_25_code 2 = .ok (.getfield 63, 3) := by decide +kernel
theorem d10_5 : decode jdk_38_method_25_code 5 = .ok (.iconst 1, 1) := by decide +kernel
theorem d10_6 : decode jdk_38_method_25_code 6 = .ok (.iadd, 1) := by decide +kernel
theorem d10_7 : decode jdk_38_method_25_code 7 = .ok (.putfield 63, 3) := by decide +kernel
theorem d10_10 : decode jdk_38_method_25_code 10 = .ok (.aload_n 0, 1) := by decide +kernel
theorem d10_11 : decode jdk_38_method_25_code 11 = .ok (.aload_n 1, 1) := by decide +kernel
theorem d10_12 : decode jdk_38_method_25_code 12 = .ok (.aload_n 0, 1) := by decide +kernel
theorem d10_13 : decode jdk_38_method_25_code 13 = .ok (.getfield 9, 3) := by decide +kernel
theorem d10_16 : decode jdk_38_method_25_code 16 = .ok (.aload_n 0, 1) := by decide +kernel
theorem d10_17 : decode jdk_38_method_25_code 17 = .ok (.getfield 48, 3) := by decide +kernel
theorem d10_20 : decode jdk_38_method_25_code 20 = .ok (.invokevirtual 131, 3) := by decide +kernel
theorem d10_23 : decode jdk_38_method_25_code 23 = .ok (.iconst 1, 1) := by decide +kernel
theorem d10_24 : decode jdk_38_method_25_code 24 = .ok (.ireturn, 1) := by decide +kernel
theorem d11_0 : decode jdk_38_method_24_code 0 = .ok (.iload_n 3, 1) := by decide +kernel
theorem d11_1 : decode jdk_38_method_24_code 1 = .ok (.aload_n 2, 1) := by decide +kernel
theorem d11_2 : decode jdk_38_method_24_code 2 = .ok (.arraylength, 1) := by decide +kernel
theorem d11_3 : decode jdk_38_method_24_code 3 = .ok (.if_icmp .ne 8, 3) := by decide +kernel
theorem d11_6 : decode jdk_38_method_24_code 6 = .ok (.aload_n 0, 1) := by decide +kernel
theorem d11_7 : decode jdk_38_method_24_code 7 = .ok (.invokevirtual 129, 3) := by decide +kernel
theorem d11_10 : decode jdk_38_method_24_code 10 = .ok (.astore_n 2, 1) := by decide +kernel
theorem d11_11 : decode jdk_38_method_24_code 11 = .ok (.aload_n 2, 1) := by decide +kernel
theorem d11_12 : decode jdk_38_method_24_code 12 = .ok (.iload_n 3, 1) := by decide +kernel
theorem d11_13 : decode jdk_38_method_24_code 13 = .ok (.aload_n 1, 1) := by decide +kernel
theorem d11_14 : decode jdk_38_method_24_code 14 = .ok (.aastore, 1) := by decide +kernel
theorem d11_15 : decode jdk_38_method_24_code 15 = .ok (.aload_n 0, 1) := by decide +kernel
theorem d11_16 : decode jdk_38_method_24_code 16 = .ok (.iload_n 3, 1) := by decide +kernel
theorem d11_17 : decode jdk_38_method_24_code 17 = .ok (.iconst 1, 1) := by decide +kernel
theorem d11_18 : decode jdk_38_method_24_code 18 = .ok (.iadd, 1) := by decide +kernel
theorem d11_19 : decode jdk_38_method_24_code 19 = .ok (.putfield 48, 3) := by decide +kernel
theorem d11_22 : decode jdk_38_method_24_code 22 = .ok (.return_, 1) := by decide +kernel
theorem d12_0 : decode jdk_38_method_7_code 0 = .ok (.aload_n 0, 1) := by decide +kernel
theorem d12_1 : decode jdk_38_method_7_code 1 = .ok (.aload_n 0, 1) := by decide +kernel
theorem d12_2 : decode jdk_38_method_7_code 2 = .ok (.getfield 48, 3) := by decide +kernel
theorem d12_5 : decode jdk_38_method_7_code 5 = .ok (.iconst 1, 1) := by decide +kernel
theorem d12_6 : decode jdk_38_method_7_code 6 = .ok (.iadd, 1) := by decide +kernel
theorem d12_7 : decode jdk_38_method_7_code 7 = .ok (.invokevirtual 69, 3) := by decide +kernel
theorem d12_10 : decode jdk_38_method_7_code 10 = .ok (.areturn, 1) := by decide +kernel
theorem d13_0 : decode jdk_38_method_6_code 0 = .ok (.aload_n 0, 1) := by decide +kernel
theorem d13_1 : decode jdk_38_method_6_code 1 = .ok (.getfield 9, 3) := by decide +kernel
theorem d13_4 : decode jdk_38_method_6_code 4 = .ok (.arraylength, 1) := by decide +kernel
theorem d13_5 : decode jdk_38_method_6_code 5 = .ok (.istore_n 2, 1) := by decide +kernel
theorem d13_6 : decode jdk_38_method_6_code 6 = .ok (.iload_n 2, 1) := by decide +kernel
theorem d13_7 : decode jdk_38_method_6_code 7 = .ok (.ifCond .gt 13, 3) := by decide +kernel
theorem d13_10 : decode jdk_38_method_6_code 10 = .ok (.aload_n 0, 1) := by decide +kernel
theorem d13_11 : decode jdk_38_method_6_code 11 = .ok (.getfield 9, 3) := by decide +kernel
theorem d13_14 : decode jdk_38_method_6_code 14 = .ok (.getstatic 39, 3) := by decide +kernel
theorem d13_17 : decode jdk_38_method_6_code 17 = .ok (.if_acmp .eq 28, 3) := by decide +kernel
theorem d13_45 : decode jdk_38_method_6_code 45 = .ok (.aload_n 0, 1) := by decide +kernel
theorem d13_46 : decode jdk_38_method_6_code 46 = .ok (.bipush 10, 2) := by decide +kernel
theorem d13_48 : decode jdk_38_method_6_code 48 = .ok (.iload_n 1, 1) := by decide +kernel
theorem d13_49 : decode jdk_38_method_6_code 49 = .ok (.invokestatic 79, 3) := by decide +kernel
theorem d13_52 : decode jdk_38_method_6_code 52 = .ok (.anewarray 7, 3) := by decide +kernel
theorem d13_55 : decode jdk_38_method_6_code 55 = .ok (.dup_x1, 1) := by decide +kernel
theorem d13_56 : decode jdk_38_method_6_code 56 = .ok (.putfield 9, 3) := by decide +kernel
theorem d13_59 : decode jdk_38_method_6_code 59 = .ok (.areturn, 1) := by decide +kernel
theorem d14_0 : decode jdk_29_method_65_code 0 = .ok (.iload_n 0, 1) := by decide +kernel
theorem d14_1 : decode jdk_29_method_65_code 1 = .ok (.iload_n 1, 1) := by decide +kernel
theorem d14_2 : decode jdk_29_method_65_code 2 = .ok (.if_icmp .lt 7, 3) := by decide +kernel
theorem d14_5 : decode jdk_29_method_65_code 5 = .ok (.iload_n 0, 1) := by decide +kernel
theorem d14_6 : decode jdk_29_method_65_code 6 = .ok (.goto 4, 3) := by decide +kernel
theorem d14_10 : decode jdk_29_method_65_code 10 = .ok (.ireturn, 1) := by decide +kernel
theorem d15_0 : decode prog_8_method_4_code 0 = .ok (.aload_n 0, 1) := by decide +kernel
theorem d15_1 : decode prog_8_method_4_code 1 = .ok (.getfield 13, 3) := by decide +kernel
theorem d15_4 : decode prog_8_method_4_code 4 = .ok (.arraylength, 1) := by decide +kernel
theorem d15_5 : decode prog_8_method_4_code 5 = .ok (.ireturn, 1) := by decide +kernel
theorem d21_0 : decode jdk_42_method_139_code 0 = .ok (.getstatic 38, 3) := by decide +kernel
theorem d21_3 : decode jdk_42_method_139_code 3 = .ok (.ifCond .eq 23, 3) := by decide +kernel
theorem d21_6 : decode jdk_42_method_139_code 6 = .ok (.iload_n 0, 1) := by decide +kernel
theorem d21_7 : decode jdk_42_method_139_code 7 = .ok (.invokestatic 1015, 3) := by decide +kernel
theorem d21_10 : decode jdk_42_method_139_code 10 = .ok (.ifCond .eq 16, 3) := by decide +kernel
theorem d21_13 : decode jdk_42_method_139_code 13 = .ok (.new 10, 3) := by decide +kernel
theorem d21_16 : decode jdk_42_method_139_code 16 = .ok (.dup, 1) := by decide +kernel
theorem d21_17 : decode jdk_42_method_139_code 17 = .ok (.iload_n 0, 1) := by decide +kernel
theorem d21_18 : decode jdk_42_method_139_code 18 = .ok (.invokestatic 1018, 3) := by decide +kernel
theorem d21_21 : decode jdk_42_method_139_code 21 = .ok (.iconst 0, 1) := by decide +kernel
theorem d21_22 : decode jdk_42_method_139_code 22 = .ok (.invokespecial 209, 3) := by decide +kernel
theorem d21_25 : decode jdk_42_method_139_code 25 = .ok (.areturn, 1) := by decide +kernel
theorem d22_0 : decode jdk_43_method_3_code 0 = .ok (.iload_n 0, 1) := by decide +kernel
theorem d22_1 : decode jdk_43_method_3_code 1 = .ok (.sipush 255, 3) := by decide +kernel
theorem d22_4 : decode jdk_43_method_3_code 4 = .ok (.if_icmp .gt 7, 3) := by decide +kernel
theorem d22_7 : decode jdk_43_method_3_code 7 = .ok (.iconst 1, 1) := by decide +kernel
theorem d22_8 : decode jdk_43_method_3_code 8 = .ok (.goto 4, 3) := by decide +kernel
theorem d22_12 : decode jdk_43_method_3_code 12 = .ok (.ireturn, 1) := by decide +kernel
theorem d23_0 : decode jdk_43_method_46_code 0 = .ok (.iconst 1, 1) := by decide +kernel
theorem d23_1 : decode jdk_43_method_46_code 1 = .ok (.newarray .byte, 2) := by decide +kernel
theorem d23_3 : decode jdk_43_method_46_code 3 = .ok (.dup, 1) := by decide +kernel
theorem d23_4 : decode jdk_43_method_46_code 4 = .ok (.iconst 0, 1) := by decide +kernel
theorem d23_5 : decode jdk_43_method_46_code 5 = .ok (.iload_n 0, 1) := by decide +kernel
theorem d23_6 : decode jdk_43_method_46_code 6 = .ok (.i2b, 1) := by decide +kernel
theorem d23_7 : decode jdk_43_method_46_code 7 = .ok (.bastore, 1) := by decide +kernel
theorem d23_8 : decode jdk_43_method_46_code 8 = .ok (.areturn, 1) := by decide +kernel
theorem d24_0 : decode jdk_42_method_151_code 0 = .ok (.aload_n 0, 1) := by decide +kernel
theorem d24_1 : decode jdk_42_method_151_code 1 = .ok (.invokespecial 1, 3) := by decide +kernel
theorem d24_4 : decode jdk_42_method_151_code 4 = .ok (.aload_n 0, 1) := by decide +kernel
theorem d24_5 : decode jdk_42_method_151_code 5 = .ok (.aload_n 1, 1) := by decide +kernel
theorem d24_6 : decode jdk_42_method_151_code 6 = .ok (.putfield 9, 3) := by decide +kernel
theorem d24_9 : decode jdk_42_method_151_code 9 = .ok (.aload_n 0, 1) := by decide +kernel
theorem d24_10 : decode jdk_42_method_151_code 10 = .ok (.iload_n 2, 1) := by decide +kernel
theorem d24_11 : decode jdk_42_method_151_code 11 = .ok (.putfield 15, 3) := by decide +kernel
theorem d24_14 : decode jdk_42_method_151_code 14 = .ok (.return_, 1) := by decide +kernel
theorem d25_0 : decode jdk_38_method_20_code 0 = .ok (.iload_n 1, 1) := by decide +kernel
theorem d25_1 : decode jdk_38_method_20_code 1 = .ok (.aload_n 0, 1) := by decide +kernel
theorem d25_2 : decode jdk_38_method_20_code 2 = .ok (.getfield 48, 3) := by decide +kernel
theorem d25_5 : decode jdk_38_method_20_code 5 = .ok (.invokestatic 118, 3) := by decide +kernel
theorem d25_8 : decode jdk_38_method_20_code 8 = .ok (.pop, 1) := by decide +kernel
theorem d25_9 : decode jdk_38_method_20_code 9 = .ok (.aload_n 0, 1) := by decide +kernel
theorem d25_10 : decode jdk_38_method_20_code 10 = .ok (.iload_n 1, 1) := by decide +kernel
theorem d25_11 : decode jdk_38_method_20_code 11 = .ok (.invokevirtual 123, 3) := by decide +kernel
theorem d25_14 : decode jdk_38_method_20_code 14 = .ok (.areturn, 1) := by decide +kernel
theorem d26_0 : decode jdk_31_method_17_code 0 = .ok (.iload_n 0, 1) := by decide +kernel
theorem d26_1 : decode jdk_31_method_17_code 1 = .ok (.iload_n 1, 1) := by decide +kernel
theorem d26_2 : decode jdk_31_method_17_code 2 = .ok (.aconst_null, 1) := by decide +kernel
theorem d26_3 : decode jdk_31_method_17_code 3 = .ok (.invokestatic 105, 3) := by decide +kernel
theorem d26_6 : decode jdk_31_method_17_code 6 = .ok (.ireturn, 1) := by decide +kernel
theorem d27_0 : decode jdk_41_method_11_code 0 = .ok (.iload_n 0, 1) := by decide +kernel
theorem d27_1 : decode jdk_41_method_11_code 1 = .ok (.ifCond .lt 8, 3) := by decide +kernel
theorem d27_4 : decode jdk_41_method_11_code 4 = .ok (.iload_n 0, 1) := by decide +kernel
theorem d27_5 : decode jdk_41_method_11_code 5 = .ok (.iload_n 1, 1) := by decide +kernel
theorem d27_6 : decode jdk_41_method_11_code 6 = .ok (.if_icmp .lt 10, 3) := by decide +kernel
theorem d27_16 : decode jdk_41_method_11_code 16 = .ok (.iload_n 0, 1) := by decide +kernel
theorem d27_17 : decode jdk_41_method_11_code 17 = .ok (.ireturn, 1) := by decide +kernel
theorem d28_0 : decode jdk_38_method_18_code 0 = .ok (.aload_n 0, 1) := by decide +kernel
theorem d28_1 : decode jdk_38_method_18_code 1 = .ok (.getfield 9, 3) := by decide +kernel
theorem d28_4 : decode jdk_38_method_18_code 4 = .ok (.iload_n 1, 1) := by decide +kernel
theorem d28_5 : decode jdk_38_method_18_code 5 = .ok (.aaload, 1) := by decide +kernel
theorem d28_6 : decode jdk_38_method_18_code 6 = .ok (.areturn, 1) := by decide +kernel
theorem d29_0 : decode jdk_31_method_10_code 0 = .ok (.aload_n 0, 1) := by decide +kernel
theorem d29_1 : decode jdk_31_method_10_code 1 = .ok (.ifnonnull 11, 3) := by decide +kernel
theorem d29_12 : decode jdk_31_method_10_code 12 = .ok (.aload_n 0, 1) := by decide +kernel
theorem d29_13 : decode jdk_31_method_10_code 13 = .ok (.areturn, 1) := by decide +kernel
theorem d30_0 : decode jdk_67_method_7_code 0 = .ok (.aload_n 0, 1) := by decide +kernel
theorem d30_1 : decode jdk_67_method_7_code 1 = .ok (.aload_n 1, 1) := by decide +kernel
theorem d30_2 : decode jdk_67_method_7_code 2 = .ok (.invokespecial 29, 3) := by decide +kernel
theorem d30_5 : decode jdk_67_method_7_code 5 = .ok (.pop, 1) := by decide +kernel
theorem d30_6 : decode jdk_67_method_7_code 6 = .ok (.aload_n 0, 1) := by decide +kernel
theorem d30_7 : decode jdk_67_method_7_code 7 = .ok (.areturn, 1) := by decide +kernel
theorem d31_0 : decode jdk_68_method_22_code 0 = .ok (.aload_n 1, 1) := by decide +kernel
theorem d31_1 : decode jdk_68_method_22_code 1 = .ok (.ifnonnull 8, 3) := by decide +kernel
theorem d31_9 : decode jdk_68_method_22_code 9 = .ok (.aload_n 1, 1) := by decide +kernel
theorem d31_10 : decode jdk_68_method_22_code 10 = .ok (.invokevirtual 32, 3) := by decide +kernel
theorem d31_13 : decode jdk_68_method_22_code 13 = .ok (.istore_n 2, 1) := by decide +kernel
theorem d31_14 : decode jdk_68_method_22_code 14 = .ok (.aload_n 0, 1) := by decide +kernel
theorem d31_15 : decode jdk_68_method_22_code 15 = .ok (.aload_n 0, 1) := by decide +kernel
theorem d31_16 : decode jdk_68_method_22_code 16 = .ok (.getfield 79, 3) := by decide +kernel
theorem d31_19 : decode jdk_68_method_22_code 19 = .ok (.iload_n 2, 1) := by decide +kernel
theorem d31_20 : decode jdk_68_method_22_code 20 = .ok (.iadd, 1) := by decide +kernel
theorem d31_21 : decode jdk_68_method_22_code 21 = .ok (.invokevirtual 100, 3) := by decide +kernel
theorem d31_24 : decode jdk_68_method_22_code 24 = .ok (.aload_n 0, 1) := by decide +kernel
theorem d31_25 : decode jdk_68_method_22_code 25 = .ok (.aload_n 0, 1) := by decide +kernel
theorem d31_26 : decode jdk_68_method_22_code 26 = .ok (.getfield 79, 3) := by decide +kernel
theorem d31_29 : decode jdk_68_method_22_code 29 = .ok (.aload_n 1, 1) := by decide +kernel
theorem d31_30 : decode jdk_68_method_22_code 30 = .ok (.invokevirtual 208, 3) := by decide +kernel
theorem d31_33 : decode jdk_68_method_22_code 33 = .ok (.aload_n 0, 1) := by decide +kernel
theorem d31_34 : decode jdk_68_method_22_code 34 = .ok (.dup, 1) := by decide +kernel
theorem d31_35 : decode jdk_68_method_22_code 35 = .ok (.getfield 79, 3) := by decide +kernel
theorem d31_38 : decode jdk_68_method_22_code 38 = .ok (.iload_n 2, 1) := by decide +kernel
theorem d31_39 : decode jdk_68_method_22_code 39 = .ok (.iadd, 1) := by decide +kernel
theorem d31_40 : decode jdk_68_method_22_code 40 = .ok (.putfield 79, 3) := by decide +kernel
theorem d31_43 : decode jdk_68_method_22_code 43 = .ok (.aload_n 0, 1) := by decide +kernel
theorem d31_44 : decode jdk_68_method_22_code 44 = .ok (.areturn, 1) := by decide +kernel
theorem d33_0 : decode jdk_42_method_152_code 0 = .ok (.getstatic 38, 3) := by decide +kernel
theorem d33_3 : decode jdk_42_method_152_code 3 = .ok (.ifCond .eq 10, 3) := by decide +kernel
theorem d33_6 : decode jdk_42_method_152_code 6 = .ok (.aload_n 0, 1) := by decide +kernel
theorem d33_7 : decode jdk_42_method_152_code 7 = .ok (.getfield 15, 3) := by decide +kernel
theorem d33_10 : decode jdk_42_method_152_code 10 = .ok (.goto 4, 3) := by decide +kernel
theorem d33_14 : decode jdk_42_method_152_code 14 = .ok (.ireturn, 1) := by decide +kernel
theorem d34_0 : decode jdk_68_method_9_code 0 = .ok (.aload_n 0, 1) := by decide +kernel
theorem d34_1 : decode jdk_68_method_9_code 1 = .ok (.getfield 15, 3) := by decide +kernel
theorem d34_4 : decode jdk_68_method_9_code 4 = .ok (.arraylength, 1) := by decide +kernel
theorem d34_5 : decode jdk_68_method_9_code 5 = .ok (.aload_n 0, 1) := by decide +kernel
theorem d34_6 : decode jdk_68_method_9_code 6 = .ok (.getfield 22, 3) := by decide +kernel
theorem d34_9 : decode jdk_68_method_9_code 9 = .ok (.ishr, 1) := by decide +kernel
theorem d34_10 : decode jdk_68_method_9_code 10 = .ok (.istore_n 2, 1) := by decide +kernel
theorem d34_11 : decode jdk_68_method_9_code 11 = .ok (.iload_n 1, 1) := by decide +kernel
theorem d34_12 : decode jdk_68_method_9_code 12 = .ok (.iload_n 2, 1) := by decide +kernel
theorem d34_13 : decode jdk_68_method_9_code 13 = .ok (.isub, 1) := by decide +kernel
theorem d34_14 : decode jdk_68_method_9_code 14 = .ok (.ifCond .le 24, 3) := by decide +kernel
theorem d34_38 : decode jdk_68_method_9_code 38 = .ok (.return_, 1) := by decide +kernel
theorem d35_0 : decode jdk_68_method_73_code 0 = .ok (.aload_n 0, 1) := by decide +kernel
theorem d35_1 : decode jdk_68_method_73_code 1 = .ok (.aload_n 2, 1) := by decide +kernel
theorem d35_2 : decode jdk_68_method_73_code 2 = .ok (.invokevirtual 397, 3) := by decide +kernel
theorem d35_5 : decode jdk_68_method_73_code 5 = .ok (.aload_n 2, 1) := by decide +kernel
theorem d35_6 : decode jdk_68_method_73_code 6 = .ok (.aload_n 0, 1) := by decide +kernel
theorem d35_7 : decode jdk_68_method_73_code 7 = .ok (.getfield 15, 3) := by decide +kernel
theorem d35_10 : decode jdk_68_method_73_code 10 = .ok (.iload_n 1, 1) := by decide +kernel
theorem d35_11 : decode jdk_68_method_73_code 11 = .ok (.aload_n 0, 1) := by decide +kernel
theorem d35_12 : decode jdk_68_method_73_code 12 = .ok (.getfield 22, 3) := by decide +kernel
theorem d35_15 : decode jdk_68_method_73_code 15 = .ok (.invokevirtual 399, 3) := by decide +kernel
theorem d35_18 : decode jdk_68_method_73_code 18 = .ok (.return_, 1) := by decide +kernel
theorem d36_0 : decode jdk_68_method_71_code 0 = .ok (.getstatic 18, 3) := by decide +kernel
theorem d36_3 : decode jdk_68_method_71_code 3 = .ok (.ifCond .eq 18, 3) := by decide +kernel
theorem d36_6 : decode jdk_68_method_71_code 6 = .ok (.aload_n 0, 1) := by decide +kernel
theorem d36_7 : decode jdk_68_method_71_code 7 = .ok (.getfield 22, 3) := by decide +kernel
theorem d36_10 : decode jdk_68_method_71_code 10 = .ok (.aload_n 1, 1) := by decide +kernel
theorem d36_11 : decode jdk_68_method_71_code 11 = .ok (.invokevirtual 40, 3) := by decide +kernel
theorem d36_14 : decode jdk_68_method_71_code 14 = .ok (.if_icmp .eq 7, 3) := by decide +kernel
theorem d36_21 : decode jdk_68_method_71_code 21 = .ok (.return_, 1) := by decide +kernel
theorem d37_0 : decode jdk_42_method_147_code 0 = .ok (.aload_n 0, 1) := by decide +kernel
theorem d37_1 : decode jdk_42_method_147_code 1 = .ok (.invokevirtual 335, 3) := by decide +kernel
theorem d37_4 : decode jdk_42_method_147_code 4 = .ok (.iload_n 3, 1) := by decide +kernel
theorem d37_5 : decode jdk_42_method_147_code 5 = .ok (.if_icmp .ne 23, 3) := by decide +kernel
theorem d37_8 : decode jdk_42_method_147_code 8 = .ok (.aload_n 0, 1) := by decide +kernel
theorem d37_9 : decode jdk_42_method_147_code 9 = .ok (.getfield 9, 3) := by decide +kernel
theorem d37_12 : decode jdk_42_method_147_code 12 = .ok (.iconst 0, 1) := by decide +kernel
theorem d37_13 : decode jdk_42_method_147_code 13 = .ok (.aload_n 1, 1) := by decide +kernel
theorem d37_14 : decode jdk_42_method_147_code 14 = .ok (.iload_n 2, 1) := by decide +kernel
theorem d37_15 : decode jdk_42_method_147_code 15 = .ok (.iload_n 3, 1) := by decide +kernel
theorem d37_16 : decode jdk_42_method_147_code 16 = .ok (.ishl, 1) := by decide +kernel
theorem d37_17 : decode jdk_42_method_147_code 17 = .ok (.aload_n 0, 1) := by decide +kernel
theorem d37_18 : decode jdk_42_method_147_code 18 = .ok (.getfield 9, 3) := by decide +kernel
theorem d37_21 : decode jdk_42_method_147_code 21 = .ok (.arraylength, 1) := by decide +kernel
theorem d37_22 : decode jdk_42_method_147_code 22 = .ok (.invokestatic 212, 3) := by decide +kernel
theorem d37_25 : decode jdk_42_method_147_code 25 = .ok (.goto 18, 3) := by decide +kernel
theorem d37_43 : decode jdk_42_method_147_code 43 = .ok (.return_, 1) := by decide +kernel
theorem d38_0 : decode jdk_67_method_93_code 0 = .ok (.aload_n 0, 1) := by decide +kernel
theorem d38_1 : decode jdk_67_method_93_code 1 = .ok (.invokespecial 343, 3) := by decide +kernel
theorem d38_4 : decode jdk_67_method_93_code 4 = .ok (.ireturn, 1) := by decide +kernel
theorem d39_0 : decode jdk_68_method_6_code 0 = .ok (.aload_n 0, 1) := by decide +kernel
theorem d39_1 : decode jdk_68_method_6_code 1 = .ok (.getfield 79, 3) := by decide +kernel
theorem d39_4 : decode jdk_68_method_6_code 4 = .ok (.ireturn, 1) := by decide +kernel
theorem d40_0 : decode jdk_67_method_42_code 0 = .ok (.new 18, 3) := by decide +kernel
theorem d40_3 : decode jdk_67_method_42_code 3 = .ok (.dup, 1) := by decide +kernel
theorem d40_4 : decode jdk_67_method_42_code 4 = .ok (.aload_n 0, 1) := by decide +kernel
theorem d40_5 : decode jdk_67_method_42_code 5 = .ok (.invokespecial 137, 3) := by decide +kernel
theorem d40_8 : decode jdk_67_method_42_code 8 = .ok (.areturn, 1) := by decide +kernel
theorem d41_0 : decode jdk_42_method_53_code 0 = .ok (.aload_n 0, 1) := by decide +kernel
theorem d41_1 : decode jdk_42_method_53_code 1 = .ok (.aload_n 1, 1) := by decide +kernel
theorem d41_2 : decode jdk_42_method_53_code 2 = .ok (.aconst_null, 1) := by decide +kernel
theorem d41_3 : decode jdk_42_method_53_code 3 = .ok (.invokespecial 489, 3) := by decide +kernel
theorem d41_6 : decode jdk_42_method_53_code 6 = .ok (.return_, 1) := by decide +kernel
theorem d42_0 : decode jdk_42_method_150_code 0 = .ok (.aload_n 0, 1) := by decide +kernel
theorem d42_1 : decode jdk_42_method_150_code 1 = .ok (.invokespecial 1, 3) := by decide +kernel
theorem d42_4 : decode jdk_42_method_150_code 4 = .ok (.aload_n 1, 1) := by decide +kernel
theorem d42_5 : decode jdk_42_method_150_code 5 = .ok (.invokevirtual 552, 3) := by decide +kernel
theorem d42_8 : decode jdk_42_method_150_code 8 = .ok (.astore_n 3, 1) := by decide +kernel
theorem d42_9 : decode jdk_42_method_150_code 9 = .ok (.aload_n 1, 1) := by decide +kernel
theorem d42_10 : decode jdk_42_method_150_code 10 = .ok (.invokevirtual 549, 3) := by decide +kernel
theorem d42_13 : decode jdk_42_method_150_code 13 = .ok (.istore 4, 2) := by decide +kernel
theorem d42_15 : decode jdk_42_method_150_code 15 = .ok (.aload_n 1, 1) := by decide +kernel
theorem d42_16 : decode jdk_42_method_150_code 16 = .ok (.invokevirtual 1047, 3) := by decide +kernel
theorem d42_19 : decode jdk_42_method_150_code 19 = .ok (.ifCond .eq 22, 3) := by decide +kernel
theorem d42_22 : decode jdk_42_method_150_code 22 = .ok (.aload_n 0, 1) := by decide +kernel
theorem d42_23 : decode jdk_42_method_150_code 23 = .ok (.iconst 0, 1) := by decide +kernel
theorem d42_24 : decode jdk_42_method_150_code 24 = .ok (.putfield 15, 3) := by decide +kernel
theorem d42_27 : decode jdk_42_method_150_code 27 = .ok (.aload_n 0, 1) := by decide +kernel
theorem d42_28 : decode jdk_42_method_150_code 28 = .ok (.aload_n 3, 1) := by decide +kernel
theorem d42_29 : decode jdk_42_method_150_code 29 = .ok (.iconst 0, 1) := by decide +kernel
theorem d42_30 : decode jdk_42_method_150_code 30 = .ok (.iload 4, 2) := by decide +kernel
theorem d42_32 : decode jdk_42_method_150_code 32 = .ok (.invokestatic 54, 3) := by decide +kernel
theorem d42_35 : decode jdk_42_method_150_code 35 = .ok (.putfield 9, 3) := by decide +kernel
theorem d42_38 : decode jdk_42_method_150_code 38 = .ok (.goto 59, 3) := by decide +kernel
theorem d42_97 : decode jdk_42_method_150_code 97 = .ok (.return_, 1) := by decide +kernel
theorem d43_0 : decode jdk_68_method_64_code 0 = .ok (.aload_n 0, 1) := by decide +kernel
theorem d43_1 : decode jdk_68_method_64_code 1 = .ok (.getfield 15, 3) := by decide +kernel
theorem d43_4 : decode jdk_68_method_64_code 4 = .ok (.areturn, 1) := by decide +kernel
theorem d44_0 : decode jdk_68_method_68_code 0 = .ok (.getstatic 18, 3) := by decide +kernel
theorem d44_3 : decode jdk_68_method_68_code 3 = .ok (.ifCond .eq 14, 3) := by decide +kernel
theorem d44_6 : decode jdk_68_method_68_code 6 = .ok (.aload_n 0, 1) := by decide +kernel
theorem d44_7 : decode jdk_68_method_68_code 7 = .ok (.getfield 22, 3) := by decide +kernel
theorem d44_10 : decode jdk_68_method_68_code 10 = .ok (.ifCond .ne 7, 3) := by decide +kernel
theorem d44_13 : decode jdk_68_method_68_code 13 = .ok (.iconst 1, 1) := by decide +kernel
theorem d44_14 : decode jdk_68_method_68_code 14 = .ok (.goto 4, 3) := by decide +kernel
theorem d44_18 : decode jdk_68_method_68_code 18 = .ok (.ireturn, 1) := by decide +kernel
theorem d45_0 : decode jdk_65_method_132_code 0 = .ok (.iload_n 1, 1) := by decide +kernel
theorem d45_1 : decode jdk_65_method_132_code 1 = .ok (.ifCond .ne 9, 3) := by decide +kernel
theorem d45_4 : decode jdk_65_method_132_code 4 = .ok (.iload_n 2, 1) := by decide +kernel
theorem d45_5 : decode jdk_65_method_132_code 5 = .ok (.aload_n 0, 1) := by decide +kernel
theorem d45_6 : decode jdk_65_method_132_code 6 = .ok (.arraylength, 1) := by decide +kernel
theorem d45_7 : decode jdk_65_method_132_code 7 = .ok (.if_icmp .eq 10, 3) := by decide +kernel
theorem d45_10 : decode jdk_65_method_132_code 10 = .ok (.aload_n 0, 1) := by decide +kernel
theorem d45_11 : decode jdk_65_method_132_code 11 = .ok (.iload_n 1, 1) := by decide +kernel
theorem d45_12 : decode jdk_65_method_132_code 12 = .ok (.iload_n 2, 1) := by decide +kernel
theorem d45_13 : decode jdk_65_method_132_code 13 = .ok (.invokestatic 339, 3) := by decide +kernel
theorem d45_16 : decode jdk_65_method_132_code 16 = .ok (.areturn, 1) := by decide +kernel
theorem d46_0 : decode jdk_65_method_133_code 0 = .ok (.iload_n 1, 1) := by decide +kernel
theorem d46_1 : decode jdk_65_method_133_code 1 = .ok (.iload_n 2, 1) := by decide +kernel
theorem d46_2 : decode jdk_65_method_133_code 2 = .ok (.invokestatic 343, 3) := by decide +kernel
theorem d46_5 : decode jdk_65_method_133_code 5 = .ok (.iload_n 2, 1) := by decide +kernel
theorem d46_6 : decode jdk_65_method_133_code 6 = .ok (.iload_n 1, 1) := by decide +kernel
theorem d46_7 : decode jdk_65_method_133_code 7 = .ok (.isub, 1) := by decide +kernel
theorem d46_8 : decode jdk_65_method_133_code 8 = .ok (.istore_n 3, 1) := by decide +kernel
theorem d46_9 : decode jdk_65_method_133_code 9 = .ok (.iload_n 3, 1) := by decide +kernel
theorem d46_10 : decode jdk_65_method_133_code 10 = .ok (.newarray .byte, 2) := by decide +kernel
theorem d46_12 : decode jdk_65_method_133_code 12 = .ok (.astore 4, 2) := by decide +kernel
theorem d46_14 : decode jdk_65_method_133_code 14 = .ok (.aload_n 0, 1) := by decide +kernel
theorem d46_15 : decode jdk_65_method_133_code 15 = .ok (.iload_n 1, 1) := by decide +kernel
theorem d46_16 : decode jdk_65_method_133_code 16 = .ok (.aload 4, 2) := by decide +kernel
theorem d46_18 : decode jdk_65_method_133_code 18 = .ok (.iconst 0, 1) := by decide +kernel
theorem d46_19 : decode jdk_65_method_133_code 19 = .ok (.aload_n 0, 1) := by decide +kernel
theorem d46_20 : decode jdk_65_method_133_code 20 = .ok (.arraylength, 1) := by decide +kernel
theorem d46_21 : decode jdk_65_method_133_code 21 = .ok (.iload_n 1, 1) := by decide +kernel
theorem d46_22 : decode jdk_65_method_133_code 22 = .ok (.isub, 1) := by decide +kernel
theorem d46_23 : decode jdk_65_method_133_code 23 = .ok (.iload_n 3, 1) := by decide +kernel
theorem d46_24 : decode jdk_65_method_133_code 24 = .ok (.invokestatic 304, 3) := by decide +kernel
theorem d46_27 : decode jdk_65_method_133_code 27 = .ok (.invokestatic 150, 3) := by decide +kernel
theorem d46_30 : decode jdk_65_method_133_code 30 = .ok (.aload 4, 2) := by decide +kernel
theorem d46_32 : decode jdk_65_method_133_code 32 = .ok (.areturn, 1) := by decide +kernel
theorem d47_0 : decode jdk_65_method_131_code 0 = .ok (.iload_n 1, 1) := by decide +kernel
theorem d47_1 : decode jdk_65_method_131_code 1 = .ok (.iload_n 0, 1) := by decide +kernel
theorem d47_2 : decode jdk_65_method_131_code 2 = .ok (.if_icmp .ge 35, 3) := by decide +kernel
theorem d47_37 : decode jdk_65_method_131_code 37 = .ok (.return_, 1) := by decide +kernel
theorem d48_0 : decode jdk_29_method_69_code 0 = .ok (.iload_n 0, 1) := by decide +kernel
theorem d48_1 : decode jdk_29_method_69_code 1 = .ok (.iload_n 1, 1) := by decide +kernel
theorem d48_2 : decode jdk_29_method_69_code 2 = .ok (.if_icmp .gt 7, 3) := by decide +kernel
theorem d48_5 : decode jdk_29_method_69_code 5 = .ok (.iload_n 0, 1) := by decide +kernel
theorem d48_6 : decode jdk_29_method_69_code 6 = .ok (.goto 4, 3) := by decide +kernel
theorem d48_9 : decode jdk_29_method_69_code 9 = .ok (.iload_n 1, 1) := by decide +kernel
theorem d48_10 : decode jdk_29_method_69_code 10 = .ok (.ireturn, 1) := by decide +kernel
theorem d49_0 : decode prog_8_method_1_code 0 = .ok (.aload_n 0, 1) := by decide +kernel
theorem d49_1 : decode prog_8_method_1_code 1 = .ok (.invokespecial 1, 3) := by decide +kernel
theorem d49_4 : decode prog_8_method_1_code 4 = .ok (.aload_n 0, 1) := by decide +kernel
theorem d49_5 : decode prog_8_method_1_code 5 = .ok (.aload_n 1, 1) := by decide +kernel
theorem d49_6 : decode prog_8_method_1_code 6 = .ok (.putfield 7, 3) := by decide +kernel
theorem d49_9 : decode prog_8_method_1_code 9 = .ok (.aload_n 0, 1) := by decide +kernel
theorem d49_10 : decode prog_8_method_1_code 10 = .ok (.aload_n 2, 1) := by decide +kernel
theorem d49_11 : decode prog_8_method_1_code 11 = .ok (.putfield 13, 3) := by decide +kernel
theorem d49_14 : decode prog_8_method_1_code 14 = .ok (.return_, 1) := by decide +kernel
theorem d50_0 : decode prog_8_method_7_code 0 = .ok (.aload_n 0, 1) := by decide +kernel
theorem d50_1 : decode prog_8_method_7_code 1 = .ok (.iload_n 1, 1) := by decide +kernel
theorem d50_2 : decode prog_8_method_7_code 2 = .ok (.invokevirtual 97, 3) := by decide +kernel
theorem d50_5 : decode prog_8_method_7_code 5 = .ok (.areturn, 1) := by decide +kernel
theorem d51_0 : decode prog_8_method_3_code 0 = .ok (.iload_n 1, 1) := by decide +kernel
theorem d51_1 : decode prog_8_method_3_code 1 = .ok (.aload_n 0, 1) := by decide +kernel
theorem d51_2 : decode prog_8_method_3_code 2 = .ok (.getfield 13, 3) := by decide +kernel
theorem d51_5 : decode prog_8_method_3_code 5 = .ok (.arraylength, 1) := by decide +kernel
theorem d51_6 : decode prog_8_method_3_code 6 = .ok (.invokestatic 56, 3) := by decide +kernel
theorem d51_9 : decode prog_8_method_3_code 9 = .ok (.pop, 1) := by decide +kernel
theorem d51_10 : decode prog_8_method_3_code 10 = .ok (.aload_n 0, 1) := by decide +kernel
theorem d51_11 : decode prog_8_method_3_code 11 = .ok (.getfield 7, 3) := by decide +kernel
theorem d51_14 : decode prog_8_method_3_code 14 = .ok (.iload_n 1, 1) := by decide +kernel
theorem d51_15 : decode prog_8_method_3_code 15 = .ok (.ifCond .ne 7, 3) := by decide +kernel
theorem d51_18 : decode prog_8_method_3_code 18 = .ok (.iconst 0, 1) := by decide +kernel
theorem d51_19 : decode prog_8_method_3_code 19 = .ok (.goto 11, 3) := by decide +kernel
theorem d51_22 : decode prog_8_method_3_code 22 = .ok (.aload_n 0, 1) := by decide +kernel
theorem d51_23 : decode prog_8_method_3_code 23 = .ok (.getfield 13, 3) := by decide +kernel
theorem d51_26 : decode prog_8_method_3_code 26 = .ok (.iload_n 1, 1) := by decide +kernel
theorem d51_27 : decode prog_8_method_3_code 27 = .ok (.iconst 1, 1) := by decide +kernel
theorem d51_28 : decode prog_8_method_3_code 28 = .ok (.isub, 1) := by decide +kernel
theorem d51_29 : decode prog_8_method_3_code 29 = .ok (.iaload, 1) := by decide +kernel
theorem d51_30 : decode prog_8_method_3_code 30 = .ok (.aload_n 0, 1) := by decide +kernel
theorem d51_31 : decode prog_8_method_3_code 31 = .ok (.getfield 13, 3) := by decide +kernel
theorem d51_34 : decode prog_8_method_3_code 34 = .ok (.iload_n 1, 1) := by decide +kernel
theorem d51_35 : decode prog_8_method_3_code 35 = .ok (.iaload, 1) := by decide +kernel
theorem d51_36 : decode prog_8_method_3_code 36 = .ok (.invokevirtual 60, 3) := by decide +kernel
theorem d51_39 : decode prog_8_method_3_code 39 = .ok (.areturn, 1) := by decide +kernel
theorem d52_0 : decode jdk_42_method_92_code 0 = .ok (.aload_n 0, 1) := by decide +kernel
theorem d52_1 : decode jdk_42_method_92_code 1 = .ok (.invokevirtual 505, 3) := by decide +kernel
theorem d52_4 : decode jdk_42_method_92_code 4 = .ok (.istore_n 3, 1) := by decide +kernel
theorem d52_5 : decode jdk_42_method_92_code 5 = .ok (.iload_n 1, 1) := by decide +kernel
theorem d52_6 : decode jdk_42_method_92_code 6 = .ok (.iload_n 2, 1) := by decide +kernel
theorem d52_7 : decode jdk_42_method_92_code 7 = .ok (.iload_n 3, 1) := by decide +kernel
theorem d52_8 : decode jdk_42_method_92_code 8 = .ok (.invokestatic 521, 3) := by decide +kernel
theorem d52_11 : decode jdk_42_method_92_code 11 = .ok (.iload_n 1, 1) := by decide +kernel
theorem d52_12 : decode jdk_42_method_92_code 12 = .ok (.ifCond .ne 10, 3) := by decide +kernel
theorem d52_15 : decode jdk_42_method_92_code 15 = .ok (.iload_n 2, 1) := by decide +kernel
theorem d52_16 : decode jdk_42_method_92_code 16 = .ok (.iload_n 3, 1) := by decide +kernel
theorem d52_17 : decode jdk_42_method_92_code 17 = .ok (.if_icmp .ne 5, 3) := by decide +kernel
theorem d52_20 : decode jdk_42_method_92_code 20 = .ok (.aload_n 0, 1) := by decide +kernel
theorem d52_21 : decode jdk_42_method_92_code 21 = .ok (.areturn, 1) := by decide +kernel
theorem d52_22 : decode jdk_42_method_92_code 22 = .ok (.iload_n 2, 1) := by decide +kernel
theorem d52_23 : decode jdk_42_method_92_code 23 = .ok (.iload_n 1, 1) := by decide +kernel
theorem d52_24 : decode jdk_42_method_92_code 24 = .ok (.isub, 1) := by decide +kernel
theorem d52_25 : decode jdk_42_method_92_code 25 = .ok (.istore 4, 2) := by decide +kernel
theorem d52_27 : decode jdk_42_method_92_code 27 = .ok (.aload_n 0, 1) := by decide +kernel
theorem d52_28 : decode jdk_42_method_92_code 28 = .ok (.invokevirtual 492, 3) := by decide +kernel
theorem d52_31 : decode jdk_42_method_92_code 31 = .ok (.ifCond .eq 16, 3) := by decide +kernel
theorem d52_34 : decode jdk_42_method_92_code 34 = .ok (.aload_n 0, 1) := by decide +kernel
theorem d52_35 : decode jdk_42_method_92_code 35 = .ok (.getfield 9, 3) := by decide +kernel
theorem d52_38 : decode jdk_42_method_92_code 38 = .ok (.iload_n 1, 1) := by decide +kernel
theorem d52_39 : decode jdk_42_method_92_code 39 = .ok (.iload 4, 2) := by decide +kernel
theorem d52_41 : decode jdk_42_method_92_code 41 = .ok (.invokestatic 685, 3) := by decide +kernel
theorem d52_44 : decode jdk_42_method_92_code 44 = .ok (.goto 13, 3) := by decide +kernel
theorem d52_57 : decode jdk_42_method_92_code 57 = .ok (.areturn, 1) := by decide +kernel
theorem d53_0 : decode jdk_42_method_158_code 0 = .ok (.iload_n 0, 1) := by decide +kernel
theorem d53_1 : decode jdk_42_method_158_code 1 = .ok (.iload_n 1, 1) := by decide +kernel
theorem d53_2 : decode jdk_42_method_158_code 2 = .ok (.iload_n 2, 1) := by decide +kernel
theorem d53_3 : decode jdk_42_method_158_code 3 = .ok (.getstatic 1053, 3) := by decide +kernel
theorem d53_6 : decode jdk_42_method_158_code 6 = .ok (.invokestatic 1062, 3) := by decide +kernel
theorem d53_9 : decode jdk_42_method_158_code 9 = .ok (.pop, 1) := by decide +kernel
theorem d53_10 : decode jdk_42_method_158_code 10 = .ok (.return_, 1) := by decide +kernel
theorem d54_0 : decode jdk_41_method_12_code 0 = .ok (.iload_n 0, 1) := by decide +kernel
theorem d54_1 : decode jdk_41_method_12_code 1 = .ok (.ifCond .lt 13, 3) := by decide +kernel
theorem d54_4 : decode jdk_41_method_12_code 4 = .ok (.iload_n 0, 1) := by decide +kernel
theorem d54_5 : decode jdk_41_method_12_code 5 = .ok (.iload_n 1, 1) := by decide +kernel
theorem d54_6 : decode jdk_41_method_12_code 6 = .ok (.if_icmp .gt 8, 3) := by decide +kernel
theorem d54_9 : decode jdk_41_method_12_code 9 = .ok (.iload_n 1, 1) := by decide +kernel
theorem d54_10 : decode jdk_41_method_12_code 10 = .ok (.iload_n 2, 1) := by decide +kernel
theorem d54_11 : decode jdk_41_method_12_code 11 = .ok (.if_icmp .le 11, 3) := by decide +kernel
theorem d54_22 : decode jdk_41_method_12_code 22 = .ok (.iload_n 0, 1) := by decide +kernel
theorem d54_23 : decode jdk_41_method_12_code 23 = .ok (.ireturn, 1) := by decide +kernel
theorem d55_0 : decode jdk_42_method_154_code 0 = .ok (.getstatic 38, 3) := by decide +kernel
theorem d55_3 : decode jdk_42_method_154_code 3 = .ok (.ifCond .eq 14, 3) := by decide +kernel
theorem d55_6 : decode jdk_42_method_154_code 6 = .ok (.aload_n 0, 1) := by decide +kernel
theorem d55_7 : decode jdk_42_method_154_code 7 = .ok (.getfield 15, 3) := by decide +kernel
theorem d55_10 : decode jdk_42_method_154_code 10 = .ok (.ifCond .ne 7, 3) := by decide +kernel
theorem d55_13 : decode jdk_42_method_154_code 13 = .ok (.iconst 1, 1) := by decide +kernel
theorem d55_14 : decode jdk_42_method_154_code 14 = .ok (.goto 4, 3) := by decide +kernel
theorem d55_18 : decode jdk_42_method_154_code 18 = .ok (.ireturn, 1) := by decide +kernel
theorem d56_0 : decode jdk_43_method_47_code 0 = .ok (.iload_n 2, 1) := by decide +kernel
theorem d56_1 : decode jdk_43_method_47_code 1 = .ok (.ifCond .ne 6, 3) := by decide +kernel
theorem d56_4 : decode jdk_43_method_47_code 4 = .ok (.ldc 151, 2) := by decide +kernel
theorem d56_6 : decode jdk_43_method_47_code 6 = .ok (.areturn, 1) := by decide +kernel
theorem d56_7 : decode jdk_43_method_47_code 7 = .ok (.new 1, 3) := by decide +kernel
theorem d56_10 : decode jdk_43_method_47_code 10 = .ok (.dup, 1) := by decide +kernel
theorem d56_11 : decode jdk_43_method_47_code 11 = .ok (.aload_n 0, 1) := by decide +kernel
theorem d56_12 : decode jdk_43_method_47_code 12 = .ok (.iload_n 1, 1) := by decide +kernel
theorem d56_13 : decode jdk_43_method_47_code 13 = .ok (.iload_n 1, 1) := by decide +kernel
theorem d56_14 : decode jdk_43_method_47_code 14 = .ok (.iload_n 2, 1) := by decide +kernel
theorem d56_15 : decode jdk_43_method_47_code 15 = .ok (.iadd, 1) := by decide +kernel
theorem d56_16 : decode jdk_43_method_47_code 16 = .ok (.invokestatic 232, 3) := by decide +kernel
theorem d56_19 : decode jdk_43_method_47_code 19 = .ok (.iconst 0, 1) := by decide +kernel
theorem d56_20 : decode jdk_43_method_47_code 20 = .ok (.invokespecial 112, 3) := by decide +kernel
theorem d56_23 : decode jdk_43_method_47_code 23 = .ok (.areturn, 1) := by decide +kernel
theorem pd_0 : parseMethodDescriptor "()V" = some ⟨[], none⟩ := by decide +kernel
theorem pd_1 : parseMethodDescriptor "(II)I" = some ⟨[.int, .int], some .int⟩ := by decide +kernel
theorem pd_2 : parseMethodDescriptor "(I)[Ljava/lang/Object;" = some ⟨[.int], some (.array (.object "java/lang/Object"))⟩ := by decide +kernel
theorem pd_3 : parseMethodDescriptor "()[Ljava/lang/Object;" = some ⟨[], some (.array (.object "java/lang/Object"))⟩ := by decide +kernel
theorem pd_4 : parseMethodDescriptor "(Ljava/lang/Object;[Ljava/lang/Object;I)V" = some ⟨[(.object "java/lang/Object"), (.array (.object "java/lang/Object")), .int], none⟩ := by decide +kernel
theorem pd_5 : parseMethodDescriptor "(IILjava/util/function/BiFunction;)I" = some ⟨[.int, .int, (.object "java/util/function/BiFunction")], some .int⟩ := by decide +kernel
theorem pd_6 : parseMethodDescriptor "(I)Ljava/lang/Object;" = some ⟨[.int], some (.object "java/lang/Object")⟩ := by decide +kernel
theorem pd_7 : parseMethodDescriptor "(I)V" = some ⟨[.int], none⟩ := by decide +kernel
theorem pd_8 : parseMethodDescriptor "()B" = some ⟨[], some .byte⟩ := by decide +kernel
theorem pd_9 : parseMethodDescriptor "(Ljava/lang/String;)V" = some ⟨[(.object "java/lang/String")], none⟩ := by decide +kernel
theorem pd_10 : parseMethodDescriptor "([BIB)V" = some ⟨[(.array .byte), .int, .byte], none⟩ := by decide +kernel
theorem pd_11 : parseMethodDescriptor "()I" = some ⟨[], some .int⟩ := by decide +kernel
theorem pd_12 : parseMethodDescriptor "(ILjava/lang/String;)V" = some ⟨[.int, (.object "java/lang/String")], none⟩ := by decide +kernel
theorem pd_13 : parseMethodDescriptor "(Ljava/lang/String;)Ljava/lang/AbstractStringBuilder;" = some ⟨[(.object "java/lang/String")], some (.object "java/lang/AbstractStringBuilder")⟩ := by decide +kernel
theorem pd_14 : parseMethodDescriptor "(II)V" = some ⟨[.int, .int], none⟩ := by decide +kernel
theorem pd_15 : parseMethodDescriptor "([BII)[B" = some ⟨[(.array .byte), .int, .int], some (.array .byte)⟩ := by decide +kernel
theorem pd_16 : parseMethodDescriptor "()[B" = some ⟨[], some (.array .byte)⟩ := by decide +kernel
theorem pd_17 : parseMethodDescriptor "()Z" = some ⟨[], some .boolean⟩ := by decide +kernel
theorem pd_18 : parseMethodDescriptor "(Ljava/lang/AbstractStringBuilder;Ljava/lang/Void;)V" = some ⟨[(.object "java/lang/AbstractStringBuilder"), (.object "java/lang/Void")], none⟩ := by decide +kernel
theorem pd_19 : parseMethodDescriptor "(Ljava/lang/StringBuilder;)V" = some ⟨[(.object "java/lang/StringBuilder")], none⟩ := by decide +kernel
theorem pd_20 : parseMethodDescriptor "(C)Z" = some ⟨[.char], some .boolean⟩ := by decide +kernel
theorem pd_21 : parseMethodDescriptor "(C)[B" = some ⟨[.char], some (.array .byte)⟩ := by decide +kernel
theorem pd_22 : parseMethodDescriptor "([BB)V" = some ⟨[(.array .byte), .byte], none⟩ := by decide +kernel
theorem pd_23 : parseMethodDescriptor "(IIILjava/util/function/BiFunction;)I" = some ⟨[.int, .int, .int, (.object "java/util/function/BiFunction")], some .int⟩ := by decide +kernel
theorem pd_24 : parseMethodDescriptor "(III)V" = some ⟨[.int, .int, .int], none⟩ := by decide +kernel
theorem pd_25 : parseMethodDescriptor "([BII)Ljava/lang/String;" = some ⟨[(.array .byte), .int, .int], some (.object "java/lang/String")⟩ := by decide +kernel
theorem pd_26 : parseMethodDescriptor "(C)Ljava/lang/String;" = some ⟨[.char], some (.object "java/lang/String")⟩ := by decide +kernel
theorem pd_27 : parseMethodDescriptor "([C)V" = some ⟨[(.array .char)], none⟩ := by decide +kernel
theorem pd_28 : parseMethodDescriptor "(Ljava/lang/Object;)Ljava/lang/Object;" = some ⟨[(.object "java/lang/Object")], some (.object "java/lang/Object")⟩ := by decide +kernel
theorem pd_29 : parseMethodDescriptor "(Ljava/lang/String;)Ljava/lang/StringBuilder;" = some ⟨[(.object "java/lang/String")], some (.object "java/lang/StringBuilder")⟩ := by decide +kernel
theorem pd_30 : parseMethodDescriptor "()Ljava/lang/String;" = some ⟨[], some (.object "java/lang/String")⟩ := by decide +kernel
theorem pd_31 : parseMethodDescriptor "(Ljava/lang/String;[I)V" = some ⟨[(.object "java/lang/String"), (.array .int)], none⟩ := by decide +kernel
theorem pd_32 : parseMethodDescriptor "(II)Ljava/lang/String;" = some ⟨[.int, .int], some (.object "java/lang/String")⟩ := by decide +kernel
theorem pd_33 : parseMethodDescriptor "(I)Ljava/lang/String;" = some ⟨[.int], some (.object "java/lang/String")⟩ := by decide +kernel
theorem pd_34 : parseMethodDescriptor "(Ljava/util/List;)Ljava/util/List;" = some ⟨[(.object "java/util/List")], some (.object "java/util/List")⟩ := by decide +kernel
theorem pd_35 : parseMethodDescriptor "(Ljava/lang/Object;)Z" = some ⟨[(.object "java/lang/Object")], some .boolean⟩ := by decide +kernel
theorem pn_0 : plainName "java/util/AbstractCollection" = true := by first | (simp [plainName, overriddenIn]; done) | decide +kernel
theorem pn_1 : plainName "java/util/AbstractList" = true := by first | (simp [plainName, overriddenIn]; done) | decide +kernel
theorem pn_2 : plainName "java/util/ArrayList" = true := by first | (simp [plainName, overriddenIn]; done) | decide +kernel
theorem pn_3 : plainName "jdk/internal/util/Preconditions" = true := by first | (simp [plainName, overriddenIn]; done) | decide +kernel
theorem pn_4 : plainName "java/util/Objects" = true := by first | (simp [plainName, overriddenIn]; done) | decide +kernel
theorem pn_5 : plainName "java/lang/AbstractStringBuilder" = true := by first | (simp [plainName, overriddenIn]; done) | decide +kernel
theorem pn_6 : plainName "java/lang/StringBuilder" = true := by first | (simp [plainName, overriddenIn]; done) | decide +kernel
theorem pn_7 : plainName "java/lang/String" = true := by first | (simp [plainName, overriddenIn]; done) | decide +kernel
theorem pn_8 : plainName "java/util/Arrays" = true := by first | (simp [plainName, overriddenIn]; done) | decide +kernel
theorem pn_9 : plainName "java/lang/StringLatin1" = true := by first | (simp [plainName, overriddenIn]; done) | decide +kernel
theorem pn_10 : plainName "com/example/vectorfire/vectorfire/model/PackedLinesCopyOfPinLaw" = true := by first | (simp [plainName, overriddenIn]; done) | decide +kernel
theorem pn_11 : plainName "com/example/vectorfire/vectorfire/model/PackedLines" = true := by first | (simp [plainName, overriddenIn]; done) | decide +kernel
theorem ef_bAC (m : MethodId) (a : Addr) : entryFrame m #[(.ref a)] 1 = mkF m 0 #[.val (.ref a)] [] := by first | (simp [entryFrame, mkF, argsToLocals, Value.category]; done) | rfl
theorem ef_bAbl (m : MethodId) (a : Addr) : entryFrame m #[(.ref a)] 1 = mkF m 0 #[.val (.ref a)] [] := by first | (simp [entryFrame, mkF, argsToLocals, Value.category]; done) | rfl
theorem ef_bAli (m : MethodId) (a : Addr) : entryFrame m #[(.ref a)] 1 = mkF m 0 #[.val (.ref a)] [] := by first | (simp [entryFrame, mkF, argsToLocals, Value.category]; done) | rfl
theorem ef_bMax (m : MethodId) (x : Int32) (y : Int32) : entryFrame m #[(.int x), (.int y)] 2 = mkF m 0 #[.val (.int x), .val (.int y)] [] := by first | (simp [entryFrame, mkF, argsToLocals, Value.category]; done) | rfl
theorem ef_bGr1 (m : MethodId) (l : Addr) (k : Int32) : entryFrame m #[(.ref l), (.int k)] 4 = mkF m 0 #[.val (.ref l), .val (.int k), .unset, .unset] [] := by first | (simp [entryFrame, mkF, argsToLocals, Value.category]; done) | rfl
theorem ef_bGr0 (m : MethodId) (l : Addr) : entryFrame m #[(.ref l)] 1 = mkF m 0 #[.val (.ref l)] [] := by first | (simp [entryFrame, mkF, argsToLocals, Value.category]; done) | rfl
theorem ef_bAd3_0 (m : MethodId) (l : Addr) (x : Addr) (dc : Addr) (k : Int32) : entryFrame m #[(.ref l), (.ref x), (.ref dc), (.int k)] 4 = mkF m 0 #[.val (.ref l), .val (.ref x), .val (.ref dc), .val (.int k)] [] := by first | (simp [entryFrame, mkF, argsToLocals, Value.category]; done) | rfl
theorem ef_bAd_0 (m : MethodId) (l : Addr) (x : Addr) : entryFrame m #[(.ref l), (.ref x)] 2 = mkF m 0 #[.val (.ref l), .val (.ref x)] [] := by first | (simp [entryFrame, mkF, argsToLocals, Value.category]; done) | rfl
theorem ef_bAd3_1 (m : MethodId) (l : Addr) (x : Addr) (e : Addr) (k : Int32) : entryFrame m #[(.ref l), (.ref x), (.ref e), (.int k)] 4 = mkF m 0 #[.val (.ref l), .val (.ref x), .val (.ref e), .val (.int k)] [] := by first | (simp [entryFrame, mkF, argsToLocals, Value.category]; done) | rfl
theorem ef_bAd_1 (m : MethodId) (l : Addr) (x : Addr) : entryFrame m #[(.ref l), (.ref x)] 2 = mkF m 0 #[.val (.ref l), .val (.ref x)] [] := by first | (simp [entryFrame, mkF, argsToLocals, Value.category]; done) | rfl
theorem ef_bAd3_2 (m : MethodId) (l : Addr) (x : Addr) (e : Addr) (k : Int32) : entryFrame m #[(.ref l), (.ref x), (.ref e), (.int k)] 4 = mkF m 0 #[.val (.ref l), .val (.ref x), .val (.ref e), .val (.int k)] [] := by first | (simp [entryFrame, mkF, argsToLocals, Value.category]; done) | rfl
theorem ef_bAd_2 (m : MethodId) (l : Addr) (x : Addr) : entryFrame m #[(.ref l), (.ref x)] 2 = mkF m 0 #[.val (.ref l), .val (.ref x)] [] := by first | (simp [entryFrame, mkF, argsToLocals, Value.category]; done) | rfl
theorem ef_bAd3_3 (m : MethodId) (l : Addr) (x : Addr) (e : Addr) (k : Int32) : entryFrame m #[(.ref l), (.ref x), (.ref e), (.int k)] 4 = mkF m 0 #[.val (.ref l), .val (.ref x), .val (.ref e), .val (.int k)] [] := by first | (simp [entryFrame, mkF, argsToLocals, Value.category]; done) | rfl
theorem ef_bAd_3 (m : MethodId) (l : Addr) (x : Addr) : entryFrame m #[(.ref l), (.ref x)] 2 = mkF m 0 #[.val (.ref l), .val (.ref x)] [] := by first | (simp [entryFrame, mkF, argsToLocals, Value.category]; done) | rfl
theorem ef_bPci (m : MethodId) (i : Int32) (n : Int32) : entryFrame m #[(.int i), (.int n), .null] 3 = mkF m 0 #[.val (.int i), .val (.int n), .val .null] [] := by first | (simp [entryFrame, mkF, argsToLocals, Value.category]; done) | rfl
theorem ef_bOci (m : MethodId) (i : Int32) (n : Int32) : entryFrame m #[(.int i), (.int n)] 2 = mkF m 0 #[.val (.int i), .val (.int n)] [] := by first | (simp [entryFrame, mkF, argsToLocals, Value.category]; done) | rfl
theorem ef_bEd (m : MethodId) (l : Addr) (i : Int32) : entryFrame m #[(.ref l), (.int i)] 2 = mkF m 0 #[.val (.ref l), .val (.int i)] [] := by first | (simp [entryFrame, mkF, argsToLocals, Value.category]; done) | rfl
theorem ef_bGet (m : MethodId) (l : Addr) (i : Int32) : entryFrame m #[(.ref l), (.int i)] 2 = mkF m 0 #[.val (.ref l), .val (.int i)] [] := by first | (simp [entryFrame, mkF, argsToLocals, Value.category]; done) | rfl
theorem ef_bSz (m : MethodId) (l : Addr) : entryFrame m #[(.ref l)] 1 = mkF m 0 #[.val (.ref l)] [] := by first | (simp [entryFrame, mkF, argsToLocals, Value.category]; done) | rfl
theorem ef_bAi (m : MethodId) (sb : Addr) (k : Int32) : entryFrame m #[(.ref sb), (.int k)] 2 = mkF m 0 #[.val (.ref sb), .val (.int k)] [] := by first | (simp [entryFrame, mkF, argsToLocals, Value.category]; done) | rfl
theorem ef_bSi (m : MethodId) (sb : Addr) : entryFrame m #[(.ref sb)] 1 = mkF m 0 #[.val (.ref sb)] [] := by first | (simp [entryFrame, mkF, argsToLocals, Value.category]; done) | rfl
theorem ef_bCdr (m : MethodId) (x : Addr) : entryFrame m #[(.ref x)] 1 = mkF m 0 #[.val (.ref x)] [] := by first | (simp [entryFrame, mkF, argsToLocals, Value.category]; done) | rfl
theorem ef_bEns (m : MethodId) (sb : Addr) (mn : Int32) : entryFrame m #[(.ref sb), (.int mn)] 3 = mkF m 0 #[.val (.ref sb), .val (.int mn), .unset] [] := by first | (simp [entryFrame, mkF, argsToLocals, Value.category]; done) | rfl
theorem ef_bInf (m : MethodId) (sb : Addr) (x : Addr) : entryFrame m #[(.ref sb), (.ref x)] 2 = mkF m 0 #[.val (.ref sb), .val (.ref x)] [] := by first | (simp [entryFrame, mkF, argsToLocals, Value.category]; done) | rfl
theorem ef_bGb (m : MethodId) (x : Addr) (b : Addr) (dp : Int32) (cd : Int32) : entryFrame m #[(.ref x), (.ref b), (.int dp), (.int cd)] 4 = mkF m 0 #[.val (.ref x), .val (.ref b), .val (.int dp), .val (.int cd)] [] := by first | (simp [entryFrame, mkF, argsToLocals, Value.category]; done) | rfl
theorem ef_bPsa (m : MethodId) (sb : Addr) (i : Int32) (x : Addr) : entryFrame m #[(.ref sb), (.int i), (.ref x)] 3 = mkF m 0 #[.val (.ref sb), .val (.int i), .val (.ref x)] [] := by first | (simp [entryFrame, mkF, argsToLocals, Value.category]; done) | rfl
theorem ef_bAap (m : MethodId) (sb : Addr) (x : Addr) : entryFrame m #[(.ref sb), (.ref x)] 3 = mkF m 0 #[.val (.ref sb), .val (.ref x), .unset] [] := by first | (simp [entryFrame, mkF, argsToLocals, Value.category]; done) | rfl
theorem ef_bApp (m : MethodId) (sb : Addr) (x : Addr) : entryFrame m #[(.ref sb), (.ref x)] 2 = mkF m 0 #[.val (.ref sb), .val (.ref x)] [] := by first | (simp [entryFrame, mkF, argsToLocals, Value.category]; done) | rfl
theorem ef_bGv (m : MethodId) (sb : Addr) : entryFrame m #[(.ref sb)] 1 = mkF m 0 #[.val (.ref sb)] [] := by first | (simp [entryFrame, mkF, argsToLocals, Value.category]; done) | rfl
theorem ef_bAsl (m : MethodId) (sb : Addr) : entryFrame m #[(.ref sb)] 1 = mkF m 0 #[.val (.ref sb)] [] := by first | (simp [entryFrame, mkF, argsToLocals, Value.category]; done) | rfl
theorem ef_bSbl (m : MethodId) (sb : Addr) : entryFrame m #[(.ref sb)] 1 = mkF m 0 #[.val (.ref sb)] [] := by first | (simp [entryFrame, mkF, argsToLocals, Value.category]; done) | rfl
theorem ef_bIl (m : MethodId) (sb : Addr) : entryFrame m #[(.ref sb)] 1 = mkF m 0 #[.val (.ref sb)] [] := by first | (simp [entryFrame, mkF, argsToLocals, Value.category]; done) | rfl
theorem ef_bChk (m : MethodId) (i : Int32) (j : Int32) : entryFrame m #[(.int i), (.int j)] 2 = mkF m 0 #[.val (.int i), .val (.int j)] [] := by first | (simp [entryFrame, mkF, argsToLocals, Value.category]; done) | rfl
theorem ef_bMin (m : MethodId) (i : Int32) (j : Int32) : entryFrame m #[(.int i), (.int j)] 2 = mkF m 0 #[.val (.int i), .val (.int j)] [] := by first | (simp [entryFrame, mkF, argsToLocals, Value.category]; done) | rfl
theorem ef_bCrb (m : MethodId) (a : Addr) (fr : Int32) (to : Int32) : entryFrame m #[(.ref a), (.int fr), (.int to)] 5 = mkF m 0 #[.val (.ref a), .val (.int fr), .val (.int to), .unset, .unset] [] := by first | (simp [entryFrame, mkF, argsToLocals, Value.category]; done) | rfl
theorem ef_bCor (m : MethodId) (a : Addr) (fr : Int32) (to : Int32) : entryFrame m #[(.ref a), (.int fr), (.int to)] 3 = mkF m 0 #[.val (.ref a), .val (.int fr), .val (.int to)] [] := by first | (simp [entryFrame, mkF, argsToLocals, Value.category]; done) | rfl
theorem ef_bN2 (m : MethodId) (x : Addr) (sb : Addr) : entryFrame m #[(.ref x), (.ref sb), .null] 5 = mkF m 0 #[.val (.ref x), .val (.ref sb), .val .null, .unset, .unset] [] := by first | (simp [entryFrame, mkF, argsToLocals, Value.category]; done) | rfl
theorem ef_bN1 (m : MethodId) (x : Addr) (sb : Addr) : entryFrame m #[(.ref x), (.ref sb)] 2 = mkF m 0 #[.val (.ref x), .val (.ref sb)] [] := by first | (simp [entryFrame, mkF, argsToLocals, Value.category]; done) | rfl
theorem ef_bTos (m : MethodId) (sb : Addr) : entryFrame m #[(.ref sb)] 1 = mkF m 0 #[.val (.ref sb)] [] := by first | (simp [entryFrame, mkF, argsToLocals, Value.category]; done) | rfl
theorem ef_bNewBB (m : MethodId) (x : Addr) (b : Addr) (cd : Int32) : entryFrame m #[(.ref x), (.ref b), (.int cd)] 3 = mkF m 0 #[.val (.ref x), .val (.ref b), .val (.int cd)] [] := by first | (simp [entryFrame, mkF, argsToLocals, Value.category]; done) | rfl
theorem ef_bCanE (m : MethodId) (ch : Int32) : entryFrame m #[(.int ch)] 1 = mkF m 0 #[.val (.int ch)] [] := by first | (simp [entryFrame, mkF, argsToLocals, Value.category]; done) | rfl
theorem ef_bToB (m : MethodId) (ch : Int32) : entryFrame m #[(.int ch)] 1 = mkF m 0 #[.val (.int ch)] [] := by first | (simp [entryFrame, mkF, argsToLocals, Value.category]; done) | rfl
theorem ef_bValOf (m : MethodId) (ch : Int32) : entryFrame m #[(.int ch)] 1 = mkF m 0 #[.val (.int ch)] [] := by first | (simp [entryFrame, mkF, argsToLocals, Value.category]; done) | rfl
theorem ef_bMin2 (m : MethodId) (i : Int32) (j : Int32) : entryFrame m #[(.int i), (.int j)] 2 = mkF m 0 #[.val (.int i), .val (.int j)] [] := by first | (simp [entryFrame, mkF, argsToLocals, Value.category]; done) | rfl
theorem ef_bCrg (m : MethodId) (a : Addr) (fr : Int32) (to : Int32) : entryFrame m #[(.ref a), (.int fr), (.int to)] 5 = mkF m 0 #[.val (.ref a), .val (.int fr), .val (.int to), .unset, .unset] [] := by first | (simp [entryFrame, mkF, argsToLocals, Value.category]; done) | rfl
theorem ef_bCog (m : MethodId) (a : Addr) (fr : Int32) (to : Int32) : entryFrame m #[(.ref a), (.int fr), (.int to)] 3 = mkF m 0 #[.val (.ref a), .val (.int fr), .val (.int to)] [] := by first | (simp [entryFrame, mkF, argsToLocals, Value.category]; done) | rfl
theorem ef_bNs (m : MethodId) (a : Addr) (ix : Int32) (ln : Int32) : entryFrame m #[(.ref a), (.int ix), (.int ln)] 3 = mkF m 0 #[.val (.ref a), .val (.int ix), .val (.int ln)] [] := by first | (simp [entryFrame, mkF, argsToLocals, Value.category]; done) | rfl
theorem ef_bCft0 (m : MethodId) (i : Int32) (j : Int32) (k : Int32) (fr : Addr) : entryFrame m #[(.int i), (.int j), (.int k), (.ref fr)] 4 = mkF m 0 #[.val (.int i), .val (.int j), .val (.int k), .val (.ref fr)] [] := by first | (simp [entryFrame, mkF, argsToLocals, Value.category]; done) | rfl
theorem ef_bCft1 (m : MethodId) (i : Int32) (j : Int32) (k : Int32) : entryFrame m #[(.int i), (.int j), (.int k), .null] 4 = mkF m 0 #[.val (.int i), .val (.int j), .val (.int k), .val .null] [] := by first | (simp [entryFrame, mkF, argsToLocals, Value.category]; done) | rfl
theorem ef_bCbb (m : MethodId) (i : Int32) (j : Int32) (k : Int32) : entryFrame m #[(.int i), (.int j), (.int k)] 3 = mkF m 0 #[.val (.int i), .val (.int j), .val (.int k)] [] := by first | (simp [entryFrame, mkF, argsToLocals, Value.category]; done) | rfl
theorem ef_bSl1 (m : MethodId) (x : Addr) : entryFrame m #[(.ref x)] 1 = mkF m 0 #[.val (.ref x)] [] := by first | (simp [entryFrame, mkF, argsToLocals, Value.category]; done) | rfl
theorem ef_bSub (m : MethodId) (x : Addr) (bi : Int32) (ei : Int32) : entryFrame m #[(.ref x), (.int bi), (.int ei)] 5 = mkF m 0 #[.val (.ref x), .val (.int bi), .val (.int ei), .unset, .unset] [] := by first | (simp [entryFrame, mkF, argsToLocals, Value.category]; done) | rfl
theorem ef_bLin (m : MethodId) (p : Int32) (ln : Int32) : entryFrame m #[(.int p), (.int ln)] 5 = mkF m 0 #[.val (.int p), .val (.int ln), .unset, .unset, .unset] [] := by first | (simp [entryFrame, mkF, argsToLocals, Value.category]; done) | rfl
theorem ef_bRn1 (m : MethodId) (a : Addr) : entryFrame m #[(.ref a)] 1 = mkF m 0 #[.val (.ref a)] [] := by first | (simp [entryFrame, mkF, argsToLocals, Value.category]; done) | rfl
theorem ef_bAbp (m : MethodId) (a : Addr) : entryFrame m #[(.ref a)] 1 = mkF m 0 #[.val (.ref a)] [] := by first | (simp [entryFrame, mkF, argsToLocals, Value.category]; done) | rfl
theorem ef_bPli (m : MethodId) (a : Addr) (jn : Addr) (en : Addr) : entryFrame m #[(.ref a), (.ref jn), (.ref en)] 3 = mkF m 0 #[.val (.ref a), .val (.ref jn), .val (.ref en)] [] := by first | (simp [entryFrame, mkF, argsToLocals, Value.category]; done) | rfl
theorem ef_bCpy0 (m : MethodId) (l : Addr) : entryFrame m #[(.ref l)] 4 = mkF m 0 #[.val (.ref l), .unset, .unset, .unset] [] := by first | (simp [entryFrame, mkF, argsToLocals, Value.category]; done) | rfl
theorem ef_bCpy1 (m : MethodId) (l : Addr) : entryFrame m #[(.ref l)] 4 = mkF m 0 #[.val (.ref l), .unset, .unset, .unset] [] := by first | (simp [entryFrame, mkF, argsToLocals, Value.category]; done) | rfl
theorem ef_bCpy2 (m : MethodId) (l : Addr) : entryFrame m #[(.ref l)] 4 = mkF m 0 #[.val (.ref l), .unset, .unset, .unset] [] := by first | (simp [entryFrame, mkF, argsToLocals, Value.category]; done) | rfl
theorem ef_bCpy3 (m : MethodId) (l : Addr) : entryFrame m #[(.ref l)] 4 = mkF m 0 #[.val (.ref l), .unset, .unset, .unset] [] := by first | (simp [entryFrame, mkF, argsToLocals, Value.category]; done) | rfl
theorem ef_bPsz (m : MethodId) (a : Addr) : entryFrame m #[(.ref a)] 1 = mkF m 0 #[.val (.ref a)] [] := by first | (simp [entryFrame, mkF, argsToLocals, Value.category]; done) | rfl
theorem ef_bPgs0 (m : MethodId) (a : Addr) (ii : Int32) : entryFrame m #[(.ref a), (.int ii)] 2 = mkF m 0 #[.val (.ref a), .val (.int ii)] [] := by first | (simp [entryFrame, mkF, argsToLocals, Value.category]; done) | rfl
theorem ef_bPgo0 (m : MethodId) (a : Addr) (ii : Int32) : entryFrame m #[(.ref a), (.int ii)] 2 = mkF m 0 #[.val (.ref a), .val (.int ii)] [] := by first | (simp [entryFrame, mkF, argsToLocals, Value.category]; done) | rfl
theorem ef_bPgs1 (m : MethodId) (a : Addr) (ii : Int32) : entryFrame m #[(.ref a), (.int ii)] 2 = mkF m 0 #[.val (.ref a), .val (.int ii)] [] := by first | (simp [entryFrame, mkF, argsToLocals, Value.category]; done) | rfl
theorem ef_bPgo1 (m : MethodId) (a : Addr) (ii : Int32) : entryFrame m #[(.ref a), (.int ii)] 2 = mkF m 0 #[.val (.ref a), .val (.int ii)] [] := by first | (simp [entryFrame, mkF, argsToLocals, Value.category]; done) | rfl
theorem ef_bPgs2 (m : MethodId) (a : Addr) (ii : Int32) : entryFrame m #[(.ref a), (.int ii)] 2 = mkF m 0 #[.val (.ref a), .val (.int ii)] [] := by first | (simp [entryFrame, mkF, argsToLocals, Value.category]; done) | rfl
theorem ef_bPgo2 (m : MethodId) (a : Addr) (ii : Int32) : entryFrame m #[(.ref a), (.int ii)] 2 = mkF m 0 #[.val (.ref a), .val (.int ii)] [] := by first | (simp [entryFrame, mkF, argsToLocals, Value.category]; done) | rfl
theorem ef_law (m : MethodId) (p0 : Int32) (p1 : Int32) (p2 : Int32) (p3 : Int32) : entryFrame m #[(.int p0), (.int p1), (.int p2), (.int p3)] maxLocals = mkF m 0 #[.val (.int p0), .val (.int p1), .val (.int p2), .val (.int p3), .unset, .unset, .unset, .unset, .unset, .unset, .unset] [] := by first | (simp [entryFrame, mkF, argsToLocals, Value.category, maxLocals]; done) | rfl
theorem and3 (x : Int32) : x &&& 3 = 0 ∨ x &&& 3 = 1 ∨ x &&& 3 = 2 ∨ x &&& 3 = 3 := by
  have h := c_and x 3 (by decide)
  have e3 : (3 : Int32).toInt = 3 := by decide
  have k : ∀ j : Int32, (x &&& 3).toInt = j.toInt → x &&& 3 = j := fun j q => Int32.toInt_inj.mp q
  have e0 : (0 : Int32).toInt = 0 := by decide
  have e1 : (1 : Int32).toInt = 1 := by decide
  have e2 : (2 : Int32).toInt = 2 := by decide
  rcases (by omega : (x &&& 3).toInt = 0 ∨ (x &&& 3).toInt = 1 ∨ (x &&& 3).toInt = 2 ∨ (x &&& 3).toInt = 3) with q | q | q | q
  · exact Or.inl (k 0 (q.trans e0.symm))
  · exact Or.inr (Or.inl (k 1 (q.trans e1.symm)))
  · exact Or.inr (Or.inr (Or.inl (k 2 (q.trans e2.symm))))
  · exact Or.inr (Or.inr (Or.inr (k 3 (q.trans e3.symm))))
theorem cutL {P c R J : List Int32} (hJ : J = P ++ c ++ R) {f t : Nat} (hf : f = P.length) (ht : t = (P ++ c).length) : (J.drop f).take (t - f) = c := by
  subst hJ hf ht
  simp [List.append_assoc]
abbrev bAC : Own.Bo := (⟨"java/util/AbstractCollection", "<init>", "()V"⟩, jdk_22_method_1_code, 1, none, ({ frames := 1, cells := 0, slots := 0, locals := 12 } : Room))
abbrev bAbl : Own.Bo := (⟨"java/util/AbstractList", "<init>", "()V"⟩, jdk_39_method_1_code, 1, none, ({ frames := 2, cells := 0, slots := 0, locals := 25 } : Room))
abbrev bAli : Own.Bo := (⟨"java/util/ArrayList", "<init>", "()V"⟩, jdk_38_method_2_code, 1, none, ({ frames := 3, cells := 0, slots := 0, locals := 38 } : Room))
abbrev bMax : Own.Bo := (⟨"java/lang/Math", "max", "(II)I"⟩, jdk_29_method_65_code, 2, (some .int), ({ frames := 0, cells := 0, slots := 0, locals := 0 } : Room))
abbrev bGr1 : Own.Bo := (⟨"java/util/ArrayList", "grow", "(I)[Ljava/lang/Object;"⟩, jdk_38_method_6_code, 4, (some (.array (.object "java/lang/Object"))), ({ frames := 1, cells := 1, slots := 10, locals := 18 } : Room))
abbrev bGr0 : Own.Bo := (⟨"java/util/ArrayList", "grow", "()[Ljava/lang/Object;"⟩, jdk_38_method_7_code, 1, (some (.array (.object "java/lang/Object"))), ({ frames := 2, cells := 1, slots := 10, locals := 33 } : Room))
abbrev bAd3_0 : Own.Bo := (⟨"java/util/ArrayList", "add", "(Ljava/lang/Object;[Ljava/lang/Object;I)V"⟩, jdk_38_method_24_code, 4, none, ({ frames := 3, cells := 1, slots := 10, locals := 46 } : Room))
abbrev bAd_0 : Own.Bo := (⟨"java/util/ArrayList", "add", "(Ljava/lang/Object;)Z"⟩, jdk_38_method_25_code, 2, (some .boolean), ({ frames := 4, cells := 1, slots := 10, locals := 62 } : Room))
abbrev bAd3_1 : Own.Bo := (⟨"java/util/ArrayList", "add", "(Ljava/lang/Object;[Ljava/lang/Object;I)V"⟩, jdk_38_method_24_code, 4, none, ({ frames := 3, cells := 1, slots := 10, locals := 46 } : Room))
abbrev bAd_1 : Own.Bo := (⟨"java/util/ArrayList", "add", "(Ljava/lang/Object;)Z"⟩, jdk_38_method_25_code, 2, (some .boolean), ({ frames := 4, cells := 1, slots := 10, locals := 62 } : Room))
abbrev bAd3_2 : Own.Bo := (⟨"java/util/ArrayList", "add", "(Ljava/lang/Object;[Ljava/lang/Object;I)V"⟩, jdk_38_method_24_code, 4, none, ({ frames := 3, cells := 1, slots := 10, locals := 46 } : Room))
abbrev bAd_2 : Own.Bo := (⟨"java/util/ArrayList", "add", "(Ljava/lang/Object;)Z"⟩, jdk_38_method_25_code, 2, (some .boolean), ({ frames := 4, cells := 1, slots := 10, locals := 62 } : Room))
abbrev bAd3_3 : Own.Bo := (⟨"java/util/ArrayList", "add", "(Ljava/lang/Object;[Ljava/lang/Object;I)V"⟩, jdk_38_method_24_code, 4, none, ({ frames := 3, cells := 1, slots := 10, locals := 46 } : Room))
abbrev bAd_3 : Own.Bo := (⟨"java/util/ArrayList", "add", "(Ljava/lang/Object;)Z"⟩, jdk_38_method_25_code, 2, (some .boolean), ({ frames := 4, cells := 1, slots := 10, locals := 62 } : Room))
abbrev bPci : Own.Bo := (⟨"jdk/internal/util/Preconditions", "checkIndex", "(IILjava/util/function/BiFunction;)I"⟩, jdk_41_method_11_code, 3, (some .int), ({ frames := 0, cells := 0, slots := 0, locals := 0 } : Room))
abbrev bOci : Own.Bo := (⟨"java/util/Objects", "checkIndex", "(II)I"⟩, jdk_31_method_17_code, 2, (some .int), ({ frames := 1, cells := 0, slots := 0, locals := 14 } : Room))
abbrev bEd : Own.Bo := (⟨"java/util/ArrayList", "elementData", "(I)Ljava/lang/Object;"⟩, jdk_38_method_18_code, 2, (some (.object "java/lang/Object")), ({ frames := 0, cells := 0, slots := 0, locals := 0 } : Room))
abbrev bGet : Own.Bo := (⟨"java/util/ArrayList", "get", "(I)Ljava/lang/Object;"⟩, jdk_38_method_20_code, 2, (some (.object "java/lang/Object")), ({ frames := 2, cells := 0, slots := 0, locals := 30 } : Room))
abbrev bSz : Own.Bo := (⟨"java/util/ArrayList", "size", "()I"⟩, jdk_38_method_8_code, 1, (some .int), ({ frames := 0, cells := 0, slots := 0, locals := 0 } : Room))
abbrev bAi : Own.Bo := (⟨"java/lang/AbstractStringBuilder", "<init>", "(I)V"⟩, jdk_68_method_2_code, 2, none, ({ frames := 1, cells := 1, slots := 16, locals := 12 } : Room))
abbrev bSi : Own.Bo := (⟨"java/lang/StringBuilder", "<init>", "()V"⟩, jdk_67_method_1_code, 1, none, ({ frames := 2, cells := 1, slots := 16, locals := 26 } : Room))
abbrev bCdr : Own.Bo := (⟨"java/lang/String", "coder", "()B"⟩, jdk_42_method_152_code, 1, (some .byte), ({ frames := 0, cells := 0, slots := 0, locals := 0 } : Room))
abbrev bEns : Own.Bo := (⟨"java/lang/AbstractStringBuilder", "ensureCapacityInternal", "(I)V"⟩, jdk_68_method_9_code, 3, none, ({ frames := 0, cells := 0, slots := 0, locals := 0 } : Room))
abbrev bInf : Own.Bo := (⟨"java/lang/AbstractStringBuilder", "inflateIfNeededFor", "(Ljava/lang/String;)V"⟩, jdk_68_method_71_code, 2, none, ({ frames := 1, cells := 0, slots := 0, locals := 14 } : Room))
abbrev bGb : Own.Bo := (⟨"java/lang/String", "getBytes", "([BIB)V"⟩, jdk_42_method_147_code, 4, none, ({ frames := 1, cells := 0, slots := 0, locals := 20 } : Room))
abbrev bPsa : Own.Bo := (⟨"java/lang/AbstractStringBuilder", "putStringAt", "(ILjava/lang/String;)V"⟩, jdk_68_method_73_code, 3, none, ({ frames := 2, cells := 0, slots := 0, locals := 40 } : Room))
abbrev bAap : Own.Bo := (⟨"java/lang/AbstractStringBuilder", "append", "(Ljava/lang/String;)Ljava/lang/AbstractStringBuilder;"⟩, jdk_68_method_22_code, 3, (some (.object "java/lang/AbstractStringBuilder")), ({ frames := 3, cells := 0, slots := 0, locals := 58 } : Room))
abbrev bApp : Own.Bo := (⟨"java/lang/StringBuilder", "append", "(Ljava/lang/String;)Ljava/lang/StringBuilder;"⟩, jdk_67_method_7_code, 2, (some (.object "java/lang/StringBuilder")), ({ frames := 4, cells := 0, slots := 0, locals := 74 } : Room))
abbrev bGv : Own.Bo := (⟨"java/lang/AbstractStringBuilder", "getValue", "()[B"⟩, jdk_68_method_64_code, 1, (some (.array .byte)), ({ frames := 0, cells := 0, slots := 0, locals := 0 } : Room))
abbrev bAsl : Own.Bo := (⟨"java/lang/AbstractStringBuilder", "length", "()I"⟩, jdk_68_method_6_code, 1, (some .int), ({ frames := 0, cells := 0, slots := 0, locals := 0 } : Room))
abbrev bSbl : Own.Bo := (⟨"java/lang/StringBuilder", "length", "()I"⟩, jdk_67_method_93_code, 1, (some .int), ({ frames := 1, cells := 0, slots := 0, locals := 14 } : Room))
abbrev bIl : Own.Bo := (⟨"java/lang/AbstractStringBuilder", "isLatin1", "()Z"⟩, jdk_68_method_68_code, 1, (some .boolean), ({ frames := 0, cells := 0, slots := 0, locals := 0 } : Room))
abbrev bChk : Own.Bo := (⟨"java/util/Arrays", "checkLength", "(II)V"⟩, jdk_65_method_131_code, 2, none, ({ frames := 0, cells := 0, slots := 0, locals := 0 } : Room))
abbrev bMin : Own.Bo := (⟨"java/lang/Math", "min", "(II)I"⟩, jdk_29_method_69_code, 2, (some .int), ({ frames := 0, cells := 0, slots := 0, locals := 0 } : Room))
abbrev bCrb : Own.Bo := (⟨"java/util/Arrays", "copyOfRangeByte", "([BII)[B"⟩, jdk_65_method_133_code, 5, (some (.array .byte)), ({ frames := 1, cells := 1, slots := 16, locals := 26 } : Room))
abbrev bCor : Own.Bo := (⟨"java/util/Arrays", "copyOfRange", "([BII)[B"⟩, jdk_65_method_132_code, 3, (some (.array .byte)), ({ frames := 2, cells := 1, slots := 16, locals := 44 } : Room))
abbrev bN2 : Own.Bo := (⟨"java/lang/String", "<init>", "(Ljava/lang/AbstractStringBuilder;Ljava/lang/Void;)V"⟩, jdk_42_method_150_code, 5, none, ({ frames := 3, cells := 1, slots := 16, locals := 62 } : Room))
abbrev bN1 : Own.Bo := (⟨"java/lang/String", "<init>", "(Ljava/lang/StringBuilder;)V"⟩, jdk_42_method_53_code, 2, none, ({ frames := 4, cells := 1, slots := 16, locals := 80 } : Room))
abbrev bTos : Own.Bo := (⟨"java/lang/StringBuilder", "toString", "()Ljava/lang/String;"⟩, jdk_67_method_42_code, 1, (some (.object "java/lang/String")), ({ frames := 5, cells := 2, slots := 20, locals := 96 } : Room))
abbrev bNewBB : Own.Bo := (⟨"java/lang/String", "<init>", "([BB)V"⟩, jdk_42_method_151_code, 3, none, ({ frames := 1, cells := 0, slots := 0, locals := 12 } : Room))
abbrev bCanE : Own.Bo := (⟨"java/lang/StringLatin1", "canEncode", "(C)Z"⟩, jdk_43_method_3_code, 1, (some .boolean), ({ frames := 0, cells := 0, slots := 0, locals := 0 } : Room))
abbrev bToB : Own.Bo := (⟨"java/lang/StringLatin1", "toBytes", "(C)[B"⟩, jdk_43_method_46_code, 1, (some (.array .byte)), ({ frames := 0, cells := 1, slots := 1, locals := 0 } : Room))
abbrev bValOf : Own.Bo := (⟨"java/lang/String", "valueOf", "(C)Ljava/lang/String;"⟩, jdk_42_method_139_code, 1, (some (.object "java/lang/String")), ({ frames := 2, cells := 2, slots := 5, locals := 30 } : Room))
abbrev bMin2 : Own.Bo := (⟨"java/lang/Math", "min", "(II)I"⟩, jdk_29_method_69_code, 2, (some .int), ({ frames := 0, cells := 0, slots := 0, locals := 0 } : Room))
abbrev bCrg : Own.Bo := (⟨"java/util/Arrays", "copyOfRangeByte", "([BII)[B"⟩, jdk_65_method_133_code, 5, (some (.array .byte)), ({ frames := 1, cells := 1, slots := 16, locals := 26 } : Room))
abbrev bCog : Own.Bo := (⟨"java/util/Arrays", "copyOfRange", "([BII)[B"⟩, jdk_65_method_132_code, 3, (some (.array .byte)), ({ frames := 2, cells := 1, slots := 16, locals := 44 } : Room))
abbrev bNs : Own.Bo := (⟨"java/lang/StringLatin1", "newString", "([BII)Ljava/lang/String;"⟩, jdk_43_method_47_code, 3, (some (.object "java/lang/String")), ({ frames := 3, cells := 2, slots := 20, locals := 62 } : Room))
abbrev bCft0 : Own.Bo := (⟨"jdk/internal/util/Preconditions", "checkFromToIndex", "(IIILjava/util/function/BiFunction;)I"⟩, jdk_41_method_12_code, 4, (some .int), ({ frames := 0, cells := 0, slots := 0, locals := 0 } : Room))
abbrev bCft1 : Own.Bo := (⟨"jdk/internal/util/Preconditions", "checkFromToIndex", "(IIILjava/util/function/BiFunction;)I"⟩, jdk_41_method_12_code, 4, (some .int), ({ frames := 0, cells := 0, slots := 0, locals := 0 } : Room))
abbrev bCbb : Own.Bo := (⟨"java/lang/String", "checkBoundsBeginEnd", "(III)V"⟩, jdk_42_method_158_code, 3, none, ({ frames := 1, cells := 0, slots := 0, locals := 16 } : Room))
abbrev bSl1 : Own.Bo := (⟨"java/lang/String", "isLatin1", "()Z"⟩, jdk_42_method_154_code, 1, (some .boolean), ({ frames := 0, cells := 0, slots := 0, locals := 0 } : Room))
abbrev bSub : Own.Bo := (⟨"java/lang/String", "substring", "(II)Ljava/lang/String;"⟩, jdk_42_method_92_code, 5, (some (.object "java/lang/String")), ({ frames := 4, cells := 2, slots := 20, locals := 80 } : Room))
abbrev bLin : Own.Bo := (⟨"com/example/vectorfire/vectorfire/model/PackedLinesCopyOfPinLaw", "line", "(II)Ljava/lang/String;"⟩, method_2_code, 5, (some (.object "java/lang/String")), ({ frames := 4, cells := 3, slots := 10, locals := 70 } : Room))
abbrev bRn1 : Own.Bo := (⟨"java/util/Objects", "requireNonNull", "(Ljava/lang/Object;)Ljava/lang/Object;"⟩, jdk_31_method_10_code, 1, (some (.object "java/lang/Object")), ({ frames := 0, cells := 0, slots := 0, locals := 0 } : Room))
abbrev bAbp : Own.Bo := (⟨"java/util/AbstractList", "<init>", "()V"⟩, jdk_39_method_1_code, 1, none, ({ frames := 2, cells := 0, slots := 0, locals := 25 } : Room))
abbrev bPli : Own.Bo := (⟨"com/example/vectorfire/vectorfire/model/PackedLines", "<init>", "(Ljava/lang/String;[I)V"⟩, prog_8_method_1_code, 3, none, ({ frames := 3, cells := 0, slots := 0, locals := 40 } : Room))
abbrev bCpy0 : Own.Bo := (⟨"com/example/vectorfire/vectorfire/model/PackedLines", "copyOf", "(Ljava/util/List;)Ljava/util/List;"⟩, prog_8_method_2_code, 4, (some (.object "java/util/List")), ({ frames := 6, cells := 6, slots := 46, locals := 120 } : Room))
abbrev bCpy1 : Own.Bo := (⟨"com/example/vectorfire/vectorfire/model/PackedLines", "copyOf", "(Ljava/util/List;)Ljava/util/List;"⟩, prog_8_method_2_code, 4, (some (.object "java/util/List")), ({ frames := 6, cells := 6, slots := 46, locals := 120 } : Room))
abbrev bCpy2 : Own.Bo := (⟨"com/example/vectorfire/vectorfire/model/PackedLines", "copyOf", "(Ljava/util/List;)Ljava/util/List;"⟩, prog_8_method_2_code, 4, (some (.object "java/util/List")), ({ frames := 6, cells := 6, slots := 46, locals := 120 } : Room))
abbrev bCpy3 : Own.Bo := (⟨"com/example/vectorfire/vectorfire/model/PackedLines", "copyOf", "(Ljava/util/List;)Ljava/util/List;"⟩, prog_8_method_2_code, 4, (some (.object "java/util/List")), ({ frames := 6, cells := 6, slots := 46, locals := 120 } : Room))
abbrev bPsz : Own.Bo := (⟨"com/example/vectorfire/vectorfire/model/PackedLines", "size", "()I"⟩, prog_8_method_4_code, 1, (some .int), ({ frames := 0, cells := 0, slots := 0, locals := 0 } : Room))
abbrev bPgs0 : Own.Bo := (⟨"com/example/vectorfire/vectorfire/model/PackedLines", "get", "(I)Ljava/lang/String;"⟩, prog_8_method_3_code, 2, (some (.object "java/lang/String")), ({ frames := 5, cells := 2, slots := 20, locals := 100 } : Room))
abbrev bPgo0 : Own.Bo := (⟨"com/example/vectorfire/vectorfire/model/PackedLines", "get", "(I)Ljava/lang/Object;"⟩, prog_8_method_7_code, 2, (some (.object "java/lang/Object")), ({ frames := 6, cells := 2, slots := 20, locals := 116 } : Room))
abbrev bPgs1 : Own.Bo := (⟨"com/example/vectorfire/vectorfire/model/PackedLines", "get", "(I)Ljava/lang/String;"⟩, prog_8_method_3_code, 2, (some (.object "java/lang/String")), ({ frames := 5, cells := 2, slots := 20, locals := 100 } : Room))
abbrev bPgo1 : Own.Bo := (⟨"com/example/vectorfire/vectorfire/model/PackedLines", "get", "(I)Ljava/lang/Object;"⟩, prog_8_method_7_code, 2, (some (.object "java/lang/Object")), ({ frames := 6, cells := 2, slots := 20, locals := 116 } : Room))
abbrev bPgs2 : Own.Bo := (⟨"com/example/vectorfire/vectorfire/model/PackedLines", "get", "(I)Ljava/lang/String;"⟩, prog_8_method_3_code, 2, (some (.object "java/lang/String")), ({ frames := 5, cells := 2, slots := 20, locals := 100 } : Room))
abbrev bPgo2 : Own.Bo := (⟨"com/example/vectorfire/vectorfire/model/PackedLines", "get", "(I)Ljava/lang/Object;"⟩, prog_8_method_7_code, 2, (some (.object "java/lang/Object")), ({ frames := 6, cells := 2, slots := 20, locals := 116 } : Room))
abbrev bLaw : Own.Bo := (x, code, maxLocals, ret, room_1)
set_option maxRecDepth 65536 in
set_option maxHeartbeats 40000000 in
theorem con_ac {G : Own.Gl} (hw : ∀ d ∈ tables_1, d.before G.a0 G.Z = true) (hEL : EW G.Z G.a0 G.EL) (a : Addr) {h : Heap} (hO : Old G.Z G.n0 h) :
    Own.Con G [] bAC #[.ref a] h [] (fun v h' => v = none ∧ h' = h) := by
  refine Own.Con.intro (plainFor_of_name pn_0) hO hEL _ (fun m => ef_bAC m a) ?_
  intro X T0 W0 sf
  refine Own.aloadN W0 d4_0 1 rfl (.ref a) rfl rfl ?_
  refine Own.initO W0 (tw hw 30 rfl) (tw hw 31 rfl) (tw hw 32 rfl) rfl d4_1 4 rfl (by decide) (by decide) ?_
  intro T1 W1
  exact Own.retV W1 (by decide) (by decide) rfl d4_4 ⟨rfl, rfl⟩
set_option maxRecDepth 65536 in
set_option maxHeartbeats 40000000 in
theorem con_abl {G : Own.Gl} (hw : ∀ d ∈ tables_1, d.before G.a0 G.Z = true) (hEL : EW G.Z G.a0 G.EL) {a : Addr} {h : Heap} (hO : Old G.Z G.n0 h) (hn_a : G.n0 ≤ a) (E : Exa G.Z h a "java/util/ArrayList") {um us ue : Value} (Fm : Fld G.Z h a "java/util/AbstractList" "modCount" "I" um) (Fs : Fld G.Z h a "java/util/ArrayList" "size" "I" us) (Fe : Fld G.Z h a "java/util/ArrayList" "elementData" "[Ljava/lang/Object;" ue) :
    Own.Con G [] bAbl #[.ref a] h [] (fun v h' => v = none ∧ Keep h h' [a] ∧ Exa G.Z h' a "java/util/ArrayList" ∧ Fld G.Z h' a "java/util/AbstractList" "modCount" "I" (.int 0) ∧ Fld G.Z h' a "java/util/ArrayList" "size" "I" us ∧ Fld G.Z h' a "java/util/ArrayList" "elementData" "[Ljava/lang/Object;" ue) := by
  refine Own.Con.intro (plainFor_of_name pn_1) hO hEL _ (fun m => ef_bAbl m a) ?_
  intro X T0 W0 sf
  refine Own.aloadN W0 d3_0 1 rfl (.ref a) rfl rfl ?_
  refine Own.callX W0 rfl (tw hw 24 rfl) (tw hw 25 rfl) (tw hw 29 rfl) (by decide) (argsL := []) (rest := []) (Own.Con.pay (con_ac hw hEL a W0.old) W0 (tw hw 29 rfl) (tw hw 28 rfl) (len := 3) (wd := 0) (by decide) (by decide) (fun _ q => nomatch q)) rfl (lenOf pd_0 rfl) rfl (Nat.le_of_ble_eq_true rfl) d3_1 4 rfl 0 0 (Nat.le_of_ble_eq_true rfl) (Nat.le_of_ble_eq_true rfl) (Nat.le_of_ble_eq_true rfl) (Nat.le_of_ble_eq_true rfl) ?_
  intro v1 T1 h1 u1 W1 R1 hq
  obtain ⟨rfl, eh1⟩ := hq
  have ei1 := eh1.symm; subst ei1
  show Own.Go _ _ _ _ _ 4 #[.val (.ref a)] []
  refine Own.aloadN W1 d3_4 5 rfl (.ref a) rfl rfl ?_
  refine Own.iconst W1 d3_5 6 rfl (0 : Int32) rfl ?_
  refine Own.putF W1 (tw hw 33 rfl) Via.refl Fm E (Or.inl (tw hw 34 rfl)) (tw hw 13 rfl) (ty := .int) (v' := (.int (0 : Int32))) (by decide) rfl rfl hn_a (Safe.exa W1.wz.alike E (by decide) (by decide)) d3_6 9 rfl ?_
  intro T2 h2 W2 Q2 k2
  have F2_modCount := Fld.same Q2 Fm
  exact Own.retV W2 (by decide) (by decide) rfl d3_9 ⟨rfl, (Keep.wr (Keep.refl h [a]) Q2 (Or.inl (by simp))), (E.wr Q2), F2_modCount, (Fs.other Q2 (Or.inr (slot_ne (Or.inl (tw hw 70 rfl)) (Or.inl (tw hw 34 rfl)) (by decide) (t := .int) (t' := .int) (by decide) (by decide)))), (Fe.other Q2 (Or.inr (slot_ne (Or.inl (tw hw 37 rfl)) (Or.inl (tw hw 34 rfl)) (by decide) (t := (.array (.object "java/lang/Object"))) (t' := .int) (by decide) (by decide))))⟩
set_option maxRecDepth 65536 in
set_option maxHeartbeats 40000000 in
theorem con_ali {G : Own.Gl} (hw : ∀ d ∈ tables_1, d.before G.a0 G.Z = true) (hEL : EW G.Z G.a0 G.EL) {dc : Addr} {kD : ClassId} (DS : Sta G.Z G.Z.heap "java/util/ArrayList" "DEFAULTCAPACITY_EMPTY_ELEMENTDATA" "[Ljava/lang/Object;" (.ref dc)) (DA : Arv G.Z G.Z.heap dc kD (.object "java/lang/Object") 0 [] .null) {a : Addr} {h : Heap} (hO : Old G.Z G.n0 h) (hn_a : G.n0 ≤ a) (E : Exa G.Z h a "java/util/ArrayList") {um ue : Value} (Fm : Fld G.Z h a "java/util/AbstractList" "modCount" "I" um) (Fs : Fld G.Z h a "java/util/ArrayList" "size" "I" (.int 0)) (Fe : Fld G.Z h a "java/util/ArrayList" "elementData" "[Ljava/lang/Object;" ue) :
    Own.Con G [] bAli #[.ref a] h [] (fun v h' => v = none ∧ Keep h h' [a] ∧ Own.AL G.Z h' a 0 dc) := by
  refine Own.Con.intro (plainFor_of_name pn_2) hO hEL _ (fun m => ef_bAli m a) ?_
  intro X T0 W0 sf
  refine Own.aloadN W0 d2_0 1 rfl (.ref a) rfl rfl ?_
  refine Own.callX W0 rfl (tw hw 18 rfl) (tw hw 19 rfl) (tw hw 23 rfl) (by decide) (argsL := []) (rest := []) (Own.Con.pay (con_abl hw hEL W0.old hn_a E Fm Fs Fe) W0 (tw hw 23 rfl) (tw hw 22 rfl) (len := 3) (wd := 0) (by decide) (by decide) (fun _ q => nomatch q)) rfl (lenOf pd_0 rfl) rfl (Nat.le_of_ble_eq_true rfl) d2_1 4 rfl 0 0 (Nat.le_of_ble_eq_true rfl) (Nat.le_of_ble_eq_true rfl) (Nat.le_of_ble_eq_true rfl) (Nat.le_of_ble_eq_true rfl) ?_
  intro v1 T1 h1 u1 W1 R1 hq
  obtain ⟨rfl, K1, E1, Fm1, Fs1, Fe1⟩ := hq
  show Own.Go _ _ _ _ _ 4 #[.val (.ref a)] []
  refine Own.aloadN W1 d2_4 5 rfl (.ref a) rfl rfl ?_
  refine Own.getS W1 (tw hw 35 rfl) Via.refl (W1.sta DS) d2_5 8 rfl ?_
  intro T2 W2
  refine Own.putF W2 (tw hw 36 rfl) Via.refl Fe1 E1 (Or.inl (tw hw 37 rfl)) (tw hw 13 rfl) (ty := (.array (.object "java/lang/Object"))) (v' := (.ref dc)) (by decide) rfl rfl hn_a (Safe.exa W2.wz.alike E1 (by decide) (by decide)) d2_8 11 rfl ?_
  intro T3 h3 W3 Q3 k3
  have F3_elementData := Fld.same Q3 Fe1
  exact Own.retV W3 (by decide) (by decide) rfl d2_11 ⟨rfl, (Keep.wr (Keep.trans (Keep.refl h [a]) K1 (by intro y hy; simp only [List.mem_cons, List.not_mem_nil, or_false] at hy; rcases hy with rfl; exact (Or.inl (by simp)))) Q3 (Or.inl (by simp))), ⟨(E1.wr Q3), ⟨_, (Fm1.other Q3 (Or.inr (slot_ne (Or.inl (tw hw 34 rfl)) (Or.inl (tw hw 37 rfl)) (by decide) (t := .int) (t' := (.array (.object "java/lang/Object"))) (by decide) (by decide))))⟩, (Fs1.other Q3 (Or.inr (slot_ne (Or.inl (tw hw 70 rfl)) (Or.inl (tw hw 37 rfl)) (by decide) (t := .int) (t' := (.array (.object "java/lang/Object"))) (by decide) (by decide)))), F3_elementData⟩⟩
set_option maxRecDepth 65536 in
set_option maxHeartbeats 40000000 in
theorem con_max {G : Own.Gl} (hw : ∀ d ∈ tables_1, d.before G.a0 G.Z = true) (hEL : EW G.Z G.a0 G.EL) (x y : Int32) (hxy : ¬ x < y) {h : Heap} (hO : Old G.Z G.n0 h) :
    Own.Con G [] bMax #[.int x, .int y] h [] (fun v h' => v = some (.int x) ∧ h' = h) := by
  refine Own.Con.intro (by decide +kernel) hO hEL _ (fun m => ef_bMax m x y) ?_
  intro X T0 W0 sf
  refine Own.iloadN W0 d14_0 1 rfl x rfl ?_
  refine Own.iloadN W0 d14_1 2 rfl y rfl ?_
  refine Own.icmpNo W0 d14_2 5 (XT.ii_lt_f hxy) rfl ?_
  refine Own.iloadN W0 d14_5 6 rfl x rfl ?_
  refine Own.goto W0 d14_6 10 (by decide) (by decide) ?_
  exact Own.retI W0 (by decide) (by decide) rfl d14_10 ⟨rfl, rfl⟩
set_option maxRecDepth 65536 in
set_option maxHeartbeats 40000000 in
theorem con_gr1 {G : Own.Gl} (hw : ∀ d ∈ tables_1, d.before G.a0 G.Z = true) (hEL : EW G.Z G.a0 G.EL) {dc : Addr} {kD : ClassId} (DS : Sta G.Z G.Z.heap "java/util/ArrayList" "DEFAULTCAPACITY_EMPTY_ELEMENTDATA" "[Ljava/lang/Object;" (.ref dc)) (DA : Arv G.Z G.Z.heap dc kD (.object "java/lang/Object") 0 [] .null) {k : Int32} (hk : k = 1) {l : Addr} {h : Heap} (hO : Old G.Z G.n0 h) (hn_l : G.n0 ≤ l) (F : Own.AL G.Z h l 0 dc) :
    Own.Con G [] bGr1 #[.ref l, .int k] h [] (fun v h' => ∃ (e : Addr) (kA : ClassId), v = some (.ref e) ∧ Keep h h' [l] ∧ h.size ≤ e ∧ Own.AL G.Z h' l 0 e ∧ Arv G.Z h' e kA (.object "java/lang/Object") 10 [.null, .null, .null, .null, .null, .null, .null, .null, .null, .null] .null ∧ Ovr G.Z kA "java/lang/Object") := by
  refine Own.Con.intro (plainFor_of_name pn_2) hO hEL _ (fun m => ef_bGr1 m l k) ?_
  intro X T0 W0 sf
  subst hk
  obtain ⟨E, ⟨m, Fm⟩, Fs, Fe⟩ := F
  have DA' := DA.ext W0.old.2
  refine Own.aloadN W0 d13_0 1 rfl (.ref l) rfl rfl ?_
  refine Own.getF W0 (tw hw 36 rfl) Via.refl Fe d13_1 4 rfl ?_
  intro T1 W1
  refine Own.arrlen W1 DA' d13_4 5 rfl ?_
  refine Own.istoreN W1 d13_5 6 rfl #[.val (.ref l), .val (.int (1 : Int32)), .val (.int (0 : Int32)), .unset] rfl ?_
  refine Own.iloadN W1 d13_6 7 rfl (0 : Int32) rfl ?_
  refine Own.ifNo W1 d13_7 10 (by decide) rfl ?_
  refine Own.aloadN W1 d13_10 11 rfl (.ref l) rfl rfl ?_
  refine Own.getF W1 (tw hw 36 rfl) Via.refl Fe d13_11 14 rfl ?_
  intro T2 W2
  refine Own.getS W2 (tw hw 35 rfl) Via.refl (W2.sta DS) d13_14 17 rfl ?_
  intro T3 W3
  refine Own.acmp W3 d13_17 45 rfl rfl true (decide_eq_true rfl) (by decide) rfl ?_
  refine Own.aloadN W3 d13_45 46 rfl (.ref l) rfl rfl ?_
  refine Own.bipush W3 d13_46 48 rfl (10 : Int32) rfl ?_
  refine Own.iloadN W3 d13_48 49 rfl (1 : Int32) rfl ?_
  refine Own.callS W3 (tw hw 96 rfl) (tw hw 97 rfl) (tw hw 98 rfl) (tw hw 99 rfl) (by decide) (argsL := [(.int (10 : Int32)), (.int (1 : Int32))]) (rest := [(.ref l)]) (Own.Con.pay (con_max hw hEL (10 : Int32) (1 : Int32) (by decide) W3.old) W3 (tw hw 99 rfl) (tw hw 98 rfl) (len := 3) (wd := 1) (by decide) (by decide) (fun _ q => nomatch q)) rfl (lenOf pd_1 rfl) rfl (Nat.le_of_ble_eq_true rfl) d13_49 52 rfl 0 0 (Nat.le_of_ble_eq_true rfl) (Nat.le_of_ble_eq_true rfl) (Nat.le_of_ble_eq_true rfl) (Nat.le_of_ble_eq_true rfl) ?_
  intro v4 T4 h4 u4 W4 R4 hq
  obtain ⟨rfl, eh4⟩ := hq
  have ei4 := eh4.symm; subst ei4
  show Own.Go _ _ _ _ _ 52 #[.val (.ref l), .val (.int (1 : Int32)), .val (.int (0 : Int32)), .unset] [(.int (10 : Int32)), (.ref l)]
  refine Own.newR W4 (tw hw 100 rfl) (tw hw 101 rfl) rfl d13_52 55 rfl (by decide) 10 (by decide) (by decide) 1 10 (by decide) (by decide) (by decide) (by decide) ?_
  intro T5 h5 o5 c5 g5 W5 E5 A5 X5 O5 s5 k5
  have V5 : Arv G.Z h5 o5 c5 (.object "java/lang/Object") (10 : Int32) [.null, .null, .null, .null, .null, .null, .null, .null, .null, .null] .null := A5
  refine Own.dupX1 W5 d13_55 56 rfl rfl rfl ?_
  have X7 : Ext h h5 := E5
  refine Own.putF W5 (tw hw 36 rfl) Via.refl (Fe.ext X7) (E.ext X7) (Or.inl (tw hw 37 rfl)) (tw hw 13 rfl) (ty := (.array (.object "java/lang/Object"))) (v' := (.ref o5)) (by decide) rfl rfl hn_l (Safe.exa W5.wz.alike (E.ext X7) (by decide) (by decide)) d13_56 59 rfl ?_
  intro T6 h6 W6 Q6 k6
  have F6_elementData := Fld.same Q6 (Fe.ext X7)
  exact Own.retA W6 (by decide) (by decide) rfl rfl rfl d13_59 ⟨o5, c5, rfl, (Keep.wr (Keep.ext (Keep.refl h [l]) E5) Q6 (Or.inl (by simp))), (Nat.le_of_eq g5.symm), ⟨((E.ext E5).wr Q6), ⟨_, ((Fm.ext E5).other Q6 (Or.inr (slot_ne (Or.inl (tw hw 34 rfl)) (Or.inl (tw hw 37 rfl)) (by decide) (t := .int) (t' := (.array (.object "java/lang/Object"))) (by decide) (by decide))))⟩, ((Fs.ext E5).other Q6 (Or.inr (slot_ne (Or.inl (tw hw 70 rfl)) (Or.inl (tw hw 37 rfl)) (by decide) (t := .int) (t' := (.array (.object "java/lang/Object"))) (by decide) (by decide)))), F6_elementData⟩, (V5.other Q6 (Ne.symm (Nat.ne_of_lt (Nat.lt_of_lt_of_le E.lt (Nat.le_of_eq g5.symm))))), O5⟩
set_option maxRecDepth 65536 in
set_option maxHeartbeats 40000000 in
theorem con_gr0 {G : Own.Gl} (hw : ∀ d ∈ tables_1, d.before G.a0 G.Z = true) (hEL : EW G.Z G.a0 G.EL) {dc : Addr} {kD : ClassId} (DS : Sta G.Z G.Z.heap "java/util/ArrayList" "DEFAULTCAPACITY_EMPTY_ELEMENTDATA" "[Ljava/lang/Object;" (.ref dc)) (DA : Arv G.Z G.Z.heap dc kD (.object "java/lang/Object") 0 [] .null) {l : Addr} {h : Heap} (hO : Old G.Z G.n0 h) (hn_l : G.n0 ≤ l) (F : Own.AL G.Z h l 0 dc) :
    Own.Con G [] bGr0 #[.ref l] h [] (fun v h' => ∃ (e : Addr) (kA : ClassId), v = some (.ref e) ∧ Keep h h' [l] ∧ h.size ≤ e ∧ Own.AL G.Z h' l 0 e ∧ Arv G.Z h' e kA (.object "java/lang/Object") 10 [.null, .null, .null, .null, .null, .null, .null, .null, .null, .null] .null ∧ Ovr G.Z kA "java/lang/Object") := by
  refine Own.Con.intro (plainFor_of_name pn_2) hO hEL _ (fun m => ef_bGr0 m l) ?_
  intro X T0 W0 sf
  obtain ⟨E, ⟨m, Fm⟩, Fs, Fe⟩ := id F
  refine Own.aloadN W0 d12_0 1 rfl (.ref l) rfl rfl ?_
  refine Own.aloadN W0 d12_1 2 rfl (.ref l) rfl rfl ?_
  refine Own.getF W0 (tw hw 69 rfl) Via.refl Fs d12_2 5 rfl ?_
  intro T1 W1
  refine Own.iconst W1 d12_5 6 rfl (1 : Int32) rfl ?_
  refine Own.iadd W1 d12_6 7 rfl ?_
  refine Own.callP W1 (tw hw 91 rfl) (tw hw 92 rfl) (tw hw 94 rfl) (tw hw 93 rfl) (tw hw 95 rfl) (by decide) (argsL := [(.int (1 : Int32))]) (rest := []) (Own.Con.pay (con_gr1 hw hEL DS DA (by decide) W1.old hn_l F) W1 (tw hw 95 rfl) (tw hw 14 rfl) (len := 3) (wd := 0) (by decide) (by decide) (fun _ q => nomatch q)) E rfl (lenOf pd_2 rfl) rfl (Nat.le_of_ble_eq_true rfl) d12_7 10 rfl 1 10 (Nat.le_of_ble_eq_true rfl) (Nat.le_of_ble_eq_true rfl) (Nat.le_of_ble_eq_true rfl) (Nat.le_of_ble_eq_true rfl) ?_
  intro v2 T2 h2 u2 W2 R2 hq
  obtain ⟨e2, c2, rfl, K2, g2, L2, A2, O2⟩ := hq
  show Own.Go _ _ _ _ _ 10 #[.val (.ref l)] [(.ref e2)]
  exact Own.retA W2 (by decide) (by decide) rfl rfl rfl d12_10 ⟨e2, _, rfl, K2, g2, L2, A2, O2⟩
set_option maxRecDepth 65536 in
set_option maxHeartbeats 40000000 in
theorem con_ad3_0 {G : Own.Gl} (hw : ∀ d ∈ tables_1, d.before G.a0 G.Z = true) (hEL : EW G.Z G.a0 G.EL) {dc : Addr} {kD : ClassId} (DS : Sta G.Z G.Z.heap "java/util/ArrayList" "DEFAULTCAPACITY_EMPTY_ELEMENTDATA" "[Ljava/lang/Object;" (.ref dc)) (DA : Arv G.Z G.Z.heap dc kD (.object "java/lang/Object") 0 [] .null) {k : Int32} (hk : k = 0) {l : Addr} {h : Heap} (hO : Old G.Z G.n0 h) (hn_l : G.n0 ≤ l) (F : Own.AL G.Z h l 0 dc) {x : Addr} (Ex : Exa G.Z h x "java/lang/String") :
    Own.Con G [] bAd3_0 #[.ref l, .ref x, .ref dc, .int k] h [] (fun v h' => v = none ∧ ∃ (e : Addr) (kA : ClassId), Keep h h' [l] ∧ h.size ≤ e ∧ Own.AL G.Z h' l 1 e ∧ Arv G.Z h' e kA (.object "java/lang/Object") 10 [.ref x, .null, .null, .null, .null, .null, .null, .null, .null, .null] .null ∧ Ovr G.Z kA "java/lang/Object") := by
  refine Own.Con.intro (plainFor_of_name pn_2) hO hEL _ (fun m => ef_bAd3_0 m l x dc k) ?_
  intro X T0 W0 sf
  subst hk
  obtain ⟨E, ⟨m, Fm⟩, Fs, Fe⟩ := id F
  have DA' := DA.ext W0.old.2
  refine Own.iloadN W0 d11_0 1 rfl (0 : Int32) rfl ?_
  refine Own.aloadN W0 d11_1 2 rfl (.ref dc) rfl rfl ?_
  refine Own.arrlen W0 DA' d11_2 3 rfl ?_
  refine Own.icmpNo W0 d11_3 6 (by decide) rfl ?_
  refine Own.aloadN W0 d11_6 7 rfl (.ref l) rfl rfl ?_
  refine Own.callP W0 (tw hw 86 rfl) (tw hw 87 rfl) (tw hw 89 rfl) (tw hw 88 rfl) (tw hw 90 rfl) (by decide) (argsL := []) (rest := []) (Own.Con.pay (con_gr0 hw hEL DS DA W0.old hn_l F) W0 (tw hw 90 rfl) (tw hw 14 rfl) (len := 3) (wd := 0) (by decide) (by decide) (fun _ q => nomatch q)) E rfl (lenOf pd_3 rfl) rfl (Nat.le_of_ble_eq_true rfl) d11_7 10 rfl 1 10 (Nat.le_of_ble_eq_true rfl) (Nat.le_of_ble_eq_true rfl) (Nat.le_of_ble_eq_true rfl) (Nat.le_of_ble_eq_true rfl) ?_
  intro v1 T1 h1 u1 W1 R1 hq
  obtain ⟨e1, c1, rfl, K1, g1, L1, A1, O1⟩ := hq
  show Own.Go _ _ _ _ _ 10 #[.val (.ref l), .val (.ref x), .val (.ref dc), .val (.int (0 : Int32))] [(.ref e1)]
  obtain ⟨Ea, ⟨m', Fma⟩, Fsa, Fea⟩ := L1
  refine Own.astoreN W1 d11_10 11 rfl rfl #[.val (.ref l), .val (.ref x), .val (.ref e1), .val (.int (0 : Int32))] rfl ?_
  refine Own.aloadN W1 d11_11 12 rfl (.ref e1) rfl rfl ?_
  refine Own.iloadN W1 d11_12 13 rfl (0 : Int32) rfl ?_
  refine Own.aloadN W1 d11_13 14 rfl (.ref x) rfl rfl ?_
  refine Own.aastore W1 A1 O1 (Ins.of_exa (Ex.keep K1) (tw hw 102 rfl)) 0 (by decide) (by decide) (Nat.le_of_ble_eq_true rfl) (Nat.le_trans W0.n0 g1) d11_14 15 rfl ?_
  intro T2 h2 W2 Q2 A2 k2
  have V2 : Arv G.Z h2 e1 c1 (.object "java/lang/Object") (10 : Int32) [(.ref x), .null, .null, .null, .null, .null, .null, .null, .null, .null] .null := A2
  refine Own.aloadN W2 d11_15 16 rfl (.ref l) rfl rfl ?_
  refine Own.iloadN W2 d11_16 17 rfl (0 : Int32) rfl ?_
  refine Own.iconst W2 d11_17 18 rfl (1 : Int32) rfl ?_
  refine Own.iadd W2 d11_18 19 rfl ?_
  refine Own.putF W2 (tw hw 69 rfl) Via.refl (Fsa.other Q2 (Or.inl (Nat.ne_of_lt (Nat.lt_of_lt_of_le E.lt g1)))) (Ea.wr Q2) (Or.inl (tw hw 70 rfl)) (tw hw 13 rfl) (ty := .int) (v' := (.int (1 : Int32))) (by decide) rfl rfl hn_l (Safe.exa W2.wz.alike (Ea.wr Q2) (by decide) (by decide)) d11_19 22 rfl ?_
  intro T3 h3 W3 Q3 k3
  have F3_size := Fld.same Q3 (Fsa.other Q2 (Or.inl (Nat.ne_of_lt (Nat.lt_of_lt_of_le E.lt g1))))
  exact Own.retV W3 (by decide) (by decide) rfl d11_22 ⟨rfl, e1, _, (Keep.wr (Keep.wr (Keep.trans (Keep.refl h [l]) K1 (by intro y hy; simp only [List.mem_cons, List.not_mem_nil, or_false] at hy; rcases hy with rfl; exact (Or.inl (by simp)))) Q2 (Or.inr g1)) Q3 (Or.inl (by simp))), g1, ⟨((Ea.wr Q2).wr Q3), ⟨_, ((Fma.other Q2 (Or.inl (Nat.ne_of_lt (Nat.lt_of_lt_of_le E.lt g1)))).other Q3 (Or.inr (slot_ne (Or.inl (tw hw 34 rfl)) (Or.inl (tw hw 70 rfl)) (by decide) (t := .int) (t' := .int) (by decide) (by decide))))⟩, F3_size, ((Fea.other Q2 (Or.inl (Nat.ne_of_lt (Nat.lt_of_lt_of_le E.lt g1)))).other Q3 (Or.inr (slot_ne (Or.inl (tw hw 37 rfl)) (Or.inl (tw hw 70 rfl)) (by decide) (t := (.array (.object "java/lang/Object"))) (t' := .int) (by decide) (by decide))))⟩, (V2.other Q3 (Ne.symm (Nat.ne_of_lt (Nat.lt_of_lt_of_le E.lt g1)))), O1⟩
set_option maxRecDepth 65536 in
set_option maxHeartbeats 40000000 in
theorem con_ad_0 {G : Own.Gl} (hw : ∀ d ∈ tables_1, d.before G.a0 G.Z = true) (hEL : EW G.Z G.a0 G.EL) {dc : Addr} {kD : ClassId} (DS : Sta G.Z G.Z.heap "java/util/ArrayList" "DEFAULTCAPACITY_EMPTY_ELEMENTDATA" "[Ljava/lang/Object;" (.ref dc)) (DA : Arv G.Z G.Z.heap dc kD (.object "java/lang/Object") 0 [] .null) {l : Addr} {h : Heap} (hO : Old G.Z G.n0 h) (hn_l : G.n0 ≤ l) (F : Own.AL G.Z h l 0 dc) {x : Addr} (Ex : Exa G.Z h x "java/lang/String") :
    Own.Con G [] bAd_0 #[.ref l, .ref x] h [] (fun v h' => v = some (.int 1) ∧ ∃ (e : Addr) (kA : ClassId), Keep h h' [l] ∧ h.size ≤ e ∧ Own.AL G.Z h' l 1 e ∧ Arv G.Z h' e kA (.object "java/lang/Object") 10 [.ref x, .null, .null, .null, .null, .null, .null, .null, .null, .null] .null ∧ Ovr G.Z kA "java/lang/Object") := by
  refine Own.Con.intro (plainFor_of_name pn_2) hO hEL _ (fun m => ef_bAd_0 m l x) ?_
  intro X T0 W0 sf
  obtain ⟨E, ⟨m, Fm⟩, Fs, Fe⟩ := F
  refine Own.aloadN W0 d10_0 1 rfl (.ref l) rfl rfl ?_
  refine Own.dup W0 d10_1 2 rfl rfl ?_
  refine Own.getF W0 (tw hw 79 rfl) (Via.of (tw hw 80 rfl)) Fm d10_2 5 rfl ?_
  intro T1 W1
  refine Own.iconst W1 d10_5 6 rfl (1 : Int32) rfl ?_
  refine Own.iadd W1 d10_6 7 rfl ?_
  refine Own.putF W1 (tw hw 79 rfl) (Via.of (tw hw 80 rfl)) Fm E (Or.inl (tw hw 34 rfl)) (tw hw 13 rfl) (ty := .int) (v' := (.int (m + (1 : Int32)))) (by decide) rfl rfl hn_l (Safe.exa W1.wz.alike E (by decide) (by decide)) d10_7 10 rfl ?_
  intro T2 h2 W2 Q2 k2
  have F2_modCount := Fld.same Q2 Fm
  refine Own.aloadN W2 d10_10 11 rfl (.ref l) rfl rfl ?_
  refine Own.aloadN W2 d10_11 12 rfl (.ref x) rfl rfl ?_
  refine Own.aloadN W2 d10_12 13 rfl (.ref l) rfl rfl ?_
  refine Own.getF W2 (tw hw 36 rfl) Via.refl (Fe.other Q2 (Or.inr (slot_ne (Or.inl (tw hw 37 rfl)) (Or.inl (tw hw 34 rfl)) (by decide) (t := (.array (.object "java/lang/Object"))) (t' := .int) (by decide) (by decide)))) d10_13 16 rfl ?_
  intro T3 W3
  refine Own.aloadN W3 d10_16 17 rfl (.ref l) rfl rfl ?_
  refine Own.getF W3 (tw hw 69 rfl) Via.refl (Fs.other Q2 (Or.inr (slot_ne (Or.inl (tw hw 70 rfl)) (Or.inl (tw hw 34 rfl)) (by decide) (t := .int) (t' := .int) (by decide) (by decide)))) d10_17 20 rfl ?_
  intro T4 W4
  refine Own.callP W4 (tw hw 81 rfl) (tw hw 82 rfl) (tw hw 84 rfl) (tw hw 83 rfl) (tw hw 85 rfl) (by decide) (argsL := [(.ref x), (.ref dc), (.int (0 : Int32))]) (rest := []) (Own.Con.pay (con_ad3_0 hw hEL DS DA (by decide) W4.old hn_l ⟨(E.wr Q2), ⟨_, F2_modCount⟩, (Fs.other Q2 (Or.inr (slot_ne (Or.inl (tw hw 70 rfl)) (Or.inl (tw hw 34 rfl)) (by decide) (t := .int) (t' := .int) (by decide) (by decide)))), (Fe.other Q2 (Or.inr (slot_ne (Or.inl (tw hw 37 rfl)) (Or.inl (tw hw 34 rfl)) (by decide) (t := (.array (.object "java/lang/Object"))) (t' := .int) (by decide) (by decide))))⟩ (Ex.wr Q2)) W4 (tw hw 85 rfl) (tw hw 14 rfl) (len := 3) (wd := 0) (by decide) (by decide) (fun _ q => nomatch q)) (E.wr Q2) rfl (lenOf pd_4 rfl) rfl (Nat.le_of_ble_eq_true rfl) d10_20 23 rfl 1 10 (Nat.le_of_ble_eq_true rfl) (Nat.le_of_ble_eq_true rfl) (Nat.le_of_ble_eq_true rfl) (Nat.le_of_ble_eq_true rfl) ?_
  intro v5 T5 h5 u5 W5 R5 hq
  obtain ⟨rfl, e5, c5, K5, g5, L5, A5, O5⟩ := hq
  show Own.Go _ _ _ _ _ 23 #[.val (.ref l), .val (.ref x)] []
  refine Own.iconst W5 d10_23 24 rfl (1 : Int32) rfl ?_
  exact Own.retB W5 (by decide) (by decide) rfl d10_24 rfl ⟨rfl, e5, _, (Keep.trans (Keep.wr (Keep.refl h [l]) Q2 (Or.inl (by simp))) K5 (by intro y hy; simp only [List.mem_cons, List.not_mem_nil, or_false] at hy; rcases hy with rfl; exact (Or.inl (by simp)))), (Nat.le_trans (Keep.wr (Keep.refl h [l]) Q2 (Or.inl (by simp))).1 g5), L5, A5, O5⟩
set_option maxRecDepth 65536 in
set_option maxHeartbeats 40000000 in
theorem con_ad3_1 {G : Own.Gl} (hw : ∀ d ∈ tables_1, d.before G.a0 G.Z = true) (hEL : EW G.Z G.a0 G.EL) {dc : Addr} {kD : ClassId} (DS : Sta G.Z G.Z.heap "java/util/ArrayList" "DEFAULTCAPACITY_EMPTY_ELEMENTDATA" "[Ljava/lang/Object;" (.ref dc)) (DA : Arv G.Z G.Z.heap dc kD (.object "java/lang/Object") 0 [] .null) {k : Int32} (hk : k = 1) {l e : Addr} {kA : ClassId} {x0 : Addr} {h : Heap} (hO : Old G.Z G.n0 h) (hn_l : G.n0 ≤ l) (hn_e : G.n0 ≤ e) (hle : l ≠ e) (F : Own.AL G.Z h l 1 e) (A : Arv G.Z h e kA (.object "java/lang/Object") 10 [.ref x0, .null, .null, .null, .null, .null, .null, .null, .null, .null] .null) (O : Ovr G.Z kA "java/lang/Object") {x : Addr} (Ex : Exa G.Z h x "java/lang/String") :
    Own.Con G [] bAd3_1 #[.ref l, .ref x, .ref e, .int k] h [] (fun v h' => v = none ∧ Keep h h' [l, e] ∧ Own.AL G.Z h' l 2 e ∧ Arv G.Z h' e kA (.object "java/lang/Object") 10 [.ref x0, .ref x, .null, .null, .null, .null, .null, .null, .null, .null] .null) := by
  refine Own.Con.intro (plainFor_of_name pn_2) hO hEL _ (fun m => ef_bAd3_1 m l x e k) ?_
  intro X T0 W0 sf
  subst hk
  obtain ⟨E, ⟨m, Fm⟩, Fs, Fe⟩ := F
  refine Own.iloadN W0 d11_0 1 rfl (1 : Int32) rfl ?_
  refine Own.aloadN W0 d11_1 2 rfl (.ref e) rfl rfl ?_
  refine Own.arrlen W0 A d11_2 3 rfl ?_
  refine Own.icmpYes W0 d11_3 11 (by decide) (by decide) (by decide) ?_
  refine Own.aloadN W0 d11_11 12 rfl (.ref e) rfl rfl ?_
  refine Own.iloadN W0 d11_12 13 rfl (1 : Int32) rfl ?_
  refine Own.aloadN W0 d11_13 14 rfl (.ref x) rfl rfl ?_
  refine Own.aastore W0 A O (Ins.of_exa Ex (tw hw 102 rfl)) 1 (by decide) (by decide) (Nat.le_of_ble_eq_true rfl) hn_e d11_14 15 rfl ?_
  intro T1 h1 W1 Q1 A1 k1
  have V1 : Arv G.Z h1 e kA (.object "java/lang/Object") (10 : Int32) [(.ref x0), (.ref x), .null, .null, .null, .null, .null, .null, .null, .null] .null := A1
  refine Own.aloadN W1 d11_15 16 rfl (.ref l) rfl rfl ?_
  refine Own.iloadN W1 d11_16 17 rfl (1 : Int32) rfl ?_
  refine Own.iconst W1 d11_17 18 rfl (1 : Int32) rfl ?_
  refine Own.iadd W1 d11_18 19 rfl ?_
  refine Own.putF W1 (tw hw 69 rfl) Via.refl (Fs.other Q1 (Or.inl hle)) (E.wr Q1) (Or.inl (tw hw 70 rfl)) (tw hw 13 rfl) (ty := .int) (v' := (.int (2 : Int32))) (by decide) rfl rfl hn_l (Safe.exa W1.wz.alike (E.wr Q1) (by decide) (by decide)) d11_19 22 rfl ?_
  intro T2 h2 W2 Q2 k2
  have F2_size := Fld.same Q2 (Fs.other Q1 (Or.inl hle))
  exact Own.retV W2 (by decide) (by decide) rfl d11_22 ⟨rfl, (Keep.wr (Keep.wr (Keep.refl h [l, e]) Q1 (Or.inl (by simp))) Q2 (Or.inl (by simp))), ⟨((E.wr Q1).wr Q2), ⟨_, ((Fm.other Q1 (Or.inl hle)).other Q2 (Or.inr (slot_ne (Or.inl (tw hw 34 rfl)) (Or.inl (tw hw 70 rfl)) (by decide) (t := .int) (t' := .int) (by decide) (by decide))))⟩, F2_size, ((Fe.other Q1 (Or.inl hle)).other Q2 (Or.inr (slot_ne (Or.inl (tw hw 37 rfl)) (Or.inl (tw hw 70 rfl)) (by decide) (t := (.array (.object "java/lang/Object"))) (t' := .int) (by decide) (by decide))))⟩, (V1.other Q2 (Ne.symm hle))⟩
set_option maxRecDepth 65536 in
set_option maxHeartbeats 40000000 in
theorem con_ad_1 {G : Own.Gl} (hw : ∀ d ∈ tables_1, d.before G.a0 G.Z = true) (hEL : EW G.Z G.a0 G.EL) {dc : Addr} {kD : ClassId} (DS : Sta G.Z G.Z.heap "java/util/ArrayList" "DEFAULTCAPACITY_EMPTY_ELEMENTDATA" "[Ljava/lang/Object;" (.ref dc)) (DA : Arv G.Z G.Z.heap dc kD (.object "java/lang/Object") 0 [] .null) {l e : Addr} {kA : ClassId} {x0 : Addr} {h : Heap} (hO : Old G.Z G.n0 h) (hn_l : G.n0 ≤ l) (hn_e : G.n0 ≤ e) (hle : l ≠ e) (F : Own.AL G.Z h l 1 e) (A : Arv G.Z h e kA (.object "java/lang/Object") 10 [.ref x0, .null, .null, .null, .null, .null, .null, .null, .null, .null] .null) (O : Ovr G.Z kA "java/lang/Object") {x : Addr} (Ex : Exa G.Z h x "java/lang/String") :
    Own.Con G [] bAd_1 #[.ref l, .ref x] h [] (fun v h' => v = some (.int 1) ∧ Keep h h' [l, e] ∧ Own.AL G.Z h' l 2 e ∧ Arv G.Z h' e kA (.object "java/lang/Object") 10 [.ref x0, .ref x, .null, .null, .null, .null, .null, .null, .null, .null] .null) := by
  refine Own.Con.intro (plainFor_of_name pn_2) hO hEL _ (fun m => ef_bAd_1 m l x) ?_
  intro X T0 W0 sf
  obtain ⟨E, ⟨m, Fm⟩, Fs, Fe⟩ := F
  refine Own.aloadN W0 d10_0 1 rfl (.ref l) rfl rfl ?_
  refine Own.dup W0 d10_1 2 rfl rfl ?_
  refine Own.getF W0 (tw hw 79 rfl) (Via.of (tw hw 80 rfl)) Fm d10_2 5 rfl ?_
  intro T1 W1
  refine Own.iconst W1 d10_5 6 rfl (1 : Int32) rfl ?_
  refine Own.iadd W1 d10_6 7 rfl ?_
  refine Own.putF W1 (tw hw 79 rfl) (Via.of (tw hw 80 rfl)) Fm E (Or.inl (tw hw 34 rfl)) (tw hw 13 rfl) (ty := .int) (v' := (.int (m + (1 : Int32)))) (by decide) rfl rfl hn_l (Safe.exa W1.wz.alike E (by decide) (by decide)) d10_7 10 rfl ?_
  intro T2 h2 W2 Q2 k2
  have F2_modCount := Fld.same Q2 Fm
  refine Own.aloadN W2 d10_10 11 rfl (.ref l) rfl rfl ?_
  refine Own.aloadN W2 d10_11 12 rfl (.ref x) rfl rfl ?_
  refine Own.aloadN W2 d10_12 13 rfl (.ref l) rfl rfl ?_
  refine Own.getF W2 (tw hw 36 rfl) Via.refl (Fe.other Q2 (Or.inr (slot_ne (Or.inl (tw hw 37 rfl)) (Or.inl (tw hw 34 rfl)) (by decide) (t := (.array (.object "java/lang/Object"))) (t' := .int) (by decide) (by decide)))) d10_13 16 rfl ?_
  intro T3 W3
  refine Own.aloadN W3 d10_16 17 rfl (.ref l) rfl rfl ?_
  refine Own.getF W3 (tw hw 69 rfl) Via.refl (Fs.other Q2 (Or.inr (slot_ne (Or.inl (tw hw 70 rfl)) (Or.inl (tw hw 34 rfl)) (by decide) (t := .int) (t' := .int) (by decide) (by decide)))) d10_17 20 rfl ?_
  intro T4 W4
  refine Own.callP W4 (tw hw 81 rfl) (tw hw 82 rfl) (tw hw 84 rfl) (tw hw 83 rfl) (tw hw 85 rfl) (by decide) (argsL := [(.ref x), (.ref e), (.int (1 : Int32))]) (rest := []) (Own.Con.pay (con_ad3_1 hw hEL DS DA (by decide) W4.old hn_l hn_e hle ⟨(E.wr Q2), ⟨_, F2_modCount⟩, (Fs.other Q2 (Or.inr (slot_ne (Or.inl (tw hw 70 rfl)) (Or.inl (tw hw 34 rfl)) (by decide) (t := .int) (t' := .int) (by decide) (by decide)))), (Fe.other Q2 (Or.inr (slot_ne (Or.inl (tw hw 37 rfl)) (Or.inl (tw hw 34 rfl)) (by decide) (t := (.array (.object "java/lang/Object"))) (t' := .int) (by decide) (by decide))))⟩ (A.other Q2 (Ne.symm hle)) O (Ex.wr Q2)) W4 (tw hw 85 rfl) (tw hw 14 rfl) (len := 3) (wd := 0) (by decide) (by decide) (fun _ q => nomatch q)) (E.wr Q2) rfl (lenOf pd_4 rfl) rfl (Nat.le_of_ble_eq_true rfl) d10_20 23 rfl 1 10 (Nat.le_of_ble_eq_true rfl) (Nat.le_of_ble_eq_true rfl) (Nat.le_of_ble_eq_true rfl) (Nat.le_of_ble_eq_true rfl) ?_
  intro v5 T5 h5 u5 W5 R5 hq
  obtain ⟨rfl, K5, L5, A5⟩ := hq
  show Own.Go _ _ _ _ _ 23 #[.val (.ref l), .val (.ref x)] []
  refine Own.iconst W5 d10_23 24 rfl (1 : Int32) rfl ?_
  exact Own.retB W5 (by decide) (by decide) rfl d10_24 rfl ⟨rfl, (Keep.trans (Keep.wr (Keep.refl h [l, e]) Q2 (Or.inl (by simp))) K5 (by intro y hy; simp only [List.mem_cons, List.not_mem_nil, or_false] at hy; rcases hy with rfl | rfl; exact (Or.inl (by simp)); exact (Or.inl (by simp)))), L5, A5⟩
set_option maxRecDepth 65536 in
set_option maxHeartbeats 40000000 in
theorem con_ad3_2 {G : Own.Gl} (hw : ∀ d ∈ tables_1, d.before G.a0 G.Z = true) (hEL : EW G.Z G.a0 G.EL) {dc : Addr} {kD : ClassId} (DS : Sta G.Z G.Z.heap "java/util/ArrayList" "DEFAULTCAPACITY_EMPTY_ELEMENTDATA" "[Ljava/lang/Object;" (.ref dc)) (DA : Arv G.Z G.Z.heap dc kD (.object "java/lang/Object") 0 [] .null) {k : Int32} (hk : k = 2) {l e : Addr} {kA : ClassId} {x0 x1 : Addr} {h : Heap} (hO : Old G.Z G.n0 h) (hn_l : G.n0 ≤ l) (hn_e : G.n0 ≤ e) (hle : l ≠ e) (F : Own.AL G.Z h l 2 e) (A : Arv G.Z h e kA (.object "java/lang/Object") 10 [.ref x0, .ref x1, .null, .null, .null, .null, .null, .null, .null, .null] .null) (O : Ovr G.Z kA "java/lang/Object") {x : Addr} (Ex : Exa G.Z h x "java/lang/String") :
    Own.Con G [] bAd3_2 #[.ref l, .ref x, .ref e, .int k] h [] (fun v h' => v = none ∧ Keep h h' [l, e] ∧ Own.AL G.Z h' l 3 e ∧ Arv G.Z h' e kA (.object "java/lang/Object") 10 [.ref x0, .ref x1, .ref x, .null, .null, .null, .null, .null, .null, .null] .null) := by
  refine Own.Con.intro (plainFor_of_name pn_2) hO hEL _ (fun m => ef_bAd3_2 m l x e k) ?_
  intro X T0 W0 sf
  subst hk
  obtain ⟨E, ⟨m, Fm⟩, Fs, Fe⟩ := F
  refine Own.iloadN W0 d11_0 1 rfl (2 : Int32) rfl ?_
  refine Own.aloadN W0 d11_1 2 rfl (.ref e) rfl rfl ?_
  refine Own.arrlen W0 A d11_2 3 rfl ?_
  refine Own.icmpYes W0 d11_3 11 (by decide) (by decide) (by decide) ?_
  refine Own.aloadN W0 d11_11 12 rfl (.ref e) rfl rfl ?_
  refine Own.iloadN W0 d11_12 13 rfl (2 : Int32) rfl ?_
  refine Own.aloadN W0 d11_13 14 rfl (.ref x) rfl rfl ?_
  refine Own.aastore W0 A O (Ins.of_exa Ex (tw hw 102 rfl)) 2 (by decide) (by decide) (Nat.le_of_ble_eq_true rfl) hn_e d11_14 15 rfl ?_
  intro T1 h1 W1 Q1 A1 k1
  have V1 : Arv G.Z h1 e kA (.object "java/lang/Object") (10 : Int32) [(.ref x0), (.ref x1), (.ref x), .null, .null, .null, .null, .null, .null, .null] .null := A1
  refine Own.aloadN W1 d11_15 16 rfl (.ref l) rfl rfl ?_
  refine Own.iloadN W1 d11_16 17 rfl (2 : Int32) rfl ?_
  refine Own.iconst W1 d11_17 18 rfl (1 : Int32) rfl ?_
  refine Own.iadd W1 d11_18 19 rfl ?_
  refine Own.putF W1 (tw hw 69 rfl) Via.refl (Fs.other Q1 (Or.inl hle)) (E.wr Q1) (Or.inl (tw hw 70 rfl)) (tw hw 13 rfl) (ty := .int) (v' := (.int (3 : Int32))) (by decide) rfl rfl hn_l (Safe.exa W1.wz.alike (E.wr Q1) (by decide) (by decide)) d11_19 22 rfl ?_
  intro T2 h2 W2 Q2 k2
  have F2_size := Fld.same Q2 (Fs.other Q1 (Or.inl hle))
  exact Own.retV W2 (by decide) (by decide) rfl d11_22 ⟨rfl, (Keep.wr (Keep.wr (Keep.refl h [l, e]) Q1 (Or.inl (by simp))) Q2 (Or.inl (by simp))), ⟨((E.wr Q1).wr Q2), ⟨_, ((Fm.other Q1 (Or.inl hle)).other Q2 (Or.inr (slot_ne (Or.inl (tw hw 34 rfl)) (Or.inl (tw hw 70 rfl)) (by decide) (t := .int) (t' := .int) (by decide) (by decide))))⟩, F2_size, ((Fe.other Q1 (Or.inl hle)).other Q2 (Or.inr (slot_ne (Or.inl (tw hw 37 rfl)) (Or.inl (tw hw 70 rfl)) (by decide) (t := (.array (.object "java/lang/Object"))) (t' := .int) (by decide) (by decide))))⟩, (V1.other Q2 (Ne.symm hle))⟩
set_option maxRecDepth 65536 in
set_option maxHeartbeats 40000000 in
theorem con_ad_2 {G : Own.Gl} (hw : ∀ d ∈ tables_1, d.before G.a0 G.Z = true) (hEL : EW G.Z G.a0 G.EL) {dc : Addr} {kD : ClassId} (DS : Sta G.Z G.Z.heap "java/util/ArrayList" "DEFAULTCAPACITY_EMPTY_ELEMENTDATA" "[Ljava/lang/Object;" (.ref dc)) (DA : Arv G.Z G.Z.heap dc kD (.object "java/lang/Object") 0 [] .null) {l e : Addr} {kA : ClassId} {x0 x1 : Addr} {h : Heap} (hO : Old G.Z G.n0 h) (hn_l : G.n0 ≤ l) (hn_e : G.n0 ≤ e) (hle : l ≠ e) (F : Own.AL G.Z h l 2 e) (A : Arv G.Z h e kA (.object "java/lang/Object") 10 [.ref x0, .ref x1, .null, .null, .null, .null, .null, .null, .null, .null] .null) (O : Ovr G.Z kA "java/lang/Object") {x : Addr} (Ex : Exa G.Z h x "java/lang/String") :
    Own.Con G [] bAd_2 #[.ref l, .ref x] h [] (fun v h' => v = some (.int 1) ∧ Keep h h' [l, e] ∧ Own.AL G.Z h' l 3 e ∧ Arv G.Z h' e kA (.object "java/lang/Object") 10 [.ref x0, .ref x1, .ref x, .null, .null, .null, .null, .null, .null, .null] .null) := by
  refine Own.Con.intro (plainFor_of_name pn_2) hO hEL _ (fun m => ef_bAd_2 m l x) ?_
  intro X T0 W0 sf
  obtain ⟨E, ⟨m, Fm⟩, Fs, Fe⟩ := F
  refine Own.aloadN W0 d10_0 1 rfl (.ref l) rfl rfl ?_
  refine Own.dup W0 d10_1 2 rfl rfl ?_
  refine Own.getF W0 (tw hw 79 rfl) (Via.of (tw hw 80 rfl)) Fm d10_2 5 rfl ?_
  intro T1 W1
  refine Own.iconst W1 d10_5 6 rfl (1 : Int32) rfl ?_
  refine Own.iadd W1 d10_6 7 rfl ?_
  refine Own.putF W1 (tw hw 79 rfl) (Via.of (tw hw 80 rfl)) Fm E (Or.inl (tw hw 34 rfl)) (tw hw 13 rfl) (ty := .int) (v' := (.int (m + (1 : Int32)))) (by decide) rfl rfl hn_l (Safe.exa W1.wz.alike E (by decide) (by decide)) d10_7 10 rfl ?_
  intro T2 h2 W2 Q2 k2
  have F2_modCount := Fld.same Q2 Fm
  refine Own.aloadN W2 d10_10 11 rfl (.ref l) rfl rfl ?_
  refine Own.aloadN W2 d10_11 12 rfl (.ref x) rfl rfl ?_
  refine Own.aloadN W2 d10_12 13 rfl (.ref l) rfl rfl ?_
  refine Own.getF W2 (tw hw 36 rfl) Via.refl (Fe.other Q2 (Or.inr (slot_ne (Or.inl (tw hw 37 rfl)) (Or.inl (tw hw 34 rfl)) (by decide) (t := (.array (.object "java/lang/Object"))) (t' := .int) (by decide) (by decide)))) d10_13 16 rfl ?_
  intro T3 W3
  refine Own.aloadN W3 d10_16 17 rfl (.ref l) rfl rfl ?_
  refine Own.getF W3 (tw hw 69 rfl) Via.refl (Fs.other Q2 (Or.inr (slot_ne (Or.inl (tw hw 70 rfl)) (Or.inl (tw hw 34 rfl)) (by decide) (t := .int) (t' := .int) (by decide) (by decide)))) d10_17 20 rfl ?_
  intro T4 W4
  refine Own.callP W4 (tw hw 81 rfl) (tw hw 82 rfl) (tw hw 84 rfl) (tw hw 83 rfl) (tw hw 85 rfl) (by decide) (argsL := [(.ref x), (.ref e), (.int (2 : Int32))]) (rest := []) (Own.Con.pay (con_ad3_2 hw hEL DS DA (by decide) W4.old hn_l hn_e hle ⟨(E.wr Q2), ⟨_, F2_modCount⟩, (Fs.other Q2 (Or.inr (slot_ne (Or.inl (tw hw 70 rfl)) (Or.inl (tw hw 34 rfl)) (by decide) (t := .int) (t' := .int) (by decide) (by decide)))), (Fe.other Q2 (Or.inr (slot_ne (Or.inl (tw hw 37 rfl)) (Or.inl (tw hw 34 rfl)) (by decide) (t := (.array (.object "java/lang/Object"))) (t' := .int) (by decide) (by decide))))⟩ (A.other Q2 (Ne.symm hle)) O (Ex.wr Q2)) W4 (tw hw 85 rfl) (tw hw 14 rfl) (len := 3) (wd := 0) (by decide) (by decide) (fun _ q => nomatch q)) (E.wr Q2) rfl (lenOf pd_4 rfl) rfl (Nat.le_of_ble_eq_true rfl) d10_20 23 rfl 1 10 (Nat.le_of_ble_eq_true rfl) (Nat.le_of_ble_eq_true rfl) (Nat.le_of_ble_eq_true rfl) (Nat.le_of_ble_eq_true rfl) ?_
  intro v5 T5 h5 u5 W5 R5 hq
  obtain ⟨rfl, K5, L5, A5⟩ := hq
  show Own.Go _ _ _ _ _ 23 #[.val (.ref l), .val (.ref x)] []
  refine Own.iconst W5 d10_23 24 rfl (1 : Int32) rfl ?_
  exact Own.retB W5 (by decide) (by decide) rfl d10_24 rfl ⟨rfl, (Keep.trans (Keep.wr (Keep.refl h [l, e]) Q2 (Or.inl (by simp))) K5 (by intro y hy; simp only [List.mem_cons, List.not_mem_nil, or_false] at hy; rcases hy with rfl | rfl; exact (Or.inl (by simp)); exact (Or.inl (by simp)))), L5, A5⟩
set_option maxRecDepth 65536 in
set_option maxHeartbeats 40000000 in
theorem con_ad3_3 {G : Own.Gl} (hw : ∀ d ∈ tables_1, d.before G.a0 G.Z = true) (hEL : EW G.Z G.a0 G.EL) {dc : Addr} {kD : ClassId} (DS : Sta G.Z G.Z.heap "java/util/ArrayList" "DEFAULTCAPACITY_EMPTY_ELEMENTDATA" "[Ljava/lang/Object;" (.ref dc)) (DA : Arv G.Z G.Z.heap dc kD (.object "java/lang/Object") 0 [] .null) {k : Int32} (hk : k = 3) {l e : Addr} {kA : ClassId} {x0 x1 x2 : Addr} {h : Heap} (hO : Old G.Z G.n0 h) (hn_l : G.n0 ≤ l) (hn_e : G.n0 ≤ e) (hle : l ≠ e) (F : Own.AL G.Z h l 3 e) (A : Arv G.Z h e kA (.object "java/lang/Object") 10 [.ref x0, .ref x1, .ref x2, .null, .null, .null, .null, .null, .null, .null] .null) (O : Ovr G.Z kA "java/lang/Object") {x : Addr} (Ex : Exa G.Z h x "java/lang/String") :
    Own.Con G [] bAd3_3 #[.ref l, .ref x, .ref e, .int k] h [] (fun v h' => v = none ∧ Keep h h' [l, e] ∧ Own.AL G.Z h' l 4 e ∧ Arv G.Z h' e kA (.object "java/lang/Object") 10 [.ref x0, .ref x1, .ref x2, .ref x, .null, .null, .null, .null, .null, .null] .null) := by
  refine Own.Con.intro (plainFor_of_name pn_2) hO hEL _ (fun m => ef_bAd3_3 m l x e k) ?_
  intro X T0 W0 sf
  subst hk
  obtain ⟨E, ⟨m, Fm⟩, Fs, Fe⟩ := F
  refine Own.iloadN W0 d11_0 1 rfl (3 : Int32) rfl ?_
  refine Own.aloadN W0 d11_1 2 rfl (.ref e) rfl rfl ?_
  refine Own.arrlen W0 A d11_2 3 rfl ?_
  refine Own.icmpYes W0 d11_3 11 (by decide) (by decide) (by decide) ?_
  refine Own.aloadN W0 d11_11 12 rfl (.ref e) rfl rfl ?_
  refine Own.iloadN W0 d11_12 13 rfl (3 : Int32) rfl ?_
  refine Own.aloadN W0 d11_13 14 rfl (.ref x) rfl rfl ?_
  refine Own.aastore W0 A O (Ins.of_exa Ex (tw hw 102 rfl)) 3 (by decide) (by decide) (Nat.le_of_ble_eq_true rfl) hn_e d11_14 15 rfl ?_
  intro T1 h1 W1 Q1 A1 k1
  have V1 : Arv G.Z h1 e kA (.object "java/lang/Object") (10 : Int32) [(.ref x0), (.ref x1), (.ref x2), (.ref x), .null, .null, .null, .null, .null, .null] .null := A1
  refine Own.aloadN W1 d11_15 16 rfl (.ref l) rfl rfl ?_
  refine Own.iloadN W1 d11_16 17 rfl (3 : Int32) rfl ?_
  refine Own.iconst W1 d11_17 18 rfl (1 : Int32) rfl ?_
  refine Own.iadd W1 d11_18 19 rfl ?_
  refine Own.putF W1 (tw hw 69 rfl) Via.refl (Fs.other Q1 (Or.inl hle)) (E.wr Q1) (Or.inl (tw hw 70 rfl)) (tw hw 13 rfl) (ty := .int) (v' := (.int (4 : Int32))) (by decide) rfl rfl hn_l (Safe.exa W1.wz.alike (E.wr Q1) (by decide) (by decide)) d11_19 22 rfl ?_
  intro T2 h2 W2 Q2 k2
  have F2_size := Fld.same Q2 (Fs.other Q1 (Or.inl hle))
  exact Own.retV W2 (by decide) (by decide) rfl d11_22 ⟨rfl, (Keep.wr (Keep.wr (Keep.refl h [l, e]) Q1 (Or.inl (by simp))) Q2 (Or.inl (by simp))), ⟨((E.wr Q1).wr Q2), ⟨_, ((Fm.other Q1 (Or.inl hle)).other Q2 (Or.inr (slot_ne (Or.inl (tw hw 34 rfl)) (Or.inl (tw hw 70 rfl)) (by decide) (t := .int) (t' := .int) (by decide) (by decide))))⟩, F2_size, ((Fe.other Q1 (Or.inl hle)).other Q2 (Or.inr (slot_ne (Or.inl (tw hw 37 rfl)) (Or.inl (tw hw 70 rfl)) (by decide) (t := (.array (.object "java/lang/Object"))) (t' := .int) (by decide) (by decide))))⟩, (V1.other Q2 (Ne.symm hle))⟩
set_option maxRecDepth 65536 in
set_option maxHeartbeats 40000000 in
theorem con_ad_3 {G : Own.Gl} (hw : ∀ d ∈ tables_1, d.before G.a0 G.Z = true) (hEL : EW G.Z G.a0 G.EL) {dc : Addr} {kD : ClassId} (DS : Sta G.Z G.Z.heap "java/util/ArrayList" "DEFAULTCAPACITY_EMPTY_ELEMENTDATA" "[Ljava/lang/Object;" (.ref dc)) (DA : Arv G.Z G.Z.heap dc kD (.object "java/lang/Object") 0 [] .null) {l e : Addr} {kA : ClassId} {x0 x1 x2 : Addr} {h : Heap} (hO : Old G.Z G.n0 h) (hn_l : G.n0 ≤ l) (hn_e : G.n0 ≤ e) (hle : l ≠ e) (F : Own.AL G.Z h l 3 e) (A : Arv G.Z h e kA (.object "java/lang/Object") 10 [.ref x0, .ref x1, .ref x2, .null, .null, .null, .null, .null, .null, .null] .null) (O : Ovr G.Z kA "java/lang/Object") {x : Addr} (Ex : Exa G.Z h x "java/lang/String") :
    Own.Con G [] bAd_3 #[.ref l, .ref x] h [] (fun v h' => v = some (.int 1) ∧ Keep h h' [l, e] ∧ Own.AL G.Z h' l 4 e ∧ Arv G.Z h' e kA (.object "java/lang/Object") 10 [.ref x0, .ref x1, .ref x2, .ref x, .null, .null, .null, .null, .null, .null] .null) := by
  refine Own.Con.intro (plainFor_of_name pn_2) hO hEL _ (fun m => ef_bAd_3 m l x) ?_
  intro X T0 W0 sf
  obtain ⟨E, ⟨m, Fm⟩, Fs, Fe⟩ := F
  refine Own.aloadN W0 d10_0 1 rfl (.ref l) rfl rfl ?_
  refine Own.dup W0 d10_1 2 rfl rfl ?_
  refine Own.getF W0 (tw hw 79 rfl) (Via.of (tw hw 80 rfl)) Fm d10_2 5 rfl ?_
  intro T1 W1
  refine Own.iconst W1 d10_5 6 rfl (1 : Int32) rfl ?_
  refine Own.iadd W1 d10_6 7 rfl ?_
  refine Own.putF W1 (tw hw 79 rfl) (Via.of (tw hw 80 rfl)) Fm E (Or.inl (tw hw 34 rfl)) (tw hw 13 rfl) (ty := .int) (v' := (.int (m + (1 : Int32)))) (by decide) rfl rfl hn_l (Safe.exa W1.wz.alike E (by decide) (by decide)) d10_7 10 rfl ?_
  intro T2 h2 W2 Q2 k2
  have F2_modCount := Fld.same Q2 Fm
  refine Own.aloadN W2 d10_10 11 rfl (.ref l) rfl rfl ?_
  refine Own.aloadN W2 d10_11 12 rfl (.ref x) rfl rfl ?_
  refine Own.aloadN W2 d10_12 13 rfl (.ref l) rfl rfl ?_
  refine Own.getF W2 (tw hw 36 rfl) Via.refl (Fe.other Q2 (Or.inr (slot_ne (Or.inl (tw hw 37 rfl)) (Or.inl (tw hw 34 rfl)) (by decide) (t := (.array (.object "java/lang/Object"))) (t' := .int) (by decide) (by decide)))) d10_13 16 rfl ?_
  intro T3 W3
  refine Own.aloadN W3 d10_16 17 rfl (.ref l) rfl rfl ?_
  refine Own.getF W3 (tw hw 69 rfl) Via.refl (Fs.other Q2 (Or.inr (slot_ne (Or.inl (tw hw 70 rfl)) (Or.inl (tw hw 34 rfl)) (by decide) (t := .int) (t' := .int) (by decide) (by decide)))) d10_17 20 rfl ?_
  intro T4 W4
  refine Own.callP W4 (tw hw 81 rfl) (tw hw 82 rfl) (tw hw 84 rfl) (tw hw 83 rfl) (tw hw 85 rfl) (by decide) (argsL := [(.ref x), (.ref e), (.int (3 : Int32))]) (rest := []) (Own.Con.pay (con_ad3_3 hw hEL DS DA (by decide) W4.old hn_l hn_e hle ⟨(E.wr Q2), ⟨_, F2_modCount⟩, (Fs.other Q2 (Or.inr (slot_ne (Or.inl (tw hw 70 rfl)) (Or.inl (tw hw 34 rfl)) (by decide) (t := .int) (t' := .int) (by decide) (by decide)))), (Fe.other Q2 (Or.inr (slot_ne (Or.inl (tw hw 37 rfl)) (Or.inl (tw hw 34 rfl)) (by decide) (t := (.array (.object "java/lang/Object"))) (t' := .int) (by decide) (by decide))))⟩ (A.other Q2 (Ne.symm hle)) O (Ex.wr Q2)) W4 (tw hw 85 rfl) (tw hw 14 rfl) (len := 3) (wd := 0) (by decide) (by decide) (fun _ q => nomatch q)) (E.wr Q2) rfl (lenOf pd_4 rfl) rfl (Nat.le_of_ble_eq_true rfl) d10_20 23 rfl 1 10 (Nat.le_of_ble_eq_true rfl) (Nat.le_of_ble_eq_true rfl) (Nat.le_of_ble_eq_true rfl) (Nat.le_of_ble_eq_true rfl) ?_
  intro v5 T5 h5 u5 W5 R5 hq
  obtain ⟨rfl, K5, L5, A5⟩ := hq
  show Own.Go _ _ _ _ _ 23 #[.val (.ref l), .val (.ref x)] []
  refine Own.iconst W5 d10_23 24 rfl (1 : Int32) rfl ?_
  exact Own.retB W5 (by decide) (by decide) rfl d10_24 rfl ⟨rfl, (Keep.trans (Keep.wr (Keep.refl h [l, e]) Q2 (Or.inl (by simp))) K5 (by intro y hy; simp only [List.mem_cons, List.not_mem_nil, or_false] at hy; rcases hy with rfl | rfl; exact (Or.inl (by simp)); exact (Or.inl (by simp)))), L5, A5⟩
set_option maxRecDepth 65536 in
set_option maxHeartbeats 40000000 in
theorem con_pci {G : Own.Gl} (hw : ∀ d ∈ tables_1, d.before G.a0 G.Z = true) (hEL : EW G.Z G.a0 G.EL) (i n : Int32) (h0 : ¬ i < 0) (h1 : i < n) {h : Heap} (hO : Old G.Z G.n0 h) :
    Own.Con G [] bPci #[.int i, .int n, .null] h [] (fun v h' => v = some (.int i) ∧ h' = h) := by
  refine Own.Con.intro (plainFor_of_name pn_3) hO hEL _ (fun m => ef_bPci m i n) ?_
  intro X T0 W0 sf
  refine Own.iloadN W0 d27_0 1 rfl i rfl ?_
  refine Own.ifNo W0 d27_1 4 (XT.i0_lt_f h0) rfl ?_
  refine Own.iloadN W0 d27_4 5 rfl i rfl ?_
  refine Own.iloadN W0 d27_5 6 rfl n rfl ?_
  refine Own.icmpYes W0 d27_6 16 (XT.ii_lt_t h1) (by decide) (by decide) ?_
  refine Own.iloadN W0 d27_16 17 rfl i rfl ?_
  exact Own.retI W0 (by decide) (by decide) rfl d27_17 ⟨rfl, rfl⟩
set_option maxRecDepth 65536 in
set_option maxHeartbeats 40000000 in
theorem con_oci {G : Own.Gl} (hw : ∀ d ∈ tables_1, d.before G.a0 G.Z = true) (hEL : EW G.Z G.a0 G.EL) (i n : Int32) (h0 : ¬ i < 0) (h1 : i < n) {h : Heap} (hO : Old G.Z G.n0 h) :
    Own.Con G [] bOci #[.int i, .int n] h [] (fun v h' => v = some (.int i) ∧ h' = h) := by
  refine Own.Con.intro (plainFor_of_name pn_4) hO hEL _ (fun m => ef_bOci m i n) ?_
  intro X T0 W0 sf
  refine Own.iloadN W0 d26_0 1 rfl i rfl ?_
  refine Own.iloadN W0 d26_1 2 rfl n rfl ?_
  refine Own.aconstNull W0 d26_2 3 rfl ?_
  refine Own.callS W0 (tw hw 161 rfl) (tw hw 162 rfl) (tw hw 163 rfl) (tw hw 164 rfl) (by decide) (argsL := [(.int i), (.int n), .null]) (rest := []) (Own.Con.pay (con_pci hw hEL i n h0 h1 W0.old) W0 (tw hw 164 rfl) (tw hw 163 rfl) (len := 3) (wd := 0) (by decide) (by decide) (fun _ q => nomatch q)) rfl (lenOf pd_5 rfl) rfl (Nat.le_of_ble_eq_true rfl) d26_3 6 rfl 0 0 (Nat.le_of_ble_eq_true rfl) (Nat.le_of_ble_eq_true rfl) (Nat.le_of_ble_eq_true rfl) (Nat.le_of_ble_eq_true rfl) ?_
  intro v1 T1 h1 u1 W1 R1 hq
  obtain ⟨rfl, eh1⟩ := hq
  have ei1 := eh1.symm; subst ei1
  show Own.Go _ _ _ _ _ 6 #[.val (.int i), .val (.int n)] [(.int i)]
  exact Own.retI W1 (by decide) (by decide) rfl d26_6 ⟨rfl, rfl⟩
set_option maxRecDepth 65536 in
set_option maxHeartbeats 40000000 in
theorem con_ed {G : Own.Gl} (hw : ∀ d ∈ tables_1, d.before G.a0 G.Z = true) (hEL : EW G.Z G.a0 G.EL) {l e : Addr} {n : Int32} (i : Int32) (h0 : ¬ i < 0) (h10 : i < 10) {h : Heap} (hO : Old G.Z G.n0 h) (F : Own.AL G.Z h l n e) {kA : ClassId} {vs : List Value} (A : Arv G.Z h e kA (.object "java/lang/Object") 10 vs .null) {y : Addr} (hv : vs.getD i.toNatClampNeg .null = .ref y) :
    Own.Con G [] bEd #[.ref l, .int i] h [] (fun v h' => v = some (.ref y) ∧ h' = h) := by
  refine Own.Con.intro (plainFor_of_name pn_2) hO hEL _ (fun m => ef_bEd m l i) ?_
  intro X T0 W0 sf
  obtain ⟨E, ⟨m, Fm⟩, Fs, Fe⟩ := F
  refine Own.aloadN W0 d28_0 1 rfl (.ref l) rfl rfl ?_
  refine Own.getF W0 (tw hw 36 rfl) Via.refl Fe d28_1 4 rfl ?_
  intro T1 W1
  refine Own.iloadN W1 d28_4 5 rfl i rfl ?_
  refine Own.aaload W1 A rfl ⟨h0, h10⟩ (.ref y) hv d28_5 6 rfl ?_
  exact Own.retA W1 (by decide) (by decide) rfl rfl rfl d28_6 ⟨rfl, rfl⟩
set_option maxRecDepth 65536 in
set_option maxHeartbeats 40000000 in
theorem con_get {G : Own.Gl} (hw : ∀ d ∈ tables_1, d.before G.a0 G.Z = true) (hEL : EW G.Z G.a0 G.EL) {l e : Addr} {n : Int32} (i : Int32) (h0 : ¬ i < 0) (hin : i < n) (h10 : i < 10) {h : Heap} (hO : Old G.Z G.n0 h) (F : Own.AL G.Z h l n e) {kA : ClassId} {vs : List Value} (A : Arv G.Z h e kA (.object "java/lang/Object") 10 vs .null) {y : Addr} (hv : vs.getD i.toNatClampNeg .null = .ref y) :
    Own.Con G [] bGet #[.ref l, .int i] h [] (fun v h' => v = some (.ref y) ∧ h' = h) := by
  refine Own.Con.intro (plainFor_of_name pn_2) hO hEL _ (fun m => ef_bGet m l i) ?_
  intro X T0 W0 sf
  obtain ⟨E, ⟨m, Fm⟩, Fs, Fe⟩ := id F
  refine Own.iloadN W0 d25_0 1 rfl i rfl ?_
  refine Own.aloadN W0 d25_1 2 rfl (.ref l) rfl rfl ?_
  refine Own.getF W0 (tw hw 69 rfl) Via.refl Fs d25_2 5 rfl ?_
  intro T1 W1
  refine Own.callS W1 (tw hw 157 rfl) (tw hw 158 rfl) (tw hw 159 rfl) (tw hw 160 rfl) (by decide) (argsL := [(.int i), (.int n)]) (rest := []) (Own.Con.pay (con_oci hw hEL i n h0 hin W1.old) W1 (tw hw 160 rfl) (tw hw 159 rfl) (len := 3) (wd := 0) (by decide) (by decide) (fun _ q => nomatch q)) rfl (lenOf pd_1 rfl) rfl (Nat.le_of_ble_eq_true rfl) d25_5 8 rfl 0 0 (Nat.le_of_ble_eq_true rfl) (Nat.le_of_ble_eq_true rfl) (Nat.le_of_ble_eq_true rfl) (Nat.le_of_ble_eq_true rfl) ?_
  intro v2 T2 h2 u2 W2 R2 hq
  obtain ⟨rfl, eh2⟩ := hq
  have ei2 := eh2.symm; subst ei2
  show Own.Go _ _ _ _ _ 8 #[.val (.ref l), .val (.int i)] [(.int i)]
  refine Own.pop W2 d25_8 9 rfl rfl ?_
  refine Own.aloadN W2 d25_9 10 rfl (.ref l) rfl rfl ?_
  refine Own.iloadN W2 d25_10 11 rfl i rfl ?_
  refine Own.callV W2 (tw hw 165 rfl) (tw hw 166 rfl) (fun s q => notFace_of_selects (args := #[]) (mvT (s := s) q (tw hw 168 rfl))) (tw hw 168 rfl) (tw hw 167 rfl) (by decide) (argsL := [(.int i)]) (rest := []) (Own.Con.pay (con_ed hw hEL i h0 h10 W2.old F A hv) W2 (tw hw 169 rfl) (tw hw 14 rfl) (len := 3) (wd := 0) (by decide) (by decide) (fun _ q => nomatch q)) E rfl (lenOf pd_6 rfl) rfl (Nat.le_of_ble_eq_true rfl) d25_11 14 rfl 0 0 (Nat.le_of_ble_eq_true rfl) (Nat.le_of_ble_eq_true rfl) (Nat.le_of_ble_eq_true rfl) (Nat.le_of_ble_eq_true rfl) ?_
  intro v3 T3 h3 u3 W3 R3 hq
  obtain ⟨rfl, eh3⟩ := hq
  have ei3 := eh3.symm; subst ei3
  show Own.Go _ _ _ _ _ 14 #[.val (.ref l), .val (.int i)] [(.ref y)]
  exact Own.retA W3 (by decide) (by decide) rfl rfl rfl d25_14 ⟨rfl, rfl⟩
set_option maxRecDepth 65536 in
set_option maxHeartbeats 40000000 in
theorem con_sz {G : Own.Gl} (hw : ∀ d ∈ tables_1, d.before G.a0 G.Z = true) (hEL : EW G.Z G.a0 G.EL) {l e : Addr} {n : Int32} {h : Heap} (hO : Old G.Z G.n0 h) (F : Own.AL G.Z h l n e) :
    Own.Con G [] bSz #[.ref l] h [] (fun v h' => v = some (.int n) ∧ h' = h) := by
  refine Own.Con.intro (plainFor_of_name pn_2) hO hEL _ (fun m => ef_bSz m l) ?_
  intro X T0 W0 sf
  obtain ⟨E, ⟨m, Fm⟩, Fs, Fe⟩ := F
  refine Own.aloadN W0 d9_0 1 rfl (.ref l) rfl rfl ?_
  refine Own.getF W0 (tw hw 69 rfl) Via.refl Fs d9_1 4 rfl ?_
  intro T1 W1
  exact Own.retI W1 (by decide) (by decide) rfl d9_4 ⟨rfl, rfl⟩
set_option maxRecDepth 65536 in
set_option maxHeartbeats 40000000 in
theorem con_ai {G : Own.Gl} (hw : ∀ d ∈ tables_1, d.before G.a0 G.Z = true) (hEL : EW G.Z G.a0 G.EL) (hmem : True) {cz : Int32} (hS : Sta G.Z G.Z.heap Own.ST "COMPACT_STRINGS" "Z" (.int cz)) (hcz : ¬ cz = 0) {k : Int32} (hk : k = 16) {sb : Addr} {h : Heap} (hO : Old G.Z G.n0 h) (hn_sb : G.n0 ≤ sb) (E : Exa G.Z h sb "java/lang/StringBuilder") {u1 u2 : Value} (F_value : Fld G.Z h sb "java/lang/AbstractStringBuilder" "value" "[B" u1) (F_coder : Fld G.Z h sb "java/lang/AbstractStringBuilder" "coder" "B" u2) (F_count : Fld G.Z h sb "java/lang/AbstractStringBuilder" "count" "I" (.int 0)) :
    Own.Con G [] bAi #[.ref sb, .int k] h [] (fun v h' => v = none ∧ Keep h h' [sb] ∧ ∃ b : Addr, h.size ≤ b ∧ Own.SBd G.Z h' sb b 16 []) := by
  refine Own.Con.intro (plainFor_of_name pn_5) hO hEL _ (fun m => ef_bAi m sb k) ?_
  intro X T0 W0 sf
  subst hk
  refine Own.aloadN W0 d8_0 1 rfl (.ref sb) rfl rfl ?_
  refine Own.initO W0 (tw hw 54 rfl) (tw hw 31 rfl) (tw hw 32 rfl) rfl d8_1 4 rfl (by decide) (by decide) ?_
  intro T1 W1
  refine Own.getS W1 (tw hw 55 rfl) Via.refl (W1.sta hS) d8_4 7 rfl ?_
  intro T2 W2
  refine Own.ifNo W2 d8_7 10 (XT.i0_eq_f hcz) rfl ?_
  refine Own.aloadN W2 d8_10 11 rfl (.ref sb) rfl rfl ?_
  refine Own.iloadN W2 d8_11 12 rfl (16 : Int32) rfl ?_
  refine Own.newA W2 (tw hw 7 rfl) d8_12 14 rfl (by decide) 16 (by decide) (by decide) 1 16 (by decide) (by decide) (by decide) (by decide) ?_
  intro T3 h3 o3 c3 g3 W3 E3 A3 s3 k3
  have V3 : Arv G.Z h3 o3 c3 .byte (16 : Int32) [(.int (0 : Int32)), (.int (0 : Int32)), (.int (0 : Int32)), (.int (0 : Int32)), (.int (0 : Int32)), (.int (0 : Int32)), (.int (0 : Int32)), (.int (0 : Int32)), (.int (0 : Int32)), (.int (0 : Int32)), (.int (0 : Int32)), (.int (0 : Int32)), (.int (0 : Int32)), (.int (0 : Int32)), (.int (0 : Int32)), (.int (0 : Int32))] (.int (0 : Int32)) := A3
  have X5 : Ext h h3 := E3
  refine Own.putF W3 (tw hw 56 rfl) Via.refl (F_value.ext X5) (E.ext X5) (Or.inl (tw hw 57 rfl)) (tw hw 43 rfl) (ty := (.array .byte)) (v' := (.ref o3)) (by decide) rfl rfl hn_sb (Safe.exa W3.wz.alike (E.ext X5) (by decide) (by decide)) d8_14 17 rfl ?_
  intro T4 h4 W4 Q4 k4
  have F4_value := Fld.same Q4 (F_value.ext X5)
  refine Own.aloadN W4 d8_17 18 rfl (.ref sb) rfl rfl ?_
  refine Own.iconst W4 d8_18 19 rfl (0 : Int32) rfl ?_
  refine Own.putF W4 (tw hw 58 rfl) Via.refl ((F_coder.ext E3).other Q4 (Or.inr (slot_ne (Or.inl (tw hw 59 rfl)) (Or.inl (tw hw 57 rfl)) (by decide) (t := .byte) (t' := (.array .byte)) (by decide) (by decide)))) ((E.ext E3).wr Q4) (Or.inl (tw hw 59 rfl)) (tw hw 43 rfl) (ty := .byte) (v' := (.int (0 : Int32))) (by decide) rfl rfl hn_sb (Safe.exa W4.wz.alike ((E.ext E3).wr Q4) (by decide) (by decide)) d8_19 22 rfl ?_
  intro T6 h6 W6 Q6 k6
  have F6_coder := Fld.same Q6 ((F_coder.ext E3).other Q4 (Or.inr (slot_ne (Or.inl (tw hw 59 rfl)) (Or.inl (tw hw 57 rfl)) (by decide) (t := .byte) (t' := (.array .byte)) (by decide) (by decide))))
  refine Own.goto W6 d8_22 38 (by decide) (by decide) ?_
  exact Own.retV W6 (by decide) (by decide) rfl d8_38 ⟨rfl, (Keep.wr (Keep.wr (Keep.ext (Keep.refl h [sb]) E3) Q4 (Or.inl (by simp))) Q6 (Or.inl (by simp))), o3, (Nat.le_of_eq g3.symm), ⟨(((E.ext E3).wr Q4).wr Q6), (F4_value.other Q6 (Or.inr (slot_ne (Or.inl (tw hw 57 rfl)) (Or.inl (tw hw 59 rfl)) (by decide) (t := (.array .byte)) (t' := .byte) (by decide) (by decide)))), F6_coder, (((F_count.ext E3).other Q4 (Or.inr (slot_ne (Or.inl (tw hw 195 rfl)) (Or.inl (tw hw 57 rfl)) (by decide) (t := .int) (t' := (.array .byte)) (by decide) (by decide)))).other Q6 (Or.inr (slot_ne (Or.inl (tw hw 195 rfl)) (Or.inl (tw hw 59 rfl)) (by decide) (t := .int) (t' := .byte) (by decide) (by decide)))), (by intro c hc; cases hc), by decide, by decide, c3, [(.int (0 : Int32)), (.int (0 : Int32)), (.int (0 : Int32)), (.int (0 : Int32)), (.int (0 : Int32)), (.int (0 : Int32)), (.int (0 : Int32)), (.int (0 : Int32)), (.int (0 : Int32)), (.int (0 : Int32)), (.int (0 : Int32)), (.int (0 : Int32)), (.int (0 : Int32)), (.int (0 : Int32)), (.int (0 : Int32)), (.int (0 : Int32))], ((V3.other Q4 (Ne.symm (Nat.ne_of_lt (Nat.lt_of_lt_of_le E.lt (Nat.le_of_eq g3.symm))))).other Q6 (Ne.symm (Nat.ne_of_lt (Nat.lt_of_lt_of_le E.lt (Nat.le_of_eq g3.symm))))), rfl⟩⟩
set_option maxRecDepth 65536 in
set_option maxHeartbeats 40000000 in
theorem con_si {G : Own.Gl} (hw : ∀ d ∈ tables_1, d.before G.a0 G.Z = true) (hEL : EW G.Z G.a0 G.EL) (hmem : True) {cz : Int32} (hS : Sta G.Z G.Z.heap Own.ST "COMPACT_STRINGS" "Z" (.int cz)) (hcz : ¬ cz = 0) {sb : Addr} {h : Heap} (hO : Old G.Z G.n0 h) (hn_sb : G.n0 ≤ sb) (E : Exa G.Z h sb "java/lang/StringBuilder") {u1 u2 : Value} (F_value : Fld G.Z h sb "java/lang/AbstractStringBuilder" "value" "[B" u1) (F_coder : Fld G.Z h sb "java/lang/AbstractStringBuilder" "coder" "B" u2) (F_count : Fld G.Z h sb "java/lang/AbstractStringBuilder" "count" "I" (.int 0)) :
    Own.Con G [] bSi #[.ref sb] h [] (fun v h' => v = none ∧ Keep h h' [sb] ∧ ∃ b : Addr, h.size ≤ b ∧ Own.SBd G.Z h' sb b 16 []) := by
  refine Own.Con.intro (plainFor_of_name pn_6) hO hEL _ (fun m => ef_bSi m sb) ?_
  intro X T0 W0 sf
  refine Own.aloadN W0 d7_0 1 rfl (.ref sb) rfl rfl ?_
  refine Own.bipush W0 d7_1 3 rfl (16 : Int32) rfl ?_
  refine Own.callX W0 rfl (tw hw 48 rfl) (tw hw 49 rfl) (tw hw 53 rfl) (by decide) (argsL := [(.int (16 : Int32))]) (rest := []) (Own.Con.pay (con_ai hw hEL hmem hS hcz rfl W0.old hn_sb E F_value F_coder F_count) W0 (tw hw 53 rfl) (tw hw 52 rfl) (len := 3) (wd := 0) (by decide) (by decide) (fun _ q => nomatch q)) rfl (lenOf pd_7 rfl) rfl (Nat.le_of_ble_eq_true rfl) d7_3 6 rfl 1 16 (Nat.le_of_ble_eq_true rfl) (Nat.le_of_ble_eq_true rfl) (Nat.le_of_ble_eq_true rfl) (Nat.le_of_ble_eq_true rfl) ?_
  intro v1 T1 h1 u1 W1 R1 hq
  obtain ⟨rfl, K1, b1, g1, F1⟩ := hq
  show Own.Go _ _ _ _ _ 6 #[.val (.ref sb)] []
  exact Own.retV W1 (by decide) (by decide) rfl d7_6 ⟨rfl, K1, b1, g1, F1⟩
set_option maxRecDepth 65536 in
set_option maxHeartbeats 40000000 in
theorem con_cdr {G : Own.Gl} (hw : ∀ d ∈ tables_1, d.before G.a0 G.Z = true) (hEL : EW G.Z G.a0 G.EL) (hmem : True) {cz : Int32} (hS : Sta G.Z G.Z.heap Own.ST "COMPACT_STRINGS" "Z" (.int cz)) (hcz : ¬ cz = 0) {x : Addr} {h : Heap} (hO : Old G.Z G.n0 h) (F : Fld G.Z h x "java/lang/String" "coder" "B" (.int 0)) :
    Own.Con G [] bCdr #[.ref x] h [] (fun v h' => v = some (.int 0) ∧ h' = h) := by
  refine Own.Con.intro (plainFor_of_name pn_7) hO hEL _ (fun m => ef_bCdr m x) ?_
  intro X T0 W0 sf
  refine Own.getS W0 (tw hw 122 rfl) Via.refl (W0.sta hS) d33_0 3 rfl ?_
  intro T1 W1
  refine Own.ifNo W1 d33_3 6 (XT.i0_eq_f hcz) rfl ?_
  refine Own.aloadN W1 d33_6 7 rfl (.ref x) rfl rfl ?_
  refine Own.getF W1 (tw hw 133 rfl) Via.refl F d33_7 10 rfl ?_
  intro T2 W2
  refine Own.goto W2 d33_10 14 (by decide) (by decide) ?_
  exact Own.retY W2 (by decide) (by decide) rfl d33_14 rfl ⟨rfl, rfl⟩
set_option maxRecDepth 65536 in
set_option maxHeartbeats 40000000 in
theorem con_ens {G : Own.Gl} (hw : ∀ d ∈ tables_1, d.before G.a0 G.Z = true) (hEL : EW G.Z G.a0 G.EL) {cap : Nat} {sb b : Addr} {ts : List Int32} (mn : Int32) (hm : ¬ (0 : Int32) < mn - Int32.ofNat cap) {h : Heap} (hO : Old G.Z G.n0 h) (F : Own.SBd G.Z h sb b cap ts) :
    Own.Con G [] bEns #[.ref sb, .int mn] h [] (fun v h' => v = none ∧ h' = h) := by
  refine Own.Con.intro (plainFor_of_name pn_5) hO hEL _ (fun m => ef_bEns m sb mn) ?_
  intro X T0 W0 sf
  obtain ⟨E, Fv, Fc, Fn, Hr, Hl, Hc, kb, junk, Ab, Hj⟩ := id F
  refine Own.aloadN W0 d34_0 1 rfl (.ref sb) rfl rfl ?_
  refine Own.getF W0 (tw hw 56 rfl) Via.refl Fv d34_1 4 rfl ?_
  intro T1 W1
  refine Own.arrlen W1 Ab d34_4 5 rfl ?_
  refine Own.aloadN W1 d34_5 6 rfl (.ref sb) rfl rfl ?_
  refine Own.getF W1 (tw hw 58 rfl) Via.refl Fc d34_6 9 rfl ?_
  intro T2 W2
  refine Own.ishr W2 d34_9 10 rfl ?_
  rw [Own.shr0]
  refine Own.istoreN W2 d34_10 11 rfl #[.val (.ref sb), .val (.int mn), .val (.int (Int32.ofNat cap))] rfl ?_
  refine Own.iloadN W2 d34_11 12 rfl mn rfl ?_
  refine Own.iloadN W2 d34_12 13 rfl (Int32.ofNat cap) rfl ?_
  refine Own.isub W2 d34_13 14 rfl ?_
  refine Own.ifYes W2 d34_14 38 (XT.i0_le_t hm) (by decide) (by decide) ?_
  exact Own.retV W2 (by decide) (by decide) rfl d34_38 ⟨rfl, rfl⟩
set_option maxRecDepth 65536 in
set_option maxHeartbeats 40000000 in
theorem con_inf {G : Own.Gl} (hw : ∀ d ∈ tables_1, d.before G.a0 G.Z = true) (hEL : EW G.Z G.a0 G.EL) (hmem : True) {cz : Int32} (hS : Sta G.Z G.Z.heap Own.ST "COMPACT_STRINGS" "Z" (.int cz)) (hcz : ¬ cz = 0) {cap : Nat} {sb b : Addr} {ts : List Int32} {h : Heap} (hO : Old G.Z G.n0 h) (F : Own.SBd G.Z h sb b cap ts) {x : Addr} {cs : List Int32} (Sx : Own.Str G.Z h x cs) :
    Own.Con G [] bInf #[.ref sb, .ref x] h [] (fun v h' => v = none ∧ h' = h) := by
  refine Own.Con.intro (plainFor_of_name pn_5) hO hEL _ (fun m => ef_bInf m sb x) ?_
  intro X T0 W0 sf
  obtain ⟨E, Fv, Fc, Fn, Hr, Hl, Hc, kb, junk, Ab, Hj⟩ := id F
  obtain ⟨Ex, Xc, Xr, Xl, bx, kx, Xv, Xa⟩ := id Sx
  refine Own.getS W0 (tw hw 55 rfl) Via.refl (W0.sta hS) d36_0 3 rfl ?_
  intro T1 W1
  refine Own.ifNo W1 d36_3 6 (XT.i0_eq_f hcz) rfl ?_
  refine Own.aloadN W1 d36_6 7 rfl (.ref sb) rfl rfl ?_
  refine Own.getF W1 (tw hw 58 rfl) Via.refl Fc d36_7 10 rfl ?_
  intro T2 W2
  refine Own.aloadN W2 d36_10 11 rfl (.ref x) rfl rfl ?_
  refine Own.callV W2 (tw hw 211 rfl) (tw hw 190 rfl) (fun s q => notFace_of_selects (args := #[]) (mvT (s := s) q (tw hw 192 rfl))) (tw hw 192 rfl) (tw hw 191 rfl) (by decide) (argsL := []) (rest := [(.int (0 : Int32))]) (Own.Con.pay (con_cdr hw hEL hmem hS hcz W2.old Xc) W2 (tw hw 193 rfl) (tw hw 5 rfl) (len := 3) (wd := 1) (by decide) (by decide) (fun _ q => nomatch q)) Ex rfl (lenOf pd_8 rfl) rfl (Nat.le_of_ble_eq_true rfl) d36_11 14 rfl 0 0 (Nat.le_of_ble_eq_true rfl) (Nat.le_of_ble_eq_true rfl) (Nat.le_of_ble_eq_true rfl) (Nat.le_of_ble_eq_true rfl) ?_
  intro v3 T3 h3 u3 W3 R3 hq
  obtain ⟨rfl, eh3⟩ := hq
  have ei3 := eh3.symm; subst ei3
  show Own.Go _ _ _ _ _ 14 #[.val (.ref sb), .val (.ref x)] [(.int (0 : Int32)), (.int (0 : Int32))]
  refine Own.icmpYes W3 d36_14 21 (by decide) (by decide) (by decide) ?_
  exact Own.retV W3 (by decide) (by decide) rfl d36_21 ⟨rfl, rfl⟩
set_option maxRecDepth 65536 in
set_option maxHeartbeats 40000000 in
theorem con_gb {G : Own.Gl} (hw : ∀ d ∈ tables_1, d.before G.a0 G.Z = true) (hEL : EW G.Z G.a0 G.EL) (hmem : True) {cz : Int32} (hS : Sta G.Z G.Z.heap Own.ST "COMPACT_STRINGS" "Z" (.int cz)) (hcz : ¬ cz = 0) {cap : Nat} (hEN : Own.EN G.Z G.a0 G.EL cap) {b : Addr} {dp cd : Int32} {h : Heap} (hO : Old G.Z G.n0 h) (hn_b : G.n0 ≤ b) {kb : ClassId} {ts : List Int32} {junk : List Value} (Ab : Arv G.Z h b kb .byte (Int32.ofNat cap) (Own.bs ts ++ junk) (.int 0)) (Hj : (Own.bs ts ++ junk).length = cap) (Hc : cap ≤ 4000) {x : Addr} {cs : List Int32} (Sx : Own.Str G.Z h x cs) (hdp : dp = Int32.ofNat ts.length) (hcd : cd = 0) (hfit : ts.length + cs.length ≤ cap) :
    Own.Con G [] bGb #[.ref x, .ref b, .int dp, .int cd] h [] (fun v h' => v = none ∧ Keep h h' [b] ∧ Arv G.Z h' b kb .byte (Int32.ofNat cap) (Own.bs (ts ++ cs) ++ junk.drop cs.length) (.int 0)) := by
  refine Own.Con.intro (plainFor_of_name pn_7) hO hEL _ (fun m => ef_bGb m x b dp cd) ?_
  intro X T0 W0 sf
  subst hdp; subst hcd
  obtain ⟨Ex, Xc, Xr, Xl, bx, kx, Xv, Xa⟩ := id Sx
  refine Own.aloadN W0 d37_0 1 rfl (.ref x) rfl rfl ?_
  refine Own.callV W0 (tw hw 189 rfl) (tw hw 190 rfl) (fun s q => notFace_of_selects (args := #[]) (mvT (s := s) q (tw hw 192 rfl))) (tw hw 192 rfl) (tw hw 191 rfl) (by decide) (argsL := []) (rest := []) (Own.Con.pay (con_cdr hw hEL hmem hS hcz W0.old Xc) W0 (tw hw 193 rfl) (tw hw 5 rfl) (len := 3) (wd := 0) (by decide) (by decide) (fun _ q => nomatch q)) Ex rfl (lenOf pd_8 rfl) rfl (Nat.le_of_ble_eq_true rfl) d37_1 4 rfl 0 0 (Nat.le_of_ble_eq_true rfl) (Nat.le_of_ble_eq_true rfl) (Nat.le_of_ble_eq_true rfl) (Nat.le_of_ble_eq_true rfl) ?_
  intro v1 T1 h1 u1 W1 R1 hq
  obtain ⟨rfl, eh1⟩ := hq
  have ei1 := eh1.symm; subst ei1
  show Own.Go _ _ _ _ _ 4 #[.val (.ref x), .val (.ref b), .val (.int (Int32.ofNat ts.length)), .val (.int (0 : Int32))] [(.int (0 : Int32))]
  refine Own.iloadN W1 d37_4 5 rfl (0 : Int32) rfl ?_
  refine Own.icmpNo W1 d37_5 8 (by decide) rfl ?_
  refine Own.aloadN W1 d37_8 9 rfl (.ref x) rfl rfl ?_
  refine Own.getF W1 (tw hw 134 rfl) Via.refl Xv d37_9 12 rfl ?_
  intro T2 W2
  refine Own.iconst W2 d37_12 13 rfl (0 : Int32) rfl ?_
  refine Own.aloadN W2 d37_13 14 rfl (.ref b) rfl rfl ?_
  refine Own.iloadN W2 d37_14 15 rfl (Int32.ofNat ts.length) rfl ?_
  refine Own.iloadN W2 d37_15 16 rfl (0 : Int32) rfl ?_
  refine Own.ishl W2 d37_16 17 rfl ?_
  rw [Own.shl0]
  refine Own.aloadN W2 d37_17 18 rfl (.ref x) rfl rfl ?_
  refine Own.getF W2 (tw hw 134 rfl) Via.refl Xv d37_18 21 rfl ?_
  intro T3 W3
  refine Own.arrlen W3 Xa d37_21 22 rfl ?_
  refine Own.acopy W3 (tw hw 217 rfl) (tw hw 220 rfl) (tw hw 218 rfl) (tw hw 219 rfl) Xa Ab (by decide) (Own.nonneg (by omega)) (Own.nonneg Xl) (by rw [show (0 : Int32).toNatClampNeg = 0 by decide]; omega) (by rw [Own.clampN (by omega), Own.clampN Xl, Own.clampN Hc]; exact hfit) (us := Own.bs cs) (Own.rangeGet _ (by rw [Own.clampN Xl, Own.bs_len]) _ (by decide)) (by rw [Own.clampN (by omega), Own.clampN Xl, Hj]; exact hfit) hn_b (Own.Safe.len W3.wz hEN Ab (Own.clampN Hc)) rfl d37_22 25 rfl (by decide) (Nat.le_of_ble_eq_true rfl) ?_
  intro T4 h4 W4 R4 K4 A4
  have A' := A4; rw [Own.cp_app (by omega) Xl] at A'
  refine Own.goto W4 d37_25 43 (by decide) (by decide) ?_
  exact Own.retV W4 (by decide) (by decide) rfl d37_43 ⟨rfl, K4, A'⟩
set_option maxRecDepth 65536 in
set_option maxHeartbeats 40000000 in
theorem con_psa {G : Own.Gl} (hw : ∀ d ∈ tables_1, d.before G.a0 G.Z = true) (hEL : EW G.Z G.a0 G.EL) (hmem : True) {cz : Int32} (hS : Sta G.Z G.Z.heap Own.ST "COMPACT_STRINGS" "Z" (.int cz)) (hcz : ¬ cz = 0) {cap : Nat} (hEN : Own.EN G.Z G.a0 G.EL cap) {sb b : Addr} {i : Int32} {h : Heap} (hO : Old G.Z G.n0 h) (hn_b : G.n0 ≤ b) (E : Exa G.Z h sb "java/lang/StringBuilder") (Fv : Fld G.Z h sb "java/lang/AbstractStringBuilder" "value" "[B" (.ref b)) (Fc : Fld G.Z h sb "java/lang/AbstractStringBuilder" "coder" "B" (.int 0)) {kb : ClassId} {ts : List Int32} {junk : List Value} (Ab : Arv G.Z h b kb .byte (Int32.ofNat cap) (Own.bs ts ++ junk) (.int 0)) (Hj : (Own.bs ts ++ junk).length = cap) (Hc : cap ≤ 4000) (F : Own.SBd G.Z h sb b cap ts) {x : Addr} {cs : List Int32} (Sx : Own.Str G.Z h x cs) (hi : i = Int32.ofNat ts.length) (hfit : ts.length + cs.length ≤ cap) :
    Own.Con G [] bPsa #[.ref sb, .int i, .ref x] h [] (fun v h' => v = none ∧ Keep h h' [b] ∧ Arv G.Z h' b kb .byte (Int32.ofNat cap) (Own.bs (ts ++ cs) ++ junk.drop cs.length) (.int 0)) := by
  refine Own.Con.intro (plainFor_of_name pn_5) hO hEL _ (fun m => ef_bPsa m sb i x) ?_
  intro X T0 W0 sf
  subst hi
  obtain ⟨-, -, -, Fn, -⟩ := id F
  obtain ⟨Ex, Xc, Xr, Xl, bx, kx, Xv, Xa⟩ := id Sx
  refine Own.aloadN W0 d35_0 1 rfl (.ref sb) rfl rfl ?_
  refine Own.aloadN W0 d35_1 2 rfl (.ref x) rfl rfl ?_
  refine Own.callV W0 (tw hw 206 rfl) (Own.declares_of (tw hw 207 rfl) (tw hw 210 rfl)) (fun s q => notFace_of_selects (args := #[]) (mvT (s := s) q (tw hw 209 rfl))) (tw hw 209 rfl) (tw hw 207 rfl) (by decide) (argsL := [(.ref x)]) (rest := []) (Own.Con.pay (con_inf hw hEL hmem hS hcz W0.old F Sx) W0 (tw hw 210 rfl) (tw hw 52 rfl) (len := 3) (wd := 0) (by decide) (by decide) (fun _ q => nomatch q)) E rfl (lenOf pd_9 rfl) rfl (Nat.le_of_ble_eq_true rfl) d35_2 5 rfl 0 0 (Nat.le_of_ble_eq_true rfl) (Nat.le_of_ble_eq_true rfl) (Nat.le_of_ble_eq_true rfl) (Nat.le_of_ble_eq_true rfl) ?_
  intro v1 T1 h1 u1 W1 R1 hq
  obtain ⟨rfl, eh1⟩ := hq
  have ei1 := eh1.symm; subst ei1
  show Own.Go _ _ _ _ _ 5 #[.val (.ref sb), .val (.int (Int32.ofNat ts.length)), .val (.ref x)] []
  refine Own.aloadN W1 d35_5 6 rfl (.ref x) rfl rfl ?_
  refine Own.aloadN W1 d35_6 7 rfl (.ref sb) rfl rfl ?_
  refine Own.getF W1 (tw hw 56 rfl) Via.refl Fv d35_7 10 rfl ?_
  intro T2 W2
  refine Own.iloadN W2 d35_10 11 rfl (Int32.ofNat ts.length) rfl ?_
  refine Own.aloadN W2 d35_11 12 rfl (.ref sb) rfl rfl ?_
  refine Own.getF W2 (tw hw 58 rfl) Via.refl Fc d35_12 15 rfl ?_
  intro T3 W3
  refine Own.callV W3 (tw hw 212 rfl) (tw hw 213 rfl) (fun s q => notFace_of_selects (args := #[]) (mvT (s := s) q (tw hw 215 rfl))) (tw hw 215 rfl) (tw hw 214 rfl) (by decide) (argsL := [(.ref b), (.int (Int32.ofNat ts.length)), (.int (0 : Int32))]) (rest := []) (Own.Con.pay (con_gb hw hEL hmem hS hcz hEN W3.old hn_b Ab Hj Hc Sx rfl rfl hfit) W3 (tw hw 216 rfl) (tw hw 5 rfl) (len := 3) (wd := 0) (by decide) (by decide) (fun _ q => nomatch q)) Ex rfl (lenOf pd_10 rfl) rfl (Nat.le_of_ble_eq_true rfl) d35_15 18 rfl 0 0 (Nat.le_of_ble_eq_true rfl) (Nat.le_of_ble_eq_true rfl) (Nat.le_of_ble_eq_true rfl) (Nat.le_of_ble_eq_true rfl) ?_
  intro v4 T4 h4 u4 W4 R4 hq
  obtain ⟨rfl, K4, A4⟩ := hq
  show Own.Go _ _ _ _ _ 18 #[.val (.ref sb), .val (.int (Int32.ofNat ts.length)), .val (.ref x)] []
  exact Own.retV W4 (by decide) (by decide) rfl d35_18 ⟨rfl, K4, A4⟩
set_option maxRecDepth 65536 in
set_option maxHeartbeats 40000000 in
theorem con_aap {G : Own.Gl} (hw : ∀ d ∈ tables_1, d.before G.a0 G.Z = true) (hEL : EW G.Z G.a0 G.EL) (hmem : True) {cz : Int32} (hS : Sta G.Z G.Z.heap Own.ST "COMPACT_STRINGS" "Z" (.int cz)) (hcz : ¬ cz = 0) {cap : Nat} (hEN : Own.EN G.Z G.a0 G.EL cap) {sb b : Addr} {ts : List Int32} {h : Heap} (hO : Old G.Z G.n0 h) (hn_sb : G.n0 ≤ sb) (hn_b : G.n0 ≤ b) (hsb : sb ≠ b) (F : Own.SBd G.Z h sb b cap ts) {x : Addr} {cs : List Int32} (Sx : Own.Str G.Z h x cs) (hfit : ts.length + cs.length ≤ cap) :
    Own.Con G [] bAap #[.ref sb, .ref x] h [] (fun v h' => v = some (.ref sb) ∧ Keep h h' [sb, b] ∧ Own.SBd G.Z h' sb b cap (ts ++ cs)) := by
  refine Own.Con.intro (plainFor_of_name pn_5) hO hEL _ (fun m => ef_bAap m sb x) ?_
  intro X T0 W0 sf
  obtain ⟨E, Fv, Fc, Fn, Hr, Hl, Hc, kb, junk, Ab, Hj⟩ := id F
  obtain ⟨Ex, Xc, Xr, Xl, bx, kx, Xv, Xa⟩ := id Sx
  refine Own.aloadN W0 d31_0 1 rfl (.ref x) rfl rfl ?_
  refine Own.ifnonnullYes W0 d31_1 9 (by decide) (by decide) ?_
  refine Own.aloadN W0 d31_9 10 rfl (.ref x) rfl rfl ?_
  refine Own.callV W0 (tw hw 184 rfl) (tw hw 185 rfl) (fun s q => notFace_of_selects (args := #[]) (mvT (s := s) q (tw hw 187 rfl))) (tw hw 187 rfl) (tw hw 186 rfl) (by decide) (argsL := []) (rest := []) (Own.payLen (wL hw) (kI := 4) (tw hw 6 rfl) W0 Sx hS hcz (len := 3) (wd := 0) (by decide) (by decide)) Ex rfl (lenOf pd_11 rfl) rfl (Nat.le_of_ble_eq_true rfl) d31_10 13 rfl 0 0 (Nat.le_of_ble_eq_true rfl) (Nat.le_of_ble_eq_true rfl) (Nat.le_of_ble_eq_true rfl) (Nat.le_of_ble_eq_true rfl) ?_
  intro v1 T1 h1 u1 W1 R1 hq
  obtain ⟨rfl, eh1⟩ := hq
  have ei1 := eh1.symm; subst ei1
  show Own.Go _ _ _ _ _ 13 #[.val (.ref sb), .val (.ref x), .unset] [(.int (Int32.ofNat cs.length))]
  refine Own.istoreN W1 d31_13 14 rfl #[.val (.ref sb), .val (.ref x), .val (.int (Int32.ofNat cs.length))] rfl ?_
  refine Own.aloadN W1 d31_14 15 rfl (.ref sb) rfl rfl ?_
  refine Own.aloadN W1 d31_15 16 rfl (.ref sb) rfl rfl ?_
  refine Own.getF W1 (tw hw 194 rfl) Via.refl Fn d31_16 19 rfl ?_
  intro T2 W2
  refine Own.iloadN W2 d31_19 20 rfl (Int32.ofNat cs.length) rfl ?_
  refine Own.iadd W2 d31_20 21 rfl ?_
  refine Own.callV W2 (tw hw 196 rfl) (Own.declares_of (tw hw 197 rfl) (tw hw 200 rfl)) (fun s q => notFace_of_selects (args := #[]) (mvT (s := s) q (tw hw 199 rfl))) (tw hw 199 rfl) (tw hw 197 rfl) (by decide) (argsL := [(.int ((Int32.ofNat ts.length) + (Int32.ofNat cs.length)))]) (rest := []) (Own.Con.pay (con_ens hw hEL _ (Own.capOK hfit Hc) W2.old F) W2 (tw hw 200 rfl) (tw hw 52 rfl) (len := 3) (wd := 0) (by decide) (by decide) (fun _ q => nomatch q)) E rfl (lenOf pd_7 rfl) rfl (Nat.le_of_ble_eq_true rfl) d31_21 24 rfl 0 0 (Nat.le_of_ble_eq_true rfl) (Nat.le_of_ble_eq_true rfl) (Nat.le_of_ble_eq_true rfl) (Nat.le_of_ble_eq_true rfl) ?_
  intro v3 T3 h3 u3 W3 R3 hq
  obtain ⟨rfl, eh3⟩ := hq
  have ei3 := eh3.symm; subst ei3
  show Own.Go _ _ _ _ _ 24 #[.val (.ref sb), .val (.ref x), .val (.int (Int32.ofNat cs.length))] []
  refine Own.aloadN W3 d31_24 25 rfl (.ref sb) rfl rfl ?_
  refine Own.aloadN W3 d31_25 26 rfl (.ref sb) rfl rfl ?_
  refine Own.getF W3 (tw hw 194 rfl) Via.refl Fn d31_26 29 rfl ?_
  intro T4 W4
  refine Own.aloadN W4 d31_29 30 rfl (.ref x) rfl rfl ?_
  refine Own.callV W4 (tw hw 201 rfl) (Own.declares_of (tw hw 202 rfl) (tw hw 205 rfl)) (fun s q => notFace_of_selects (args := #[]) (mvT (s := s) q (tw hw 204 rfl))) (tw hw 204 rfl) (tw hw 202 rfl) (by decide) (argsL := [(.int (Int32.ofNat ts.length)), (.ref x)]) (rest := []) (Own.Con.pay (con_psa hw hEL hmem hS hcz hEN W4.old hn_b E Fv Fc Ab Hj Hc F Sx rfl hfit) W4 (tw hw 205 rfl) (tw hw 52 rfl) (len := 3) (wd := 0) (by decide) (by decide) (fun _ q => nomatch q)) E rfl (lenOf pd_12 rfl) rfl (Nat.le_of_ble_eq_true rfl) d31_30 33 rfl 0 0 (Nat.le_of_ble_eq_true rfl) (Nat.le_of_ble_eq_true rfl) (Nat.le_of_ble_eq_true rfl) (Nat.le_of_ble_eq_true rfl) ?_
  intro v5 T5 h5 u5 W5 R5 hq
  obtain ⟨rfl, K5, A5⟩ := hq
  show Own.Go _ _ _ _ _ 33 #[.val (.ref sb), .val (.ref x), .val (.int (Int32.ofNat cs.length))] []
  refine Own.aloadN W5 d31_33 34 rfl (.ref sb) rfl rfl ?_
  refine Own.dup W5 d31_34 35 rfl rfl ?_
  refine Own.getF W5 (tw hw 194 rfl) Via.refl (Fn.keep K5 (ninS hsb nin0)) d31_35 38 rfl ?_
  intro T6 W6
  refine Own.iloadN W6 d31_38 39 rfl (Int32.ofNat cs.length) rfl ?_
  refine Own.iadd W6 d31_39 40 rfl ?_
  refine Own.putF W6 (tw hw 194 rfl) Via.refl (Fn.keep K5 (ninS hsb nin0)) (E.keep K5) (Or.inl (tw hw 195 rfl)) (tw hw 43 rfl) (ty := .int) (v' := (.int ((Int32.ofNat ts.length) + (Int32.ofNat cs.length)))) (by decide) rfl rfl hn_sb (Safe.exa W6.wz.alike (E.keep K5) (by decide) (by decide)) d31_40 43 rfl ?_
  intro T7 h7 W7 Q7 k7
  have F7_count := Fld.same Q7 (Fn.keep K5 (ninS hsb nin0))
  refine Own.aloadN W7 d31_43 44 rfl (.ref sb) rfl rfl ?_
  exact Own.retA W7 (by decide) (by decide) rfl rfl rfl d31_44 ⟨rfl, (Keep.wr (Keep.trans (Keep.refl h [sb, b]) K5 (by intro y hy; cases List.mem_singleton.mp hy; exact Or.inl (by simp))) Q7 (Or.inl (by simp))), ((E.keep K5).wr Q7), ((Fv.keep K5 (ninS hsb nin0)).other Q7 (Or.inr (slot_ne (Or.inl (tw hw 57 rfl)) (Or.inl (tw hw 195 rfl)) (by decide) (t := (.array .byte)) (t' := .int) (by decide) (by decide)))), ((Fc.keep K5 (ninS hsb nin0)).other Q7 (Or.inr (slot_ne (Or.inl (tw hw 59 rfl)) (Or.inl (tw hw 195 rfl)) (by decide) (t := .byte) (t' := .int) (by decide) (by decide)))), by rw [List.length_append, Int32.ofNat_add]; exact F7_count, fun c hc => (List.mem_append.mp hc).elim (Hr c) (Xr c), by rw [List.length_append]; exact hfit, Hc, kb, junk.drop cs.length, (A5.other Q7 (Ne.symm hsb)), by have q := Hj; rw [List.length_append, Own.bs_len] at q ⊢; rw [List.length_append, List.length_drop]; omega⟩
set_option maxRecDepth 65536 in
set_option maxHeartbeats 40000000 in
theorem con_app {G : Own.Gl} (hw : ∀ d ∈ tables_1, d.before G.a0 G.Z = true) (hEL : EW G.Z G.a0 G.EL) (hmem : True) {cz : Int32} (hS : Sta G.Z G.Z.heap Own.ST "COMPACT_STRINGS" "Z" (.int cz)) (hcz : ¬ cz = 0) {cap : Nat} (hEN : Own.EN G.Z G.a0 G.EL cap) {sb b : Addr} {ts : List Int32} {h : Heap} (hO : Old G.Z G.n0 h) (hn_sb : G.n0 ≤ sb) (hn_b : G.n0 ≤ b) (hsb : sb ≠ b) (F : Own.SBd G.Z h sb b cap ts) {x : Addr} {cs : List Int32} (Sx : Own.Str G.Z h x cs) (hfit : ts.length + cs.length ≤ cap) :
    Own.Con G [] bApp #[.ref sb, .ref x] h [] (fun v h' => v = some (.ref sb) ∧ Keep h h' [sb, b] ∧ Own.SBd G.Z h' sb b cap (ts ++ cs)) := by
  refine Own.Con.intro (plainFor_of_name pn_6) hO hEL _ (fun m => ef_bApp m sb x) ?_
  intro X T0 W0 sf
  have E := F.exa
  refine Own.aloadN W0 d30_0 1 rfl (.ref sb) rfl rfl ?_
  refine Own.aloadN W0 d30_1 2 rfl (.ref x) rfl rfl ?_
  refine Own.callU W0 (tw hw 179 rfl) (tw hw 182 rfl) (tw hw 199 rfl) rfl (tw hw 180 rfl) (tw hw 181 rfl) (tw hw 183 rfl) (by decide) (by decide) (argsL := [(.ref x)]) (rest := []) (Own.Con.pay (con_aap hw hEL hmem hS hcz hEN W0.old hn_sb hn_b hsb F Sx hfit) W0 (tw hw 183 rfl) (tw hw 52 rfl) (len := 3) (wd := 0) (by decide) (by decide) (fun _ q => nomatch q)) E rfl (lenOf pd_13 rfl) rfl (Nat.le_of_ble_eq_true rfl) d30_2 5 rfl 0 0 (Nat.le_of_ble_eq_true rfl) (Nat.le_of_ble_eq_true rfl) (Nat.le_of_ble_eq_true rfl) (Nat.le_of_ble_eq_true rfl) ?_
  intro v1 T1 h1 u1 W1 R1 hq
  obtain ⟨rfl, K1, F1⟩ := hq
  show Own.Go _ _ _ _ _ 5 #[.val (.ref sb), .val (.ref x)] [(.ref sb)]
  refine Own.pop W1 d30_5 6 rfl rfl ?_
  refine Own.aloadN W1 d30_6 7 rfl (.ref sb) rfl rfl ?_
  exact Own.retA W1 (by decide) (by decide) rfl rfl rfl d30_7 ⟨rfl, K1, F1⟩
set_option maxRecDepth 65536 in
set_option maxHeartbeats 40000000 in
theorem con_gv {G : Own.Gl} (hw : ∀ d ∈ tables_1, d.before G.a0 G.Z = true) (hEL : EW G.Z G.a0 G.EL) {cap : Nat} {sb b : Addr} {ts : List Int32} {h : Heap} (hO : Old G.Z G.n0 h) (F : Own.SBd G.Z h sb b cap ts) :
    Own.Con G [] bGv #[.ref sb] h [] (fun v h' => v = some (.ref b) ∧ h' = h) := by
  refine Own.Con.intro (plainFor_of_name pn_5) hO hEL _ (fun m => ef_bGv m sb) ?_
  intro X T0 W0 sf
  obtain ⟨E, Fv, Fc, Fn, Hr, Hl, Hc, kb, junk, Ab, Hj⟩ := id F
  refine Own.aloadN W0 d43_0 1 rfl (.ref sb) rfl rfl ?_
  refine Own.getF W0 (tw hw 56 rfl) Via.refl Fv d43_1 4 rfl ?_
  intro T1 W1
  exact Own.retA W1 (by decide) (by decide) rfl rfl rfl d43_4 ⟨rfl, rfl⟩
set_option maxRecDepth 65536 in
set_option maxHeartbeats 40000000 in
theorem con_asl {G : Own.Gl} (hw : ∀ d ∈ tables_1, d.before G.a0 G.Z = true) (hEL : EW G.Z G.a0 G.EL) {cap : Nat} {sb b : Addr} {ts : List Int32} {h : Heap} (hO : Old G.Z G.n0 h) (F : Own.SBd G.Z h sb b cap ts) :
    Own.Con G [] bAsl #[.ref sb] h [] (fun v h' => v = some (.int (Int32.ofNat ts.length)) ∧ h' = h) := by
  refine Own.Con.intro (plainFor_of_name pn_5) hO hEL _ (fun m => ef_bAsl m sb) ?_
  intro X T0 W0 sf
  obtain ⟨E, Fv, Fc, Fn, Hr, Hl, Hc, kb, junk, Ab, Hj⟩ := id F
  refine Own.aloadN W0 d39_0 1 rfl (.ref sb) rfl rfl ?_
  refine Own.getF W0 (tw hw 194 rfl) Via.refl Fn d39_1 4 rfl ?_
  intro T1 W1
  exact Own.retI W1 (by decide) (by decide) rfl d39_4 ⟨rfl, rfl⟩
set_option maxRecDepth 65536 in
set_option maxHeartbeats 40000000 in
theorem con_sbl {G : Own.Gl} (hw : ∀ d ∈ tables_1, d.before G.a0 G.Z = true) (hEL : EW G.Z G.a0 G.EL) {cap : Nat} {sb b : Addr} {ts : List Int32} {h : Heap} (hO : Old G.Z G.n0 h) (F : Own.SBd G.Z h sb b cap ts) :
    Own.Con G [] bSbl #[.ref sb] h [] (fun v h' => v = some (.int (Int32.ofNat ts.length)) ∧ h' = h) := by
  refine Own.Con.intro (plainFor_of_name pn_6) hO hEL _ (fun m => ef_bSbl m sb) ?_
  intro X T0 W0 sf
  have E := F.exa
  refine Own.aloadN W0 d38_0 1 rfl (.ref sb) rfl rfl ?_
  refine Own.callU W0 (tw hw 226 rfl) (tw hw 228 rfl) (tw hw 199 rfl) rfl (tw hw 227 rfl) (tw hw 181 rfl) (tw hw 229 rfl) (by decide) (by decide) (argsL := []) (rest := []) (Own.Con.pay (con_asl hw hEL W0.old F) W0 (tw hw 229 rfl) (tw hw 52 rfl) (len := 3) (wd := 0) (by decide) (by decide) (fun _ q => nomatch q)) E rfl (lenOf pd_11 rfl) rfl (Nat.le_of_ble_eq_true rfl) d38_1 4 rfl 0 0 (Nat.le_of_ble_eq_true rfl) (Nat.le_of_ble_eq_true rfl) (Nat.le_of_ble_eq_true rfl) (Nat.le_of_ble_eq_true rfl) ?_
  intro v1 T1 h1 u1 W1 R1 hq
  obtain ⟨rfl, eh1⟩ := hq
  have ei1 := eh1.symm; subst ei1
  show Own.Go _ _ _ _ _ 4 #[.val (.ref sb)] [(.int (Int32.ofNat ts.length))]
  exact Own.retI W1 (by decide) (by decide) rfl d38_4 ⟨rfl, rfl⟩
set_option maxRecDepth 65536 in
set_option maxHeartbeats 40000000 in
theorem con_il {G : Own.Gl} (hw : ∀ d ∈ tables_1, d.before G.a0 G.Z = true) (hEL : EW G.Z G.a0 G.EL) (hmem : True) {cz : Int32} (hS : Sta G.Z G.Z.heap Own.ST "COMPACT_STRINGS" "Z" (.int cz)) (hcz : ¬ cz = 0) {cap : Nat} {sb b : Addr} {ts : List Int32} {h : Heap} (hO : Old G.Z G.n0 h) (F : Own.SBd G.Z h sb b cap ts) :
    Own.Con G [] bIl #[.ref sb] h [] (fun v h' => v = some (.int 1) ∧ h' = h) := by
  refine Own.Con.intro (plainFor_of_name pn_5) hO hEL _ (fun m => ef_bIl m sb) ?_
  intro X T0 W0 sf
  obtain ⟨E, Fv, Fc, Fn, Hr, Hl, Hc, kb, junk, Ab, Hj⟩ := id F
  refine Own.getS W0 (tw hw 55 rfl) Via.refl (W0.sta hS) d44_0 3 rfl ?_
  intro T1 W1
  refine Own.ifNo W1 d44_3 6 (XT.i0_eq_f hcz) rfl ?_
  refine Own.aloadN W1 d44_6 7 rfl (.ref sb) rfl rfl ?_
  refine Own.getF W1 (tw hw 58 rfl) Via.refl Fc d44_7 10 rfl ?_
  intro T2 W2
  refine Own.ifNo W2 d44_10 13 (by decide) rfl ?_
  refine Own.iconst W2 d44_13 14 rfl (1 : Int32) rfl ?_
  refine Own.goto W2 d44_14 18 (by decide) (by decide) ?_
  exact Own.retB W2 (by decide) (by decide) rfl d44_18 rfl ⟨rfl, rfl⟩
set_option maxRecDepth 65536 in
set_option maxHeartbeats 40000000 in
theorem con_chk {G : Own.Gl} (hw : ∀ d ∈ tables_1, d.before G.a0 G.Z = true) (hEL : EW G.Z G.a0 G.EL) (i j : Int32) (hij : ¬ j < i) {h : Heap} (hO : Old G.Z G.n0 h) :
    Own.Con G [] bChk #[.int i, .int j] h [] (fun v h' => v = none ∧ h' = h) := by
  refine Own.Con.intro (plainFor_of_name pn_8) hO hEL _ (fun m => ef_bChk m i j) ?_
  intro X T0 W0 sf
  refine Own.iloadN W0 d47_0 1 rfl j rfl ?_
  refine Own.iloadN W0 d47_1 2 rfl i rfl ?_
  refine Own.icmpYes W0 d47_2 37 (XT.ii_ge_t hij) (by decide) (by decide) ?_
  exact Own.retV W0 (by decide) (by decide) rfl d47_37 ⟨rfl, rfl⟩
set_option maxRecDepth 65536 in
set_option maxHeartbeats 40000000 in
theorem con_min {G : Own.Gl} (hw : ∀ d ∈ tables_1, d.before G.a0 G.Z = true) (hEL : EW G.Z G.a0 G.EL) (i j : Int32) (hij : j < i) {h : Heap} (hO : Old G.Z G.n0 h) :
    Own.Con G [] bMin #[.int i, .int j] h [] (fun v h' => v = some (.int j) ∧ h' = h) := by
  refine Own.Con.intro (by decide +kernel) hO hEL _ (fun m => ef_bMin m i j) ?_
  intro X T0 W0 sf
  refine Own.iloadN W0 d48_0 1 rfl i rfl ?_
  refine Own.iloadN W0 d48_1 2 rfl j rfl ?_
  refine Own.icmpYes W0 d48_2 9 (XT.ii_gt_t hij) (by decide) (by decide) ?_
  refine Own.iloadN W0 d48_9 10 rfl j rfl ?_
  exact Own.retI W0 (by decide) (by decide) rfl d48_10 ⟨rfl, rfl⟩
set_option maxRecDepth 65536 in
set_option maxHeartbeats 40000000 in
theorem con_crb {G : Own.Gl} (hw : ∀ d ∈ tables_1, d.before G.a0 G.Z = true) (hEL : EW G.Z G.a0 G.EL) {cap : Nat} (Hc : cap ≤ 4000) {a : Addr} {kb : ClassId} {ts : List Int32} {junk : List Value} {h : Heap} (hO : Old G.Z G.n0 h) (Ab : Arv G.Z h a kb .byte (Int32.ofNat cap) (Own.bs ts ++ junk) (.int 0)) (hts : ts.length < cap) (hcap : ts.length ≤ 16) {fr to : Int32} (hfr : fr = 0) (hto : to = Int32.ofNat ts.length) :
    Own.Con G [] bCrb #[.ref a, .int fr, .int to] h [] (fun v h' => ∃ (o : Addr) (ko : ClassId), v = some (.ref o) ∧ Ext h h' ∧ h.size ≤ o ∧ Arv G.Z h' o ko .byte (Int32.ofNat ts.length) (Own.bs ts) (.int 0)) := by
  refine Own.Con.intro (plainFor_of_name pn_8) hO hEL _ (fun m => ef_bCrb m a fr to) ?_
  intro X T0 W0 sf
  subst hfr; subst hto
  have H4 : ts.length ≤ 4000 := by omega
  refine Own.iloadN W0 d46_0 1 rfl (0 : Int32) rfl ?_
  refine Own.iloadN W0 d46_1 2 rfl (Int32.ofNat ts.length) rfl ?_
  refine Own.callS W0 (tw hw 263 rfl) (tw hw 264 rfl) (tw hw 258 rfl) (tw hw 265 rfl) (by decide) (argsL := [(.int (0 : Int32)), (.int (Int32.ofNat ts.length))]) (rest := []) (Own.Con.pay (con_chk hw hEL _ _ (Own.nonneg H4) W0.old) W0 (tw hw 265 rfl) (tw hw 258 rfl) (len := 3) (wd := 0) (by decide) (by decide) (fun _ q => nomatch q)) rfl (lenOf pd_14 rfl) rfl (Nat.le_of_ble_eq_true rfl) d46_2 5 rfl 0 0 (Nat.le_of_ble_eq_true rfl) (Nat.le_of_ble_eq_true rfl) (Nat.le_of_ble_eq_true rfl) (Nat.le_of_ble_eq_true rfl) ?_
  intro v1 T1 h1 u1 W1 R1 hq
  obtain ⟨rfl, eh1⟩ := hq
  have ei1 := eh1.symm; subst ei1
  show Own.Go _ _ _ _ _ 5 #[.val (.ref a), .val (.int (0 : Int32)), .val (.int (Int32.ofNat ts.length)), .unset, .unset] []
  refine Own.iloadN W1 d46_5 6 rfl (Int32.ofNat ts.length) rfl ?_
  refine Own.iloadN W1 d46_6 7 rfl (0 : Int32) rfl ?_
  refine Own.isub W1 d46_7 8 rfl ?_
  rw [Int32.sub_zero]
  refine Own.istoreN W1 d46_8 9 rfl #[.val (.ref a), .val (.int (0 : Int32)), .val (.int (Int32.ofNat ts.length)), .val (.int (Int32.ofNat ts.length)), .unset] rfl ?_
  refine Own.iloadN W1 d46_9 10 rfl (Int32.ofNat ts.length) rfl ?_
  refine Own.newA W1 (tw hw 7 rfl) d46_10 12 rfl (Own.nonneg H4) 16 (by rw [Own.clampN H4]; exact hcap) (by decide) 1 16 (by decide) (by decide) (by decide) (by decide) ?_
  intro T2 h2 o2 c2 g2 W2 E2 A2 s2 k2
  have V2 : Arv G.Z h2 o2 c2 .byte (Int32.ofNat ts.length) (List.replicate 16 (.int 0)) (.int 0) := A2
  refine Own.astore W2 d46_12 14 rfl rfl #[.val (.ref a), .val (.int (0 : Int32)), .val (.int (Int32.ofNat ts.length)), .val (.int (Int32.ofNat ts.length)), .val (.ref o2)] rfl ?_
  refine Own.aloadN W2 d46_14 15 rfl (.ref a) rfl rfl ?_
  refine Own.iloadN W2 d46_15 16 rfl (0 : Int32) rfl ?_
  refine Own.aload W2 d46_16 18 rfl (.ref o2) rfl rfl ?_
  refine Own.iconst W2 d46_18 19 rfl (0 : Int32) rfl ?_
  refine Own.aloadN W2 d46_19 20 rfl (.ref a) rfl rfl ?_
  have X3 : Ext h h2 := E2
  refine Own.arrlen W2 (Ab.ext X3) d46_20 21 rfl ?_
  refine Own.iloadN W2 d46_21 22 rfl (0 : Int32) rfl ?_
  refine Own.isub W2 d46_22 23 rfl ?_
  rw [Int32.sub_zero]
  refine Own.iloadN W2 d46_23 24 rfl (Int32.ofNat ts.length) rfl ?_
  refine Own.callS W2 (tw hw 266 rfl) (tw hw 267 rfl) (tw hw 98 rfl) (tw hw 268 rfl) (by decide) (argsL := [(.int (Int32.ofNat cap)), (.int (Int32.ofNat ts.length))]) (rest := [(.int (0 : Int32)), (.ref o2), (.int (0 : Int32)), (.ref a)]) (Own.Con.pay (con_min hw hEL _ _ (Own.lt_cap hts Hc) W2.old) W2 (tw hw 268 rfl) (tw hw 98 rfl) (len := 3) (wd := 4) (by decide) (by decide) (fun _ q => nomatch q)) rfl (lenOf pd_1 rfl) rfl (Nat.le_of_ble_eq_true rfl) d46_24 27 rfl 1 16 (Nat.le_of_ble_eq_true rfl) (Nat.le_of_ble_eq_true rfl) (Nat.le_of_ble_eq_true rfl) (Nat.le_of_ble_eq_true rfl) ?_
  intro v4 T4 h4 u4 W4 R4 hq
  obtain ⟨rfl, eh4⟩ := hq
  have ei4 := eh4.symm; subst ei4
  have sf5 := R4.safe V2.lt s2
  show Own.Go _ _ _ _ _ 27 #[.val (.ref a), .val (.int (0 : Int32)), .val (.int (Int32.ofNat ts.length)), .val (.int (Int32.ofNat ts.length)), .val (.ref o2)] [(.int (Int32.ofNat ts.length)), (.int (0 : Int32)), (.ref o2), (.int (0 : Int32)), (.ref a)]
  refine Own.acopy W4 (tw hw 269 rfl) (tw hw 220 rfl) (tw hw 218 rfl) (tw hw 219 rfl) (Ab.ext X3) V2 (by decide) (by decide) (Own.nonneg H4) (by rw [show (0 : Int32).toNatClampNeg = 0 by decide, Own.clampN H4, Own.clampN Hc]; omega) (by rw [show (0 : Int32).toNatClampNeg = 0 by decide, Own.clampN H4]; omega) (us := Own.bs ts) (Own.rangePre _ (Own.clampN H4) _ (by decide)) (by rw [show (0 : Int32).toNatClampNeg = 0 by decide, Own.clampN H4, List.length_replicate]; omega) (Nat.le_trans W0.n0 (Nat.le_of_eq g2.symm)) sf5 rfl d46_27 30 rfl (by decide) (Nat.le_of_ble_eq_true rfl) ?_
  intro T6 h6 W6 R6 K6 A6
  have A' := Own.Arv.cong A6 (Own.cp_new (vd := List.replicate 16 (Value.int 0)) (Own.clampN H4) _ (by decide))
  refine Own.aload W6 d46_30 32 rfl (.ref o2) rfl rfl ?_
  have X7 : Ext h h6 := Own.Ext.kp X3 K6 (allS (Nat.le_of_eq g2.symm) all0)
  exact Own.retA W6 (by decide) (by decide) rfl rfl rfl d46_32 ⟨o2, _, rfl, X7, (Nat.le_of_eq g2.symm), A'⟩
set_option maxRecDepth 65536 in
set_option maxHeartbeats 40000000 in
theorem con_cor {G : Own.Gl} (hw : ∀ d ∈ tables_1, d.before G.a0 G.Z = true) (hEL : EW G.Z G.a0 G.EL) {cap : Nat} (Hc : cap ≤ 4000) {a : Addr} {kb : ClassId} {ts : List Int32} {junk : List Value} {h : Heap} (hO : Old G.Z G.n0 h) (Ab : Arv G.Z h a kb .byte (Int32.ofNat cap) (Own.bs ts ++ junk) (.int 0)) (hts : ts.length < cap) (hcap : ts.length ≤ 16) {fr to : Int32} (hfr : fr = 0) (hto : to = Int32.ofNat ts.length) :
    Own.Con G [] bCor #[.ref a, .int fr, .int to] h [] (fun v h' => ∃ (o : Addr) (ko : ClassId), v = some (.ref o) ∧ Ext h h' ∧ h.size ≤ o ∧ Arv G.Z h' o ko .byte (Int32.ofNat ts.length) (Own.bs ts) (.int 0)) := by
  refine Own.Con.intro (plainFor_of_name pn_8) hO hEL _ (fun m => ef_bCor m a fr to) ?_
  intro X T0 W0 sf
  subst hfr; subst hto
  have H4 : ts.length ≤ 4000 := by omega
  refine Own.iloadN W0 d45_0 1 rfl (0 : Int32) rfl ?_
  refine Own.ifNo W0 d45_1 4 (by decide) rfl ?_
  refine Own.iloadN W0 d45_4 5 rfl (Int32.ofNat ts.length) rfl ?_
  refine Own.aloadN W0 d45_5 6 rfl (.ref a) rfl rfl ?_
  refine Own.arrlen W0 Ab d45_6 7 rfl ?_
  refine Own.icmpNo W0 d45_7 10 (XT.ii_eq_f (Own.ne_cap hts Hc)) rfl ?_
  refine Own.aloadN W0 d45_10 11 rfl (.ref a) rfl rfl ?_
  refine Own.iloadN W0 d45_11 12 rfl (0 : Int32) rfl ?_
  refine Own.iloadN W0 d45_12 13 rfl (Int32.ofNat ts.length) rfl ?_
  refine Own.callS W0 (tw hw 260 rfl) (tw hw 261 rfl) (tw hw 258 rfl) (tw hw 262 rfl) (by decide) (argsL := [(.ref a), (.int (0 : Int32)), (.int (Int32.ofNat ts.length))]) (rest := []) (Own.Con.pay (con_crb hw hEL Hc W0.old Ab hts hcap rfl rfl) W0 (tw hw 262 rfl) (tw hw 258 rfl) (len := 3) (wd := 0) (by decide) (by decide) (fun _ q => nomatch q)) rfl (lenOf pd_15 rfl) rfl (Nat.le_of_ble_eq_true rfl) d45_13 16 rfl 1 16 (Nat.le_of_ble_eq_true rfl) (Nat.le_of_ble_eq_true rfl) (Nat.le_of_ble_eq_true rfl) (Nat.le_of_ble_eq_true rfl) ?_
  intro v1 T1 h1 u1 W1 R1 hq
  obtain ⟨o1, c1, rfl, E1, g1, A1⟩ := hq
  show Own.Go _ _ _ _ _ 16 #[.val (.ref a), .val (.int (0 : Int32)), .val (.int (Int32.ofNat ts.length))] [(.ref o1)]
  exact Own.retA W1 (by decide) (by decide) rfl rfl rfl d45_16 ⟨o1, _, rfl, E1, g1, A1⟩
set_option maxRecDepth 65536 in
set_option maxHeartbeats 40000000 in
theorem con_n2 {G : Own.Gl} (hw : ∀ d ∈ tables_1, d.before G.a0 G.Z = true) (hEL : EW G.Z G.a0 G.EL) (hmem : True) {cz : Int32} (hS : Sta G.Z G.Z.heap Own.ST "COMPACT_STRINGS" "Z" (.int cz)) (hcz : ¬ cz = 0) {cap : Nat} {sb b : Addr} {ts : List Int32} {h : Heap} (hO : Old G.Z G.n0 h) (F : Own.SBd G.Z h sb b cap ts) {x : Addr} (hn_x : G.n0 ≤ x) (E0 : Exa G.Z h x "java/lang/String") {v0 c0 : Value} (V : Fld G.Z h x "java/lang/String" "value" "[B" v0) (Cd : Fld G.Z h x "java/lang/String" "coder" "B" c0) (hxb : b ≠ x) (hts : ts.length < cap) (hcap : ts.length ≤ 16) :
    Own.Con G [] bN2 #[.ref x, .ref sb, .null] h [x] (fun v h' => v = none ∧ Keep h h' [x] ∧ Own.Str G.Z h' x ts) := by
  refine Own.Con.intro (plainFor_of_name pn_7) hO hEL _ (fun m => ef_bN2 m x sb) ?_
  intro X T0 W0 sf
  obtain ⟨E, Fv, Fc, Fn, Hr, Hl, Hc, kb, junk, Ab, Hj⟩ := id F
  have sx := sf x (List.mem_singleton.mpr rfl)
  refine Own.aloadN W0 d42_0 1 rfl (.ref x) rfl rfl ?_
  refine Own.initO W0 (tw hw 121 rfl) (tw hw 31 rfl) (tw hw 32 rfl) rfl d42_1 4 rfl (by decide) (by decide) ?_
  intro T1 W1
  refine Own.aloadN W1 d42_4 5 rfl (.ref sb) rfl rfl ?_
  refine Own.callV W1 (tw hw 244 rfl) (tw hw 245 rfl) (fun s q => notFace_of_selects (args := #[]) (mvT (s := s) q (tw hw 247 rfl))) (tw hw 247 rfl) (tw hw 246 rfl) (by decide) (argsL := []) (rest := []) (Own.Con.pay (con_gv hw hEL W1.old F) W1 (tw hw 248 rfl) (tw hw 52 rfl) (len := 3) (wd := 0) (by decide) (by decide) (fun _ q => nomatch q)) E rfl (lenOf pd_16 rfl) rfl (Nat.le_of_ble_eq_true rfl) d42_5 8 rfl 0 0 (Nat.le_of_ble_eq_true rfl) (Nat.le_of_ble_eq_true rfl) (Nat.le_of_ble_eq_true rfl) (Nat.le_of_ble_eq_true rfl) ?_
  intro v2 T2 h2 u2 W2 R2 hq
  obtain ⟨rfl, eh2⟩ := hq
  have ei2 := eh2.symm; subst ei2
  have sf3 := R2.safe E0.lt sx
  show Own.Go _ _ _ _ _ 8 #[.val (.ref x), .val (.ref sb), .val .null, .unset, .unset] [(.ref b)]
  refine Own.astoreN W2 d42_8 9 rfl rfl #[.val (.ref x), .val (.ref sb), .val .null, .val (.ref b), .unset] rfl ?_
  refine Own.aloadN W2 d42_9 10 rfl (.ref sb) rfl rfl ?_
  refine Own.callV W2 (tw hw 249 rfl) (tw hw 228 rfl) (fun s q => Own.notFace_via (args := #[]) (mvT (s := s) q (tw hw 199 rfl)) rfl) (tw hw 250 rfl) (tw hw 223 rfl) (by decide) (argsL := []) (rest := []) (Own.Con.pay (con_sbl hw hEL W2.old F) W2 (tw hw 225 rfl) (tw hw 44 rfl) (len := 3) (wd := 0) (by decide) (by decide) (fun _ q => nomatch q)) E rfl (lenOf pd_11 rfl) rfl (Nat.le_of_ble_eq_true rfl) d42_10 13 rfl 0 0 (Nat.le_of_ble_eq_true rfl) (Nat.le_of_ble_eq_true rfl) (Nat.le_of_ble_eq_true rfl) (Nat.le_of_ble_eq_true rfl) ?_
  intro v4 T4 h4 u4 W4 R4 hq
  obtain ⟨rfl, eh4⟩ := hq
  have ei4 := eh4.symm; subst ei4
  have sf5 := R4.safe E0.lt sf3
  show Own.Go _ _ _ _ _ 13 #[.val (.ref x), .val (.ref sb), .val .null, .val (.ref b), .unset] [(.int (Int32.ofNat ts.length))]
  refine Own.istore W4 d42_13 15 rfl #[.val (.ref x), .val (.ref sb), .val .null, .val (.ref b), .val (.int (Int32.ofNat ts.length))] rfl ?_
  refine Own.aloadN W4 d42_15 16 rfl (.ref sb) rfl rfl ?_
  refine Own.callV W4 (tw hw 251 rfl) (tw hw 252 rfl) (fun s q => notFace_of_selects (args := #[]) (mvT (s := s) q (tw hw 254 rfl))) (tw hw 254 rfl) (tw hw 253 rfl) (by decide) (argsL := []) (rest := []) (Own.Con.pay (con_il hw hEL hmem hS hcz W4.old F) W4 (tw hw 255 rfl) (tw hw 52 rfl) (len := 3) (wd := 0) (by decide) (by decide) (fun _ q => nomatch q)) E rfl (lenOf pd_17 rfl) rfl (Nat.le_of_ble_eq_true rfl) d42_16 19 rfl 0 0 (Nat.le_of_ble_eq_true rfl) (Nat.le_of_ble_eq_true rfl) (Nat.le_of_ble_eq_true rfl) (Nat.le_of_ble_eq_true rfl) ?_
  intro v6 T6 h6 u6 W6 R6 hq
  obtain ⟨rfl, eh6⟩ := hq
  have ei6 := eh6.symm; subst ei6
  have sf7 := R6.safe E0.lt sf5
  show Own.Go _ _ _ _ _ 19 #[.val (.ref x), .val (.ref sb), .val .null, .val (.ref b), .val (.int (Int32.ofNat ts.length))] [(.int (1 : Int32))]
  refine Own.ifNo W6 d42_19 22 (by decide) rfl ?_
  refine Own.aloadN W6 d42_22 23 rfl (.ref x) rfl rfl ?_
  refine Own.iconst W6 d42_23 24 rfl (0 : Int32) rfl ?_
  refine Own.putF W6 (tw hw 133 rfl) Via.refl Cd E0 (Or.inr ⟨(tw hw 9 rfl), rfl, rfl⟩) (tw hw 6 rfl) (ty := .byte) (v' := (.int (0 : Int32))) (by decide) rfl rfl hn_x sf7 d42_24 27 rfl ?_
  intro T8 h8 W8 Q8 k8
  have F8_coder := Fld.same Q8 Cd
  refine Own.aloadN W8 d42_27 28 rfl (.ref x) rfl rfl ?_
  refine Own.aloadN W8 d42_28 29 rfl (.ref b) rfl rfl ?_
  refine Own.iconst W8 d42_29 30 rfl (0 : Int32) rfl ?_
  refine Own.iload W8 d42_30 32 rfl (Int32.ofNat ts.length) rfl ?_
  refine Own.callS W8 (tw hw 256 rfl) (tw hw 257 rfl) (tw hw 258 rfl) (tw hw 259 rfl) (by decide) (argsL := [(.ref b), (.int (0 : Int32)), (.int (Int32.ofNat ts.length))]) (rest := [(.ref x)]) (Own.Con.pay (con_cor hw hEL Hc W8.old (Ab.other Q8 hxb) hts hcap rfl rfl) W8 (tw hw 259 rfl) (tw hw 258 rfl) (len := 3) (wd := 1) (by decide) (by decide) (fun _ q => nomatch q)) rfl (lenOf pd_15 rfl) rfl (Nat.le_of_ble_eq_true rfl) d42_32 35 rfl 1 16 (Nat.le_of_ble_eq_true rfl) (Nat.le_of_ble_eq_true rfl) (Nat.le_of_ble_eq_true rfl) (Nat.le_of_ble_eq_true rfl) ?_
  intro v9 T9 h9 u9 W9 R9 hq
  obtain ⟨o9, c9, rfl, E9, g9, A9⟩ := hq
  show Own.Go _ _ _ _ _ 35 #[.val (.ref x), .val (.ref sb), .val .null, .val (.ref b), .val (.int (Int32.ofNat ts.length))] [(.ref o9), (.ref x)]
  refine Own.putF W9 (tw hw 134 rfl) Via.refl ((V.other Q8 (Or.inr (slot_ne (Or.inr (tw hw 8 rfl)) (Or.inr (tw hw 9 rfl)) (by decide) (t := (.array .byte)) (t' := .byte) (by decide) (by decide)))).ext E9) ((E0.wr Q8).ext E9) (Or.inr ⟨(tw hw 8 rfl), rfl, rfl⟩) (tw hw 6 rfl) (ty := (.array .byte)) (v' := (.ref o9)) (by decide) rfl rfl hn_x (R9.safe (E0.wr Q8).lt (k8 x sf7)) d42_35 38 rfl ?_
  intro T10 h10 W10 Q10 k10
  have F10_value := Fld.same Q10 ((V.other Q8 (Or.inr (slot_ne (Or.inr (tw hw 8 rfl)) (Or.inr (tw hw 9 rfl)) (by decide) (t := (.array .byte)) (t' := .byte) (by decide) (by decide)))).ext E9)
  refine Own.goto W10 d42_38 97 (by decide) (by decide) ?_
  exact Own.retV W10 (by decide) (by decide) rfl d42_97 ⟨rfl, (Keep.wr (Keep.ext (Keep.wr (Keep.refl h [x]) Q8 (Or.inl (by simp))) E9) Q10 (Or.inl (by simp))), (((E0.wr Q8).ext E9).wr Q10), ((F8_coder.ext E9).other Q10 (Or.inr (slot_ne (Or.inr (tw hw 9 rfl)) (Or.inr (tw hw 8 rfl)) (by decide) (t := .byte) (t' := (.array .byte)) (by decide) (by decide)))), Hr, by omega, o9, _, F10_value, (A9.other Q10 (Ne.symm (Nat.ne_of_lt (Nat.lt_of_lt_of_le F8_coder.lt g9))))⟩
set_option maxRecDepth 65536 in
set_option maxHeartbeats 40000000 in
theorem con_n1 {G : Own.Gl} (hw : ∀ d ∈ tables_1, d.before G.a0 G.Z = true) (hEL : EW G.Z G.a0 G.EL) (hmem : True) {cz : Int32} (hS : Sta G.Z G.Z.heap Own.ST "COMPACT_STRINGS" "Z" (.int cz)) (hcz : ¬ cz = 0) {cap : Nat} {sb b : Addr} {ts : List Int32} {h : Heap} (hO : Old G.Z G.n0 h) (F : Own.SBd G.Z h sb b cap ts) {x : Addr} (hn_x : G.n0 ≤ x) (E0 : Exa G.Z h x "java/lang/String") {v0 c0 : Value} (V : Fld G.Z h x "java/lang/String" "value" "[B" v0) (Cd : Fld G.Z h x "java/lang/String" "coder" "B" c0) (hxb : b ≠ x) (hts : ts.length < cap) (hcap : ts.length ≤ 16) :
    Own.Con G [] bN1 #[.ref x, .ref sb] h [x] (fun v h' => v = none ∧ Keep h h' [x] ∧ Own.Str G.Z h' x ts) := by
  refine Own.Con.intro (plainFor_of_name pn_7) hO hEL _ (fun m => ef_bN1 m x sb) ?_
  intro X T0 W0 sf
  have sx := sf x (List.mem_singleton.mpr rfl)
  refine Own.aloadN W0 d41_0 1 rfl (.ref x) rfl rfl ?_
  refine Own.aloadN W0 d41_1 2 rfl (.ref sb) rfl rfl ?_
  refine Own.aconstNull W0 d41_2 3 rfl ?_
  refine Own.callX W0 rfl (tw hw 241 rfl) (tw hw 242 rfl) (tw hw 243 rfl) (by decide) (argsL := [(.ref sb), .null]) (rest := []) (Own.Con.pay (con_n2 hw hEL hmem hS hcz W0.old F hn_x E0 V Cd hxb hts hcap) W0 (tw hw 243 rfl) (tw hw 5 rfl) (len := 3) (wd := 0) (by decide) (by decide) (fun y hy => by cases List.mem_singleton.mp hy; exact ⟨E0.lt, sx⟩)) rfl (lenOf pd_18 rfl) rfl (Nat.le_of_ble_eq_true rfl) d41_3 6 rfl 1 16 (Nat.le_of_ble_eq_true rfl) (Nat.le_of_ble_eq_true rfl) (Nat.le_of_ble_eq_true rfl) (Nat.le_of_ble_eq_true rfl) ?_
  intro v1 T1 h1 u1 W1 R1 hq
  obtain ⟨rfl, K1, S1⟩ := hq
  show Own.Go _ _ _ _ _ 6 #[.val (.ref x), .val (.ref sb)] []
  exact Own.retV W1 (by decide) (by decide) rfl d41_6 ⟨rfl, K1, S1⟩
set_option maxRecDepth 65536 in
set_option maxHeartbeats 40000000 in
theorem con_tos {G : Own.Gl} (hw : ∀ d ∈ tables_1, d.before G.a0 G.Z = true) (hEL : EW G.Z G.a0 G.EL) (hmem : True) {cz : Int32} (hS : Sta G.Z G.Z.heap Own.ST "COMPACT_STRINGS" "Z" (.int cz)) (hcz : ¬ cz = 0) {cap : Nat} {sb b : Addr} {ts : List Int32} {h : Heap} (hO : Old G.Z G.n0 h) (F : Own.SBd G.Z h sb b cap ts) (hts : ts.length < cap) (hcap : ts.length ≤ 16) :
    Own.Con G [] bTos #[.ref sb] h [] (fun v h' => ∃ o : Addr, v = some (.ref o) ∧ Ext h h' ∧ h.size ≤ o ∧ Own.Str G.Z h' o ts) := by
  refine Own.Con.intro (plainFor_of_name pn_6) hO hEL _ (fun m => ef_bTos m sb) ?_
  intro X T0 W0 sf
  refine Own.newO W0 (tw hw 237 rfl) (tw hw 6 rfl) (tw hw 5 rfl) d40_0 3 rfl 1 4 (by decide) (by decide) (by decide) (by decide) ?_
  intro T1 h1 o1 g1 W1 E1 A1 D1 s1 k1
  have F1_value : Fld G.Z h1 o1 "java/lang/String" "value" "[B" .null := D1 (Or.inr (tw hw 8 rfl)) (ty := (.array .byte)) (by decide)
  have F1_coder : Fld G.Z h1 o1 "java/lang/String" "coder" "B" (.int (0 : Int32)) := D1 (Or.inr (tw hw 9 rfl)) (ty := .byte) (by decide)
  refine Own.dup W1 d40_3 4 rfl rfl ?_
  refine Own.aloadN W1 d40_4 5 rfl (.ref sb) rfl rfl ?_
  have X2 : Ext h h1 := E1
  refine Own.callX W1 rfl (tw hw 238 rfl) (tw hw 239 rfl) (tw hw 240 rfl) (by decide) (argsL := [(.ref sb)]) (rest := [(.ref o1)]) (Own.Con.pay (con_n1 hw hEL hmem hS hcz W1.old (F.ext X2) (Nat.le_trans W0.n0 (Nat.le_of_eq g1.symm)) A1 F1_value F1_coder (Nat.ne_of_lt (Nat.lt_of_lt_of_le F.ltb (Nat.le_of_eq g1.symm))) hts hcap) W1 (tw hw 240 rfl) (tw hw 5 rfl) (len := 3) (wd := 1) (by decide) (by decide) (fun y hy => by cases List.mem_singleton.mp hy; exact ⟨A1.lt, s1⟩)) rfl (lenOf pd_19 rfl) rfl (Nat.le_of_ble_eq_true rfl) d40_5 8 rfl 2 20 (Nat.le_of_ble_eq_true rfl) (Nat.le_of_ble_eq_true rfl) (Nat.le_of_ble_eq_true rfl) (Nat.le_of_ble_eq_true rfl) ?_
  intro v3 T3 h3 u3 W3 R3 hq
  obtain ⟨rfl, K3, S3⟩ := hq
  show Own.Go _ _ _ _ _ 8 #[.val (.ref sb)] [(.ref o1)]
  have X4 : Ext h h3 := Own.Ext.kp X2 K3 (allS (Nat.le_of_eq g1.symm) all0)
  exact Own.retA W3 (by decide) (by decide) rfl rfl rfl d40_8 ⟨o1, rfl, X4, (Nat.le_of_eq g1.symm), S3⟩
set_option maxRecDepth 65536 in
set_option maxHeartbeats 40000000 in
theorem con_newBB {G : Own.Gl} (hw : ∀ d ∈ tables_1, d.before G.a0 G.Z = true) (hEL : EW G.Z G.a0 G.EL) {x b : Addr} {cd : Int32} (hnar : narrow .byte (.int cd) = .int cd) (hfit : fits .byte (.int cd) = true) {h : Heap} (hO : Old G.Z G.n0 h) (hn_x : G.n0 ≤ x) (E : Exa G.Z h x "java/lang/String") {v0 c0 : Value} (V : Fld G.Z h x "java/lang/String" "value" "[B" v0) (Cd : Fld G.Z h x "java/lang/String" "coder" "B" c0) :
    Own.Con G [] bNewBB #[.ref x, .ref b, .int cd] h [x] (fun v h' => v = none ∧ Keep h h' [x] ∧ Exa G.Z h' x "java/lang/String" ∧ Fld G.Z h' x "java/lang/String" "value" "[B" (.ref b) ∧ Fld G.Z h' x "java/lang/String" "coder" "B" (.int cd)) := by
  refine Own.Con.intro (plainFor_of_name pn_7) hO hEL _ (fun m => ef_bNewBB m x b cd) ?_
  intro X T0 W0 sf
  have sx := sf x (List.mem_singleton.mpr rfl)
  refine Own.aloadN W0 d24_0 1 rfl (.ref x) rfl rfl ?_
  refine Own.initO W0 (tw hw 121 rfl) (tw hw 31 rfl) (tw hw 32 rfl) rfl d24_1 4 rfl (by decide) (by decide) ?_
  intro T1 W1
  refine Own.aloadN W1 d24_4 5 rfl (.ref x) rfl rfl ?_
  refine Own.aloadN W1 d24_5 6 rfl (.ref b) rfl rfl ?_
  refine Own.putF W1 (tw hw 134 rfl) Via.refl V E (Or.inr ⟨(tw hw 8 rfl), rfl, rfl⟩) (tw hw 6 rfl) (ty := (.array .byte)) (v' := (.ref b)) (by decide) rfl rfl hn_x sx d24_6 9 rfl ?_
  intro T2 h2 W2 Q2 k2
  have F2_value := Fld.same Q2 V
  refine Own.aloadN W2 d24_9 10 rfl (.ref x) rfl rfl ?_
  refine Own.iloadN W2 d24_10 11 rfl cd rfl ?_
  refine Own.putF W2 (tw hw 133 rfl) Via.refl (Cd.other Q2 (Or.inr (slot_ne (Or.inr (tw hw 9 rfl)) (Or.inr (tw hw 8 rfl)) (by decide) (t := .byte) (t' := (.array .byte)) (by decide) (by decide)))) (E.wr Q2) (Or.inr ⟨(tw hw 9 rfl), rfl, rfl⟩) (tw hw 6 rfl) (ty := .byte) (v' := (.int cd)) (by decide) hnar hfit hn_x (k2 x sx) d24_11 14 rfl ?_
  intro T3 h3 W3 Q3 k3
  have F3_coder := Fld.same Q3 (Cd.other Q2 (Or.inr (slot_ne (Or.inr (tw hw 9 rfl)) (Or.inr (tw hw 8 rfl)) (by decide) (t := .byte) (t' := (.array .byte)) (by decide) (by decide))))
  exact Own.retV W3 (by decide) (by decide) rfl d24_14 ⟨rfl, (Keep.wr (Keep.wr (Keep.refl h [x]) Q2 (Or.inl (List.mem_singleton.mpr rfl))) Q3 (Or.inl (List.mem_singleton.mpr rfl))), ((E.wr Q2).wr Q3), (F2_value.other Q3 (Or.inr (slot_ne (Or.inr (tw hw 8 rfl)) (Or.inr (tw hw 9 rfl)) (by decide) (t := (.array .byte)) (t' := .byte) (by decide) (by decide)))), F3_coder⟩
set_option maxRecDepth 65536 in
set_option maxHeartbeats 40000000 in
theorem con_canE {G : Own.Gl} (hw : ∀ d ∈ tables_1, d.before G.a0 G.Z = true) (hEL : EW G.Z G.a0 G.EL) (ch : Int32) (hch : ¬ ch < 0 ∧ ¬ (255 : Int32) < ch) {h : Heap} (hO : Old G.Z G.n0 h) :
    Own.Con G [] bCanE #[.int ch] h [] (fun v h' => v = some (.int 1) ∧ h' = h) := by
  refine Own.Con.intro (plainFor_of_name pn_9) hO hEL _ (fun m => ef_bCanE m ch) ?_
  intro X T0 W0 sf
  refine Own.iloadN W0 d22_0 1 rfl ch rfl ?_
  refine Own.sipush W0 d22_1 4 rfl (255 : Int32) rfl ?_
  refine Own.icmpNo W0 d22_4 7 (XT.ii_gt_f hch.2) rfl ?_
  refine Own.iconst W0 d22_7 8 rfl (1 : Int32) rfl ?_
  refine Own.goto W0 d22_8 12 (by decide) (by decide) ?_
  exact Own.retB W0 (by decide) (by decide) rfl d22_12 rfl ⟨rfl, rfl⟩
set_option maxRecDepth 65536 in
set_option maxHeartbeats 40000000 in
theorem con_toB {G : Own.Gl} (hw : ∀ d ∈ tables_1, d.before G.a0 G.Z = true) (hEL : EW G.Z G.a0 G.EL) (ch : Int32) {h : Heap} (hO : Old G.Z G.n0 h) :
    Own.Con G [] bToB #[.int ch] h [] (fun v h' => ∃ (b : Addr) (kb : ClassId), v = some (.ref b) ∧ Ext h h' ∧ h.size ≤ b ∧ Arv G.Z h' b kb .byte 1 [.int ch.toInt8.toInt32] (.int 0)) := by
  refine Own.Con.intro (plainFor_of_name pn_9) hO hEL _ (fun m => ef_bToB m ch) ?_
  intro X T0 W0 sf
  refine Own.iconst W0 d23_0 1 rfl (1 : Int32) rfl ?_
  refine Own.newA W0 (tw hw 7 rfl) d23_1 3 rfl (by decide) 1 (by decide) (by decide) 1 1 (by decide) (by decide) (by decide) (by decide) ?_
  intro T1 h1 o1 c1 g1 W1 E1 A1 s1 k1
  have V1 : Arv G.Z h1 o1 c1 .byte (1 : Int32) [(.int (0 : Int32))] (.int (0 : Int32)) := A1
  refine Own.dup W1 d23_3 4 rfl rfl ?_
  refine Own.iconst W1 d23_4 5 rfl (0 : Int32) rfl ?_
  refine Own.iloadN W1 d23_5 6 rfl ch rfl ?_
  refine Own.i2b W1 d23_6 7 rfl ?_
  refine Own.bastore W1 V1 0 (by decide) (by decide) (Nat.le_of_ble_eq_true rfl) (Nat.le_trans W0.n0 (Nat.le_of_eq g1.symm)) s1 (x' := ch.toInt8.toInt32) (Own.nar_b8 _) d23_7 8 rfl ?_
  intro T2 h2 W2 Q2 A2 k2
  have V2 : Arv G.Z h2 o1 c1 .byte (1 : Int32) [(.int ch.toInt8.toInt32)] (.int (0 : Int32)) := A2
  have X3 : Ext h h1 := E1
  have X4 : Ext h h2 := Own.Ext.wr' X3 Q2 (Nat.le_of_eq g1.symm)
  exact Own.retA W2 (by decide) (by decide) rfl rfl rfl d23_8 ⟨o1, c1, rfl, X4, (Nat.le_of_eq g1.symm), V2⟩
set_option maxRecDepth 65536 in
set_option maxHeartbeats 40000000 in
theorem con_valOf {G : Own.Gl} (hw : ∀ d ∈ tables_1, d.before G.a0 G.Z = true) (hEL : EW G.Z G.a0 G.EL) (hmem : True) {cz : Int32} (hS : Sta G.Z G.Z.heap Own.ST "COMPACT_STRINGS" "Z" (.int cz)) (hcz : ¬ cz = 0) (ch : Int32) (hch : ¬ ch < 0 ∧ ¬ (255 : Int32) < ch) {h : Heap} (hO : Old G.Z G.n0 h) :
    Own.Con G [] bValOf #[.int ch] h [] (fun v h' => ∃ a : Addr, v = some (.ref a) ∧ Ext h h' ∧ h.size ≤ a ∧ Own.Str G.Z h' a [ch]) := by
  refine Own.Con.intro (plainFor_of_name pn_7) hO hEL _ (fun m => ef_bValOf m ch) ?_
  intro X T0 W0 sf
  refine Own.getS W0 (tw hw 122 rfl) Via.refl (W0.sta hS) d21_0 3 rfl ?_
  intro T1 W1
  refine Own.ifNo W1 d21_3 6 (XT.i0_eq_f hcz) rfl ?_
  refine Own.iloadN W1 d21_6 7 rfl ch rfl ?_
  refine Own.callS W1 (tw hw 138 rfl) (tw hw 139 rfl) (tw hw 140 rfl) (tw hw 141 rfl) (by decide) (argsL := [(.int ch)]) (rest := []) (Own.Con.pay (con_canE hw hEL ch hch W1.old) W1 (tw hw 141 rfl) (tw hw 140 rfl) (len := 3) (wd := 0) (by decide) (by decide) (fun _ q => nomatch q)) rfl (lenOf pd_20 rfl) rfl (Nat.le_of_ble_eq_true rfl) d21_7 10 rfl 0 0 (Nat.le_of_ble_eq_true rfl) (Nat.le_of_ble_eq_true rfl) (Nat.le_of_ble_eq_true rfl) (Nat.le_of_ble_eq_true rfl) ?_
  intro v2 T2 h2 u2 W2 R2 hq
  obtain ⟨rfl, eh2⟩ := hq
  have ei2 := eh2.symm; subst ei2
  show Own.Go _ _ _ _ _ 10 #[.val (.int ch)] [(.int (1 : Int32))]
  refine Own.ifNo W2 d21_10 13 (by decide) rfl ?_
  refine Own.newO W2 (tw hw 142 rfl) (tw hw 6 rfl) (tw hw 5 rfl) d21_13 16 rfl 1 4 (by decide) (by decide) (by decide) (by decide) ?_
  intro T3 h3 o3 g3 W3 E3 A3 D3 s3 k3
  have F3_value : Fld G.Z h3 o3 "java/lang/String" "value" "[B" .null := D3 (Or.inr (tw hw 8 rfl)) (ty := (.array .byte)) (by decide)
  have F3_coder : Fld G.Z h3 o3 "java/lang/String" "coder" "B" (.int (0 : Int32)) := D3 (Or.inr (tw hw 9 rfl)) (ty := .byte) (by decide)
  refine Own.dup W3 d21_16 17 rfl rfl ?_
  refine Own.iloadN W3 d21_17 18 rfl ch rfl ?_
  refine Own.callS W3 (tw hw 143 rfl) (tw hw 144 rfl) (tw hw 140 rfl) (tw hw 145 rfl) (by decide) (argsL := [(.int ch)]) (rest := [(.ref o3), (.ref o3)]) (Own.Con.pay (con_toB hw hEL ch W3.old) W3 (tw hw 145 rfl) (tw hw 140 rfl) (len := 3) (wd := 2) (by decide) (by decide) (fun _ q => nomatch q)) rfl (lenOf pd_21 rfl) rfl (Nat.le_of_ble_eq_true rfl) d21_18 21 rfl 2 5 (Nat.le_of_ble_eq_true rfl) (Nat.le_of_ble_eq_true rfl) (Nat.le_of_ble_eq_true rfl) (Nat.le_of_ble_eq_true rfl) ?_
  intro v4 T4 h4 u4 W4 R4 hq
  obtain ⟨o4, c4, rfl, E4, g4, A4⟩ := hq
  show Own.Go _ _ _ _ _ 21 #[.val (.int ch)] [(.ref o4), (.ref o3), (.ref o3)]
  refine Own.iconst W4 d21_21 22 rfl (0 : Int32) rfl ?_
  have X5 : Ext h3 h4 := E4
  refine Own.callX W4 rfl (tw hw 146 rfl) (tw hw 147 rfl) (tw hw 148 rfl) (by decide) (argsL := [(.ref o4), (.int (0 : Int32))]) (rest := [(.ref o3)]) (Own.Con.pay (con_newBB hw hEL (x := o3) (b := o4) (cd := 0) rfl rfl W4.old (Nat.le_trans W0.n0 (Nat.le_of_eq g3.symm)) (A3.ext X5) (F3_value.ext X5) (F3_coder.ext X5)) W4 (tw hw 148 rfl) (tw hw 5 rfl) (len := 3) (wd := 1) (by decide) (by decide) (fun y hy => by cases List.mem_singleton.mp hy; exact ⟨(A3.ext X5).lt, (R4.safe A3.lt s3)⟩)) rfl (lenOf pd_22 rfl) rfl (Nat.le_of_ble_eq_true rfl) d21_22 25 rfl 2 5 (Nat.le_of_ble_eq_true rfl) (Nat.le_of_ble_eq_true rfl) (Nat.le_of_ble_eq_true rfl) (Nat.le_of_ble_eq_true rfl) ?_
  intro v6 T6 h6 u6 W6 R6 hq
  obtain ⟨rfl, K6, Ex6, Va6, Co6⟩ := hq
  show Own.Go _ _ _ _ _ 25 #[.val (.int ch)] [(.ref o3)]
  have X7 : Ext h h3 := E3
  have X8 : Ext h h4 := Own.Ext.tr X7 E4
  have X9 : Ext h h6 := Own.Ext.kp X8 K6 (allS (Nat.le_of_eq g3.symm) all0)
  exact Own.retA W6 (by decide) (by decide) rfl rfl rfl d21_25 ⟨o3, rfl, X9, (Nat.le_of_eq g3.symm), Ex6, Co6, by intro c hc; cases List.mem_singleton.mp hc; exact hch, Nat.le_of_ble_eq_true rfl, o4, c4, Va6, (A4.keep K6 (ninS (Ne.symm (Nat.ne_of_lt (Nat.lt_of_lt_of_le A3.lt g4))) nin0))⟩
set_option maxRecDepth 65536 in
set_option maxHeartbeats 40000000 in
theorem con_min2 {G : Own.Gl} (hw : ∀ d ∈ tables_1, d.before G.a0 G.Z = true) (hEL : EW G.Z G.a0 G.EL) (i j : Int32) (hij : ¬ i < j) {h : Heap} (hO : Old G.Z G.n0 h) :
    Own.Con G [] bMin2 #[.int i, .int j] h [] (fun v h' => v = some (.int j) ∧ h' = h) := by
  refine Own.Con.intro (by decide +kernel) hO hEL _ (fun m => ef_bMin2 m i j) ?_
  intro X T0 W0 sf
  refine Own.iloadN W0 d48_0 1 rfl i rfl ?_
  refine Own.iloadN W0 d48_1 2 rfl j rfl ?_
  by_cases hq : j < i
  · skip
    refine Own.icmpYes W0 d48_2 9 (XT.ii_gt_t hq) (by decide) (by decide) ?_
    refine Own.iloadN W0 d48_9 10 rfl j rfl ?_
    exact Own.retI W0 (by decide) (by decide) rfl d48_10 ⟨rfl, rfl⟩
  · skip
    refine Own.icmpNo W0 d48_2 5 (XT.ii_gt_f hq) rfl ?_
    refine Own.iloadN W0 d48_5 6 rfl i rfl ?_
    refine Own.goto W0 d48_6 10 (by decide) (by decide) ?_
    exact Own.retI W0 (by decide) (by decide) rfl d48_10 ⟨by rw [Own.lt_antisymm' hij hq], rfl⟩
set_option maxRecDepth 65536 in
set_option maxHeartbeats 40000000 in
theorem con_crg {G : Own.Gl} (hw : ∀ d ∈ tables_1, d.before G.a0 G.Z = true) (hEL : EW G.Z G.a0 G.EL) {cap f t : Nat} (Hc : cap ≤ 4000) (hft : f ≤ t) (htc : t ≤ cap) (hC : t - f ≤ 16) {a : Addr} {kb : ClassId} {vs : List Value} {h : Heap} (hO : Old G.Z G.n0 h) (Ab : Arv G.Z h a kb .byte (Int32.ofNat cap) vs (.int 0)) (hvs : vs.length = cap) {fr to : Int32} (hfr : fr = Int32.ofNat f) (hto : to = Int32.ofNat t) :
    Own.Con G [] bCrg #[.ref a, .int fr, .int to] h [] (fun v h' => ∃ (o : Addr) (ko : ClassId), v = some (.ref o) ∧ Ext h h' ∧ h.size ≤ o ∧ Arv G.Z h' o ko .byte (Int32.ofNat (t - f)) ((vs.drop f).take (t - f)) (.int 0)) := by
  refine Own.Con.intro (plainFor_of_name pn_8) hO hEL _ (fun m => ef_bCrg m a fr to) ?_
  intro X T0 W0 sf
  subst hfr; subst hto
  refine Own.iloadN W0 d46_0 1 rfl (Int32.ofNat f) rfl ?_
  refine Own.iloadN W0 d46_1 2 rfl (Int32.ofNat t) rfl ?_
  refine Own.callS W0 (tw hw 263 rfl) (tw hw 264 rfl) (tw hw 258 rfl) (tw hw 265 rfl) (by decide) (argsL := [(.int (Int32.ofNat f)), (.int (Int32.ofNat t))]) (rest := []) (Own.Con.pay (con_chk hw hEL _ _ (Own.nlt_nat hft (by omega)) W0.old) W0 (tw hw 265 rfl) (tw hw 258 rfl) (len := 3) (wd := 0) (by decide) (by decide) (fun _ q => nomatch q)) rfl (lenOf pd_14 rfl) rfl (Nat.le_of_ble_eq_true rfl) d46_2 5 rfl 0 0 (Nat.le_of_ble_eq_true rfl) (Nat.le_of_ble_eq_true rfl) (Nat.le_of_ble_eq_true rfl) (Nat.le_of_ble_eq_true rfl) ?_
  intro v1 T1 h1 u1 W1 R1 hq
  obtain ⟨rfl, eh1⟩ := hq
  have ei1 := eh1.symm; subst ei1
  show Own.Go _ _ _ _ _ 5 #[.val (.ref a), .val (.int (Int32.ofNat f)), .val (.int (Int32.ofNat t)), .unset, .unset] []
  refine Own.iloadN W1 d46_5 6 rfl (Int32.ofNat t) rfl ?_
  refine Own.iloadN W1 d46_6 7 rfl (Int32.ofNat f) rfl ?_
  refine Own.isub W1 d46_7 8 rfl ?_
  rw [Own.sub_nat hft (by omega)]
  refine Own.istoreN W1 d46_8 9 rfl #[.val (.ref a), .val (.int (Int32.ofNat f)), .val (.int (Int32.ofNat t)), .val (.int (Int32.ofNat (t - f))), .unset] rfl ?_
  refine Own.iloadN W1 d46_9 10 rfl (Int32.ofNat (t - f)) rfl ?_
  refine Own.newA W1 (tw hw 7 rfl) d46_10 12 rfl (Own.nonneg (by omega)) 16 (by rw [Own.clampN (by omega)]; exact hC) (by decide) 1 16 (by decide) (by decide) (by decide) (by decide) ?_
  intro T2 h2 o2 c2 g2 W2 E2 A2 s2 k2
  have V2 : Arv G.Z h2 o2 c2 .byte (Int32.ofNat (t - f)) (List.replicate 16 (.int 0)) (.int 0) := A2
  refine Own.astore W2 d46_12 14 rfl rfl #[.val (.ref a), .val (.int (Int32.ofNat f)), .val (.int (Int32.ofNat t)), .val (.int (Int32.ofNat (t - f))), .val (.ref o2)] rfl ?_
  refine Own.aloadN W2 d46_14 15 rfl (.ref a) rfl rfl ?_
  refine Own.iloadN W2 d46_15 16 rfl (Int32.ofNat f) rfl ?_
  refine Own.aload W2 d46_16 18 rfl (.ref o2) rfl rfl ?_
  refine Own.iconst W2 d46_18 19 rfl (0 : Int32) rfl ?_
  refine Own.aloadN W2 d46_19 20 rfl (.ref a) rfl rfl ?_
  have X3 : Ext h h2 := E2
  refine Own.arrlen W2 (Ab.ext X3) d46_20 21 rfl ?_
  refine Own.iloadN W2 d46_21 22 rfl (Int32.ofNat f) rfl ?_
  refine Own.isub W2 d46_22 23 rfl ?_
  rw [Own.sub_nat (Nat.le_trans hft htc) Hc]
  refine Own.iloadN W2 d46_23 24 rfl (Int32.ofNat (t - f)) rfl ?_
  refine Own.callS W2 (tw hw 266 rfl) (tw hw 267 rfl) (tw hw 98 rfl) (tw hw 268 rfl) (by decide) (argsL := [(.int (Int32.ofNat (cap - f))), (.int (Int32.ofNat (t - f)))]) (rest := [(.int (0 : Int32)), (.ref o2), (.int (Int32.ofNat f)), (.ref a)]) (Own.Con.pay (con_min2 hw hEL _ _ (Own.nlt_nat (by omega) (by omega)) W2.old) W2 (tw hw 268 rfl) (tw hw 98 rfl) (len := 3) (wd := 4) (by decide) (by decide) (fun _ q => nomatch q)) rfl (lenOf pd_1 rfl) rfl (Nat.le_of_ble_eq_true rfl) d46_24 27 rfl 1 16 (Nat.le_of_ble_eq_true rfl) (Nat.le_of_ble_eq_true rfl) (Nat.le_of_ble_eq_true rfl) (Nat.le_of_ble_eq_true rfl) ?_
  intro v4 T4 h4 u4 W4 R4 hq
  obtain ⟨rfl, eh4⟩ := hq
  have ei4 := eh4.symm; subst ei4
  have sf5 := R4.safe V2.lt s2
  show Own.Go _ _ _ _ _ 27 #[.val (.ref a), .val (.int (Int32.ofNat f)), .val (.int (Int32.ofNat t)), .val (.int (Int32.ofNat (t - f))), .val (.ref o2)] [(.int (Int32.ofNat (t - f))), (.int (0 : Int32)), (.ref o2), (.int (Int32.ofNat f)), (.ref a)]
  refine Own.acopy W4 (tw hw 269 rfl) (tw hw 220 rfl) (tw hw 218 rfl) (tw hw 219 rfl) (Ab.ext X3) V2 (Own.nonneg (by omega)) (by decide) (Own.nonneg (by omega)) (by rw [Own.clampN (by omega), Own.clampN (by omega), Own.clampN Hc]; omega) (by rw [show (0 : Int32).toNatClampNeg = 0 by decide, Own.clampN (by omega)]; omega) (us := (vs.drop f).take (t - f)) (Own.rangeDrop _ (by omega) _ _ (Own.clampN (by omega)) (Own.clampN (by omega))) (by rw [show (0 : Int32).toNatClampNeg = 0 by decide, Own.clampN (by omega), List.length_replicate]; omega) (Nat.le_trans W0.n0 (Nat.le_of_eq g2.symm)) sf5 rfl d46_27 30 rfl (by decide) (Nat.le_of_ble_eq_true rfl) ?_
  intro T6 h6 W6 R6 K6 A6
  have A' := Own.Arv.cong A6 (Own.cp_new2 (vd := List.replicate 16 (Value.int 0)) (by rw [Own.clampN (by omega), List.length_take, List.length_drop]; omega) _ (by decide))
  refine Own.aload W6 d46_30 32 rfl (.ref o2) rfl rfl ?_
  have X7 : Ext h h6 := Own.Ext.kp X3 K6 (allS (Nat.le_of_eq g2.symm) all0)
  exact Own.retA W6 (by decide) (by decide) rfl rfl rfl d46_32 ⟨o2, _, rfl, X7, (Nat.le_of_eq g2.symm), A'⟩
set_option maxRecDepth 65536 in
set_option maxHeartbeats 40000000 in
theorem con_cog {G : Own.Gl} (hw : ∀ d ∈ tables_1, d.before G.a0 G.Z = true) (hEL : EW G.Z G.a0 G.EL) {cap f t : Nat} (Hc : cap ≤ 4000) (hft : f ≤ t) (htc : t ≤ cap) (hC : t - f ≤ 16) {a : Addr} {kb : ClassId} {vs : List Value} {h : Heap} (hO : Old G.Z G.n0 h) (Ab : Arv G.Z h a kb .byte (Int32.ofNat cap) vs (.int 0)) (hvs : vs.length = cap) {fr to : Int32} (hfr : fr = Int32.ofNat f) (hto : to = Int32.ofNat t) (hno : ¬ (f = 0 ∧ t = cap)) :
    Own.Con G [] bCog #[.ref a, .int fr, .int to] h [] (fun v h' => ∃ (o : Addr) (ko : ClassId), v = some (.ref o) ∧ Ext h h' ∧ h.size ≤ o ∧ Arv G.Z h' o ko .byte (Int32.ofNat (t - f)) ((vs.drop f).take (t - f)) (.int 0)) := by
  refine Own.Con.intro (plainFor_of_name pn_8) hO hEL _ (fun m => ef_bCog m a fr to) ?_
  intro X T0 W0 sf
  subst hfr; subst hto
  refine Own.iloadN W0 d45_0 1 rfl (Int32.ofNat f) rfl ?_
  by_cases hf0 : (Int32.ofNat f) = (0 : Int32)
  · skip
    refine Own.ifNo W0 d45_1 4 (XT.i0_ne_f hf0) rfl ?_
    refine Own.iloadN W0 d45_4 5 rfl (Int32.ofNat t) rfl ?_
    refine Own.aloadN W0 d45_5 6 rfl (.ref a) rfl rfl ?_
    refine Own.arrlen W0 Ab d45_6 7 rfl ?_
    refine Own.icmpNo W0 d45_7 10 (XT.ii_eq_f (fun q => hno ⟨Own.eq0_nat (by omega) hf0, Own.eq_nat (by omega) Hc q⟩)) rfl ?_
    refine Own.aloadN W0 d45_10 11 rfl (.ref a) rfl rfl ?_
    refine Own.iloadN W0 d45_11 12 rfl (Int32.ofNat f) rfl ?_
    refine Own.iloadN W0 d45_12 13 rfl (Int32.ofNat t) rfl ?_
    refine Own.callS W0 (tw hw 260 rfl) (tw hw 261 rfl) (tw hw 258 rfl) (tw hw 262 rfl) (by decide) (argsL := [(.ref a), (.int (Int32.ofNat f)), (.int (Int32.ofNat t))]) (rest := []) (Own.Con.pay (con_crg hw hEL Hc hft htc hC W0.old Ab hvs rfl rfl) W0 (tw hw 262 rfl) (tw hw 258 rfl) (len := 3) (wd := 0) (by decide) (by decide) (fun _ q => nomatch q)) rfl (lenOf pd_15 rfl) rfl (Nat.le_of_ble_eq_true rfl) d45_13 16 rfl 1 16 (Nat.le_of_ble_eq_true rfl) (Nat.le_of_ble_eq_true rfl) (Nat.le_of_ble_eq_true rfl) (Nat.le_of_ble_eq_true rfl) ?_
    intro v1 T1 h1 u1 W1 R1 hq
    obtain ⟨o1, c1, rfl, E1, g1, A1⟩ := hq
    show Own.Go _ _ _ _ _ 16 #[.val (.ref a), .val (.int (Int32.ofNat f)), .val (.int (Int32.ofNat t))] [(.ref o1)]
    exact Own.retA W1 (by decide) (by decide) rfl rfl rfl d45_16 ⟨o1, _, rfl, E1, g1, A1⟩
  · skip
    refine Own.ifYes W0 d45_1 10 (XT.i0_ne_t hf0) (by decide) (by decide) ?_
    refine Own.aloadN W0 d45_10 11 rfl (.ref a) rfl rfl ?_
    refine Own.iloadN W0 d45_11 12 rfl (Int32.ofNat f) rfl ?_
    refine Own.iloadN W0 d45_12 13 rfl (Int32.ofNat t) rfl ?_
    refine Own.callS W0 (tw hw 260 rfl) (tw hw 261 rfl) (tw hw 258 rfl) (tw hw 262 rfl) (by decide) (argsL := [(.ref a), (.int (Int32.ofNat f)), (.int (Int32.ofNat t))]) (rest := []) (Own.Con.pay (con_crg hw hEL Hc hft htc hC W0.old Ab hvs rfl rfl) W0 (tw hw 262 rfl) (tw hw 258 rfl) (len := 3) (wd := 0) (by decide) (by decide) (fun _ q => nomatch q)) rfl (lenOf pd_15 rfl) rfl (Nat.le_of_ble_eq_true rfl) d45_13 16 rfl 1 16 (Nat.le_of_ble_eq_true rfl) (Nat.le_of_ble_eq_true rfl) (Nat.le_of_ble_eq_true rfl) (Nat.le_of_ble_eq_true rfl) ?_
    intro v2 T2 h2 u2 W2 R2 hq
    obtain ⟨o2, c2, rfl, E2, g2, A2⟩ := hq
    show Own.Go _ _ _ _ _ 16 #[.val (.ref a), .val (.int (Int32.ofNat f)), .val (.int (Int32.ofNat t))] [(.ref o2)]
    exact Own.retA W2 (by decide) (by decide) rfl rfl rfl d45_16 ⟨o2, _, rfl, E2, g2, A2⟩
set_option maxRecDepth 65536 in
set_option maxHeartbeats 40000000 in
theorem con_ns {G : Own.Gl} (hw : ∀ d ∈ tables_1, d.before G.a0 G.Z = true) (hEL : EW G.Z G.a0 G.EL) (hmem : True) {cz : Int32} (hS : Sta G.Z G.Z.heap Own.ST "COMPACT_STRINGS" "Z" (.int cz)) (hcz : ¬ cz = 0) (hE : G.EL = consts_1) {a : Addr} {kb : ClassId} {J : List Int32} {f n : Nat} (HJ : J.length ≤ 4000) (HR : ∀ c ∈ J, ¬ c < 0 ∧ ¬ (255 : Int32) < c) (hfn : f + n ≤ J.length) (hC : n ≤ 16) (hno : ¬ (f = 0 ∧ n = J.length)) {ix ln : Int32} (hix : ix = Int32.ofNat f) (hln : ln = Int32.ofNat n) {h : Heap} (hO : Old G.Z G.n0 h) (Ab : Arv G.Z h a kb .byte (Int32.ofNat J.length) (Own.bs J) (.int 0)) :
    Own.Con G [] bNs #[.ref a, .int ix, .int ln] h [] (fun v h' => ∃ o : Addr, v = some (.ref o) ∧ Ext h h' ∧ Own.Str G.Z h' o ((J.drop f).take n)) := by
  refine Own.Con.intro (plainFor_of_name pn_9) hO hEL _ (fun m => ef_bNs m a ix ln) ?_
  intro X T0 W0 sf
  subst hix; subst hln
  refine Own.iloadN W0 d56_0 1 rfl (Int32.ofNat n) rfl ?_
  by_cases hn0 : (Int32.ofNat n) = (0 : Int32)
  · skip
    refine Own.ifNo W0 d56_1 4 (XT.i0_ne_f hn0) rfl ?_
    refine Own.ldcR W0 (tw hw 322 rfl) (Own.sAtomsN (wS hw)) (by rw [hE]; decide) (vs := []) (z := (0 : Int32)) ⟨by decide, by decide⟩ (by decide) (by decide) d56_4 6 rfl 0 (by decide) (by decide) 2 4 (Nat.le_of_ble_eq_true rfl) (Nat.le_of_ble_eq_true rfl) (Nat.le_of_ble_eq_true rfl) (Nat.le_of_ble_eq_true rfl) ?_
    intro v1 T1 h1 o1 b1 q1 W1 R1 E1 fa1 fc1 fv1 fb1 ne1
    have F1 : Own.Str G.Z h1 o1 [] := ⟨fa1, fc1, by decide, by decide, b1, q1, fv1, fb1⟩
    have X2 : Ext h h1 := E1
    exact Own.retA W1 (by decide) (by decide) rfl rfl rfl d56_6 ⟨o1, rfl, X2, by rw [Own.eq0_nat (by omega) hn0, List.take_zero]; exact F1⟩
  · skip
    refine Own.ifYes W0 d56_1 7 (XT.i0_ne_t hn0) (by decide) (by decide) ?_
    refine Own.newO W0 (tw hw 311 rfl) (tw hw 6 rfl) (tw hw 5 rfl) d56_7 10 rfl 1 4 (by decide) (by decide) (by decide) (by decide) ?_
    intro T3 h3 o3 g3 W3 E3 A3 D3 s3 k3
    have F3_value : Fld G.Z h3 o3 "java/lang/String" "value" "[B" .null := D3 (Or.inr (tw hw 8 rfl)) (ty := (.array .byte)) (by decide)
    have F3_coder : Fld G.Z h3 o3 "java/lang/String" "coder" "B" (.int (0 : Int32)) := D3 (Or.inr (tw hw 9 rfl)) (ty := .byte) (by decide)
    refine Own.dup W3 d56_10 11 rfl rfl ?_
    refine Own.aloadN W3 d56_11 12 rfl (.ref a) rfl rfl ?_
    refine Own.iloadN W3 d56_12 13 rfl (Int32.ofNat f) rfl ?_
    refine Own.iloadN W3 d56_13 14 rfl (Int32.ofNat f) rfl ?_
    refine Own.iloadN W3 d56_14 15 rfl (Int32.ofNat n) rfl ?_
    refine Own.iadd W3 d56_15 16 rfl ?_
    rw [← Int32.ofNat_add]
    show Own.Go _ _ _ _ _ 16 #[.val (.ref a), .val (.int (Int32.ofNat f)), .val (.int (Int32.ofNat n))] [(.int (Int32.ofNat (f + n))), (.int (Int32.ofNat f)), (.ref a), (.ref o3), (.ref o3)]
    have X4 : Ext h h3 := E3
    refine Own.callS W3 (tw hw 312 rfl) (tw hw 257 rfl) (tw hw 258 rfl) (tw hw 259 rfl) (by decide) (argsL := [(.ref a), (.int (Int32.ofNat f)), (.int (Int32.ofNat (f + n)))]) (rest := [(.ref o3), (.ref o3)]) (Own.Con.pay (con_cog hw hEL (f := f) (t := f + n) HJ (by omega) hfn (by omega) W3.old (Ab.ext X4) (by rw [Own.bs_len]) rfl rfl (by intro q; exact hno ⟨q.1, by omega⟩)) W3 (tw hw 259 rfl) (tw hw 258 rfl) (len := 3) (wd := 2) (by decide) (by decide) (fun _ q => nomatch q)) rfl (lenOf pd_15 rfl) rfl (Nat.le_of_ble_eq_true rfl) d56_16 19 rfl 2 20 (Nat.le_of_ble_eq_true rfl) (Nat.le_of_ble_eq_true rfl) (Nat.le_of_ble_eq_true rfl) (Nat.le_of_ble_eq_true rfl) ?_
    intro v5 T5 h5 u5 W5 R5 hq
    obtain ⟨o5, c5, rfl, E5, g5, A5⟩ := hq
    have B5 : Arv G.Z h5 o5 c5 .byte (Int32.ofNat n) (Own.bs ((J.drop f).take n)) (.int 0) := by have q := A5; rwa [show f + n - f = n by omega, Own.bs_cut] at q
    show Own.Go _ _ _ _ _ 19 #[.val (.ref a), .val (.int (Int32.ofNat f)), .val (.int (Int32.ofNat n))] [(.ref o5), (.ref o3), (.ref o3)]
    refine Own.iconst W5 d56_19 20 rfl (0 : Int32) rfl ?_
    have X6 : Ext h3 h5 := E5
    refine Own.callX W5 rfl (tw hw 313 rfl) (tw hw 147 rfl) (tw hw 148 rfl) (by decide) (argsL := [(.ref o5), (.int (0 : Int32))]) (rest := [(.ref o3)]) (Own.Con.pay (con_newBB hw hEL (x := o3) (b := o5) (cd := 0) rfl rfl W5.old (Nat.le_trans W0.n0 (Nat.le_of_eq g3.symm)) (A3.ext X6) (F3_value.ext X6) (F3_coder.ext X6)) W5 (tw hw 148 rfl) (tw hw 5 rfl) (len := 3) (wd := 1) (by decide) (by decide) (fun y hy => by cases List.mem_singleton.mp hy; exact ⟨(A3.ext X6).lt, (R5.safe A3.lt s3)⟩)) rfl (lenOf pd_22 rfl) rfl (Nat.le_of_ble_eq_true rfl) d56_20 23 rfl 2 20 (Nat.le_of_ble_eq_true rfl) (Nat.le_of_ble_eq_true rfl) (Nat.le_of_ble_eq_true rfl) (Nat.le_of_ble_eq_true rfl) ?_
    intro v7 T7 h7 u7 W7 R7 hq
    obtain ⟨rfl, K7, Ex7, Va7, Co7⟩ := hq
    show Own.Go _ _ _ _ _ 23 #[.val (.ref a), .val (.int (Int32.ofNat f)), .val (.int (Int32.ofNat n))] [(.ref o3)]
    have X8 : Ext h h5 := Own.Ext.tr X4 E5
    have X9 : Ext h h7 := Own.Ext.kp X8 K7 (allS (Nat.le_of_eq g3.symm) all0)
    exact Own.retA W7 (by decide) (by decide) rfl rfl rfl d56_23 ⟨o3, rfl, X9, Ex7, Co7, fun c hc => HR c (List.mem_of_mem_drop (List.mem_of_mem_take hc)), by rw [List.length_take, List.length_drop]; omega, o5, _, Va7, by have q := (B5.keep K7 (ninS (Ne.symm (Nat.ne_of_lt (Nat.lt_of_lt_of_le A3.lt g5))) nin0)); rwa [show Int32.ofNat n = Int32.ofNat ((J.drop f).take n).length by rw [List.length_take, List.length_drop]; congr 1; omega] at q⟩
set_option maxRecDepth 65536 in
set_option maxHeartbeats 40000000 in
theorem con_cft0 {G : Own.Gl} (hw : ∀ d ∈ tables_1, d.before G.a0 G.Z = true) (hEL : EW G.Z G.a0 G.EL) (fr : Addr) {i j k : Int32} (hi : ¬ i < 0) (hij : ¬ j < i) (hjk : ¬ k < j) {h : Heap} (hO : Old G.Z G.n0 h) :
    Own.Con G [] bCft0 #[.int i, .int j, .int k, .ref fr] h [] (fun v h' => v = some (.int i) ∧ h' = h) := by
  refine Own.Con.intro (plainFor_of_name pn_3) hO hEL _ (fun m => ef_bCft0 m i j k fr) ?_
  intro X T0 W0 sf
  refine Own.iloadN W0 d54_0 1 rfl i rfl ?_
  refine Own.ifNo W0 d54_1 4 (XT.i0_lt_f hi) rfl ?_
  refine Own.iloadN W0 d54_4 5 rfl i rfl ?_
  refine Own.iloadN W0 d54_5 6 rfl j rfl ?_
  refine Own.icmpNo W0 d54_6 9 (XT.ii_gt_f hij) rfl ?_
  refine Own.iloadN W0 d54_9 10 rfl j rfl ?_
  refine Own.iloadN W0 d54_10 11 rfl k rfl ?_
  refine Own.icmpYes W0 d54_11 22 (XT.ii_le_t hjk) (by decide) (by decide) ?_
  refine Own.iloadN W0 d54_22 23 rfl i rfl ?_
  exact Own.retI W0 (by decide) (by decide) rfl d54_23 ⟨rfl, rfl⟩
set_option maxRecDepth 65536 in
set_option maxHeartbeats 40000000 in
theorem con_cft1 {G : Own.Gl} (hw : ∀ d ∈ tables_1, d.before G.a0 G.Z = true) (hEL : EW G.Z G.a0 G.EL) {i j k : Int32} (hi : ¬ i < 0) (hij : ¬ j < i) (hjk : ¬ k < j) {h : Heap} (hO : Old G.Z G.n0 h) :
    Own.Con G [] bCft1 #[.int i, .int j, .int k, .null] h [] (fun v h' => v = some (.int i) ∧ h' = h) := by
  refine Own.Con.intro (plainFor_of_name pn_3) hO hEL _ (fun m => ef_bCft1 m i j k) ?_
  intro X T0 W0 sf
  refine Own.iloadN W0 d54_0 1 rfl i rfl ?_
  refine Own.ifNo W0 d54_1 4 (XT.i0_lt_f hi) rfl ?_
  refine Own.iloadN W0 d54_4 5 rfl i rfl ?_
  refine Own.iloadN W0 d54_5 6 rfl j rfl ?_
  refine Own.icmpNo W0 d54_6 9 (XT.ii_gt_f hij) rfl ?_
  refine Own.iloadN W0 d54_9 10 rfl j rfl ?_
  refine Own.iloadN W0 d54_10 11 rfl k rfl ?_
  refine Own.icmpYes W0 d54_11 22 (XT.ii_le_t hjk) (by decide) (by decide) ?_
  refine Own.iloadN W0 d54_22 23 rfl i rfl ?_
  exact Own.retI W0 (by decide) (by decide) rfl d54_23 ⟨rfl, rfl⟩
set_option maxRecDepth 65536 in
set_option maxHeartbeats 40000000 in
theorem con_cbb {G : Own.Gl} (hw : ∀ d ∈ tables_1, d.before G.a0 G.Z = true) (hEL : EW G.Z G.a0 G.EL) {fm : Value} (SF : Sta G.Z G.Z.heap "jdk/internal/util/Preconditions" "SIOOBE_FORMATTER" "Ljava/util/function/BiFunction;" fm) (rfm : fm.isRef = true) {i j k : Int32} (hi : ¬ i < 0) (hij : ¬ j < i) (hjk : ¬ k < j) {h : Heap} (hO : Old G.Z G.n0 h) :
    Own.Con G [] bCbb #[.int i, .int j, .int k] h [] (fun v h' => v = none ∧ h' = h) := by
  refine Own.Con.intro (plainFor_of_name pn_7) hO hEL _ (fun m => ef_bCbb m i j k) ?_
  intro X T0 W0 sf
  have hfm : (∃ r, fm = .ref r) ∨ fm = .null := by cases fm <;> simp_all [Value.isRef]
  rcases hfm with ⟨fr, rfl⟩ | rfl
  · skip
    refine Own.iloadN W0 d53_0 1 rfl i rfl ?_
    refine Own.iloadN W0 d53_1 2 rfl j rfl ?_
    refine Own.iloadN W0 d53_2 3 rfl k rfl ?_
    refine Own.getS W0 (tw hw 299 rfl) Via.refl (W0.sta SF) d53_3 6 rfl ?_
    intro T1 W1
    refine Own.callS W1 (tw hw 300 rfl) (tw hw 301 rfl) (tw hw 163 rfl) (tw hw 302 rfl) (by decide) (argsL := [(.int i), (.int j), (.int k), (.ref fr)]) (rest := []) (Own.Con.pay (con_cft0 hw hEL fr hi hij hjk W1.old) W1 (tw hw 302 rfl) (tw hw 163 rfl) (len := 3) (wd := 0) (by decide) (by decide) (fun _ q => nomatch q)) rfl (lenOf pd_23 rfl) rfl (Nat.le_of_ble_eq_true rfl) d53_6 9 rfl 0 0 (Nat.le_of_ble_eq_true rfl) (Nat.le_of_ble_eq_true rfl) (Nat.le_of_ble_eq_true rfl) (Nat.le_of_ble_eq_true rfl) ?_
    intro v2 T2 h2 u2 W2 R2 hq
    obtain ⟨rfl, eh2⟩ := hq
    have ei2 := eh2.symm; subst ei2
    show Own.Go _ _ _ _ _ 9 #[.val (.int i), .val (.int j), .val (.int k)] [(.int i)]
    refine Own.pop W2 d53_9 10 rfl rfl ?_
    exact Own.retV W2 (by decide) (by decide) rfl d53_10 ⟨rfl, rfl⟩
  · skip
    refine Own.iloadN W0 d53_0 1 rfl i rfl ?_
    refine Own.iloadN W0 d53_1 2 rfl j rfl ?_
    refine Own.iloadN W0 d53_2 3 rfl k rfl ?_
    refine Own.getS W0 (tw hw 299 rfl) Via.refl (W0.sta SF) d53_3 6 rfl ?_
    intro T3 W3
    refine Own.callS W3 (tw hw 300 rfl) (tw hw 301 rfl) (tw hw 163 rfl) (tw hw 302 rfl) (by decide) (argsL := [(.int i), (.int j), (.int k), .null]) (rest := []) (Own.Con.pay (con_cft1 hw hEL hi hij hjk W3.old) W3 (tw hw 302 rfl) (tw hw 163 rfl) (len := 3) (wd := 0) (by decide) (by decide) (fun _ q => nomatch q)) rfl (lenOf pd_23 rfl) rfl (Nat.le_of_ble_eq_true rfl) d53_6 9 rfl 0 0 (Nat.le_of_ble_eq_true rfl) (Nat.le_of_ble_eq_true rfl) (Nat.le_of_ble_eq_true rfl) (Nat.le_of_ble_eq_true rfl) ?_
    intro v4 T4 h4 u4 W4 R4 hq
    obtain ⟨rfl, eh4⟩ := hq
    have ei4 := eh4.symm; subst ei4
    show Own.Go _ _ _ _ _ 9 #[.val (.int i), .val (.int j), .val (.int k)] [(.int i)]
    refine Own.pop W4 d53_9 10 rfl rfl ?_
    exact Own.retV W4 (by decide) (by decide) rfl d53_10 ⟨rfl, rfl⟩
set_option maxRecDepth 65536 in
set_option maxHeartbeats 40000000 in
theorem con_sl1 {G : Own.Gl} (hw : ∀ d ∈ tables_1, d.before G.a0 G.Z = true) (hEL : EW G.Z G.a0 G.EL) (hmem : True) {cz : Int32} (hS : Sta G.Z G.Z.heap Own.ST "COMPACT_STRINGS" "Z" (.int cz)) (hcz : ¬ cz = 0) {x : Addr} {h : Heap} (hO : Old G.Z G.n0 h) (F : Fld G.Z h x "java/lang/String" "coder" "B" (.int 0)) :
    Own.Con G [] bSl1 #[.ref x] h [] (fun v h' => v = some (.int 1) ∧ h' = h) := by
  refine Own.Con.intro (plainFor_of_name pn_7) hO hEL _ (fun m => ef_bSl1 m x) ?_
  intro X T0 W0 sf
  refine Own.getS W0 (tw hw 122 rfl) Via.refl (W0.sta hS) d55_0 3 rfl ?_
  intro T1 W1
  refine Own.ifNo W1 d55_3 6 (XT.i0_eq_f hcz) rfl ?_
  refine Own.aloadN W1 d55_6 7 rfl (.ref x) rfl rfl ?_
  refine Own.getF W1 (tw hw 133 rfl) Via.refl F d55_7 10 rfl ?_
  intro T2 W2
  refine Own.ifNo W2 d55_10 13 (by decide) rfl ?_
  refine Own.iconst W2 d55_13 14 rfl (1 : Int32) rfl ?_
  refine Own.goto W2 d55_14 18 (by decide) (by decide) ?_
  exact Own.retB W2 (by decide) (by decide) rfl d55_18 rfl ⟨rfl, rfl⟩
set_option maxRecDepth 65536 in
set_option maxHeartbeats 40000000 in
theorem con_sub {G : Own.Gl} (hw : ∀ d ∈ tables_1, d.before G.a0 G.Z = true) (hEL : EW G.Z G.a0 G.EL) (hmem : True) {cz : Int32} (hS : Sta G.Z G.Z.heap Own.ST "COMPACT_STRINGS" "Z" (.int cz)) (hcz : ¬ cz = 0) {fm : Value} (SF : Sta G.Z G.Z.heap "jdk/internal/util/Preconditions" "SIOOBE_FORMATTER" "Ljava/util/function/BiFunction;" fm) (rfm : fm.isRef = true) (hE : G.EL = consts_1) {x : Addr} {J : List Int32} {f t : Nat} (hft : f ≤ t) (htJ : t ≤ J.length) (hC : t - f ≤ 16) {bi ei : Int32} (hbi : bi = Int32.ofNat f) (hei : ei = Int32.ofNat t) {h : Heap} (hO : Old G.Z G.n0 h) (Sx : Own.Str G.Z h x J) :
    Own.Con G [] bSub #[.ref x, .int bi, .int ei] h [] (fun v h' => ∃ o : Addr, v = some (.ref o) ∧ Ext h h' ∧ Own.Str G.Z h' o ((J.drop f).take (t - f))) := by
  refine Own.Con.intro (plainFor_of_name pn_7) hO hEL _ (fun m => ef_bSub m x bi ei) ?_
  intro X T0 W0 sf
  subst hbi; subst hei
  obtain ⟨Ex, Xc, Xr, Xl, bx, kx, Xv, Xa⟩ := id Sx
  refine Own.aloadN W0 d52_0 1 rfl (.ref x) rfl rfl ?_
  refine Own.callV W0 (tw hw 295 rfl) (tw hw 185 rfl) (fun s q => notFace_of_selects (args := #[]) (mvT (s := s) q (tw hw 187 rfl))) (tw hw 187 rfl) (tw hw 186 rfl) (by decide) (argsL := []) (rest := []) (Own.payLen (wL hw) (kI := 4) (tw hw 6 rfl) W0 Sx hS hcz (len := 3) (wd := 0) (by decide) (by decide)) Ex rfl (lenOf pd_11 rfl) rfl (Nat.le_of_ble_eq_true rfl) d52_1 4 rfl 0 0 (Nat.le_of_ble_eq_true rfl) (Nat.le_of_ble_eq_true rfl) (Nat.le_of_ble_eq_true rfl) (Nat.le_of_ble_eq_true rfl) ?_
  intro v1 T1 h1 u1 W1 R1 hq
  obtain ⟨rfl, eh1⟩ := hq
  have ei1 := eh1.symm; subst ei1
  show Own.Go _ _ _ _ _ 4 #[.val (.ref x), .val (.int (Int32.ofNat f)), .val (.int (Int32.ofNat t)), .unset, .unset] [(.int (Int32.ofNat J.length))]
  refine Own.istoreN W1 d52_4 5 rfl #[.val (.ref x), .val (.int (Int32.ofNat f)), .val (.int (Int32.ofNat t)), .val (.int (Int32.ofNat J.length)), .unset] rfl ?_
  refine Own.iloadN W1 d52_5 6 rfl (Int32.ofNat f) rfl ?_
  refine Own.iloadN W1 d52_6 7 rfl (Int32.ofNat t) rfl ?_
  refine Own.iloadN W1 d52_7 8 rfl (Int32.ofNat J.length) rfl ?_
  refine Own.callS W1 (tw hw 296 rfl) (tw hw 297 rfl) (tw hw 5 rfl) (tw hw 298 rfl) (by decide) (argsL := [(.int (Int32.ofNat f)), (.int (Int32.ofNat t)), (.int (Int32.ofNat J.length))]) (rest := []) (Own.Con.pay (con_cbb hw hEL SF rfm (Own.nonneg (by omega)) (Own.nlt_nat hft (by omega)) (Own.nlt_nat htJ Xl) W1.old) W1 (tw hw 298 rfl) (tw hw 5 rfl) (len := 3) (wd := 0) (by decide) (by decide) (fun _ q => nomatch q)) rfl (lenOf pd_24 rfl) rfl (Nat.le_of_ble_eq_true rfl) d52_8 11 rfl 0 0 (Nat.le_of_ble_eq_true rfl) (Nat.le_of_ble_eq_true rfl) (Nat.le_of_ble_eq_true rfl) (Nat.le_of_ble_eq_true rfl) ?_
  intro v2 T2 h2 u2 W2 R2 hq
  obtain ⟨rfl, eh2⟩ := hq
  have ei2 := eh2.symm; subst ei2
  show Own.Go _ _ _ _ _ 11 #[.val (.ref x), .val (.int (Int32.ofNat f)), .val (.int (Int32.ofNat t)), .val (.int (Int32.ofNat J.length)), .unset] []
  refine Own.iloadN W2 d52_11 12 rfl (Int32.ofNat f) rfl ?_
  by_cases hf0 : (Int32.ofNat f) = (0 : Int32)
  · skip
    refine Own.ifNo W2 d52_12 15 (XT.i0_ne_f hf0) rfl ?_
    refine Own.iloadN W2 d52_15 16 rfl (Int32.ofNat t) rfl ?_
    refine Own.iloadN W2 d52_16 17 rfl (Int32.ofNat J.length) rfl ?_
    by_cases htl : (Int32.ofNat t) = (Int32.ofNat J.length)
    · skip
      refine Own.icmpNo W2 d52_17 20 (XT.ii_ne_f htl) rfl ?_
      refine Own.aloadN W2 d52_20 21 rfl (.ref x) rfl rfl ?_
      exact Own.retA W2 (by decide) (by decide) rfl rfl rfl d52_21 ⟨x, rfl, Own.Ext.rfl' _, by have e1 := Own.eq0_nat (by omega) hf0; have e2 := Own.eq_nat (by omega) Xl htl; subst e1; rw [List.drop_zero, List.take_of_length_le (by omega)]; exact Sx⟩
    · skip
      refine Own.icmpYes W2 d52_17 22 (XT.ii_ne_t htl) (by decide) (by decide) ?_
      refine Own.iloadN W2 d52_22 23 rfl (Int32.ofNat t) rfl ?_
      refine Own.iloadN W2 d52_23 24 rfl (Int32.ofNat f) rfl ?_
      refine Own.isub W2 d52_24 25 rfl ?_
      rw [Own.sub_nat hft (by omega)]
      show Own.Go _ _ _ _ _ 25 #[.val (.ref x), .val (.int (Int32.ofNat f)), .val (.int (Int32.ofNat t)), .val (.int (Int32.ofNat J.length)), .unset] [(.int (Int32.ofNat (t - f)))]
      refine Own.istore W2 d52_25 27 rfl #[.val (.ref x), .val (.int (Int32.ofNat f)), .val (.int (Int32.ofNat t)), .val (.int (Int32.ofNat J.length)), .val (.int (Int32.ofNat (t - f)))] rfl ?_
      refine Own.aloadN W2 d52_27 28 rfl (.ref x) rfl rfl ?_
      refine Own.callV W2 (tw hw 303 rfl) (tw hw 304 rfl) (fun s q => notFace_of_selects (args := #[]) (mvT (s := s) q (tw hw 306 rfl))) (tw hw 306 rfl) (tw hw 305 rfl) (by decide) (argsL := []) (rest := []) (Own.Con.pay (con_sl1 hw hEL hmem hS hcz W2.old Xc) W2 (tw hw 307 rfl) (tw hw 5 rfl) (len := 3) (wd := 0) (by decide) (by decide) (fun _ q => nomatch q)) Ex rfl (lenOf pd_17 rfl) rfl (Nat.le_of_ble_eq_true rfl) d52_28 31 rfl 0 0 (Nat.le_of_ble_eq_true rfl) (Nat.le_of_ble_eq_true rfl) (Nat.le_of_ble_eq_true rfl) (Nat.le_of_ble_eq_true rfl) ?_
      intro v3 T3 h3 u3 W3 R3 hq
      obtain ⟨rfl, eh3⟩ := hq
      have ei3 := eh3.symm; subst ei3
      show Own.Go _ _ _ _ _ 31 #[.val (.ref x), .val (.int (Int32.ofNat f)), .val (.int (Int32.ofNat t)), .val (.int (Int32.ofNat J.length)), .val (.int (Int32.ofNat (t - f)))] [(.int (1 : Int32))]
      refine Own.ifNo W3 d52_31 34 (by decide) rfl ?_
      refine Own.aloadN W3 d52_34 35 rfl (.ref x) rfl rfl ?_
      refine Own.getF W3 (tw hw 134 rfl) Via.refl Xv d52_35 38 rfl ?_
      intro T4 W4
      refine Own.iloadN W4 d52_38 39 rfl (Int32.ofNat f) rfl ?_
      refine Own.iload W4 d52_39 41 rfl (Int32.ofNat (t - f)) rfl ?_
      refine Own.callS W4 (tw hw 308 rfl) (tw hw 309 rfl) (tw hw 140 rfl) (tw hw 310 rfl) (by decide) (argsL := [(.ref bx), (.int (Int32.ofNat f)), (.int (Int32.ofNat (t - f)))]) (rest := []) (Own.Con.pay (con_ns hw hEL hmem hS hcz hE (f := f) (n := t - f) Xl Xr (by omega) hC (fun q => htl (by rw [show t = J.length by omega])) rfl rfl W4.old Xa) W4 (tw hw 310 rfl) (tw hw 140 rfl) (len := 3) (wd := 0) (by decide) (by decide) (fun _ q => nomatch q)) rfl (lenOf pd_25 rfl) rfl (Nat.le_of_ble_eq_true rfl) d52_41 44 rfl 2 20 (Nat.le_of_ble_eq_true rfl) (Nat.le_of_ble_eq_true rfl) (Nat.le_of_ble_eq_true rfl) (Nat.le_of_ble_eq_true rfl) ?_
      intro v5 T5 h5 u5 W5 R5 hq
      obtain ⟨o5, rfl, E5, S5⟩ := hq
      show Own.Go _ _ _ _ _ 44 #[.val (.ref x), .val (.int (Int32.ofNat f)), .val (.int (Int32.ofNat t)), .val (.int (Int32.ofNat J.length)), .val (.int (Int32.ofNat (t - f)))] [(.ref o5)]
      refine Own.goto W5 d52_44 57 (by decide) (by decide) ?_
      exact Own.retA W5 (by decide) (by decide) rfl rfl rfl d52_57 ⟨o5, rfl, E5, S5⟩
  · skip
    refine Own.ifYes W2 d52_12 22 (XT.i0_ne_t hf0) (by decide) (by decide) ?_
    refine Own.iloadN W2 d52_22 23 rfl (Int32.ofNat t) rfl ?_
    refine Own.iloadN W2 d52_23 24 rfl (Int32.ofNat f) rfl ?_
    refine Own.isub W2 d52_24 25 rfl ?_
    rw [Own.sub_nat hft (by omega)]
    show Own.Go _ _ _ _ _ 25 #[.val (.ref x), .val (.int (Int32.ofNat f)), .val (.int (Int32.ofNat t)), .val (.int (Int32.ofNat J.length)), .unset] [(.int (Int32.ofNat (t - f)))]
    refine Own.istore W2 d52_25 27 rfl #[.val (.ref x), .val (.int (Int32.ofNat f)), .val (.int (Int32.ofNat t)), .val (.int (Int32.ofNat J.length)), .val (.int (Int32.ofNat (t - f)))] rfl ?_
    refine Own.aloadN W2 d52_27 28 rfl (.ref x) rfl rfl ?_
    refine Own.callV W2 (tw hw 303 rfl) (tw hw 304 rfl) (fun s q => notFace_of_selects (args := #[]) (mvT (s := s) q (tw hw 306 rfl))) (tw hw 306 rfl) (tw hw 305 rfl) (by decide) (argsL := []) (rest := []) (Own.Con.pay (con_sl1 hw hEL hmem hS hcz W2.old Xc) W2 (tw hw 307 rfl) (tw hw 5 rfl) (len := 3) (wd := 0) (by decide) (by decide) (fun _ q => nomatch q)) Ex rfl (lenOf pd_17 rfl) rfl (Nat.le_of_ble_eq_true rfl) d52_28 31 rfl 0 0 (Nat.le_of_ble_eq_true rfl) (Nat.le_of_ble_eq_true rfl) (Nat.le_of_ble_eq_true rfl) (Nat.le_of_ble_eq_true rfl) ?_
    intro v6 T6 h6 u6 W6 R6 hq
    obtain ⟨rfl, eh6⟩ := hq
    have ei6 := eh6.symm; subst ei6
    show Own.Go _ _ _ _ _ 31 #[.val (.ref x), .val (.int (Int32.ofNat f)), .val (.int (Int32.ofNat t)), .val (.int (Int32.ofNat J.length)), .val (.int (Int32.ofNat (t - f)))] [(.int (1 : Int32))]
    refine Own.ifNo W6 d52_31 34 (by decide) rfl ?_
    refine Own.aloadN W6 d52_34 35 rfl (.ref x) rfl rfl ?_
    refine Own.getF W6 (tw hw 134 rfl) Via.refl Xv d52_35 38 rfl ?_
    intro T7 W7
    refine Own.iloadN W7 d52_38 39 rfl (Int32.ofNat f) rfl ?_
    refine Own.iload W7 d52_39 41 rfl (Int32.ofNat (t - f)) rfl ?_
    refine Own.callS W7 (tw hw 308 rfl) (tw hw 309 rfl) (tw hw 140 rfl) (tw hw 310 rfl) (by decide) (argsL := [(.ref bx), (.int (Int32.ofNat f)), (.int (Int32.ofNat (t - f)))]) (rest := []) (Own.Con.pay (con_ns hw hEL hmem hS hcz hE (f := f) (n := t - f) Xl Xr (by omega) hC (fun q => hf0 (by rw [q.1]; rfl)) rfl rfl W7.old Xa) W7 (tw hw 310 rfl) (tw hw 140 rfl) (len := 3) (wd := 0) (by decide) (by decide) (fun _ q => nomatch q)) rfl (lenOf pd_25 rfl) rfl (Nat.le_of_ble_eq_true rfl) d52_41 44 rfl 2 20 (Nat.le_of_ble_eq_true rfl) (Nat.le_of_ble_eq_true rfl) (Nat.le_of_ble_eq_true rfl) (Nat.le_of_ble_eq_true rfl) ?_
    intro v8 T8 h8 u8 W8 R8 hq
    obtain ⟨o8, rfl, E8, S8⟩ := hq
    show Own.Go _ _ _ _ _ 44 #[.val (.ref x), .val (.int (Int32.ofNat f)), .val (.int (Int32.ofNat t)), .val (.int (Int32.ofNat J.length)), .val (.int (Int32.ofNat (t - f)))] [(.ref o8)]
    refine Own.goto W8 d52_44 57 (by decide) (by decide) ?_
    exact Own.retA W8 (by decide) (by decide) rfl rfl rfl d52_57 ⟨o8, rfl, E8, S8⟩
set_option maxRecDepth 65536 in
set_option maxHeartbeats 40000000 in
theorem con_lin {G : Own.Gl} (hw : ∀ d ∈ tables_1, d.before G.a0 G.Z = true) (hEL : EW G.Z G.a0 G.EL) (hmem : True) {cz : Int32} (hS : Sta G.Z G.Z.heap Own.ST "COMPACT_STRINGS" "Z" (.int cz)) (hcz : ¬ cz = 0) (hE : G.EL = consts_1) (p ln : Int32) {h : Heap} (hO : Old G.Z G.n0 h) :
    Own.Con G [] bLin #[.int p, .int ln] h [] (fun v h' => ∃ (o : Addr) (cs : List Int32), v = some (.ref o) ∧ Ext h h' ∧ Own.Str G.Z h' o cs ∧ cs.length ≤ 3) := by
  refine Own.Con.intro (plainFor_of_name pn_10) hO hEL _ (fun m => ef_bLin m p ln) ?_
  intro X T0 W0 sf
  refine Own.iloadN W0 d1_0 1 rfl p rfl ?_
  refine Own.sipush W0 d1_1 4 rfl (255 : Int32) rfl ?_
  refine Own.iand W0 d1_4 5 rfl ?_
  refine Own.i2c W0 d1_5 6 rfl ?_
  refine Own.istoreN W0 d1_6 7 rfl #[.val (.int p), .val (.int ln), .val (.int ((p &&& (255 : Int32)).toUInt32.toUInt16.toUInt32.toInt32)), .unset, .unset] rfl ?_
  refine Own.iloadN W0 d1_7 8 rfl p rfl ?_
  refine Own.bipush W0 d1_8 10 rfl (8 : Int32) rfl ?_
  refine Own.iushr W0 d1_10 11 rfl ?_
  refine Own.sipush W0 d1_11 14 rfl (255 : Int32) rfl ?_
  refine Own.iand W0 d1_14 15 rfl ?_
  refine Own.i2c W0 d1_15 16 rfl ?_
  refine Own.istoreN W0 d1_16 17 rfl #[.val (.int p), .val (.int ln), .val (.int ((p &&& (255 : Int32)).toUInt32.toUInt16.toUInt32.toInt32)), .val (.int ((((p.toUInt32 >>> ((8 : Int32) &&& 31).toUInt32).toInt32) &&& (255 : Int32)).toUInt32.toUInt16.toUInt32.toInt32)), .unset] rfl ?_
  refine Own.iloadN W0 d1_17 18 rfl p rfl ?_
  refine Own.bipush W0 d1_18 20 rfl (16 : Int32) rfl ?_
  refine Own.iushr W0 d1_20 21 rfl ?_
  refine Own.sipush W0 d1_21 24 rfl (255 : Int32) rfl ?_
  refine Own.iand W0 d1_24 25 rfl ?_
  refine Own.i2c W0 d1_25 26 rfl ?_
  refine Own.istore W0 d1_26 28 rfl #[.val (.int p), .val (.int ln), .val (.int ((p &&& (255 : Int32)).toUInt32.toUInt16.toUInt32.toInt32)), .val (.int ((((p.toUInt32 >>> ((8 : Int32) &&& 31).toUInt32).toInt32) &&& (255 : Int32)).toUInt32.toUInt16.toUInt32.toInt32)), .val (.int ((((p.toUInt32 >>> ((16 : Int32) &&& 31).toUInt32).toInt32) &&& (255 : Int32)).toUInt32.toUInt16.toUInt32.toInt32))] rfl ?_
  refine Own.iloadN W0 d1_28 29 rfl ln rfl ?_
  by_cases e0 : ln = (0 : Int32)
  · skip
    refine Own.ifNo W0 d1_29 32 (XT.i0_ne_f e0) rfl ?_
    refine Own.ldcR W0 (tw hw 4 rfl) (Own.sAtomsN (wS hw)) (by rw [hE]; decide) (vs := []) (z := (0 : Int32)) ⟨by decide, by decide⟩ (by decide) (by decide) d1_32 34 rfl 0 (by decide) (by decide) 2 4 (Nat.le_of_ble_eq_true rfl) (Nat.le_of_ble_eq_true rfl) (Nat.le_of_ble_eq_true rfl) (Nat.le_of_ble_eq_true rfl) ?_
    intro v1 T1 h1 o1 b1 q1 W1 R1 E1 fa1 fc1 fv1 fb1 ne1
    have F1 : Own.Str G.Z h1 o1 [] := ⟨fa1, fc1, by decide, by decide, b1, q1, fv1, fb1⟩
    have X2 : Ext h h1 := E1
    exact Own.retA W1 (by decide) (by decide) rfl rfl rfl d1_34 ⟨o1, [], rfl, X2, F1, Nat.le_of_ble_eq_true rfl⟩
  · skip
    refine Own.ifYes W0 d1_29 35 (XT.i0_ne_t e0) (by decide) (by decide) ?_
    refine Own.iloadN W0 d1_35 36 rfl ln rfl ?_
    refine Own.iconst W0 d1_36 37 rfl (1 : Int32) rfl ?_
    by_cases e1 : ln = (1 : Int32)
    · skip
      refine Own.icmpNo W0 d1_37 40 (XT.ii_ne_f e1) rfl ?_
      refine Own.iloadN W0 d1_40 41 rfl ((p &&& (255 : Int32)).toUInt32.toUInt16.toUInt32.toInt32) rfl ?_
      refine Own.callS W0 (tw hw 135 rfl) (tw hw 136 rfl) (tw hw 5 rfl) (tw hw 137 rfl) (by decide) (argsL := [(.int ((p &&& (255 : Int32)).toUInt32.toUInt16.toUInt32.toInt32))]) (rest := []) (Own.Con.pay (con_valOf hw hEL hmem hS hcz ((p &&& (255 : Int32)).toUInt32.toUInt16.toUInt32.toInt32) (Own.lo_rng _) W0.old) W0 (tw hw 137 rfl) (tw hw 5 rfl) (len := 3) (wd := 0) (by decide) (by decide) (fun _ q => nomatch q)) rfl (lenOf pd_26 rfl) rfl (Nat.le_of_ble_eq_true rfl) d1_41 44 rfl 2 5 (Nat.le_of_ble_eq_true rfl) (Nat.le_of_ble_eq_true rfl) (Nat.le_of_ble_eq_true rfl) (Nat.le_of_ble_eq_true rfl) ?_
      intro v3 T3 h3 u3 W3 R3 hq
      obtain ⟨o3, rfl, E3, g3, F3⟩ := hq
      show Own.Go _ _ _ _ _ 44 #[.val (.int p), .val (.int ln), .val (.int ((p &&& (255 : Int32)).toUInt32.toUInt16.toUInt32.toInt32)), .val (.int ((((p.toUInt32 >>> ((8 : Int32) &&& 31).toUInt32).toInt32) &&& (255 : Int32)).toUInt32.toUInt16.toUInt32.toInt32)), .val (.int ((((p.toUInt32 >>> ((16 : Int32) &&& 31).toUInt32).toInt32) &&& (255 : Int32)).toUInt32.toUInt16.toUInt32.toInt32))] [(.ref o3)]
      have X4 : Ext h h3 := E3
      exact Own.retA W3 (by decide) (by decide) rfl rfl rfl d1_44 ⟨o3, [((p &&& (255 : Int32)).toUInt32.toUInt16.toUInt32.toInt32)], rfl, X4, F3, Nat.le_of_ble_eq_true rfl⟩
    · skip
      refine Own.icmpYes W0 d1_37 45 (XT.ii_ne_t e1) (by decide) (by decide) ?_
      refine Own.iloadN W0 d1_45 46 rfl ln rfl ?_
      refine Own.iconst W0 d1_46 47 rfl (2 : Int32) rfl ?_
      by_cases e2 : ln = (2 : Int32)
      · skip
        refine Own.icmpNo W0 d1_47 50 (XT.ii_ne_f e2) rfl ?_
        refine Own.newO W0 (tw hw 112 rfl) (tw hw 6 rfl) (tw hw 5 rfl) d1_50 53 rfl 1 4 (by decide) (by decide) (by decide) (by decide) ?_
        intro T5 h5 o5 g5 W5 E5 A5 D5 s5 k5
        have F5_value : Fld G.Z h5 o5 "java/lang/String" "value" "[B" .null := D5 (Or.inr (tw hw 8 rfl)) (ty := (.array .byte)) (by decide)
        have F5_coder : Fld G.Z h5 o5 "java/lang/String" "coder" "B" (.int (0 : Int32)) := D5 (Or.inr (tw hw 9 rfl)) (ty := .byte) (by decide)
        refine Own.dup W5 d1_53 54 rfl rfl ?_
        refine Own.iconst W5 d1_54 55 rfl (2 : Int32) rfl ?_
        refine Own.newA W5 (tw hw 113 rfl) d1_55 57 rfl (by decide) 2 (by decide) (by decide) 2 6 (by decide) (by decide) (by decide) (by decide) ?_
        intro T6 h6 o6 c6 g6 W6 E6 A6 s6 k6
        have V6 : Arv G.Z h6 o6 c6 .char (2 : Int32) [(.int (0 : Int32)), (.int (0 : Int32))] (.int (0 : Int32)) := A6
        refine Own.dup W6 d1_57 58 rfl rfl ?_
        refine Own.iconst W6 d1_58 59 rfl (0 : Int32) rfl ?_
        refine Own.iloadN W6 d1_59 60 rfl ((p &&& (255 : Int32)).toUInt32.toUInt16.toUInt32.toInt32) rfl ?_
        have X8 : Ext h h5 := E5
        refine Own.castore W6 V6 0 (by decide) (by decide) (Nat.le_of_ble_eq_true rfl) (Nat.le_trans W0.n0 (Nat.le_trans X8.1 (Nat.le_of_eq g6.symm))) (x' := ((p &&& (255 : Int32)).toUInt32.toUInt16.toUInt32.toInt32)) (Own.nar_lo _) d1_60 61 rfl ?_
        intro T7 h7 W7 Q7 A7 k7
        have V7 : Arv G.Z h7 o6 c6 .char (2 : Int32) [(.int ((p &&& (255 : Int32)).toUInt32.toUInt16.toUInt32.toInt32)), (.int (0 : Int32))] (.int (0 : Int32)) := A7
        refine Own.dup W7 d1_61 62 rfl rfl ?_
        refine Own.iconst W7 d1_62 63 rfl (1 : Int32) rfl ?_
        refine Own.iloadN W7 d1_63 64 rfl ((((p.toUInt32 >>> ((8 : Int32) &&& 31).toUInt32).toInt32) &&& (255 : Int32)).toUInt32.toUInt16.toUInt32.toInt32) rfl ?_
        refine Own.castore W7 V7 1 (by decide) (by decide) (Nat.le_of_ble_eq_true rfl) (Nat.le_trans W0.n0 (Nat.le_trans X8.1 (Nat.le_of_eq g6.symm))) (x' := ((((p.toUInt32 >>> ((8 : Int32) &&& 31).toUInt32).toInt32) &&& (255 : Int32)).toUInt32.toUInt16.toUInt32.toInt32)) (Own.nar_lo _) d1_64 65 rfl ?_
        intro T9 h9 W9 Q9 A9 k9
        have V9 : Arv G.Z h9 o6 c6 .char (2 : Int32) [(.int ((p &&& (255 : Int32)).toUInt32.toUInt16.toUInt32.toInt32)), (.int ((((p.toUInt32 >>> ((8 : Int32) &&& 31).toUInt32).toInt32) &&& (255 : Int32)).toUInt32.toUInt16.toUInt32.toInt32))] (.int (0 : Int32)) := A9
        have X10 : Ext h5 h6 := E6
        have X11 : Ext h5 h7 := Own.Ext.wr' X10 Q7 (Nat.le_of_eq g6.symm)
        have X12 : Ext h5 h9 := Own.Ext.wr' X11 Q9 (Nat.le_of_eq g6.symm)
        refine Own.callX W9 rfl (tw hw 114 rfl) (tw hw 115 rfl) (tw hw 116 rfl) (by decide) (argsL := [(.ref o6)]) (rest := [(.ref o5)]) (Own.payStrN (wS hw) W9 (cs := [((p &&& (255 : Int32)).toUInt32.toUInt16.toUInt32.toInt32), ((((p.toUInt32 >>> ((8 : Int32) &&& 31).toUInt32).toInt32) &&& (255 : Int32)).toUInt32.toUInt16.toUInt32.toInt32)]) (z := (2 : Int32)) (cz := cz) (Nat.le_trans W0.n0 (Nat.le_of_eq g5.symm)) (k9 o5 (k7 o5 (k6 o5 s5))) (A5.ext X12) (F5_value.ext X12) (F5_coder.ext X12) (V9) (by simp) rfl (by intro c hc; simp only [List.mem_cons, List.not_mem_nil, or_false] at hc; rcases hc with rfl | rfl <;> exact Own.lo_rng _) (Nat.le_of_ble_eq_true rfl) hS hcz (len := 3) (wd := 1) (by decide) (by decide)) rfl (lenOf pd_27 rfl) rfl (Nat.le_of_ble_eq_true rfl) d1_65 68 rfl 3 8 (Nat.le_of_ble_eq_true rfl) (Nat.le_of_ble_eq_true rfl) (Nat.le_of_ble_eq_true rfl) (Nat.le_of_ble_eq_true rfl) ?_
        intro v13 T13 h13 u13 W13 R13 hq
        obtain ⟨rfl, K13, F13⟩ := hq
        show Own.Go _ _ _ _ _ 68 #[.val (.int p), .val (.int ln), .val (.int ((p &&& (255 : Int32)).toUInt32.toUInt16.toUInt32.toInt32)), .val (.int ((((p.toUInt32 >>> ((8 : Int32) &&& 31).toUInt32).toInt32) &&& (255 : Int32)).toUInt32.toUInt16.toUInt32.toInt32)), .val (.int ((((p.toUInt32 >>> ((16 : Int32) &&& 31).toUInt32).toInt32) &&& (255 : Int32)).toUInt32.toUInt16.toUInt32.toInt32))] [(.ref o5)]
        have X14 : Ext h h6 := Own.Ext.tr X8 E6
        have X15 : Ext h h7 := Own.Ext.wr' X14 Q7 (Nat.le_trans X8.1 (Nat.le_of_eq g6.symm))
        have X16 : Ext h h9 := Own.Ext.wr' X15 Q9 (Nat.le_trans X8.1 (Nat.le_of_eq g6.symm))
        have X17 : Ext h h13 := Own.Ext.kp X16 K13 (allS (Nat.le_of_eq g5.symm) all0)
        exact Own.retA W13 (by decide) (by decide) rfl rfl rfl d1_68 ⟨o5, [((p &&& (255 : Int32)).toUInt32.toUInt16.toUInt32.toInt32), ((((p.toUInt32 >>> ((8 : Int32) &&& 31).toUInt32).toInt32) &&& (255 : Int32)).toUInt32.toUInt16.toUInt32.toInt32)], rfl, X17, F13, Nat.le_of_ble_eq_true rfl⟩
      · skip
        refine Own.icmpYes W0 d1_47 69 (XT.ii_ne_t e2) (by decide) (by decide) ?_
        refine Own.newO W0 (tw hw 112 rfl) (tw hw 6 rfl) (tw hw 5 rfl) d1_69 72 rfl 1 4 (by decide) (by decide) (by decide) (by decide) ?_
        intro T18 h18 o18 g18 W18 E18 A18 D18 s18 k18
        have F18_value : Fld G.Z h18 o18 "java/lang/String" "value" "[B" .null := D18 (Or.inr (tw hw 8 rfl)) (ty := (.array .byte)) (by decide)
        have F18_coder : Fld G.Z h18 o18 "java/lang/String" "coder" "B" (.int (0 : Int32)) := D18 (Or.inr (tw hw 9 rfl)) (ty := .byte) (by decide)
        refine Own.dup W18 d1_72 73 rfl rfl ?_
        refine Own.iconst W18 d1_73 74 rfl (3 : Int32) rfl ?_
        refine Own.newA W18 (tw hw 113 rfl) d1_74 76 rfl (by decide) 3 (by decide) (by decide) 2 7 (by decide) (by decide) (by decide) (by decide) ?_
        intro T19 h19 o19 c19 g19 W19 E19 A19 s19 k19
        have V19 : Arv G.Z h19 o19 c19 .char (3 : Int32) [(.int (0 : Int32)), (.int (0 : Int32)), (.int (0 : Int32))] (.int (0 : Int32)) := A19
        refine Own.dup W19 d1_76 77 rfl rfl ?_
        refine Own.iconst W19 d1_77 78 rfl (0 : Int32) rfl ?_
        refine Own.iloadN W19 d1_78 79 rfl ((p &&& (255 : Int32)).toUInt32.toUInt16.toUInt32.toInt32) rfl ?_
        have X21 : Ext h h18 := E18
        refine Own.castore W19 V19 0 (by decide) (by decide) (Nat.le_of_ble_eq_true rfl) (Nat.le_trans W0.n0 (Nat.le_trans X21.1 (Nat.le_of_eq g19.symm))) (x' := ((p &&& (255 : Int32)).toUInt32.toUInt16.toUInt32.toInt32)) (Own.nar_lo _) d1_79 80 rfl ?_
        intro T20 h20 W20 Q20 A20 k20
        have V20 : Arv G.Z h20 o19 c19 .char (3 : Int32) [(.int ((p &&& (255 : Int32)).toUInt32.toUInt16.toUInt32.toInt32)), (.int (0 : Int32)), (.int (0 : Int32))] (.int (0 : Int32)) := A20
        refine Own.dup W20 d1_80 81 rfl rfl ?_
        refine Own.iconst W20 d1_81 82 rfl (1 : Int32) rfl ?_
        refine Own.iloadN W20 d1_82 83 rfl ((((p.toUInt32 >>> ((8 : Int32) &&& 31).toUInt32).toInt32) &&& (255 : Int32)).toUInt32.toUInt16.toUInt32.toInt32) rfl ?_
        refine Own.castore W20 V20 1 (by decide) (by decide) (Nat.le_of_ble_eq_true rfl) (Nat.le_trans W0.n0 (Nat.le_trans X21.1 (Nat.le_of_eq g19.symm))) (x' := ((((p.toUInt32 >>> ((8 : Int32) &&& 31).toUInt32).toInt32) &&& (255 : Int32)).toUInt32.toUInt16.toUInt32.toInt32)) (Own.nar_lo _) d1_83 84 rfl ?_
        intro T22 h22 W22 Q22 A22 k22
        have V22 : Arv G.Z h22 o19 c19 .char (3 : Int32) [(.int ((p &&& (255 : Int32)).toUInt32.toUInt16.toUInt32.toInt32)), (.int ((((p.toUInt32 >>> ((8 : Int32) &&& 31).toUInt32).toInt32) &&& (255 : Int32)).toUInt32.toUInt16.toUInt32.toInt32)), (.int (0 : Int32))] (.int (0 : Int32)) := A22
        refine Own.dup W22 d1_84 85 rfl rfl ?_
        refine Own.iconst W22 d1_85 86 rfl (2 : Int32) rfl ?_
        refine Own.iload W22 d1_86 88 rfl ((((p.toUInt32 >>> ((16 : Int32) &&& 31).toUInt32).toInt32) &&& (255 : Int32)).toUInt32.toUInt16.toUInt32.toInt32) rfl ?_
        refine Own.castore W22 V22 2 (by decide) (by decide) (Nat.le_of_ble_eq_true rfl) (Nat.le_trans W0.n0 (Nat.le_trans X21.1 (Nat.le_of_eq g19.symm))) (x' := ((((p.toUInt32 >>> ((16 : Int32) &&& 31).toUInt32).toInt32) &&& (255 : Int32)).toUInt32.toUInt16.toUInt32.toInt32)) (Own.nar_lo _) d1_88 89 rfl ?_
        intro T23 h23 W23 Q23 A23 k23
        have V23 : Arv G.Z h23 o19 c19 .char (3 : Int32) [(.int ((p &&& (255 : Int32)).toUInt32.toUInt16.toUInt32.toInt32)), (.int ((((p.toUInt32 >>> ((8 : Int32) &&& 31).toUInt32).toInt32) &&& (255 : Int32)).toUInt32.toUInt16.toUInt32.toInt32)), (.int ((((p.toUInt32 >>> ((16 : Int32) &&& 31).toUInt32).toInt32) &&& (255 : Int32)).toUInt32.toUInt16.toUInt32.toInt32))] (.int (0 : Int32)) := A23
        have X24 : Ext h18 h19 := E19
        have X25 : Ext h18 h20 := Own.Ext.wr' X24 Q20 (Nat.le_of_eq g19.symm)
        have X26 : Ext h18 h22 := Own.Ext.wr' X25 Q22 (Nat.le_of_eq g19.symm)
        have X27 : Ext h18 h23 := Own.Ext.wr' X26 Q23 (Nat.le_of_eq g19.symm)
        refine Own.callX W23 rfl (tw hw 114 rfl) (tw hw 115 rfl) (tw hw 116 rfl) (by decide) (argsL := [(.ref o19)]) (rest := [(.ref o18)]) (Own.payStrN (wS hw) W23 (cs := [((p &&& (255 : Int32)).toUInt32.toUInt16.toUInt32.toInt32), ((((p.toUInt32 >>> ((8 : Int32) &&& 31).toUInt32).toInt32) &&& (255 : Int32)).toUInt32.toUInt16.toUInt32.toInt32), ((((p.toUInt32 >>> ((16 : Int32) &&& 31).toUInt32).toInt32) &&& (255 : Int32)).toUInt32.toUInt16.toUInt32.toInt32)]) (z := (3 : Int32)) (cz := cz) (Nat.le_trans W0.n0 (Nat.le_of_eq g18.symm)) (k23 o18 (k22 o18 (k20 o18 (k19 o18 s18)))) (A18.ext X27) (F18_value.ext X27) (F18_coder.ext X27) (V23) (by simp) rfl (by intro c hc; simp only [List.mem_cons, List.not_mem_nil, or_false] at hc; rcases hc with rfl | rfl | rfl <;> exact Own.lo_rng _) (Nat.le_of_ble_eq_true rfl) hS hcz (len := 3) (wd := 1) (by decide) (by decide)) rfl (lenOf pd_27 rfl) rfl (Nat.le_of_ble_eq_true rfl) d1_89 92 rfl 3 10 (Nat.le_of_ble_eq_true rfl) (Nat.le_of_ble_eq_true rfl) (Nat.le_of_ble_eq_true rfl) (Nat.le_of_ble_eq_true rfl) ?_
        intro v28 T28 h28 u28 W28 R28 hq
        obtain ⟨rfl, K28, F28⟩ := hq
        show Own.Go _ _ _ _ _ 92 #[.val (.int p), .val (.int ln), .val (.int ((p &&& (255 : Int32)).toUInt32.toUInt16.toUInt32.toInt32)), .val (.int ((((p.toUInt32 >>> ((8 : Int32) &&& 31).toUInt32).toInt32) &&& (255 : Int32)).toUInt32.toUInt16.toUInt32.toInt32)), .val (.int ((((p.toUInt32 >>> ((16 : Int32) &&& 31).toUInt32).toInt32) &&& (255 : Int32)).toUInt32.toUInt16.toUInt32.toInt32))] [(.ref o18)]
        have X29 : Ext h h19 := Own.Ext.tr X21 E19
        have X30 : Ext h h20 := Own.Ext.wr' X29 Q20 (Nat.le_trans X21.1 (Nat.le_of_eq g19.symm))
        have X31 : Ext h h22 := Own.Ext.wr' X30 Q22 (Nat.le_trans X21.1 (Nat.le_of_eq g19.symm))
        have X32 : Ext h h23 := Own.Ext.wr' X31 Q23 (Nat.le_trans X21.1 (Nat.le_of_eq g19.symm))
        have X33 : Ext h h28 := Own.Ext.kp X32 K28 (allS (Nat.le_of_eq g18.symm) all0)
        exact Own.retA W28 (by decide) (by decide) rfl rfl rfl d1_92 ⟨o18, [((p &&& (255 : Int32)).toUInt32.toUInt16.toUInt32.toInt32), ((((p.toUInt32 >>> ((8 : Int32) &&& 31).toUInt32).toInt32) &&& (255 : Int32)).toUInt32.toUInt16.toUInt32.toInt32), ((((p.toUInt32 >>> ((16 : Int32) &&& 31).toUInt32).toInt32) &&& (255 : Int32)).toUInt32.toUInt16.toUInt32.toInt32)], rfl, X33, F28, Nat.le_of_ble_eq_true rfl⟩
set_option maxRecDepth 65536 in
set_option maxHeartbeats 40000000 in
theorem con_rn1 {G : Own.Gl} (hw : ∀ d ∈ tables_1, d.before G.a0 G.Z = true) (hEL : EW G.Z G.a0 G.EL) (a : Addr) {h : Heap} (hO : Old G.Z G.n0 h) :
    Own.Con G [] bRn1 #[.ref a] h [] (fun v h' => v = some (.ref a) ∧ h' = h) := by
  refine Own.Con.intro (plainFor_of_name pn_4) hO hEL _ (fun m => ef_bRn1 m a) ?_
  intro X T0 W0 sf
  refine Own.aloadN W0 d29_0 1 rfl (.ref a) rfl rfl ?_
  refine Own.ifnonnullYes W0 d29_1 12 (by decide) (by decide) ?_
  refine Own.aloadN W0 d29_12 13 rfl (.ref a) rfl rfl ?_
  exact Own.retA W0 (by decide) (by decide) rfl rfl rfl d29_13 ⟨rfl, rfl⟩
set_option maxRecDepth 65536 in
set_option maxHeartbeats 40000000 in
theorem con_abp {G : Own.Gl} (hw : ∀ d ∈ tables_1, d.before G.a0 G.Z = true) (hEL : EW G.Z G.a0 G.EL) {a : Addr} {h : Heap} (hO : Old G.Z G.n0 h) (hn_a : G.n0 ≤ a) (E : Exa G.Z h a "com/example/vectorfire/vectorfire/model/PackedLines") {u_modCount : Value} (F_modCount : Fld G.Z h a "java/util/AbstractList" "modCount" "I" u_modCount) {u_joined : Value} (F_joined : Fld G.Z h a "com/example/vectorfire/vectorfire/model/PackedLines" "joined" "Ljava/lang/String;" u_joined) {u_ends : Value} (F_ends : Fld G.Z h a "com/example/vectorfire/vectorfire/model/PackedLines" "ends" "[I" u_ends) :
    Own.Con G [] bAbp #[.ref a] h [] (fun v h' => v = none ∧ Keep h h' [a] ∧ Exa G.Z h' a "com/example/vectorfire/vectorfire/model/PackedLines" ∧ Fld G.Z h' a "com/example/vectorfire/vectorfire/model/PackedLines" "joined" "Ljava/lang/String;" u_joined ∧ Fld G.Z h' a "com/example/vectorfire/vectorfire/model/PackedLines" "ends" "[I" u_ends) := by
  refine Own.Con.intro (plainFor_of_name pn_1) hO hEL _ (fun m => ef_bAbp m a) ?_
  intro X T0 W0 sf
  refine Own.aloadN W0 d3_0 1 rfl (.ref a) rfl rfl ?_
  refine Own.callX W0 rfl (tw hw 24 rfl) (tw hw 25 rfl) (tw hw 29 rfl) (by decide) (argsL := []) (rest := []) (Own.Con.pay (con_ac hw hEL a W0.old) W0 (tw hw 29 rfl) (tw hw 28 rfl) (len := 3) (wd := 0) (by decide) (by decide) (fun _ q => nomatch q)) rfl (lenOf pd_0 rfl) rfl (Nat.le_of_ble_eq_true rfl) d3_1 4 rfl 0 0 (Nat.le_of_ble_eq_true rfl) (Nat.le_of_ble_eq_true rfl) (Nat.le_of_ble_eq_true rfl) (Nat.le_of_ble_eq_true rfl) ?_
  intro v1 T1 h1 u1 W1 R1 hq
  obtain ⟨rfl, eh1⟩ := hq
  have ei1 := eh1.symm; subst ei1
  show Own.Go _ _ _ _ _ 4 #[.val (.ref a)] []
  refine Own.aloadN W1 d3_4 5 rfl (.ref a) rfl rfl ?_
  refine Own.iconst W1 d3_5 6 rfl (0 : Int32) rfl ?_
  refine Own.putF W1 (tw hw 33 rfl) Via.refl F_modCount E (Or.inl (tw hw 275 rfl)) (tw hw 231 rfl) (ty := .int) (v' := (.int (0 : Int32))) (by decide) rfl rfl hn_a (Safe.exa W1.wz.alike E (by decide) (by decide)) d3_6 9 rfl ?_
  intro T2 h2 W2 Q2 k2
  have F2_modCount := Fld.same Q2 F_modCount
  exact Own.retV W2 (by decide) (by decide) rfl d3_9 ⟨rfl, (Keep.wr (Keep.refl h [a]) Q2 (Or.inl (by simp))), (E.wr Q2), (F_joined.other Q2 (Or.inr (slot_ne (Or.inr (tw hw 277 rfl)) (Or.inl (tw hw 275 rfl)) (by decide) (t := (.object "java/lang/String")) (t' := .int) (by decide) (by decide)))), (F_ends.other Q2 (Or.inr (slot_ne (Or.inr (tw hw 111 rfl)) (Or.inl (tw hw 275 rfl)) (by decide) (t := (.array .int)) (t' := .int) (by decide) (by decide))))⟩
set_option maxRecDepth 65536 in
set_option maxHeartbeats 40000000 in
theorem con_pli {G : Own.Gl} (hw : ∀ d ∈ tables_1, d.before G.a0 G.Z = true) (hEL : EW G.Z G.a0 G.EL) (jn en : Addr) {a : Addr} {h : Heap} (hO : Old G.Z G.n0 h) (hn_a : G.n0 ≤ a) (E : Exa G.Z h a "com/example/vectorfire/vectorfire/model/PackedLines") {u_modCount : Value} (F_modCount : Fld G.Z h a "java/util/AbstractList" "modCount" "I" u_modCount) {u_joined : Value} (F_joined : Fld G.Z h a "com/example/vectorfire/vectorfire/model/PackedLines" "joined" "Ljava/lang/String;" u_joined) {u_ends : Value} (F_ends : Fld G.Z h a "com/example/vectorfire/vectorfire/model/PackedLines" "ends" "[I" u_ends) :
    Own.Con G [] bPli #[.ref a, .ref jn, .ref en] h [] (fun v h' => v = none ∧ Keep h h' [a] ∧ Exa G.Z h' a "com/example/vectorfire/vectorfire/model/PackedLines" ∧ Fld G.Z h' a "com/example/vectorfire/vectorfire/model/PackedLines" "joined" "Ljava/lang/String;" (.ref jn) ∧ Fld G.Z h' a "com/example/vectorfire/vectorfire/model/PackedLines" "ends" "[I" (.ref en)) := by
  refine Own.Con.intro (plainFor_of_name pn_11) hO hEL _ (fun m => ef_bPli m a jn en) ?_
  intro X T0 W0 sf
  refine Own.aloadN W0 d49_0 1 rfl (.ref a) rfl rfl ?_
  refine Own.callX W0 rfl (tw hw 273 rfl) (tw hw 19 rfl) (tw hw 23 rfl) (by decide) (argsL := []) (rest := []) (Own.Con.pay (con_abp hw hEL W0.old hn_a E F_modCount F_joined F_ends) W0 (tw hw 23 rfl) (tw hw 22 rfl) (len := 3) (wd := 0) (by decide) (by decide) (fun _ q => nomatch q)) rfl (lenOf pd_0 rfl) rfl (Nat.le_of_ble_eq_true rfl) d49_1 4 rfl 0 0 (Nat.le_of_ble_eq_true rfl) (Nat.le_of_ble_eq_true rfl) (Nat.le_of_ble_eq_true rfl) (Nat.le_of_ble_eq_true rfl) ?_
  intro v1 T1 h1 u1 W1 R1 hq
  obtain ⟨rfl, K1, E1, Fj1, Fe1⟩ := hq
  show Own.Go _ _ _ _ _ 4 #[.val (.ref a), .val (.ref jn), .val (.ref en)] []
  refine Own.aloadN W1 d49_4 5 rfl (.ref a) rfl rfl ?_
  refine Own.aloadN W1 d49_5 6 rfl (.ref jn) rfl rfl ?_
  refine Own.putF W1 (tw hw 276 rfl) Via.refl Fj1 E1 (Or.inr ⟨(tw hw 277 rfl), rfl, rfl⟩) (tw hw 231 rfl) (ty := (.object "java/lang/String")) (v' := (.ref jn)) (by decide) rfl rfl hn_a (Safe.exa W1.wz.alike E1 (by decide) (by decide)) d49_6 9 rfl ?_
  intro T2 h2 W2 Q2 k2
  have F2_joined := Fld.same Q2 Fj1
  refine Own.aloadN W2 d49_9 10 rfl (.ref a) rfl rfl ?_
  refine Own.aloadN W2 d49_10 11 rfl (.ref en) rfl rfl ?_
  refine Own.putF W2 (tw hw 110 rfl) Via.refl (Fe1.other Q2 (Or.inr (slot_ne (Or.inr (tw hw 111 rfl)) (Or.inr (tw hw 277 rfl)) (by decide) (t := (.array .int)) (t' := (.object "java/lang/String")) (by decide) (by decide)))) (E1.wr Q2) (Or.inr ⟨(tw hw 111 rfl), rfl, rfl⟩) (tw hw 231 rfl) (ty := (.array .int)) (v' := (.ref en)) (by decide) rfl rfl hn_a (Safe.exa W2.wz.alike (E1.wr Q2) (by decide) (by decide)) d49_11 14 rfl ?_
  intro T3 h3 W3 Q3 k3
  have F3_ends := Fld.same Q3 (Fe1.other Q2 (Or.inr (slot_ne (Or.inr (tw hw 111 rfl)) (Or.inr (tw hw 277 rfl)) (by decide) (t := (.array .int)) (t' := (.object "java/lang/String")) (by decide) (by decide))))
  exact Own.retV W3 (by decide) (by decide) rfl d49_14 ⟨rfl, (Keep.wr (Keep.wr (Keep.trans (Keep.refl h [a]) K1 (by intro y hy; simp only [List.mem_cons, List.not_mem_nil, or_false] at hy; rcases hy with rfl; exact (Or.inl (by simp)))) Q2 (Or.inl (by simp))) Q3 (Or.inl (by simp))), ((E1.wr Q2).wr Q3), (F2_joined.other Q3 (Or.inr (slot_ne (Or.inr (tw hw 277 rfl)) (Or.inr (tw hw 111 rfl)) (by decide) (t := (.object "java/lang/String")) (t' := (.array .int)) (by decide) (by decide)))), F3_ends⟩
set_option maxRecDepth 65536 in
set_option maxHeartbeats 40000000 in
theorem con_cpy0 {G : Own.Gl} (hw : ∀ d ∈ tables_1, d.before G.a0 G.Z = true) (hEL : EW G.Z G.a0 G.EL) (hmem : True) {cz : Int32} (hS : Sta G.Z G.Z.heap Own.ST "COMPACT_STRINGS" "Z" (.int cz)) (hcz : ¬ cz = 0) (hEN : Own.EN G.Z G.a0 G.EL 16) {dc : Addr} {kD : ClassId} (DS : Sta G.Z G.Z.heap "java/util/ArrayList" "DEFAULTCAPACITY_EMPTY_ELEMENTDATA" "[Ljava/lang/Object;" (.ref dc)) (DA : Arv G.Z G.Z.heap dc kD (.object "java/lang/Object") 0 [] .null) {rn en0 : Addr} {k0 : ClassId} (TN : Sta G.Z G.Z.heap "com/example/vectorfire/vectorfire/model/PackedLines" "NONE" "Lcom/example/vectorfire/vectorfire/model/PackedLines;" (.ref rn)) (XN : Exa G.Z G.Z.heap rn "com/example/vectorfire/vectorfire/model/PackedLines") (FN : Fld G.Z G.Z.heap rn "com/example/vectorfire/vectorfire/model/PackedLines" "ends" "[I" (.ref en0)) (AN : Arv G.Z G.Z.heap en0 k0 .int 0 [] (.int 0)) {l  : Addr} {h : Heap} (hO : Old G.Z G.n0 h) (F : Own.AL G.Z h l 0 dc) :
    Own.Con G [] bCpy0 #[.ref l] h [] (fun v h' => v = some (.ref rn) ∧ Ext h h') := by
  refine Own.Con.intro (plainFor_of_name pn_11) hO hEL _ (fun m => ef_bCpy0 m l) ?_
  intro X T0 W0 sf
  refine Own.newO W0 (tw hw 42 rfl) (tw hw 43 rfl) (tw hw 44 rfl) d6_0 3 rfl 1 4 (by decide) (by decide) (by decide) (by decide) ?_
  intro T1 h1 o1 g1 W1 E1 A1 D1 s1 k1
  have F1_value : Fld G.Z h1 o1 "java/lang/AbstractStringBuilder" "value" "[B" .null := D1 (Or.inl (tw hw 57 rfl)) (ty := (.array .byte)) (by decide)
  have F1_coder : Fld G.Z h1 o1 "java/lang/AbstractStringBuilder" "coder" "B" (.int (0 : Int32)) := D1 (Or.inl (tw hw 59 rfl)) (ty := .byte) (by decide)
  have F1_count : Fld G.Z h1 o1 "java/lang/AbstractStringBuilder" "count" "I" (.int (0 : Int32)) := D1 (Or.inl (tw hw 195 rfl)) (ty := .int) (by decide)
  refine Own.dup W1 d6_3 4 rfl rfl ?_
  refine Own.callX W1 rfl (tw hw 45 rfl) (tw hw 46 rfl) (tw hw 47 rfl) (by decide) (argsL := []) (rest := [(.ref o1)]) (Own.Con.pay (con_si hw hEL hmem hS hcz W1.old (Nat.le_trans W0.n0 (Nat.le_of_eq g1.symm)) A1 F1_value F1_coder F1_count) W1 (tw hw 47 rfl) (tw hw 44 rfl) (len := 3) (wd := 1) (by decide) (by decide) (fun _ q => nomatch q)) rfl (lenOf pd_0 rfl) rfl (Nat.le_of_ble_eq_true rfl) d6_4 7 rfl 2 20 (Nat.le_of_ble_eq_true rfl) (Nat.le_of_ble_eq_true rfl) (Nat.le_of_ble_eq_true rfl) (Nat.le_of_ble_eq_true rfl) ?_
  intro v2 T2 h2 u2 W2 R2 hq
  obtain ⟨rfl, K2, b2, g2, F2⟩ := hq
  show Own.Go _ _ _ _ _ 7 #[.val (.ref l), .unset, .unset, .unset] [(.ref o1)]
  refine Own.astoreN W2 d6_7 8 rfl rfl #[.val (.ref l), .val (.ref o1), .unset, .unset] rfl ?_
  refine Own.aloadN W2 d6_8 9 rfl (.ref l) rfl rfl ?_
  have X4 : Ext h h1 := E1
  have X5 : Ext h h2 := Own.Ext.kp X4 K2 (allS (Nat.le_of_eq g1.symm) all0)
  have XL3 := (F.ext X5).exa
  refine Own.callI W2 (tw hw 60 rfl) (tw hw 61 rfl) (tw hw 62 rfl) rfl (tw hw 63 rfl) (tw hw 64 rfl) (tw hw 65 rfl) (tw hw 66 rfl) (tw hw 67 rfl) (by decide) (argsL := []) (rest := []) (Own.Con.pay (con_sz hw hEL W2.old (F.ext X5)) W2 (tw hw 68 rfl) (tw hw 14 rfl) (len := 5) (wd := 0) (by decide) (by decide) (fun _ q => nomatch q)) XL3 rfl (lenOf pd_11 rfl) rfl (Nat.le_of_ble_eq_true rfl) d6_9 14 rfl 2 20 (Nat.le_of_ble_eq_true rfl) (Nat.le_of_ble_eq_true rfl) (Nat.le_of_ble_eq_true rfl) (Nat.le_of_ble_eq_true rfl) ?_
  intro v6 T6 h6 u6 W6 R6 hq
  obtain ⟨rfl, eh6⟩ := hq
  have ei6 := eh6.symm; subst ei6
  show Own.Go _ _ _ _ _ 14 #[.val (.ref l), .val (.ref o1), .unset, .unset] [(.int (0 : Int32))]
  refine Own.newA W6 (tw hw 71 rfl) d6_14 16 rfl (by decide) 0 (by decide) (by decide) 3 20 (by decide) (by decide) (by decide) (by decide) ?_
  intro T7 h7 o7 c7 g7 W7 E7 A7 s7 k7
  have V7 : Arv G.Z h7 o7 c7 .int (0 : Int32) [] (.int (0 : Int32)) := A7
  refine Own.astoreN W7 d6_16 17 rfl rfl #[.val (.ref l), .val (.ref o1), .val (.ref o7), .unset] rfl ?_
  refine Own.iconst W7 d6_17 18 rfl (0 : Int32) rfl ?_
  refine Own.istoreN W7 d6_18 19 rfl #[.val (.ref l), .val (.ref o1), .val (.ref o7), .val (.int (0 : Int32))] rfl ?_
  refine Own.iloadN W7 d6_19 20 rfl (0 : Int32) rfl ?_
  refine Own.aloadN W7 d6_20 21 rfl (.ref o7) rfl rfl ?_
  refine Own.arrlen W7 V7 d6_21 22 rfl ?_
  refine Own.icmpYes W7 d6_22 59 (by decide) (by decide) (by decide) ?_
  refine Own.aloadN W7 d6_59 60 rfl (.ref o7) rfl rfl ?_
  refine Own.arrlen W7 V7 d6_60 61 rfl ?_
  refine Own.ifNo W7 d6_61 64 (by decide) rfl ?_
  refine Own.getS W7 (tw hw 72 rfl) Via.refl (W7.sta TN) d6_64 67 rfl ?_
  intro T8 W8
  refine Own.goto W8 d6_67 82 (by decide) (by decide) ?_
  have X9 : Ext h h7 := Own.Ext.tr X5 E7
  exact Own.retA W8 (by decide) (by decide) rfl rfl rfl d6_82 ⟨rfl, X9⟩
set_option maxRecDepth 65536 in
set_option maxHeartbeats 40000000 in
theorem con_cpy1 {G : Own.Gl} (hw : ∀ d ∈ tables_1, d.before G.a0 G.Z = true) (hEL : EW G.Z G.a0 G.EL) (hmem : True) {cz : Int32} (hS : Sta G.Z G.Z.heap Own.ST "COMPACT_STRINGS" "Z" (.int cz)) (hcz : ¬ cz = 0) (hEN : Own.EN G.Z G.a0 G.EL 16) {dc : Addr} {kD : ClassId} (DS : Sta G.Z G.Z.heap "java/util/ArrayList" "DEFAULTCAPACITY_EMPTY_ELEMENTDATA" "[Ljava/lang/Object;" (.ref dc)) (DA : Arv G.Z G.Z.heap dc kD (.object "java/lang/Object") 0 [] .null) {rn en0 : Addr} {k0 : ClassId} (TN : Sta G.Z G.Z.heap "com/example/vectorfire/vectorfire/model/PackedLines" "NONE" "Lcom/example/vectorfire/vectorfire/model/PackedLines;" (.ref rn)) (XN : Exa G.Z G.Z.heap rn "com/example/vectorfire/vectorfire/model/PackedLines") (FN : Fld G.Z G.Z.heap rn "com/example/vectorfire/vectorfire/model/PackedLines" "ends" "[I" (.ref en0)) (AN : Arv G.Z G.Z.heap en0 k0 .int 0 [] (.int 0)) {l e : Addr} {kA : ClassId} {x0 : Addr} {h : Heap} (hO : Old G.Z G.n0 h) (F : Own.AL G.Z h l 1 e) (A : Arv G.Z h e kA (.object "java/lang/Object") 10 [.ref x0, .null, .null, .null, .null, .null, .null, .null, .null, .null] .null) {cs0 : List Int32} (S0 : Own.Str G.Z h x0 cs0) (q0 : cs0.length ≤ 3) :
    Own.Con G [] bCpy1 #[.ref l] h [] (fun v h' => ∃ (r j en : Addr) (kE : ClassId), v = some (.ref r) ∧ Ext h h' ∧ h.size ≤ r ∧ h.size ≤ j ∧ h.size ≤ en ∧ Exa G.Z h' r "com/example/vectorfire/vectorfire/model/PackedLines" ∧ Fld G.Z h' r "com/example/vectorfire/vectorfire/model/PackedLines" "joined" "Ljava/lang/String;" (.ref j) ∧ Fld G.Z h' r "com/example/vectorfire/vectorfire/model/PackedLines" "ends" "[I" (.ref en) ∧ Own.Str G.Z h' j ([] ++ cs0) ∧ Arv G.Z h' en kE .int 1 [.int (Int32.ofNat ([] ++ cs0).length)] (.int 0)) := by
  refine Own.Con.intro (plainFor_of_name pn_11) hO hEL _ (fun m => ef_bCpy1 m l) ?_
  intro X T0 W0 sf
  have X0 := S0.exa
  refine Own.newO W0 (tw hw 42 rfl) (tw hw 43 rfl) (tw hw 44 rfl) d6_0 3 rfl 1 4 (by decide) (by decide) (by decide) (by decide) ?_
  intro T1 h1 o1 g1 W1 E1 A1 D1 s1 k1
  have F1_value : Fld G.Z h1 o1 "java/lang/AbstractStringBuilder" "value" "[B" .null := D1 (Or.inl (tw hw 57 rfl)) (ty := (.array .byte)) (by decide)
  have F1_coder : Fld G.Z h1 o1 "java/lang/AbstractStringBuilder" "coder" "B" (.int (0 : Int32)) := D1 (Or.inl (tw hw 59 rfl)) (ty := .byte) (by decide)
  have F1_count : Fld G.Z h1 o1 "java/lang/AbstractStringBuilder" "count" "I" (.int (0 : Int32)) := D1 (Or.inl (tw hw 195 rfl)) (ty := .int) (by decide)
  refine Own.dup W1 d6_3 4 rfl rfl ?_
  refine Own.callX W1 rfl (tw hw 45 rfl) (tw hw 46 rfl) (tw hw 47 rfl) (by decide) (argsL := []) (rest := [(.ref o1)]) (Own.Con.pay (con_si hw hEL hmem hS hcz W1.old (Nat.le_trans W0.n0 (Nat.le_of_eq g1.symm)) A1 F1_value F1_coder F1_count) W1 (tw hw 47 rfl) (tw hw 44 rfl) (len := 3) (wd := 1) (by decide) (by decide) (fun _ q => nomatch q)) rfl (lenOf pd_0 rfl) rfl (Nat.le_of_ble_eq_true rfl) d6_4 7 rfl 2 20 (Nat.le_of_ble_eq_true rfl) (Nat.le_of_ble_eq_true rfl) (Nat.le_of_ble_eq_true rfl) (Nat.le_of_ble_eq_true rfl) ?_
  intro v2 T2 h2 u2 W2 R2 hq
  obtain ⟨rfl, K2, b2, g2, F2⟩ := hq
  show Own.Go _ _ _ _ _ 7 #[.val (.ref l), .unset, .unset, .unset] [(.ref o1)]
  refine Own.astoreN W2 d6_7 8 rfl rfl #[.val (.ref l), .val (.ref o1), .unset, .unset] rfl ?_
  refine Own.aloadN W2 d6_8 9 rfl (.ref l) rfl rfl ?_
  have X4 : Ext h h1 := E1
  have X5 : Ext h h2 := Own.Ext.kp X4 K2 (allS (Nat.le_of_eq g1.symm) all0)
  have XL3 := (F.ext X5).exa
  refine Own.callI W2 (tw hw 60 rfl) (tw hw 61 rfl) (tw hw 62 rfl) rfl (tw hw 63 rfl) (tw hw 64 rfl) (tw hw 65 rfl) (tw hw 66 rfl) (tw hw 67 rfl) (by decide) (argsL := []) (rest := []) (Own.Con.pay (con_sz hw hEL W2.old (F.ext X5)) W2 (tw hw 68 rfl) (tw hw 14 rfl) (len := 5) (wd := 0) (by decide) (by decide) (fun _ q => nomatch q)) XL3 rfl (lenOf pd_11 rfl) rfl (Nat.le_of_ble_eq_true rfl) d6_9 14 rfl 2 20 (Nat.le_of_ble_eq_true rfl) (Nat.le_of_ble_eq_true rfl) (Nat.le_of_ble_eq_true rfl) (Nat.le_of_ble_eq_true rfl) ?_
  intro v6 T6 h6 u6 W6 R6 hq
  obtain ⟨rfl, eh6⟩ := hq
  have ei6 := eh6.symm; subst ei6
  show Own.Go _ _ _ _ _ 14 #[.val (.ref l), .val (.ref o1), .unset, .unset] [(.int (1 : Int32))]
  refine Own.newA W6 (tw hw 71 rfl) d6_14 16 rfl (by decide) 1 (by decide) (by decide) 3 21 (by decide) (by decide) (by decide) (by decide) ?_
  intro T7 h7 o7 c7 g7 W7 E7 A7 s7 k7
  have V7 : Arv G.Z h7 o7 c7 .int (1 : Int32) [(.int (0 : Int32))] (.int (0 : Int32)) := A7
  refine Own.astoreN W7 d6_16 17 rfl rfl #[.val (.ref l), .val (.ref o1), .val (.ref o7), .unset] rfl ?_
  refine Own.iconst W7 d6_17 18 rfl (0 : Int32) rfl ?_
  refine Own.istoreN W7 d6_18 19 rfl #[.val (.ref l), .val (.ref o1), .val (.ref o7), .val (.int (0 : Int32))] rfl ?_
  refine Own.iloadN W7 d6_19 20 rfl (0 : Int32) rfl ?_
  refine Own.aloadN W7 d6_20 21 rfl (.ref o7) rfl rfl ?_
  refine Own.arrlen W7 V7 d6_21 22 rfl ?_
  refine Own.icmpNo W7 d6_22 25 (by decide) rfl ?_
  refine Own.aloadN W7 d6_25 26 rfl (.ref o1) rfl rfl ?_
  refine Own.aloadN W7 d6_26 27 rfl (.ref l) rfl rfl ?_
  refine Own.iloadN W7 d6_27 28 rfl (0 : Int32) rfl ?_
  have X9 : Ext h h7 := Own.Ext.tr X5 E7
  have XL8 := (F.ext X9).exa
  refine Own.callI W7 (tw hw 149 rfl) (tw hw 150 rfl) (tw hw 151 rfl) rfl (tw hw 152 rfl) (tw hw 153 rfl) (tw hw 154 rfl) (tw hw 155 rfl) (tw hw 67 rfl) (by decide) (argsL := [(.int (0 : Int32))]) (rest := [(.ref o1)]) (Own.Con.pay (con_get hw hEL (0 : Int32) (by decide) (by decide) (by decide) W7.old (F.ext X9) (A.ext X9) (y := x0) rfl) W7 (tw hw 156 rfl) (tw hw 14 rfl) (len := 5) (wd := 1) (by decide) (by decide) (fun _ q => nomatch q)) XL8 rfl (lenOf pd_6 rfl) rfl (Nat.le_of_ble_eq_true rfl) d6_28 33 rfl 3 21 (Nat.le_of_ble_eq_true rfl) (Nat.le_of_ble_eq_true rfl) (Nat.le_of_ble_eq_true rfl) (Nat.le_of_ble_eq_true rfl) ?_
  intro v10 T10 h10 u10 W10 R10 hq
  obtain ⟨rfl, eh10⟩ := hq
  have ei10 := eh10.symm; subst ei10
  have sf11 := R10.safe V7.lt s7
  show Own.Go _ _ _ _ _ 33 #[.val (.ref l), .val (.ref o1), .val (.ref o7), .val (.int (0 : Int32))] [(.ref x0), (.ref o1)]
  refine Own.castY W10 (tw hw 170 rfl) (Ins.self (X0.ext X9)) d6_33 36 rfl ?_
  intro T12 W12
  refine Own.callS W12 (tw hw 171 rfl) (tw hw 172 rfl) (tw hw 159 rfl) (tw hw 173 rfl) (by decide) (argsL := [(.ref x0)]) (rest := [(.ref o1)]) (Own.Con.pay (con_rn1 hw hEL x0 W12.old) W12 (tw hw 173 rfl) (tw hw 159 rfl) (len := 3) (wd := 1) (by decide) (by decide) (fun _ q => nomatch q)) rfl (lenOf pd_28 rfl) rfl (Nat.le_of_ble_eq_true rfl) d6_36 39 rfl 3 21 (Nat.le_of_ble_eq_true rfl) (Nat.le_of_ble_eq_true rfl) (Nat.le_of_ble_eq_true rfl) (Nat.le_of_ble_eq_true rfl) ?_
  intro v13 T13 h13 u13 W13 R13 hq
  obtain ⟨rfl, eh13⟩ := hq
  have ei13 := eh13.symm; subst ei13
  have sf14 := R13.safe V7.lt sf11
  show Own.Go _ _ _ _ _ 39 #[.val (.ref l), .val (.ref o1), .val (.ref o7), .val (.int (0 : Int32))] [(.ref x0), (.ref o1)]
  refine Own.castY W13 (tw hw 170 rfl) (Ins.self (X0.ext X9)) d6_39 42 rfl ?_
  intro T15 W15
  have X17 : Ext h2 h7 := E7
  have ZE16 := (F2.ext X17).exa
  refine Own.callV W15 (tw hw 174 rfl) (tw hw 175 rfl) (fun s q => notFace_of_selects (args := #[]) (mvT (s := s) q (tw hw 177 rfl))) (tw hw 177 rfl) (tw hw 176 rfl) (by decide) (argsL := [(.ref x0)]) (rest := []) (Own.Con.pay (con_app hw hEL hmem hS hcz hEN W15.old (Nat.le_trans W0.n0 (Nat.le_of_eq g1.symm)) (Nat.le_trans W0.n0 (Nat.le_trans X4.1 g2)) (Nat.ne_of_lt (Nat.lt_of_lt_of_le A1.lt g2)) (F2.ext X17) (S0.ext X9) (by simp only [List.length_append, List.length_nil]; omega)) W15 (tw hw 178 rfl) (tw hw 44 rfl) (len := 3) (wd := 0) (by decide) (by decide) (fun _ q => nomatch q)) ZE16 rfl (lenOf pd_29 rfl) rfl (Nat.le_of_ble_eq_true rfl) d6_42 45 rfl 3 21 (Nat.le_of_ble_eq_true rfl) (Nat.le_of_ble_eq_true rfl) (Nat.le_of_ble_eq_true rfl) (Nat.le_of_ble_eq_true rfl) ?_
  intro v18 T18 h18 u18 W18 R18 hq
  obtain ⟨rfl, K18, F18⟩ := hq
  show Own.Go _ _ _ _ _ 45 #[.val (.ref l), .val (.ref o1), .val (.ref o7), .val (.int (0 : Int32))] [(.ref o1)]
  refine Own.pop W18 d6_45 46 rfl rfl ?_
  refine Own.aloadN W18 d6_46 47 rfl (.ref o7) rfl rfl ?_
  refine Own.iloadN W18 d6_47 48 rfl (0 : Int32) rfl ?_
  refine Own.aloadN W18 d6_48 49 rfl (.ref o1) rfl rfl ?_
  have ZE19 := F18.exa
  refine Own.callV W18 (tw hw 221 rfl) (tw hw 222 rfl) (fun s q => notFace_of_selects (args := #[]) (mvT (s := s) q (tw hw 224 rfl))) (tw hw 224 rfl) (tw hw 223 rfl) (by decide) (argsL := []) (rest := [(.int (0 : Int32)), (.ref o7)]) (Own.Con.pay (con_sbl hw hEL W18.old F18) W18 (tw hw 225 rfl) (tw hw 44 rfl) (len := 3) (wd := 2) (by decide) (by decide) (fun _ q => nomatch q)) ZE19 rfl (lenOf pd_11 rfl) rfl (Nat.le_of_ble_eq_true rfl) d6_49 52 rfl 3 21 (Nat.le_of_ble_eq_true rfl) (Nat.le_of_ble_eq_true rfl) (Nat.le_of_ble_eq_true rfl) (Nat.le_of_ble_eq_true rfl) ?_
  intro v20 T20 h20 u20 W20 R20 hq
  obtain ⟨rfl, eh20⟩ := hq
  have ei20 := eh20.symm; subst ei20
  have sf21 := R20.safe (V7.keep K18 (ninS (Ne.symm (Nat.ne_of_lt (Nat.lt_of_lt_of_le A1.lt (Nat.le_trans (Nat.le_trans (Nat.le_refl _) K2.1) (Nat.le_of_eq g7.symm))))) (ninS (Ne.symm (Nat.ne_of_lt (Nat.lt_of_lt_of_le F2.ltb (Nat.le_of_eq g7.symm)))) nin0))).lt (R18.safe V7.lt sf14)
  show Own.Go _ _ _ _ _ 52 #[.val (.ref l), .val (.ref o1), .val (.ref o7), .val (.int (0 : Int32))] [(.int (Int32.ofNat ([] ++ cs0).length)), (.int (0 : Int32)), (.ref o7)]
  refine Own.iastore W20 (V7.keep K18 (ninS (Ne.symm (Nat.ne_of_lt (Nat.lt_of_lt_of_le A1.lt (Nat.le_trans (Nat.le_trans (Nat.le_refl _) K2.1) (Nat.le_of_eq g7.symm))))) (ninS (Ne.symm (Nat.ne_of_lt (Nat.lt_of_lt_of_le F2.ltb (Nat.le_of_eq g7.symm)))) nin0))) 0 (by decide) (by decide) (Nat.le_of_ble_eq_true rfl) (Nat.le_trans W0.n0 (Nat.le_trans X5.1 (Nat.le_of_eq g7.symm))) d6_52 53 rfl ?_
  intro T22 h22 W22 Q22 A22 k22
  have V22 : Arv G.Z h22 o7 c7 .int (1 : Int32) [(.int (Int32.ofNat ([] ++ cs0).length))] (.int (0 : Int32)) := A22
  refine Own.iinc W22 d6_53 56 rfl rfl #[.val (.ref l), .val (.ref o1), .val (.ref o7), .val (.int (1 : Int32))] rfl ?_
  refine Own.goto W22 d6_56 19 (by decide) (by decide) ?_
  refine Own.iloadN W22 d6_19 20 rfl (1 : Int32) rfl ?_
  refine Own.aloadN W22 d6_20 21 rfl (.ref o7) rfl rfl ?_
  refine Own.arrlen W22 V22 d6_21 22 rfl ?_
  refine Own.icmpYes W22 d6_22 59 (by decide) (by decide) (by decide) ?_
  refine Own.aloadN W22 d6_59 60 rfl (.ref o7) rfl rfl ?_
  refine Own.arrlen W22 V22 d6_60 61 rfl ?_
  refine Own.ifYes W22 d6_61 70 (by decide) (by decide) (by decide) ?_
  refine Own.newO W22 (tw hw 230 rfl) (tw hw 231 rfl) (tw hw 40 rfl) d6_70 73 rfl 4 24 (by decide) (by decide) (by decide) (by decide) ?_
  intro T23 h23 o23 g23 W23 E23 A23 D23 s23 k23
  have F23_ends : Fld G.Z h23 o23 "com/example/vectorfire/vectorfire/model/PackedLines" "ends" "[I" .null := D23 (Or.inr (tw hw 111 rfl)) (ty := (.array .int)) (by decide)
  have F23_modCount : Fld G.Z h23 o23 "java/util/AbstractList" "modCount" "I" (.int (0 : Int32)) := D23 (Or.inl (tw hw 275 rfl)) (ty := .int) (by decide)
  have F23_joined : Fld G.Z h23 o23 "com/example/vectorfire/vectorfire/model/PackedLines" "joined" "Ljava/lang/String;" .null := D23 (Or.inr (tw hw 277 rfl)) (ty := (.object "java/lang/String")) (by decide)
  refine Own.dup W23 d6_73 74 rfl rfl ?_
  refine Own.aloadN W23 d6_74 75 rfl (.ref o1) rfl rfl ?_
  have ZE24 := ((F18.other Q22 (Nat.ne_of_lt (Nat.lt_of_lt_of_le A1.lt (Nat.le_trans (Nat.le_trans (Nat.le_refl _) K2.1) (Nat.le_of_eq g7.symm)))) (Nat.ne_of_lt (Nat.lt_of_lt_of_le F2.ltb (Nat.le_of_eq g7.symm)))).ext E23).exa
  refine Own.callV W23 (tw hw 232 rfl) (tw hw 233 rfl) (fun s q => notFace_of_selects (args := #[]) (mvT (s := s) q (tw hw 235 rfl))) (tw hw 235 rfl) (tw hw 234 rfl) (by decide) (argsL := []) (rest := [(.ref o23), (.ref o23)]) (Own.Con.pay (con_tos hw hEL hmem hS hcz W23.old ((F18.other Q22 (Nat.ne_of_lt (Nat.lt_of_lt_of_le A1.lt (Nat.le_trans (Nat.le_trans (Nat.le_refl _) K2.1) (Nat.le_of_eq g7.symm)))) (Nat.ne_of_lt (Nat.lt_of_lt_of_le F2.ltb (Nat.le_of_eq g7.symm)))).ext E23) (by simp only [List.length_append, List.length_nil]; omega) (by simp only [List.length_append, List.length_nil]; omega)) W23 (tw hw 236 rfl) (tw hw 44 rfl) (len := 3) (wd := 2) (by decide) (by decide) (fun _ q => nomatch q)) ZE24 rfl (lenOf pd_30 rfl) rfl (Nat.le_of_ble_eq_true rfl) d6_75 78 rfl 6 44 (Nat.le_of_ble_eq_true rfl) (Nat.le_of_ble_eq_true rfl) (Nat.le_of_ble_eq_true rfl) (Nat.le_of_ble_eq_true rfl) ?_
  intro v25 T25 h25 u25 W25 R25 hq
  obtain ⟨o25, rfl, E25, g25, S25⟩ := hq
  show Own.Go _ _ _ _ _ 78 #[.val (.ref l), .val (.ref o1), .val (.ref o7), .val (.int (1 : Int32))] [(.ref o25), (.ref o23), (.ref o23)]
  refine Own.aloadN W25 d6_78 79 rfl (.ref o7) rfl rfl ?_
  have X26 : Ext h h18 := Own.Ext.kp X9 K18 (allS (Nat.le_of_eq g1.symm) (allS (Nat.le_trans X4.1 g2) all0))
  have X27 : Ext h h22 := Own.Ext.wr' X26 Q22 (Nat.le_trans X5.1 (Nat.le_of_eq g7.symm))
  have X28 : Ext h23 h25 := E25
  refine Own.callX W25 rfl (tw hw 270 rfl) (tw hw 271 rfl) (tw hw 272 rfl) (by decide) (argsL := [(.ref o25), (.ref o7)]) (rest := [(.ref o23)]) (Own.Con.pay (con_pli hw hEL o25 o7 W25.old (Nat.le_trans W0.n0 (Nat.le_trans X27.1 (Nat.le_of_eq g23.symm))) (A23.ext X28) (F23_modCount.ext X28) (F23_joined.ext X28) (F23_ends.ext X28)) W25 (tw hw 272 rfl) (tw hw 40 rfl) (len := 3) (wd := 1) (by decide) (by decide) (fun _ q => nomatch q)) rfl (lenOf pd_31 rfl) rfl (Nat.le_of_ble_eq_true rfl) d6_79 82 rfl 6 44 (Nat.le_of_ble_eq_true rfl) (Nat.le_of_ble_eq_true rfl) (Nat.le_of_ble_eq_true rfl) (Nat.le_of_ble_eq_true rfl) ?_
  intro v29 T29 h29 u29 W29 R29 hq
  obtain ⟨rfl, K29, E29, Fj29, Fe29⟩ := hq
  show Own.Go _ _ _ _ _ 82 #[.val (.ref l), .val (.ref o1), .val (.ref o7), .val (.int (1 : Int32))] [(.ref o23)]
  have X30 : Ext h h23 := Own.Ext.tr X27 E23
  have X31 : Ext h h25 := Own.Ext.tr X30 E25
  have X32 : Ext h h29 := Own.Ext.kp X31 K29 (allS (Nat.le_trans X27.1 (Nat.le_of_eq g23.symm)) all0)
  have X33 : Ext h22 h23 := E23
  have X34 : Ext h22 h25 := Own.Ext.tr X33 E25
  have X35 : Ext h22 h29 := Own.Ext.kp X34 K29 (allS (Nat.le_of_eq g23.symm) all0)
  exact Own.retA W29 (by decide) (by decide) rfl rfl rfl d6_82 ⟨o23, o25, o7, _, rfl, X32, (Nat.le_trans X27.1 (Nat.le_of_eq g23.symm)), (Nat.le_trans X30.1 g25), (Nat.le_trans X5.1 (Nat.le_of_eq g7.symm)), E29, Fj29, Fe29, (S25.keep K29 (ninS (Ne.symm (Nat.ne_of_lt (Nat.lt_of_lt_of_le A23.lt g25))) nin0) (by intro y hy; cases List.mem_singleton.mp hy; exact Own.noByteI (tw hw 231 rfl) (A23.ext X28))), (V22.ext X35)⟩
set_option maxRecDepth 65536 in
set_option maxHeartbeats 40000000 in
theorem con_cpy2 {G : Own.Gl} (hw : ∀ d ∈ tables_1, d.before G.a0 G.Z = true) (hEL : EW G.Z G.a0 G.EL) (hmem : True) {cz : Int32} (hS : Sta G.Z G.Z.heap Own.ST "COMPACT_STRINGS" "Z" (.int cz)) (hcz : ¬ cz = 0) (hEN : Own.EN G.Z G.a0 G.EL 16) {dc : Addr} {kD : ClassId} (DS : Sta G.Z G.Z.heap "java/util/ArrayList" "DEFAULTCAPACITY_EMPTY_ELEMENTDATA" "[Ljava/lang/Object;" (.ref dc)) (DA : Arv G.Z G.Z.heap dc kD (.object "java/lang/Object") 0 [] .null) {rn en0 : Addr} {k0 : ClassId} (TN : Sta G.Z G.Z.heap "com/example/vectorfire/vectorfire/model/PackedLines" "NONE" "Lcom/example/vectorfire/vectorfire/model/PackedLines;" (.ref rn)) (XN : Exa G.Z G.Z.heap rn "com/example/vectorfire/vectorfire/model/PackedLines") (FN : Fld G.Z G.Z.heap rn "com/example/vectorfire/vectorfire/model/PackedLines" "ends" "[I" (.ref en0)) (AN : Arv G.Z G.Z.heap en0 k0 .int 0 [] (.int 0)) {l e : Addr} {kA : ClassId} {x0 x1 : Addr} {h : Heap} (hO : Old G.Z G.n0 h) (F : Own.AL G.Z h l 2 e) (A : Arv G.Z h e kA (.object "java/lang/Object") 10 [.ref x0, .ref x1, .null, .null, .null, .null, .null, .null, .null, .null] .null) {cs0 : List Int32} (S0 : Own.Str G.Z h x0 cs0) (q0 : cs0.length ≤ 3) {cs1 : List Int32} (S1 : Own.Str G.Z h x1 cs1) (q1 : cs1.length ≤ 3) :
    Own.Con G [] bCpy2 #[.ref l] h [] (fun v h' => ∃ (r j en : Addr) (kE : ClassId), v = some (.ref r) ∧ Ext h h' ∧ h.size ≤ r ∧ h.size ≤ j ∧ h.size ≤ en ∧ Exa G.Z h' r "com/example/vectorfire/vectorfire/model/PackedLines" ∧ Fld G.Z h' r "com/example/vectorfire/vectorfire/model/PackedLines" "joined" "Ljava/lang/String;" (.ref j) ∧ Fld G.Z h' r "com/example/vectorfire/vectorfire/model/PackedLines" "ends" "[I" (.ref en) ∧ Own.Str G.Z h' j (([] ++ cs0) ++ cs1) ∧ Arv G.Z h' en kE .int 2 [.int (Int32.ofNat ([] ++ cs0).length), .int (Int32.ofNat (([] ++ cs0) ++ cs1).length)] (.int 0)) := by
  refine Own.Con.intro (plainFor_of_name pn_11) hO hEL _ (fun m => ef_bCpy2 m l) ?_
  intro X T0 W0 sf
  have X0 := S0.exa
  have X1 := S1.exa
  refine Own.newO W0 (tw hw 42 rfl) (tw hw 43 rfl) (tw hw 44 rfl) d6_0 3 rfl 1 4 (by decide) (by decide) (by decide) (by decide) ?_
  intro T1 h1 o1 g1 W1 E1 A1 D1 s1 k1
  have F1_value : Fld G.Z h1 o1 "java/lang/AbstractStringBuilder" "value" "[B" .null := D1 (Or.inl (tw hw 57 rfl)) (ty := (.array .byte)) (by decide)
  have F1_coder : Fld G.Z h1 o1 "java/lang/AbstractStringBuilder" "coder" "B" (.int (0 : Int32)) := D1 (Or.inl (tw hw 59 rfl)) (ty := .byte) (by decide)
  have F1_count : Fld G.Z h1 o1 "java/lang/AbstractStringBuilder" "count" "I" (.int (0 : Int32)) := D1 (Or.inl (tw hw 195 rfl)) (ty := .int) (by decide)
  refine Own.dup W1 d6_3 4 rfl rfl ?_
  refine Own.callX W1 rfl (tw hw 45 rfl) (tw hw 46 rfl) (tw hw 47 rfl) (by decide) (argsL := []) (rest := [(.ref o1)]) (Own.Con.pay (con_si hw hEL hmem hS hcz W1.old (Nat.le_trans W0.n0 (Nat.le_of_eq g1.symm)) A1 F1_value F1_coder F1_count) W1 (tw hw 47 rfl) (tw hw 44 rfl) (len := 3) (wd := 1) (by decide) (by decide) (fun _ q => nomatch q)) rfl (lenOf pd_0 rfl) rfl (Nat.le_of_ble_eq_true rfl) d6_4 7 rfl 2 20 (Nat.le_of_ble_eq_true rfl) (Nat.le_of_ble_eq_true rfl) (Nat.le_of_ble_eq_true rfl) (Nat.le_of_ble_eq_true rfl) ?_
  intro v2 T2 h2 u2 W2 R2 hq
  obtain ⟨rfl, K2, b2, g2, F2⟩ := hq
  show Own.Go _ _ _ _ _ 7 #[.val (.ref l), .unset, .unset, .unset] [(.ref o1)]
  refine Own.astoreN W2 d6_7 8 rfl rfl #[.val (.ref l), .val (.ref o1), .unset, .unset] rfl ?_
  refine Own.aloadN W2 d6_8 9 rfl (.ref l) rfl rfl ?_
  have X4 : Ext h h1 := E1
  have X5 : Ext h h2 := Own.Ext.kp X4 K2 (allS (Nat.le_of_eq g1.symm) all0)
  have XL3 := (F.ext X5).exa
  refine Own.callI W2 (tw hw 60 rfl) (tw hw 61 rfl) (tw hw 62 rfl) rfl (tw hw 63 rfl) (tw hw 64 rfl) (tw hw 65 rfl) (tw hw 66 rfl) (tw hw 67 rfl) (by decide) (argsL := []) (rest := []) (Own.Con.pay (con_sz hw hEL W2.old (F.ext X5)) W2 (tw hw 68 rfl) (tw hw 14 rfl) (len := 5) (wd := 0) (by decide) (by decide) (fun _ q => nomatch q)) XL3 rfl (lenOf pd_11 rfl) rfl (Nat.le_of_ble_eq_true rfl) d6_9 14 rfl 2 20 (Nat.le_of_ble_eq_true rfl) (Nat.le_of_ble_eq_true rfl) (Nat.le_of_ble_eq_true rfl) (Nat.le_of_ble_eq_true rfl) ?_
  intro v6 T6 h6 u6 W6 R6 hq
  obtain ⟨rfl, eh6⟩ := hq
  have ei6 := eh6.symm; subst ei6
  show Own.Go _ _ _ _ _ 14 #[.val (.ref l), .val (.ref o1), .unset, .unset] [(.int (2 : Int32))]
  refine Own.newA W6 (tw hw 71 rfl) d6_14 16 rfl (by decide) 2 (by decide) (by decide) 3 22 (by decide) (by decide) (by decide) (by decide) ?_
  intro T7 h7 o7 c7 g7 W7 E7 A7 s7 k7
  have V7 : Arv G.Z h7 o7 c7 .int (2 : Int32) [(.int (0 : Int32)), (.int (0 : Int32))] (.int (0 : Int32)) := A7
  refine Own.astoreN W7 d6_16 17 rfl rfl #[.val (.ref l), .val (.ref o1), .val (.ref o7), .unset] rfl ?_
  refine Own.iconst W7 d6_17 18 rfl (0 : Int32) rfl ?_
  refine Own.istoreN W7 d6_18 19 rfl #[.val (.ref l), .val (.ref o1), .val (.ref o7), .val (.int (0 : Int32))] rfl ?_
  refine Own.iloadN W7 d6_19 20 rfl (0 : Int32) rfl ?_
  refine Own.aloadN W7 d6_20 21 rfl (.ref o7) rfl rfl ?_
  refine Own.arrlen W7 V7 d6_21 22 rfl ?_
  refine Own.icmpNo W7 d6_22 25 (by decide) rfl ?_
  refine Own.aloadN W7 d6_25 26 rfl (.ref o1) rfl rfl ?_
  refine Own.aloadN W7 d6_26 27 rfl (.ref l) rfl rfl ?_
  refine Own.iloadN W7 d6_27 28 rfl (0 : Int32) rfl ?_
  have X9 : Ext h h7 := Own.Ext.tr X5 E7
  have XL8 := (F.ext X9).exa
  refine Own.callI W7 (tw hw 149 rfl) (tw hw 150 rfl) (tw hw 151 rfl) rfl (tw hw 152 rfl) (tw hw 153 rfl) (tw hw 154 rfl) (tw hw 155 rfl) (tw hw 67 rfl) (by decide) (argsL := [(.int (0 : Int32))]) (rest := [(.ref o1)]) (Own.Con.pay (con_get hw hEL (0 : Int32) (by decide) (by decide) (by decide) W7.old (F.ext X9) (A.ext X9) (y := x0) rfl) W7 (tw hw 156 rfl) (tw hw 14 rfl) (len := 5) (wd := 1) (by decide) (by decide) (fun _ q => nomatch q)) XL8 rfl (lenOf pd_6 rfl) rfl (Nat.le_of_ble_eq_true rfl) d6_28 33 rfl 3 22 (Nat.le_of_ble_eq_true rfl) (Nat.le_of_ble_eq_true rfl) (Nat.le_of_ble_eq_true rfl) (Nat.le_of_ble_eq_true rfl) ?_
  intro v10 T10 h10 u10 W10 R10 hq
  obtain ⟨rfl, eh10⟩ := hq
  have ei10 := eh10.symm; subst ei10
  have sf11 := R10.safe V7.lt s7
  show Own.Go _ _ _ _ _ 33 #[.val (.ref l), .val (.ref o1), .val (.ref o7), .val (.int (0 : Int32))] [(.ref x0), (.ref o1)]
  refine Own.castY W10 (tw hw 170 rfl) (Ins.self (X0.ext X9)) d6_33 36 rfl ?_
  intro T12 W12
  refine Own.callS W12 (tw hw 171 rfl) (tw hw 172 rfl) (tw hw 159 rfl) (tw hw 173 rfl) (by decide) (argsL := [(.ref x0)]) (rest := [(.ref o1)]) (Own.Con.pay (con_rn1 hw hEL x0 W12.old) W12 (tw hw 173 rfl) (tw hw 159 rfl) (len := 3) (wd := 1) (by decide) (by decide) (fun _ q => nomatch q)) rfl (lenOf pd_28 rfl) rfl (Nat.le_of_ble_eq_true rfl) d6_36 39 rfl 3 22 (Nat.le_of_ble_eq_true rfl) (Nat.le_of_ble_eq_true rfl) (Nat.le_of_ble_eq_true rfl) (Nat.le_of_ble_eq_true rfl) ?_
  intro v13 T13 h13 u13 W13 R13 hq
  obtain ⟨rfl, eh13⟩ := hq
  have ei13 := eh13.symm; subst ei13
  have sf14 := R13.safe V7.lt sf11
  show Own.Go _ _ _ _ _ 39 #[.val (.ref l), .val (.ref o1), .val (.ref o7), .val (.int (0 : Int32))] [(.ref x0), (.ref o1)]
  refine Own.castY W13 (tw hw 170 rfl) (Ins.self (X0.ext X9)) d6_39 42 rfl ?_
  intro T15 W15
  have X17 : Ext h2 h7 := E7
  have ZE16 := (F2.ext X17).exa
  refine Own.callV W15 (tw hw 174 rfl) (tw hw 175 rfl) (fun s q => notFace_of_selects (args := #[]) (mvT (s := s) q (tw hw 177 rfl))) (tw hw 177 rfl) (tw hw 176 rfl) (by decide) (argsL := [(.ref x0)]) (rest := []) (Own.Con.pay (con_app hw hEL hmem hS hcz hEN W15.old (Nat.le_trans W0.n0 (Nat.le_of_eq g1.symm)) (Nat.le_trans W0.n0 (Nat.le_trans X4.1 g2)) (Nat.ne_of_lt (Nat.lt_of_lt_of_le A1.lt g2)) (F2.ext X17) (S0.ext X9) (by simp only [List.length_append, List.length_nil]; omega)) W15 (tw hw 178 rfl) (tw hw 44 rfl) (len := 3) (wd := 0) (by decide) (by decide) (fun _ q => nomatch q)) ZE16 rfl (lenOf pd_29 rfl) rfl (Nat.le_of_ble_eq_true rfl) d6_42 45 rfl 3 22 (Nat.le_of_ble_eq_true rfl) (Nat.le_of_ble_eq_true rfl) (Nat.le_of_ble_eq_true rfl) (Nat.le_of_ble_eq_true rfl) ?_
  intro v18 T18 h18 u18 W18 R18 hq
  obtain ⟨rfl, K18, F18⟩ := hq
  show Own.Go _ _ _ _ _ 45 #[.val (.ref l), .val (.ref o1), .val (.ref o7), .val (.int (0 : Int32))] [(.ref o1)]
  refine Own.pop W18 d6_45 46 rfl rfl ?_
  refine Own.aloadN W18 d6_46 47 rfl (.ref o7) rfl rfl ?_
  refine Own.iloadN W18 d6_47 48 rfl (0 : Int32) rfl ?_
  refine Own.aloadN W18 d6_48 49 rfl (.ref o1) rfl rfl ?_
  have ZE19 := F18.exa
  refine Own.callV W18 (tw hw 221 rfl) (tw hw 222 rfl) (fun s q => notFace_of_selects (args := #[]) (mvT (s := s) q (tw hw 224 rfl))) (tw hw 224 rfl) (tw hw 223 rfl) (by decide) (argsL := []) (rest := [(.int (0 : Int32)), (.ref o7)]) (Own.Con.pay (con_sbl hw hEL W18.old F18) W18 (tw hw 225 rfl) (tw hw 44 rfl) (len := 3) (wd := 2) (by decide) (by decide) (fun _ q => nomatch q)) ZE19 rfl (lenOf pd_11 rfl) rfl (Nat.le_of_ble_eq_true rfl) d6_49 52 rfl 3 22 (Nat.le_of_ble_eq_true rfl) (Nat.le_of_ble_eq_true rfl) (Nat.le_of_ble_eq_true rfl) (Nat.le_of_ble_eq_true rfl) ?_
  intro v20 T20 h20 u20 W20 R20 hq
  obtain ⟨rfl, eh20⟩ := hq
  have ei20 := eh20.symm; subst ei20
  have sf21 := R20.safe (V7.keep K18 (ninS (Ne.symm (Nat.ne_of_lt (Nat.lt_of_lt_of_le A1.lt (Nat.le_trans (Nat.le_trans (Nat.le_refl _) K2.1) (Nat.le_of_eq g7.symm))))) (ninS (Ne.symm (Nat.ne_of_lt (Nat.lt_of_lt_of_le F2.ltb (Nat.le_of_eq g7.symm)))) nin0))).lt (R18.safe V7.lt sf14)
  show Own.Go _ _ _ _ _ 52 #[.val (.ref l), .val (.ref o1), .val (.ref o7), .val (.int (0 : Int32))] [(.int (Int32.ofNat ([] ++ cs0).length)), (.int (0 : Int32)), (.ref o7)]
  refine Own.iastore W20 (V7.keep K18 (ninS (Ne.symm (Nat.ne_of_lt (Nat.lt_of_lt_of_le A1.lt (Nat.le_trans (Nat.le_trans (Nat.le_refl _) K2.1) (Nat.le_of_eq g7.symm))))) (ninS (Ne.symm (Nat.ne_of_lt (Nat.lt_of_lt_of_le F2.ltb (Nat.le_of_eq g7.symm)))) nin0))) 0 (by decide) (by decide) (Nat.le_of_ble_eq_true rfl) (Nat.le_trans W0.n0 (Nat.le_trans X5.1 (Nat.le_of_eq g7.symm))) d6_52 53 rfl ?_
  intro T22 h22 W22 Q22 A22 k22
  have V22 : Arv G.Z h22 o7 c7 .int (2 : Int32) [(.int (Int32.ofNat ([] ++ cs0).length)), (.int (0 : Int32))] (.int (0 : Int32)) := A22
  refine Own.iinc W22 d6_53 56 rfl rfl #[.val (.ref l), .val (.ref o1), .val (.ref o7), .val (.int (1 : Int32))] rfl ?_
  refine Own.goto W22 d6_56 19 (by decide) (by decide) ?_
  refine Own.iloadN W22 d6_19 20 rfl (1 : Int32) rfl ?_
  refine Own.aloadN W22 d6_20 21 rfl (.ref o7) rfl rfl ?_
  refine Own.arrlen W22 V22 d6_21 22 rfl ?_
  refine Own.icmpNo W22 d6_22 25 (by decide) rfl ?_
  refine Own.aloadN W22 d6_25 26 rfl (.ref o1) rfl rfl ?_
  refine Own.aloadN W22 d6_26 27 rfl (.ref l) rfl rfl ?_
  refine Own.iloadN W22 d6_27 28 rfl (1 : Int32) rfl ?_
  have X24 : Ext h h18 := Own.Ext.kp X9 K18 (allS (Nat.le_of_eq g1.symm) (allS (Nat.le_trans X4.1 g2) all0))
  have X25 : Ext h h22 := Own.Ext.wr' X24 Q22 (Nat.le_trans X5.1 (Nat.le_of_eq g7.symm))
  have XL23 := (F.ext X25).exa
  refine Own.callI W22 (tw hw 149 rfl) (tw hw 150 rfl) (tw hw 151 rfl) rfl (tw hw 152 rfl) (tw hw 153 rfl) (tw hw 154 rfl) (tw hw 155 rfl) (tw hw 67 rfl) (by decide) (argsL := [(.int (1 : Int32))]) (rest := [(.ref o1)]) (Own.Con.pay (con_get hw hEL (1 : Int32) (by decide) (by decide) (by decide) W22.old (F.ext X25) (A.ext X25) (y := x1) rfl) W22 (tw hw 156 rfl) (tw hw 14 rfl) (len := 5) (wd := 1) (by decide) (by decide) (fun _ q => nomatch q)) XL23 rfl (lenOf pd_6 rfl) rfl (Nat.le_of_ble_eq_true rfl) d6_28 33 rfl 3 22 (Nat.le_of_ble_eq_true rfl) (Nat.le_of_ble_eq_true rfl) (Nat.le_of_ble_eq_true rfl) (Nat.le_of_ble_eq_true rfl) ?_
  intro v26 T26 h26 u26 W26 R26 hq
  obtain ⟨rfl, eh26⟩ := hq
  have ei26 := eh26.symm; subst ei26
  have sf27 := R26.safe V22.lt (k22 o7 sf21)
  show Own.Go _ _ _ _ _ 33 #[.val (.ref l), .val (.ref o1), .val (.ref o7), .val (.int (1 : Int32))] [(.ref x1), (.ref o1)]
  refine Own.castY W26 (tw hw 170 rfl) (Ins.self (X1.ext X25)) d6_33 36 rfl ?_
  intro T28 W28
  refine Own.callS W28 (tw hw 171 rfl) (tw hw 172 rfl) (tw hw 159 rfl) (tw hw 173 rfl) (by decide) (argsL := [(.ref x1)]) (rest := [(.ref o1)]) (Own.Con.pay (con_rn1 hw hEL x1 W28.old) W28 (tw hw 173 rfl) (tw hw 159 rfl) (len := 3) (wd := 1) (by decide) (by decide) (fun _ q => nomatch q)) rfl (lenOf pd_28 rfl) rfl (Nat.le_of_ble_eq_true rfl) d6_36 39 rfl 3 22 (Nat.le_of_ble_eq_true rfl) (Nat.le_of_ble_eq_true rfl) (Nat.le_of_ble_eq_true rfl) (Nat.le_of_ble_eq_true rfl) ?_
  intro v29 T29 h29 u29 W29 R29 hq
  obtain ⟨rfl, eh29⟩ := hq
  have ei29 := eh29.symm; subst ei29
  have sf30 := R29.safe V22.lt sf27
  show Own.Go _ _ _ _ _ 39 #[.val (.ref l), .val (.ref o1), .val (.ref o7), .val (.int (1 : Int32))] [(.ref x1), (.ref o1)]
  refine Own.castY W29 (tw hw 170 rfl) (Ins.self (X1.ext X25)) d6_39 42 rfl ?_
  intro T31 W31
  have ZE32 := (F18.other Q22 (Nat.ne_of_lt (Nat.lt_of_lt_of_le A1.lt (Nat.le_trans (Nat.le_trans (Nat.le_refl _) K2.1) (Nat.le_of_eq g7.symm)))) (Nat.ne_of_lt (Nat.lt_of_lt_of_le F2.ltb (Nat.le_of_eq g7.symm)))).exa
  refine Own.callV W31 (tw hw 174 rfl) (tw hw 175 rfl) (fun s q => notFace_of_selects (args := #[]) (mvT (s := s) q (tw hw 177 rfl))) (tw hw 177 rfl) (tw hw 176 rfl) (by decide) (argsL := [(.ref x1)]) (rest := []) (Own.Con.pay (con_app hw hEL hmem hS hcz hEN W31.old (Nat.le_trans W0.n0 (Nat.le_of_eq g1.symm)) (Nat.le_trans W0.n0 (Nat.le_trans X4.1 g2)) (Nat.ne_of_lt (Nat.lt_of_lt_of_le A1.lt g2)) (F18.other Q22 (Nat.ne_of_lt (Nat.lt_of_lt_of_le A1.lt (Nat.le_trans (Nat.le_trans (Nat.le_refl _) K2.1) (Nat.le_of_eq g7.symm)))) (Nat.ne_of_lt (Nat.lt_of_lt_of_le F2.ltb (Nat.le_of_eq g7.symm)))) (S1.ext X25) (by simp only [List.length_append, List.length_nil]; omega)) W31 (tw hw 178 rfl) (tw hw 44 rfl) (len := 3) (wd := 0) (by decide) (by decide) (fun _ q => nomatch q)) ZE32 rfl (lenOf pd_29 rfl) rfl (Nat.le_of_ble_eq_true rfl) d6_42 45 rfl 3 22 (Nat.le_of_ble_eq_true rfl) (Nat.le_of_ble_eq_true rfl) (Nat.le_of_ble_eq_true rfl) (Nat.le_of_ble_eq_true rfl) ?_
  intro v33 T33 h33 u33 W33 R33 hq
  obtain ⟨rfl, K33, F33⟩ := hq
  show Own.Go _ _ _ _ _ 45 #[.val (.ref l), .val (.ref o1), .val (.ref o7), .val (.int (1 : Int32))] [(.ref o1)]
  refine Own.pop W33 d6_45 46 rfl rfl ?_
  refine Own.aloadN W33 d6_46 47 rfl (.ref o7) rfl rfl ?_
  refine Own.iloadN W33 d6_47 48 rfl (1 : Int32) rfl ?_
  refine Own.aloadN W33 d6_48 49 rfl (.ref o1) rfl rfl ?_
  have ZE34 := F33.exa
  refine Own.callV W33 (tw hw 221 rfl) (tw hw 222 rfl) (fun s q => notFace_of_selects (args := #[]) (mvT (s := s) q (tw hw 224 rfl))) (tw hw 224 rfl) (tw hw 223 rfl) (by decide) (argsL := []) (rest := [(.int (1 : Int32)), (.ref o7)]) (Own.Con.pay (con_sbl hw hEL W33.old F33) W33 (tw hw 225 rfl) (tw hw 44 rfl) (len := 3) (wd := 2) (by decide) (by decide) (fun _ q => nomatch q)) ZE34 rfl (lenOf pd_11 rfl) rfl (Nat.le_of_ble_eq_true rfl) d6_49 52 rfl 3 22 (Nat.le_of_ble_eq_true rfl) (Nat.le_of_ble_eq_true rfl) (Nat.le_of_ble_eq_true rfl) (Nat.le_of_ble_eq_true rfl) ?_
  intro v35 T35 h35 u35 W35 R35 hq
  obtain ⟨rfl, eh35⟩ := hq
  have ei35 := eh35.symm; subst ei35
  have sf36 := R35.safe (V22.keep K33 (ninS (Ne.symm (Nat.ne_of_lt (Nat.lt_of_lt_of_le A1.lt (Nat.le_trans (Nat.le_trans (Nat.le_refl _) K2.1) (Nat.le_of_eq g7.symm))))) (ninS (Ne.symm (Nat.ne_of_lt (Nat.lt_of_lt_of_le F2.ltb (Nat.le_of_eq g7.symm)))) nin0))).lt (R33.safe V22.lt sf30)
  show Own.Go _ _ _ _ _ 52 #[.val (.ref l), .val (.ref o1), .val (.ref o7), .val (.int (1 : Int32))] [(.int (Int32.ofNat (([] ++ cs0) ++ cs1).length)), (.int (1 : Int32)), (.ref o7)]
  refine Own.iastore W35 (V22.keep K33 (ninS (Ne.symm (Nat.ne_of_lt (Nat.lt_of_lt_of_le A1.lt (Nat.le_trans (Nat.le_trans (Nat.le_refl _) K2.1) (Nat.le_of_eq g7.symm))))) (ninS (Ne.symm (Nat.ne_of_lt (Nat.lt_of_lt_of_le F2.ltb (Nat.le_of_eq g7.symm)))) nin0))) 1 (by decide) (by decide) (Nat.le_of_ble_eq_true rfl) (Nat.le_trans W0.n0 (Nat.le_trans X5.1 (Nat.le_of_eq g7.symm))) d6_52 53 rfl ?_
  intro T37 h37 W37 Q37 A37 k37
  have V37 : Arv G.Z h37 o7 c7 .int (2 : Int32) [(.int (Int32.ofNat ([] ++ cs0).length)), (.int (Int32.ofNat (([] ++ cs0) ++ cs1).length))] (.int (0 : Int32)) := A37
  refine Own.iinc W37 d6_53 56 rfl rfl #[.val (.ref l), .val (.ref o1), .val (.ref o7), .val (.int (2 : Int32))] rfl ?_
  refine Own.goto W37 d6_56 19 (by decide) (by decide) ?_
  refine Own.iloadN W37 d6_19 20 rfl (2 : Int32) rfl ?_
  refine Own.aloadN W37 d6_20 21 rfl (.ref o7) rfl rfl ?_
  refine Own.arrlen W37 V37 d6_21 22 rfl ?_
  refine Own.icmpYes W37 d6_22 59 (by decide) (by decide) (by decide) ?_
  refine Own.aloadN W37 d6_59 60 rfl (.ref o7) rfl rfl ?_
  refine Own.arrlen W37 V37 d6_60 61 rfl ?_
  refine Own.ifYes W37 d6_61 70 (by decide) (by decide) (by decide) ?_
  refine Own.newO W37 (tw hw 230 rfl) (tw hw 231 rfl) (tw hw 40 rfl) d6_70 73 rfl 4 25 (by decide) (by decide) (by decide) (by decide) ?_
  intro T38 h38 o38 g38 W38 E38 A38 D38 s38 k38
  have F38_ends : Fld G.Z h38 o38 "com/example/vectorfire/vectorfire/model/PackedLines" "ends" "[I" .null := D38 (Or.inr (tw hw 111 rfl)) (ty := (.array .int)) (by decide)
  have F38_modCount : Fld G.Z h38 o38 "java/util/AbstractList" "modCount" "I" (.int (0 : Int32)) := D38 (Or.inl (tw hw 275 rfl)) (ty := .int) (by decide)
  have F38_joined : Fld G.Z h38 o38 "com/example/vectorfire/vectorfire/model/PackedLines" "joined" "Ljava/lang/String;" .null := D38 (Or.inr (tw hw 277 rfl)) (ty := (.object "java/lang/String")) (by decide)
  refine Own.dup W38 d6_73 74 rfl rfl ?_
  refine Own.aloadN W38 d6_74 75 rfl (.ref o1) rfl rfl ?_
  have ZE39 := ((F33.other Q37 (Nat.ne_of_lt (Nat.lt_of_lt_of_le A1.lt (Nat.le_trans (Nat.le_trans (Nat.le_refl _) K2.1) (Nat.le_of_eq g7.symm)))) (Nat.ne_of_lt (Nat.lt_of_lt_of_le F2.ltb (Nat.le_of_eq g7.symm)))).ext E38).exa
  refine Own.callV W38 (tw hw 232 rfl) (tw hw 233 rfl) (fun s q => notFace_of_selects (args := #[]) (mvT (s := s) q (tw hw 235 rfl))) (tw hw 235 rfl) (tw hw 234 rfl) (by decide) (argsL := []) (rest := [(.ref o38), (.ref o38)]) (Own.Con.pay (con_tos hw hEL hmem hS hcz W38.old ((F33.other Q37 (Nat.ne_of_lt (Nat.lt_of_lt_of_le A1.lt (Nat.le_trans (Nat.le_trans (Nat.le_refl _) K2.1) (Nat.le_of_eq g7.symm)))) (Nat.ne_of_lt (Nat.lt_of_lt_of_le F2.ltb (Nat.le_of_eq g7.symm)))).ext E38) (by simp only [List.length_append, List.length_nil]; omega) (by simp only [List.length_append, List.length_nil]; omega)) W38 (tw hw 236 rfl) (tw hw 44 rfl) (len := 3) (wd := 2) (by decide) (by decide) (fun _ q => nomatch q)) ZE39 rfl (lenOf pd_30 rfl) rfl (Nat.le_of_ble_eq_true rfl) d6_75 78 rfl 6 45 (Nat.le_of_ble_eq_true rfl) (Nat.le_of_ble_eq_true rfl) (Nat.le_of_ble_eq_true rfl) (Nat.le_of_ble_eq_true rfl) ?_
  intro v40 T40 h40 u40 W40 R40 hq
  obtain ⟨o40, rfl, E40, g40, S40⟩ := hq
  show Own.Go _ _ _ _ _ 78 #[.val (.ref l), .val (.ref o1), .val (.ref o7), .val (.int (2 : Int32))] [(.ref o40), (.ref o38), (.ref o38)]
  refine Own.aloadN W40 d6_78 79 rfl (.ref o7) rfl rfl ?_
  have X41 : Ext h h33 := Own.Ext.kp X25 K33 (allS (Nat.le_of_eq g1.symm) (allS (Nat.le_trans X4.1 g2) all0))
  have X42 : Ext h h37 := Own.Ext.wr' X41 Q37 (Nat.le_trans X5.1 (Nat.le_of_eq g7.symm))
  have X43 : Ext h38 h40 := E40
  refine Own.callX W40 rfl (tw hw 270 rfl) (tw hw 271 rfl) (tw hw 272 rfl) (by decide) (argsL := [(.ref o40), (.ref o7)]) (rest := [(.ref o38)]) (Own.Con.pay (con_pli hw hEL o40 o7 W40.old (Nat.le_trans W0.n0 (Nat.le_trans X42.1 (Nat.le_of_eq g38.symm))) (A38.ext X43) (F38_modCount.ext X43) (F38_joined.ext X43) (F38_ends.ext X43)) W40 (tw hw 272 rfl) (tw hw 40 rfl) (len := 3) (wd := 1) (by decide) (by decide) (fun _ q => nomatch q)) rfl (lenOf pd_31 rfl) rfl (Nat.le_of_ble_eq_true rfl) d6_79 82 rfl 6 45 (Nat.le_of_ble_eq_true rfl) (Nat.le_of_ble_eq_true rfl) (Nat.le_of_ble_eq_true rfl) (Nat.le_of_ble_eq_true rfl) ?_
  intro v44 T44 h44 u44 W44 R44 hq
  obtain ⟨rfl, K44, E44, Fj44, Fe44⟩ := hq
  show Own.Go _ _ _ _ _ 82 #[.val (.ref l), .val (.ref o1), .val (.ref o7), .val (.int (2 : Int32))] [(.ref o38)]
  have X45 : Ext h h38 := Own.Ext.tr X42 E38
  have X46 : Ext h h40 := Own.Ext.tr X45 E40
  have X47 : Ext h h44 := Own.Ext.kp X46 K44 (allS (Nat.le_trans X42.1 (Nat.le_of_eq g38.symm)) all0)
  have X48 : Ext h37 h38 := E38
  have X49 : Ext h37 h40 := Own.Ext.tr X48 E40
  have X50 : Ext h37 h44 := Own.Ext.kp X49 K44 (allS (Nat.le_of_eq g38.symm) all0)
  exact Own.retA W44 (by decide) (by decide) rfl rfl rfl d6_82 ⟨o38, o40, o7, _, rfl, X47, (Nat.le_trans X42.1 (Nat.le_of_eq g38.symm)), (Nat.le_trans X45.1 g40), (Nat.le_trans X5.1 (Nat.le_of_eq g7.symm)), E44, Fj44, Fe44, (S40.keep K44 (ninS (Ne.symm (Nat.ne_of_lt (Nat.lt_of_lt_of_le A38.lt g40))) nin0) (by intro y hy; cases List.mem_singleton.mp hy; exact Own.noByteI (tw hw 231 rfl) (A38.ext X43))), (V37.ext X50)⟩
set_option maxRecDepth 65536 in
set_option maxHeartbeats 40000000 in
theorem con_cpy3 {G : Own.Gl} (hw : ∀ d ∈ tables_1, d.before G.a0 G.Z = true) (hEL : EW G.Z G.a0 G.EL) (hmem : True) {cz : Int32} (hS : Sta G.Z G.Z.heap Own.ST "COMPACT_STRINGS" "Z" (.int cz)) (hcz : ¬ cz = 0) (hEN : Own.EN G.Z G.a0 G.EL 16) {dc : Addr} {kD : ClassId} (DS : Sta G.Z G.Z.heap "java/util/ArrayList" "DEFAULTCAPACITY_EMPTY_ELEMENTDATA" "[Ljava/lang/Object;" (.ref dc)) (DA : Arv G.Z G.Z.heap dc kD (.object "java/lang/Object") 0 [] .null) {rn en0 : Addr} {k0 : ClassId} (TN : Sta G.Z G.Z.heap "com/example/vectorfire/vectorfire/model/PackedLines" "NONE" "Lcom/example/vectorfire/vectorfire/model/PackedLines;" (.ref rn)) (XN : Exa G.Z G.Z.heap rn "com/example/vectorfire/vectorfire/model/PackedLines") (FN : Fld G.Z G.Z.heap rn "com/example/vectorfire/vectorfire/model/PackedLines" "ends" "[I" (.ref en0)) (AN : Arv G.Z G.Z.heap en0 k0 .int 0 [] (.int 0)) {l e : Addr} {kA : ClassId} {x0 x1 x2 : Addr} {h : Heap} (hO : Old G.Z G.n0 h) (F : Own.AL G.Z h l 3 e) (A : Arv G.Z h e kA (.object "java/lang/Object") 10 [.ref x0, .ref x1, .ref x2, .null, .null, .null, .null, .null, .null, .null] .null) {cs0 : List Int32} (S0 : Own.Str G.Z h x0 cs0) (q0 : cs0.length ≤ 3) {cs1 : List Int32} (S1 : Own.Str G.Z h x1 cs1) (q1 : cs1.length ≤ 3) {cs2 : List Int32} (S2 : Own.Str G.Z h x2 cs2) (q2 : cs2.length ≤ 3) :
    Own.Con G [] bCpy3 #[.ref l] h [] (fun v h' => ∃ (r j en : Addr) (kE : ClassId), v = some (.ref r) ∧ Ext h h' ∧ h.size ≤ r ∧ h.size ≤ j ∧ h.size ≤ en ∧ Exa G.Z h' r "com/example/vectorfire/vectorfire/model/PackedLines" ∧ Fld G.Z h' r "com/example/vectorfire/vectorfire/model/PackedLines" "joined" "Ljava/lang/String;" (.ref j) ∧ Fld G.Z h' r "com/example/vectorfire/vectorfire/model/PackedLines" "ends" "[I" (.ref en) ∧ Own.Str G.Z h' j ((([] ++ cs0) ++ cs1) ++ cs2) ∧ Arv G.Z h' en kE .int 3 [.int (Int32.ofNat ([] ++ cs0).length), .int (Int32.ofNat (([] ++ cs0) ++ cs1).length), .int (Int32.ofNat ((([] ++ cs0) ++ cs1) ++ cs2).length)] (.int 0)) := by
  refine Own.Con.intro (plainFor_of_name pn_11) hO hEL _ (fun m => ef_bCpy3 m l) ?_
  intro X T0 W0 sf
  have X0 := S0.exa
  have X1 := S1.exa
  have X2 := S2.exa
  refine Own.newO W0 (tw hw 42 rfl) (tw hw 43 rfl) (tw hw 44 rfl) d6_0 3 rfl 1 4 (by decide) (by decide) (by decide) (by decide) ?_
  intro T1 h1 o1 g1 W1 E1 A1 D1 s1 k1
  have F1_value : Fld G.Z h1 o1 "java/lang/AbstractStringBuilder" "value" "[B" .null := D1 (Or.inl (tw hw 57 rfl)) (ty := (.array .byte)) (by decide)
  have F1_coder : Fld G.Z h1 o1 "java/lang/AbstractStringBuilder" "coder" "B" (.int (0 : Int32)) := D1 (Or.inl (tw hw 59 rfl)) (ty := .byte) (by decide)
  have F1_count : Fld G.Z h1 o1 "java/lang/AbstractStringBuilder" "count" "I" (.int (0 : Int32)) := D1 (Or.inl (tw hw 195 rfl)) (ty := .int) (by decide)
  refine Own.dup W1 d6_3 4 rfl rfl ?_
  refine Own.callX W1 rfl (tw hw 45 rfl) (tw hw 46 rfl) (tw hw 47 rfl) (by decide) (argsL := []) (rest := [(.ref o1)]) (Own.Con.pay (con_si hw hEL hmem hS hcz W1.old (Nat.le_trans W0.n0 (Nat.le_of_eq g1.symm)) A1 F1_value F1_coder F1_count) W1 (tw hw 47 rfl) (tw hw 44 rfl) (len := 3) (wd := 1) (by decide) (by decide) (fun _ q => nomatch q)) rfl (lenOf pd_0 rfl) rfl (Nat.le_of_ble_eq_true rfl) d6_4 7 rfl 2 20 (Nat.le_of_ble_eq_true rfl) (Nat.le_of_ble_eq_true rfl) (Nat.le_of_ble_eq_true rfl) (Nat.le_of_ble_eq_true rfl) ?_
  intro v2 T2 h2 u2 W2 R2 hq
  obtain ⟨rfl, K2, b2, g2, F2⟩ := hq
  show Own.Go _ _ _ _ _ 7 #[.val (.ref l), .unset, .unset, .unset] [(.ref o1)]
  refine Own.astoreN W2 d6_7 8 rfl rfl #[.val (.ref l), .val (.ref o1), .unset, .unset] rfl ?_
  refine Own.aloadN W2 d6_8 9 rfl (.ref l) rfl rfl ?_
  have X4 : Ext h h1 := E1
  have X5 : Ext h h2 := Own.Ext.kp X4 K2 (allS (Nat.le_of_eq g1.symm) all0)
  have XL3 := (F.ext X5).exa
  refine Own.callI W2 (tw hw 60 rfl) (tw hw 61 rfl) (tw hw 62 rfl) rfl (tw hw 63 rfl) (tw hw 64 rfl) (tw hw 65 rfl) (tw hw 66 rfl) (tw hw 67 rfl) (by decide) (argsL := []) (rest := []) (Own.Con.pay (con_sz hw hEL W2.old (F.ext X5)) W2 (tw hw 68 rfl) (tw hw 14 rfl) (len := 5) (wd := 0) (by decide) (by decide) (fun _ q => nomatch q)) XL3 rfl (lenOf pd_11 rfl) rfl (Nat.le_of_ble_eq_true rfl) d6_9 14 rfl 2 20 (Nat.le_of_ble_eq_true rfl) (Nat.le_of_ble_eq_true rfl) (Nat.le_of_ble_eq_true rfl) (Nat.le_of_ble_eq_true rfl) ?_
  intro v6 T6 h6 u6 W6 R6 hq
  obtain ⟨rfl, eh6⟩ := hq
  have ei6 := eh6.symm; subst ei6
  show Own.Go _ _ _ _ _ 14 #[.val (.ref l), .val (.ref o1), .unset, .unset] [(.int (3 : Int32))]
  refine Own.newA W6 (tw hw 71 rfl) d6_14 16 rfl (by decide) 3 (by decide) (by decide) 3 23 (by decide) (by decide) (by decide) (by decide) ?_
  intro T7 h7 o7 c7 g7 W7 E7 A7 s7 k7
  have V7 : Arv G.Z h7 o7 c7 .int (3 : Int32) [(.int (0 : Int32)), (.int (0 : Int32)), (.int (0 : Int32))] (.int (0 : Int32)) := A7
  refine Own.astoreN W7 d6_16 17 rfl rfl #[.val (.ref l), .val (.ref o1), .val (.ref o7), .unset] rfl ?_
  refine Own.iconst W7 d6_17 18 rfl (0 : Int32) rfl ?_
  refine Own.istoreN W7 d6_18 19 rfl #[.val (.ref l), .val (.ref o1), .val (.ref o7), .val (.int (0 : Int32))] rfl ?_
  refine Own.iloadN W7 d6_19 20 rfl (0 : Int32) rfl ?_
  refine Own.aloadN W7 d6_20 21 rfl (.ref o7) rfl rfl ?_
  refine Own.arrlen W7 V7 d6_21 22 rfl ?_
  refine Own.icmpNo W7 d6_22 25 (by decide) rfl ?_
  refine Own.aloadN W7 d6_25 26 rfl (.ref o1) rfl rfl ?_
  refine Own.aloadN W7 d6_26 27 rfl (.ref l) rfl rfl ?_
  refine Own.iloadN W7 d6_27 28 rfl (0 : Int32) rfl ?_
  have X9 : Ext h h7 := Own.Ext.tr X5 E7
  have XL8 := (F.ext X9).exa
  refine Own.callI W7 (tw hw 149 rfl) (tw hw 150 rfl) (tw hw 151 rfl) rfl (tw hw 152 rfl) (tw hw 153 rfl) (tw hw 154 rfl) (tw hw 155 rfl) (tw hw 67 rfl) (by decide) (argsL := [(.int (0 : Int32))]) (rest := [(.ref o1)]) (Own.Con.pay (con_get hw hEL (0 : Int32) (by decide) (by decide) (by decide) W7.old (F.ext X9) (A.ext X9) (y := x0) rfl) W7 (tw hw 156 rfl) (tw hw 14 rfl) (len := 5) (wd := 1) (by decide) (by decide) (fun _ q => nomatch q)) XL8 rfl (lenOf pd_6 rfl) rfl (Nat.le_of_ble_eq_true rfl) d6_28 33 rfl 3 23 (Nat.le_of_ble_eq_true rfl) (Nat.le_of_ble_eq_true rfl) (Nat.le_of_ble_eq_true rfl) (Nat.le_of_ble_eq_true rfl) ?_
  intro v10 T10 h10 u10 W10 R10 hq
  obtain ⟨rfl, eh10⟩ := hq
  have ei10 := eh10.symm; subst ei10
  have sf11 := R10.safe V7.lt s7
  show Own.Go _ _ _ _ _ 33 #[.val (.ref l), .val (.ref o1), .val (.ref o7), .val (.int (0 : Int32))] [(.ref x0), (.ref o1)]
  refine Own.castY W10 (tw hw 170 rfl) (Ins.self (X0.ext X9)) d6_33 36 rfl ?_
  intro T12 W12
  refine Own.callS W12 (tw hw 171 rfl) (tw hw 172 rfl) (tw hw 159 rfl) (tw hw 173 rfl) (by decide) (argsL := [(.ref x0)]) (rest := [(.ref o1)]) (Own.Con.pay (con_rn1 hw hEL x0 W12.old) W12 (tw hw 173 rfl) (tw hw 159 rfl) (len := 3) (wd := 1) (by decide) (by decide) (fun _ q => nomatch q)) rfl (lenOf pd_28 rfl) rfl (Nat.le_of_ble_eq_true rfl) d6_36 39 rfl 3 23 (Nat.le_of_ble_eq_true rfl) (Nat.le_of_ble_eq_true rfl) (Nat.le_of_ble_eq_true rfl) (Nat.le_of_ble_eq_true rfl) ?_
  intro v13 T13 h13 u13 W13 R13 hq
  obtain ⟨rfl, eh13⟩ := hq
  have ei13 := eh13.symm; subst ei13
  have sf14 := R13.safe V7.lt sf11
  show Own.Go _ _ _ _ _ 39 #[.val (.ref l), .val (.ref o1), .val (.ref o7), .val (.int (0 : Int32))] [(.ref x0), (.ref o1)]
  refine Own.castY W13 (tw hw 170 rfl) (Ins.self (X0.ext X9)) d6_39 42 rfl ?_
  intro T15 W15
  have X17 : Ext h2 h7 := E7
  have ZE16 := (F2.ext X17).exa
  refine Own.callV W15 (tw hw 174 rfl) (tw hw 175 rfl) (fun s q => notFace_of_selects (args := #[]) (mvT (s := s) q (tw hw 177 rfl))) (tw hw 177 rfl) (tw hw 176 rfl) (by decide) (argsL := [(.ref x0)]) (rest := []) (Own.Con.pay (con_app hw hEL hmem hS hcz hEN W15.old (Nat.le_trans W0.n0 (Nat.le_of_eq g1.symm)) (Nat.le_trans W0.n0 (Nat.le_trans X4.1 g2)) (Nat.ne_of_lt (Nat.lt_of_lt_of_le A1.lt g2)) (F2.ext X17) (S0.ext X9) (by simp only [List.length_append, List.length_nil]; omega)) W15 (tw hw 178 rfl) (tw hw 44 rfl) (len := 3) (wd := 0) (by decide) (by decide) (fun _ q => nomatch q)) ZE16 rfl (lenOf pd_29 rfl) rfl (Nat.le_of_ble_eq_true rfl) d6_42 45 rfl 3 23 (Nat.le_of_ble_eq_true rfl) (Nat.le_of_ble_eq_true rfl) (Nat.le_of_ble_eq_true rfl) (Nat.le_of_ble_eq_true rfl) ?_
  intro v18 T18 h18 u18 W18 R18 hq
  obtain ⟨rfl, K18, F18⟩ := hq
  show Own.Go _ _ _ _ _ 45 #[.val (.ref l), .val (.ref o1), .val (.ref o7), .val (.int (0 : Int32))] [(.ref o1)]
  refine Own.pop W18 d6_45 46 rfl rfl ?_
  refine Own.aloadN W18 d6_46 47 rfl (.ref o7) rfl rfl ?_
  refine Own.iloadN W18 d6_47 48 rfl (0 : Int32) rfl ?_
  refine Own.aloadN W18 d6_48 49 rfl (.ref o1) rfl rfl ?_
  have ZE19 := F18.exa
  refine Own.callV W18 (tw hw 221 rfl) (tw hw 222 rfl) (fun s q => notFace_of_selects (args := #[]) (mvT (s := s) q (tw hw 224 rfl))) (tw hw 224 rfl) (tw hw 223 rfl) (by decide) (argsL := []) (rest := [(.int (0 : Int32)), (.ref o7)]) (Own.Con.pay (con_sbl hw hEL W18.old F18) W18 (tw hw 225 rfl) (tw hw 44 rfl) (len := 3) (wd := 2) (by decide) (by decide) (fun _ q => nomatch q)) ZE19 rfl (lenOf pd_11 rfl) rfl (Nat.le_of_ble_eq_true rfl) d6_49 52 rfl 3 23 (Nat.le_of_ble_eq_true rfl) (Nat.le_of_ble_eq_true rfl) (Nat.le_of_ble_eq_true rfl) (Nat.le_of_ble_eq_true rfl) ?_
  intro v20 T20 h20 u20 W20 R20 hq
  obtain ⟨rfl, eh20⟩ := hq
  have ei20 := eh20.symm; subst ei20
  have sf21 := R20.safe (V7.keep K18 (ninS (Ne.symm (Nat.ne_of_lt (Nat.lt_of_lt_of_le A1.lt (Nat.le_trans (Nat.le_trans (Nat.le_refl _) K2.1) (Nat.le_of_eq g7.symm))))) (ninS (Ne.symm (Nat.ne_of_lt (Nat.lt_of_lt_of_le F2.ltb (Nat.le_of_eq g7.symm)))) nin0))).lt (R18.safe V7.lt sf14)
  show Own.Go _ _ _ _ _ 52 #[.val (.ref l), .val (.ref o1), .val (.ref o7), .val (.int (0 : Int32))] [(.int (Int32.ofNat ([] ++ cs0).length)), (.int (0 : Int32)), (.ref o7)]
  refine Own.iastore W20 (V7.keep K18 (ninS (Ne.symm (Nat.ne_of_lt (Nat.lt_of_lt_of_le A1.lt (Nat.le_trans (Nat.le_trans (Nat.le_refl _) K2.1) (Nat.le_of_eq g7.symm))))) (ninS (Ne.symm (Nat.ne_of_lt (Nat.lt_of_lt_of_le F2.ltb (Nat.le_of_eq g7.symm)))) nin0))) 0 (by decide) (by decide) (Nat.le_of_ble_eq_true rfl) (Nat.le_trans W0.n0 (Nat.le_trans X5.1 (Nat.le_of_eq g7.symm))) d6_52 53 rfl ?_
  intro T22 h22 W22 Q22 A22 k22
  have V22 : Arv G.Z h22 o7 c7 .int (3 : Int32) [(.int (Int32.ofNat ([] ++ cs0).length)), (.int (0 : Int32)), (.int (0 : Int32))] (.int (0 : Int32)) := A22
  refine Own.iinc W22 d6_53 56 rfl rfl #[.val (.ref l), .val (.ref o1), .val (.ref o7), .val (.int (1 : Int32))] rfl ?_
  refine Own.goto W22 d6_56 19 (by decide) (by decide) ?_
  refine Own.iloadN W22 d6_19 20 rfl (1 : Int32) rfl ?_
  refine Own.aloadN W22 d6_20 21 rfl (.ref o7) rfl rfl ?_
  refine Own.arrlen W22 V22 d6_21 22 rfl ?_
  refine Own.icmpNo W22 d6_22 25 (by decide) rfl ?_
  refine Own.aloadN W22 d6_25 26 rfl (.ref o1) rfl rfl ?_
  refine Own.aloadN W22 d6_26 27 rfl (.ref l) rfl rfl ?_
  refine Own.iloadN W22 d6_27 28 rfl (1 : Int32) rfl ?_
  have X24 : Ext h h18 := Own.Ext.kp X9 K18 (allS (Nat.le_of_eq g1.symm) (allS (Nat.le_trans X4.1 g2) all0))
  have X25 : Ext h h22 := Own.Ext.wr' X24 Q22 (Nat.le_trans X5.1 (Nat.le_of_eq g7.symm))
  have XL23 := (F.ext X25).exa
  refine Own.callI W22 (tw hw 149 rfl) (tw hw 150 rfl) (tw hw 151 rfl) rfl (tw hw 152 rfl) (tw hw 153 rfl) (tw hw 154 rfl) (tw hw 155 rfl) (tw hw 67 rfl) (by decide) (argsL := [(.int (1 : Int32))]) (rest := [(.ref o1)]) (Own.Con.pay (con_get hw hEL (1 : Int32) (by decide) (by decide) (by decide) W22.old (F.ext X25) (A.ext X25) (y := x1) rfl) W22 (tw hw 156 rfl) (tw hw 14 rfl) (len := 5) (wd := 1) (by decide) (by decide) (fun _ q => nomatch q)) XL23 rfl (lenOf pd_6 rfl) rfl (Nat.le_of_ble_eq_true rfl) d6_28 33 rfl 3 23 (Nat.le_of_ble_eq_true rfl) (Nat.le_of_ble_eq_true rfl) (Nat.le_of_ble_eq_true rfl) (Nat.le_of_ble_eq_true rfl) ?_
  intro v26 T26 h26 u26 W26 R26 hq
  obtain ⟨rfl, eh26⟩ := hq
  have ei26 := eh26.symm; subst ei26
  have sf27 := R26.safe V22.lt (k22 o7 sf21)
  show Own.Go _ _ _ _ _ 33 #[.val (.ref l), .val (.ref o1), .val (.ref o7), .val (.int (1 : Int32))] [(.ref x1), (.ref o1)]
  refine Own.castY W26 (tw hw 170 rfl) (Ins.self (X1.ext X25)) d6_33 36 rfl ?_
  intro T28 W28
  refine Own.callS W28 (tw hw 171 rfl) (tw hw 172 rfl) (tw hw 159 rfl) (tw hw 173 rfl) (by decide) (argsL := [(.ref x1)]) (rest := [(.ref o1)]) (Own.Con.pay (con_rn1 hw hEL x1 W28.old) W28 (tw hw 173 rfl) (tw hw 159 rfl) (len := 3) (wd := 1) (by decide) (by decide) (fun _ q => nomatch q)) rfl (lenOf pd_28 rfl) rfl (Nat.le_of_ble_eq_true rfl) d6_36 39 rfl 3 23 (Nat.le_of_ble_eq_true rfl) (Nat.le_of_ble_eq_true rfl) (Nat.le_of_ble_eq_true rfl) (Nat.le_of_ble_eq_true rfl) ?_
  intro v29 T29 h29 u29 W29 R29 hq
  obtain ⟨rfl, eh29⟩ := hq
  have ei29 := eh29.symm; subst ei29
  have sf30 := R29.safe V22.lt sf27
  show Own.Go _ _ _ _ _ 39 #[.val (.ref l), .val (.ref o1), .val (.ref o7), .val (.int (1 : Int32))] [(.ref x1), (.ref o1)]
  refine Own.castY W29 (tw hw 170 rfl) (Ins.self (X1.ext X25)) d6_39 42 rfl ?_
  intro T31 W31
  have ZE32 := (F18.other Q22 (Nat.ne_of_lt (Nat.lt_of_lt_of_le A1.lt (Nat.le_trans (Nat.le_trans (Nat.le_refl _) K2.1) (Nat.le_of_eq g7.symm)))) (Nat.ne_of_lt (Nat.lt_of_lt_of_le F2.ltb (Nat.le_of_eq g7.symm)))).exa
  refine Own.callV W31 (tw hw 174 rfl) (tw hw 175 rfl) (fun s q => notFace_of_selects (args := #[]) (mvT (s := s) q (tw hw 177 rfl))) (tw hw 177 rfl) (tw hw 176 rfl) (by decide) (argsL := [(.ref x1)]) (rest := []) (Own.Con.pay (con_app hw hEL hmem hS hcz hEN W31.old (Nat.le_trans W0.n0 (Nat.le_of_eq g1.symm)) (Nat.le_trans W0.n0 (Nat.le_trans X4.1 g2)) (Nat.ne_of_lt (Nat.lt_of_lt_of_le A1.lt g2)) (F18.other Q22 (Nat.ne_of_lt (Nat.lt_of_lt_of_le A1.lt (Nat.le_trans (Nat.le_trans (Nat.le_refl _) K2.1) (Nat.le_of_eq g7.symm)))) (Nat.ne_of_lt (Nat.lt_of_lt_of_le F2.ltb (Nat.le_of_eq g7.symm)))) (S1.ext X25) (by simp only [List.length_append, List.length_nil]; omega)) W31 (tw hw 178 rfl) (tw hw 44 rfl) (len := 3) (wd := 0) (by decide) (by decide) (fun _ q => nomatch q)) ZE32 rfl (lenOf pd_29 rfl) rfl (Nat.le_of_ble_eq_true rfl) d6_42 45 rfl 3 23 (Nat.le_of_ble_eq_true rfl) (Nat.le_of_ble_eq_true rfl) (Nat.le_of_ble_eq_true rfl) (Nat.le_of_ble_eq_true rfl) ?_
  intro v33 T33 h33 u33 W33 R33 hq
  obtain ⟨rfl, K33, F33⟩ := hq
  show Own.Go _ _ _ _ _ 45 #[.val (.ref l), .val (.ref o1), .val (.ref o7), .val (.int (1 : Int32))] [(.ref o1)]
  refine Own.pop W33 d6_45 46 rfl rfl ?_
  refine Own.aloadN W33 d6_46 47 rfl (.ref o7) rfl rfl ?_
  refine Own.iloadN W33 d6_47 48 rfl (1 : Int32) rfl ?_
  refine Own.aloadN W33 d6_48 49 rfl (.ref o1) rfl rfl ?_
  have ZE34 := F33.exa
  refine Own.callV W33 (tw hw 221 rfl) (tw hw 222 rfl) (fun s q => notFace_of_selects (args := #[]) (mvT (s := s) q (tw hw 224 rfl))) (tw hw 224 rfl) (tw hw 223 rfl) (by decide) (argsL := []) (rest := [(.int (1 : Int32)), (.ref o7)]) (Own.Con.pay (con_sbl hw hEL W33.old F33) W33 (tw hw 225 rfl) (tw hw 44 rfl) (len := 3) (wd := 2) (by decide) (by decide) (fun _ q => nomatch q)) ZE34 rfl (lenOf pd_11 rfl) rfl (Nat.le_of_ble_eq_true rfl) d6_49 52 rfl 3 23 (Nat.le_of_ble_eq_true rfl) (Nat.le_of_ble_eq_true rfl) (Nat.le_of_ble_eq_true rfl) (Nat.le_of_ble_eq_true rfl) ?_
  intro v35 T35 h35 u35 W35 R35 hq
  obtain ⟨rfl, eh35⟩ := hq
  have ei35 := eh35.symm; subst ei35
  have sf36 := R35.safe (V22.keep K33 (ninS (Ne.symm (Nat.ne_of_lt (Nat.lt_of_lt_of_le A1.lt (Nat.le_trans (Nat.le_trans (Nat.le_refl _) K2.1) (Nat.le_of_eq g7.symm))))) (ninS (Ne.symm (Nat.ne_of_lt (Nat.lt_of_lt_of_le F2.ltb (Nat.le_of_eq g7.symm)))) nin0))).lt (R33.safe V22.lt sf30)
  show Own.Go _ _ _ _ _ 52 #[.val (.ref l), .val (.ref o1), .val (.ref o7), .val (.int (1 : Int32))] [(.int (Int32.ofNat (([] ++ cs0) ++ cs1).length)), (.int (1 : Int32)), (.ref o7)]
  refine Own.iastore W35 (V22.keep K33 (ninS (Ne.symm (Nat.ne_of_lt (Nat.lt_of_lt_of_le A1.lt (Nat.le_trans (Nat.le_trans (Nat.le_refl _) K2.1) (Nat.le_of_eq g7.symm))))) (ninS (Ne.symm (Nat.ne_of_lt (Nat.lt_of_lt_of_le F2.ltb (Nat.le_of_eq g7.symm)))) nin0))) 1 (by decide) (by decide) (Nat.le_of_ble_eq_true rfl) (Nat.le_trans W0.n0 (Nat.le_trans X5.1 (Nat.le_of_eq g7.symm))) d6_52 53 rfl ?_
  intro T37 h37 W37 Q37 A37 k37
  have V37 : Arv G.Z h37 o7 c7 .int (3 : Int32) [(.int (Int32.ofNat ([] ++ cs0).length)), (.int (Int32.ofNat (([] ++ cs0) ++ cs1).length)), (.int (0 : Int32))] (.int (0 : Int32)) := A37
  refine Own.iinc W37 d6_53 56 rfl rfl #[.val (.ref l), .val (.ref o1), .val (.ref o7), .val (.int (2 : Int32))] rfl ?_
  refine Own.goto W37 d6_56 19 (by decide) (by decide) ?_
  refine Own.iloadN W37 d6_19 20 rfl (2 : Int32) rfl ?_
  refine Own.aloadN W37 d6_20 21 rfl (.ref o7) rfl rfl ?_
  refine Own.arrlen W37 V37 d6_21 22 rfl ?_
  refine Own.icmpNo W37 d6_22 25 (by decide) rfl ?_
  refine Own.aloadN W37 d6_25 26 rfl (.ref o1) rfl rfl ?_
  refine Own.aloadN W37 d6_26 27 rfl (.ref l) rfl rfl ?_
  refine Own.iloadN W37 d6_27 28 rfl (2 : Int32) rfl ?_
  have X39 : Ext h h33 := Own.Ext.kp X25 K33 (allS (Nat.le_of_eq g1.symm) (allS (Nat.le_trans X4.1 g2) all0))
  have X40 : Ext h h37 := Own.Ext.wr' X39 Q37 (Nat.le_trans X5.1 (Nat.le_of_eq g7.symm))
  have XL38 := (F.ext X40).exa
  refine Own.callI W37 (tw hw 149 rfl) (tw hw 150 rfl) (tw hw 151 rfl) rfl (tw hw 152 rfl) (tw hw 153 rfl) (tw hw 154 rfl) (tw hw 155 rfl) (tw hw 67 rfl) (by decide) (argsL := [(.int (2 : Int32))]) (rest := [(.ref o1)]) (Own.Con.pay (con_get hw hEL (2 : Int32) (by decide) (by decide) (by decide) W37.old (F.ext X40) (A.ext X40) (y := x2) rfl) W37 (tw hw 156 rfl) (tw hw 14 rfl) (len := 5) (wd := 1) (by decide) (by decide) (fun _ q => nomatch q)) XL38 rfl (lenOf pd_6 rfl) rfl (Nat.le_of_ble_eq_true rfl) d6_28 33 rfl 3 23 (Nat.le_of_ble_eq_true rfl) (Nat.le_of_ble_eq_true rfl) (Nat.le_of_ble_eq_true rfl) (Nat.le_of_ble_eq_true rfl) ?_
  intro v41 T41 h41 u41 W41 R41 hq
  obtain ⟨rfl, eh41⟩ := hq
  have ei41 := eh41.symm; subst ei41
  have sf42 := R41.safe V37.lt (k37 o7 sf36)
  show Own.Go _ _ _ _ _ 33 #[.val (.ref l), .val (.ref o1), .val (.ref o7), .val (.int (2 : Int32))] [(.ref x2), (.ref o1)]
  refine Own.castY W41 (tw hw 170 rfl) (Ins.self (X2.ext X40)) d6_33 36 rfl ?_
  intro T43 W43
  refine Own.callS W43 (tw hw 171 rfl) (tw hw 172 rfl) (tw hw 159 rfl) (tw hw 173 rfl) (by decide) (argsL := [(.ref x2)]) (rest := [(.ref o1)]) (Own.Con.pay (con_rn1 hw hEL x2 W43.old) W43 (tw hw 173 rfl) (tw hw 159 rfl) (len := 3) (wd := 1) (by decide) (by decide) (fun _ q => nomatch q)) rfl (lenOf pd_28 rfl) rfl (Nat.le_of_ble_eq_true rfl) d6_36 39 rfl 3 23 (Nat.le_of_ble_eq_true rfl) (Nat.le_of_ble_eq_true rfl) (Nat.le_of_ble_eq_true rfl) (Nat.le_of_ble_eq_true rfl) ?_
  intro v44 T44 h44 u44 W44 R44 hq
  obtain ⟨rfl, eh44⟩ := hq
  have ei44 := eh44.symm; subst ei44
  have sf45 := R44.safe V37.lt sf42
  show Own.Go _ _ _ _ _ 39 #[.val (.ref l), .val (.ref o1), .val (.ref o7), .val (.int (2 : Int32))] [(.ref x2), (.ref o1)]
  refine Own.castY W44 (tw hw 170 rfl) (Ins.self (X2.ext X40)) d6_39 42 rfl ?_
  intro T46 W46
  have ZE47 := (F33.other Q37 (Nat.ne_of_lt (Nat.lt_of_lt_of_le A1.lt (Nat.le_trans (Nat.le_trans (Nat.le_refl _) K2.1) (Nat.le_of_eq g7.symm)))) (Nat.ne_of_lt (Nat.lt_of_lt_of_le F2.ltb (Nat.le_of_eq g7.symm)))).exa
  refine Own.callV W46 (tw hw 174 rfl) (tw hw 175 rfl) (fun s q => notFace_of_selects (args := #[]) (mvT (s := s) q (tw hw 177 rfl))) (tw hw 177 rfl) (tw hw 176 rfl) (by decide) (argsL := [(.ref x2)]) (rest := []) (Own.Con.pay (con_app hw hEL hmem hS hcz hEN W46.old (Nat.le_trans W0.n0 (Nat.le_of_eq g1.symm)) (Nat.le_trans W0.n0 (Nat.le_trans X4.1 g2)) (Nat.ne_of_lt (Nat.lt_of_lt_of_le A1.lt g2)) (F33.other Q37 (Nat.ne_of_lt (Nat.lt_of_lt_of_le A1.lt (Nat.le_trans (Nat.le_trans (Nat.le_refl _) K2.1) (Nat.le_of_eq g7.symm)))) (Nat.ne_of_lt (Nat.lt_of_lt_of_le F2.ltb (Nat.le_of_eq g7.symm)))) (S2.ext X40) (by simp only [List.length_append, List.length_nil]; omega)) W46 (tw hw 178 rfl) (tw hw 44 rfl) (len := 3) (wd := 0) (by decide) (by decide) (fun _ q => nomatch q)) ZE47 rfl (lenOf pd_29 rfl) rfl (Nat.le_of_ble_eq_true rfl) d6_42 45 rfl 3 23 (Nat.le_of_ble_eq_true rfl) (Nat.le_of_ble_eq_true rfl) (Nat.le_of_ble_eq_true rfl) (Nat.le_of_ble_eq_true rfl) ?_
  intro v48 T48 h48 u48 W48 R48 hq
  obtain ⟨rfl, K48, F48⟩ := hq
  show Own.Go _ _ _ _ _ 45 #[.val (.ref l), .val (.ref o1), .val (.ref o7), .val (.int (2 : Int32))] [(.ref o1)]
  refine Own.pop W48 d6_45 46 rfl rfl ?_
  refine Own.aloadN W48 d6_46 47 rfl (.ref o7) rfl rfl ?_
  refine Own.iloadN W48 d6_47 48 rfl (2 : Int32) rfl ?_
  refine Own.aloadN W48 d6_48 49 rfl (.ref o1) rfl rfl ?_
  have ZE49 := F48.exa
  refine Own.callV W48 (tw hw 221 rfl) (tw hw 222 rfl) (fun s q => notFace_of_selects (args := #[]) (mvT (s := s) q (tw hw 224 rfl))) (tw hw 224 rfl) (tw hw 223 rfl) (by decide) (argsL := []) (rest := [(.int (2 : Int32)), (.ref o7)]) (Own.Con.pay (con_sbl hw hEL W48.old F48) W48 (tw hw 225 rfl) (tw hw 44 rfl) (len := 3) (wd := 2) (by decide) (by decide) (fun _ q => nomatch q)) ZE49 rfl (lenOf pd_11 rfl) rfl (Nat.le_of_ble_eq_true rfl) d6_49 52 rfl 3 23 (Nat.le_of_ble_eq_true rfl) (Nat.le_of_ble_eq_true rfl) (Nat.le_of_ble_eq_true rfl) (Nat.le_of_ble_eq_true rfl) ?_
  intro v50 T50 h50 u50 W50 R50 hq
  obtain ⟨rfl, eh50⟩ := hq
  have ei50 := eh50.symm; subst ei50
  have sf51 := R50.safe (V37.keep K48 (ninS (Ne.symm (Nat.ne_of_lt (Nat.lt_of_lt_of_le A1.lt (Nat.le_trans (Nat.le_trans (Nat.le_refl _) K2.1) (Nat.le_of_eq g7.symm))))) (ninS (Ne.symm (Nat.ne_of_lt (Nat.lt_of_lt_of_le F2.ltb (Nat.le_of_eq g7.symm)))) nin0))).lt (R48.safe V37.lt sf45)
  show Own.Go _ _ _ _ _ 52 #[.val (.ref l), .val (.ref o1), .val (.ref o7), .val (.int (2 : Int32))] [(.int (Int32.ofNat ((([] ++ cs0) ++ cs1) ++ cs2).length)), (.int (2 : Int32)), (.ref o7)]
  refine Own.iastore W50 (V37.keep K48 (ninS (Ne.symm (Nat.ne_of_lt (Nat.lt_of_lt_of_le A1.lt (Nat.le_trans (Nat.le_trans (Nat.le_refl _) K2.1) (Nat.le_of_eq g7.symm))))) (ninS (Ne.symm (Nat.ne_of_lt (Nat.lt_of_lt_of_le F2.ltb (Nat.le_of_eq g7.symm)))) nin0))) 2 (by decide) (by decide) (Nat.le_of_ble_eq_true rfl) (Nat.le_trans W0.n0 (Nat.le_trans X5.1 (Nat.le_of_eq g7.symm))) d6_52 53 rfl ?_
  intro T52 h52 W52 Q52 A52 k52
  have V52 : Arv G.Z h52 o7 c7 .int (3 : Int32) [(.int (Int32.ofNat ([] ++ cs0).length)), (.int (Int32.ofNat (([] ++ cs0) ++ cs1).length)), (.int (Int32.ofNat ((([] ++ cs0) ++ cs1) ++ cs2).length))] (.int (0 : Int32)) := A52
  refine Own.iinc W52 d6_53 56 rfl rfl #[.val (.ref l), .val (.ref o1), .val (.ref o7), .val (.int (3 : Int32))] rfl ?_
  refine Own.goto W52 d6_56 19 (by decide) (by decide) ?_
  refine Own.iloadN W52 d6_19 20 rfl (3 : Int32) rfl ?_
  refine Own.aloadN W52 d6_20 21 rfl (.ref o7) rfl rfl ?_
  refine Own.arrlen W52 V52 d6_21 22 rfl ?_
  refine Own.icmpYes W52 d6_22 59 (by decide) (by decide) (by decide) ?_
  refine Own.aloadN W52 d6_59 60 rfl (.ref o7) rfl rfl ?_
  refine Own.arrlen W52 V52 d6_60 61 rfl ?_
  refine Own.ifYes W52 d6_61 70 (by decide) (by decide) (by decide) ?_
  refine Own.newO W52 (tw hw 230 rfl) (tw hw 231 rfl) (tw hw 40 rfl) d6_70 73 rfl 4 26 (by decide) (by decide) (by decide) (by decide) ?_
  intro T53 h53 o53 g53 W53 E53 A53 D53 s53 k53
  have F53_ends : Fld G.Z h53 o53 "com/example/vectorfire/vectorfire/model/PackedLines" "ends" "[I" .null := D53 (Or.inr (tw hw 111 rfl)) (ty := (.array .int)) (by decide)
  have F53_modCount : Fld G.Z h53 o53 "java/util/AbstractList" "modCount" "I" (.int (0 : Int32)) := D53 (Or.inl (tw hw 275 rfl)) (ty := .int) (by decide)
  have F53_joined : Fld G.Z h53 o53 "com/example/vectorfire/vectorfire/model/PackedLines" "joined" "Ljava/lang/String;" .null := D53 (Or.inr (tw hw 277 rfl)) (ty := (.object "java/lang/String")) (by decide)
  refine Own.dup W53 d6_73 74 rfl rfl ?_
  refine Own.aloadN W53 d6_74 75 rfl (.ref o1) rfl rfl ?_
  have ZE54 := ((F48.other Q52 (Nat.ne_of_lt (Nat.lt_of_lt_of_le A1.lt (Nat.le_trans (Nat.le_trans (Nat.le_refl _) K2.1) (Nat.le_of_eq g7.symm)))) (Nat.ne_of_lt (Nat.lt_of_lt_of_le F2.ltb (Nat.le_of_eq g7.symm)))).ext E53).exa
  refine Own.callV W53 (tw hw 232 rfl) (tw hw 233 rfl) (fun s q => notFace_of_selects (args := #[]) (mvT (s := s) q (tw hw 235 rfl))) (tw hw 235 rfl) (tw hw 234 rfl) (by decide) (argsL := []) (rest := [(.ref o53), (.ref o53)]) (Own.Con.pay (con_tos hw hEL hmem hS hcz W53.old ((F48.other Q52 (Nat.ne_of_lt (Nat.lt_of_lt_of_le A1.lt (Nat.le_trans (Nat.le_trans (Nat.le_refl _) K2.1) (Nat.le_of_eq g7.symm)))) (Nat.ne_of_lt (Nat.lt_of_lt_of_le F2.ltb (Nat.le_of_eq g7.symm)))).ext E53) (by simp only [List.length_append, List.length_nil]; omega) (by simp only [List.length_append, List.length_nil]; omega)) W53 (tw hw 236 rfl) (tw hw 44 rfl) (len := 3) (wd := 2) (by decide) (by decide) (fun _ q => nomatch q)) ZE54 rfl (lenOf pd_30 rfl) rfl (Nat.le_of_ble_eq_true rfl) d6_75 78 rfl 6 46 (Nat.le_of_ble_eq_true rfl) (Nat.le_of_ble_eq_true rfl) (Nat.le_of_ble_eq_true rfl) (Nat.le_of_ble_eq_true rfl) ?_
  intro v55 T55 h55 u55 W55 R55 hq
  obtain ⟨o55, rfl, E55, g55, S55⟩ := hq
  show Own.Go _ _ _ _ _ 78 #[.val (.ref l), .val (.ref o1), .val (.ref o7), .val (.int (3 : Int32))] [(.ref o55), (.ref o53), (.ref o53)]
  refine Own.aloadN W55 d6_78 79 rfl (.ref o7) rfl rfl ?_
  have X56 : Ext h h48 := Own.Ext.kp X40 K48 (allS (Nat.le_of_eq g1.symm) (allS (Nat.le_trans X4.1 g2) all0))
  have X57 : Ext h h52 := Own.Ext.wr' X56 Q52 (Nat.le_trans X5.1 (Nat.le_of_eq g7.symm))
  have X58 : Ext h53 h55 := E55
  refine Own.callX W55 rfl (tw hw 270 rfl) (tw hw 271 rfl) (tw hw 272 rfl) (by decide) (argsL := [(.ref o55), (.ref o7)]) (rest := [(.ref o53)]) (Own.Con.pay (con_pli hw hEL o55 o7 W55.old (Nat.le_trans W0.n0 (Nat.le_trans X57.1 (Nat.le_of_eq g53.symm))) (A53.ext X58) (F53_modCount.ext X58) (F53_joined.ext X58) (F53_ends.ext X58)) W55 (tw hw 272 rfl) (tw hw 40 rfl) (len := 3) (wd := 1) (by decide) (by decide) (fun _ q => nomatch q)) rfl (lenOf pd_31 rfl) rfl (Nat.le_of_ble_eq_true rfl) d6_79 82 rfl 6 46 (Nat.le_of_ble_eq_true rfl) (Nat.le_of_ble_eq_true rfl) (Nat.le_of_ble_eq_true rfl) (Nat.le_of_ble_eq_true rfl) ?_
  intro v59 T59 h59 u59 W59 R59 hq
  obtain ⟨rfl, K59, E59, Fj59, Fe59⟩ := hq
  show Own.Go _ _ _ _ _ 82 #[.val (.ref l), .val (.ref o1), .val (.ref o7), .val (.int (3 : Int32))] [(.ref o53)]
  have X60 : Ext h h53 := Own.Ext.tr X57 E53
  have X61 : Ext h h55 := Own.Ext.tr X60 E55
  have X62 : Ext h h59 := Own.Ext.kp X61 K59 (allS (Nat.le_trans X57.1 (Nat.le_of_eq g53.symm)) all0)
  have X63 : Ext h52 h53 := E53
  have X64 : Ext h52 h55 := Own.Ext.tr X63 E55
  have X65 : Ext h52 h59 := Own.Ext.kp X64 K59 (allS (Nat.le_of_eq g53.symm) all0)
  exact Own.retA W59 (by decide) (by decide) rfl rfl rfl d6_82 ⟨o53, o55, o7, _, rfl, X62, (Nat.le_trans X57.1 (Nat.le_of_eq g53.symm)), (Nat.le_trans X60.1 g55), (Nat.le_trans X5.1 (Nat.le_of_eq g7.symm)), E59, Fj59, Fe59, (S55.keep K59 (ninS (Ne.symm (Nat.ne_of_lt (Nat.lt_of_lt_of_le A53.lt g55))) nin0) (by intro y hy; cases List.mem_singleton.mp hy; exact Own.noByteI (tw hw 231 rfl) (A53.ext X58))), (V52.ext X65)⟩
set_option maxRecDepth 65536 in
set_option maxHeartbeats 40000000 in
theorem con_psz {G : Own.Gl} (hw : ∀ d ∈ tables_1, d.before G.a0 G.Z = true) (hEL : EW G.Z G.a0 G.EL) {a en : Addr} {kE : ClassId} {n : Int32} {vs : List Value} {dv : Value} {h : Heap} (hO : Old G.Z G.n0 h) (Fe : Fld G.Z h a "com/example/vectorfire/vectorfire/model/PackedLines" "ends" "[I" (.ref en)) (Ae : Arv G.Z h en kE .int n vs dv) :
    Own.Con G [] bPsz #[.ref a] h [] (fun v h' => v = some (.int n) ∧ h' = h) := by
  refine Own.Con.intro (plainFor_of_name pn_11) hO hEL _ (fun m => ef_bPsz m a) ?_
  intro X T0 W0 sf
  refine Own.aloadN W0 d15_0 1 rfl (.ref a) rfl rfl ?_
  refine Own.getF W0 (tw hw 110 rfl) Via.refl Fe d15_1 4 rfl ?_
  intro T1 W1
  refine Own.arrlen W1 Ae d15_4 5 rfl ?_
  exact Own.retI W1 (by decide) (by decide) rfl d15_5 ⟨rfl, rfl⟩
set_option maxRecDepth 65536 in
set_option maxHeartbeats 40000000 in
theorem con_pgs0 {G : Own.Gl} (hw : ∀ d ∈ tables_1, d.before G.a0 G.Z = true) (hEL : EW G.Z G.a0 G.EL) (hmem : True) {cz : Int32} (hS : Sta G.Z G.Z.heap Own.ST "COMPACT_STRINGS" "Z" (.int cz)) (hcz : ¬ cz = 0) {fm : Value} (SF : Sta G.Z G.Z.heap "jdk/internal/util/Preconditions" "SIOOBE_FORMATTER" "Ljava/util/function/BiFunction;" fm) (rfm : fm.isRef = true) (hE : G.EL = consts_1) {a en jn : Addr} {kE : ClassId} {n : Int32} {vs : List Value} {h : Heap} (hO : Old G.Z G.n0 h) (Fe : Fld G.Z h a "com/example/vectorfire/vectorfire/model/PackedLines" "ends" "[I" (.ref en)) (Fj : Fld G.Z h a "com/example/vectorfire/vectorfire/model/PackedLines" "joined" "Ljava/lang/String;" (.ref jn)) (Ae : Arv G.Z h en kE .int n vs (.int 0)) {J : List Int32} (SJ : Own.Str G.Z h jn J) {f t : Nat} (hft : f ≤ t) (htJ : t ≤ J.length) (hC : t - f ≤ 16) (hin : (0 : Int32) < n) (hvt : vs.getD (0 : Int32).toNatClampNeg (.int 0) = .int (Int32.ofNat t)) (hf0 : f = 0) {ii : Int32} (hii : ii = 0) :
    Own.Con G [] bPgs0 #[.ref a, .int ii] h [] (fun v h' => ∃ o : Addr, v = some (.ref o) ∧ Ext h h' ∧ Own.Str G.Z h' o ((J.drop f).take (t - f))) := by
  refine Own.Con.intro (plainFor_of_name pn_11) hO hEL _ (fun m => ef_bPgs0 m a ii) ?_
  intro X T0 W0 sf
  subst hii
  have XJ := SJ.exa
  refine Own.iloadN W0 d51_0 1 rfl (0 : Int32) rfl ?_
  refine Own.aloadN W0 d51_1 2 rfl (.ref a) rfl rfl ?_
  refine Own.getF W0 (tw hw 110 rfl) Via.refl Fe d51_2 5 rfl ?_
  intro T1 W1
  refine Own.arrlen W1 Ae d51_5 6 rfl ?_
  refine Own.callS W1 (tw hw 289 rfl) (tw hw 158 rfl) (tw hw 159 rfl) (tw hw 160 rfl) (by decide) (argsL := [(.int (0 : Int32)), (.int n)]) (rest := []) (Own.Con.pay (con_oci hw hEL _ n (by decide) hin W1.old) W1 (tw hw 160 rfl) (tw hw 159 rfl) (len := 3) (wd := 0) (by decide) (by decide) (fun _ q => nomatch q)) rfl (lenOf pd_1 rfl) rfl (Nat.le_of_ble_eq_true rfl) d51_6 9 rfl 0 0 (Nat.le_of_ble_eq_true rfl) (Nat.le_of_ble_eq_true rfl) (Nat.le_of_ble_eq_true rfl) (Nat.le_of_ble_eq_true rfl) ?_
  intro v2 T2 h2 u2 W2 R2 hq
  obtain ⟨rfl, eh2⟩ := hq
  have ei2 := eh2.symm; subst ei2
  show Own.Go _ _ _ _ _ 9 #[.val (.ref a), .val (.int (0 : Int32))] [(.int (0 : Int32))]
  refine Own.pop W2 d51_9 10 rfl rfl ?_
  refine Own.aloadN W2 d51_10 11 rfl (.ref a) rfl rfl ?_
  refine Own.getF W2 (tw hw 276 rfl) Via.refl Fj d51_11 14 rfl ?_
  intro T3 W3
  refine Own.iloadN W3 d51_14 15 rfl (0 : Int32) rfl ?_
  refine Own.ifNo W3 d51_15 18 (by decide) rfl ?_
  refine Own.iconst W3 d51_18 19 rfl (0 : Int32) rfl ?_
  refine Own.goto W3 d51_19 30 (by decide) (by decide) ?_
  refine Own.aloadN W3 d51_30 31 rfl (.ref a) rfl rfl ?_
  refine Own.getF W3 (tw hw 110 rfl) Via.refl Fe d51_31 34 rfl ?_
  intro T4 W4
  refine Own.iloadN W4 d51_34 35 rfl (0 : Int32) rfl ?_
  refine Own.iaload W4 Ae ⟨by decide, hin⟩ (.int (Int32.ofNat t)) hvt d51_35 36 rfl ?_
  refine Own.callV W4 (tw hw 290 rfl) (tw hw 291 rfl) (fun s q => notFace_of_selects (args := #[]) (mvT (s := s) q (tw hw 293 rfl))) (tw hw 293 rfl) (tw hw 292 rfl) (by decide) (argsL := [(.int (0 : Int32)), (.int (Int32.ofNat t))]) (rest := []) (Own.Con.pay (con_sub hw hEL hmem hS hcz SF rfm hE hft htJ hC (by rw [hf0]; rfl) rfl W4.old SJ) W4 (tw hw 294 rfl) (tw hw 5 rfl) (len := 3) (wd := 0) (by decide) (by decide) (fun _ q => nomatch q)) XJ rfl (lenOf pd_32 rfl) rfl (Nat.le_of_ble_eq_true rfl) d51_36 39 rfl 2 20 (Nat.le_of_ble_eq_true rfl) (Nat.le_of_ble_eq_true rfl) (Nat.le_of_ble_eq_true rfl) (Nat.le_of_ble_eq_true rfl) ?_
  intro v5 T5 h5 u5 W5 R5 hq
  obtain ⟨o5, rfl, E5, S5⟩ := hq
  show Own.Go _ _ _ _ _ 39 #[.val (.ref a), .val (.int (0 : Int32))] [(.ref o5)]
  exact Own.retA W5 (by decide) (by decide) rfl rfl rfl d51_39 ⟨o5, rfl, E5, S5⟩
set_option maxRecDepth 65536 in
set_option maxHeartbeats 40000000 in
theorem con_pgo0 {G : Own.Gl} (hw : ∀ d ∈ tables_1, d.before G.a0 G.Z = true) (hEL : EW G.Z G.a0 G.EL) (hmem : True) {cz : Int32} (hS : Sta G.Z G.Z.heap Own.ST "COMPACT_STRINGS" "Z" (.int cz)) (hcz : ¬ cz = 0) {fm : Value} (SF : Sta G.Z G.Z.heap "jdk/internal/util/Preconditions" "SIOOBE_FORMATTER" "Ljava/util/function/BiFunction;" fm) (rfm : fm.isRef = true) (hE : G.EL = consts_1) {a en jn : Addr} {kE : ClassId} {n : Int32} {vs : List Value} {h : Heap} (hO : Old G.Z G.n0 h) (Fe : Fld G.Z h a "com/example/vectorfire/vectorfire/model/PackedLines" "ends" "[I" (.ref en)) (Fj : Fld G.Z h a "com/example/vectorfire/vectorfire/model/PackedLines" "joined" "Ljava/lang/String;" (.ref jn)) (Ae : Arv G.Z h en kE .int n vs (.int 0)) {J : List Int32} (SJ : Own.Str G.Z h jn J) {f t : Nat} (hft : f ≤ t) (htJ : t ≤ J.length) (hC : t - f ≤ 16) (hin : (0 : Int32) < n) (hvt : vs.getD (0 : Int32).toNatClampNeg (.int 0) = .int (Int32.ofNat t)) (hf0 : f = 0) {ii : Int32} (hii : ii = 0) (Ea : Exa G.Z h a "com/example/vectorfire/vectorfire/model/PackedLines") :
    Own.Con G [] bPgo0 #[.ref a, .int ii] h [] (fun v h' => ∃ o : Addr, v = some (.ref o) ∧ Ext h h' ∧ Own.Str G.Z h' o ((J.drop f).take (t - f))) := by
  refine Own.Con.intro (plainFor_of_name pn_11) hO hEL _ (fun m => ef_bPgo0 m a ii) ?_
  intro X T0 W0 sf
  subst hii
  refine Own.aloadN W0 d50_0 1 rfl (.ref a) rfl rfl ?_
  refine Own.iloadN W0 d50_1 2 rfl (0 : Int32) rfl ?_
  refine Own.callV W0 (tw hw 284 rfl) (tw hw 285 rfl) (fun s q => notFace_of_selects (args := #[]) (mvT (s := s) q (tw hw 287 rfl))) (tw hw 287 rfl) (tw hw 286 rfl) (by decide) (argsL := [(.int (0 : Int32))]) (rest := []) (Own.Con.pay (con_pgs0 hw hEL hmem hS hcz SF rfm hE W0.old Fe Fj Ae SJ hft htJ hC hin hvt hf0 rfl) W0 (tw hw 288 rfl) (tw hw 40 rfl) (len := 3) (wd := 0) (by decide) (by decide) (fun _ q => nomatch q)) Ea rfl (lenOf pd_33 rfl) rfl (Nat.le_of_ble_eq_true rfl) d50_2 5 rfl 2 20 (Nat.le_of_ble_eq_true rfl) (Nat.le_of_ble_eq_true rfl) (Nat.le_of_ble_eq_true rfl) (Nat.le_of_ble_eq_true rfl) ?_
  intro v1 T1 h1 u1 W1 R1 hq
  obtain ⟨o1, rfl, E1, S1⟩ := hq
  show Own.Go _ _ _ _ _ 5 #[.val (.ref a), .val (.int (0 : Int32))] [(.ref o1)]
  exact Own.retA W1 (by decide) (by decide) rfl rfl rfl d50_5 ⟨o1, rfl, E1, S1⟩
set_option maxRecDepth 65536 in
set_option maxHeartbeats 40000000 in
theorem con_pgs1 {G : Own.Gl} (hw : ∀ d ∈ tables_1, d.before G.a0 G.Z = true) (hEL : EW G.Z G.a0 G.EL) (hmem : True) {cz : Int32} (hS : Sta G.Z G.Z.heap Own.ST "COMPACT_STRINGS" "Z" (.int cz)) (hcz : ¬ cz = 0) {fm : Value} (SF : Sta G.Z G.Z.heap "jdk/internal/util/Preconditions" "SIOOBE_FORMATTER" "Ljava/util/function/BiFunction;" fm) (rfm : fm.isRef = true) (hE : G.EL = consts_1) {a en jn : Addr} {kE : ClassId} {n : Int32} {vs : List Value} {h : Heap} (hO : Old G.Z G.n0 h) (Fe : Fld G.Z h a "com/example/vectorfire/vectorfire/model/PackedLines" "ends" "[I" (.ref en)) (Fj : Fld G.Z h a "com/example/vectorfire/vectorfire/model/PackedLines" "joined" "Ljava/lang/String;" (.ref jn)) (Ae : Arv G.Z h en kE .int n vs (.int 0)) {J : List Int32} (SJ : Own.Str G.Z h jn J) {f t : Nat} (hft : f ≤ t) (htJ : t ≤ J.length) (hC : t - f ≤ 16) (hin : (1 : Int32) < n) (hvt : vs.getD (1 : Int32).toNatClampNeg (.int 0) = .int (Int32.ofNat t)) (him : (0 : Int32) < n) (hvf : vs.getD (0 : Int32).toNatClampNeg (.int 0) = .int (Int32.ofNat f)) {ii : Int32} (hii : ii = 1) :
    Own.Con G [] bPgs1 #[.ref a, .int ii] h [] (fun v h' => ∃ o : Addr, v = some (.ref o) ∧ Ext h h' ∧ Own.Str G.Z h' o ((J.drop f).take (t - f))) := by
  refine Own.Con.intro (plainFor_of_name pn_11) hO hEL _ (fun m => ef_bPgs1 m a ii) ?_
  intro X T0 W0 sf
  subst hii
  have XJ := SJ.exa
  refine Own.iloadN W0 d51_0 1 rfl (1 : Int32) rfl ?_
  refine Own.aloadN W0 d51_1 2 rfl (.ref a) rfl rfl ?_
  refine Own.getF W0 (tw hw 110 rfl) Via.refl Fe d51_2 5 rfl ?_
  intro T1 W1
  refine Own.arrlen W1 Ae d51_5 6 rfl ?_
  refine Own.callS W1 (tw hw 289 rfl) (tw hw 158 rfl) (tw hw 159 rfl) (tw hw 160 rfl) (by decide) (argsL := [(.int (1 : Int32)), (.int n)]) (rest := []) (Own.Con.pay (con_oci hw hEL _ n (by decide) hin W1.old) W1 (tw hw 160 rfl) (tw hw 159 rfl) (len := 3) (wd := 0) (by decide) (by decide) (fun _ q => nomatch q)) rfl (lenOf pd_1 rfl) rfl (Nat.le_of_ble_eq_true rfl) d51_6 9 rfl 0 0 (Nat.le_of_ble_eq_true rfl) (Nat.le_of_ble_eq_true rfl) (Nat.le_of_ble_eq_true rfl) (Nat.le_of_ble_eq_true rfl) ?_
  intro v2 T2 h2 u2 W2 R2 hq
  obtain ⟨rfl, eh2⟩ := hq
  have ei2 := eh2.symm; subst ei2
  show Own.Go _ _ _ _ _ 9 #[.val (.ref a), .val (.int (1 : Int32))] [(.int (1 : Int32))]
  refine Own.pop W2 d51_9 10 rfl rfl ?_
  refine Own.aloadN W2 d51_10 11 rfl (.ref a) rfl rfl ?_
  refine Own.getF W2 (tw hw 276 rfl) Via.refl Fj d51_11 14 rfl ?_
  intro T3 W3
  refine Own.iloadN W3 d51_14 15 rfl (1 : Int32) rfl ?_
  refine Own.ifYes W3 d51_15 22 (by decide) (by decide) (by decide) ?_
  refine Own.aloadN W3 d51_22 23 rfl (.ref a) rfl rfl ?_
  refine Own.getF W3 (tw hw 110 rfl) Via.refl Fe d51_23 26 rfl ?_
  intro T4 W4
  refine Own.iloadN W4 d51_26 27 rfl (1 : Int32) rfl ?_
  refine Own.iconst W4 d51_27 28 rfl (1 : Int32) rfl ?_
  refine Own.isub W4 d51_28 29 rfl ?_
  refine Own.iaload W4 Ae ⟨by decide, him⟩ (.int (Int32.ofNat f)) hvf d51_29 30 rfl ?_
  refine Own.aloadN W4 d51_30 31 rfl (.ref a) rfl rfl ?_
  refine Own.getF W4 (tw hw 110 rfl) Via.refl Fe d51_31 34 rfl ?_
  intro T5 W5
  refine Own.iloadN W5 d51_34 35 rfl (1 : Int32) rfl ?_
  refine Own.iaload W5 Ae ⟨by decide, hin⟩ (.int (Int32.ofNat t)) hvt d51_35 36 rfl ?_
  refine Own.callV W5 (tw hw 290 rfl) (tw hw 291 rfl) (fun s q => notFace_of_selects (args := #[]) (mvT (s := s) q (tw hw 293 rfl))) (tw hw 293 rfl) (tw hw 292 rfl) (by decide) (argsL := [(.int (Int32.ofNat f)), (.int (Int32.ofNat t))]) (rest := []) (Own.Con.pay (con_sub hw hEL hmem hS hcz SF rfm hE hft htJ hC rfl rfl W5.old SJ) W5 (tw hw 294 rfl) (tw hw 5 rfl) (len := 3) (wd := 0) (by decide) (by decide) (fun _ q => nomatch q)) XJ rfl (lenOf pd_32 rfl) rfl (Nat.le_of_ble_eq_true rfl) d51_36 39 rfl 2 20 (Nat.le_of_ble_eq_true rfl) (Nat.le_of_ble_eq_true rfl) (Nat.le_of_ble_eq_true rfl) (Nat.le_of_ble_eq_true rfl) ?_
  intro v6 T6 h6 u6 W6 R6 hq
  obtain ⟨o6, rfl, E6, S6⟩ := hq
  show Own.Go _ _ _ _ _ 39 #[.val (.ref a), .val (.int (1 : Int32))] [(.ref o6)]
  exact Own.retA W6 (by decide) (by decide) rfl rfl rfl d51_39 ⟨o6, rfl, E6, S6⟩
set_option maxRecDepth 65536 in
set_option maxHeartbeats 40000000 in
theorem con_pgo1 {G : Own.Gl} (hw : ∀ d ∈ tables_1, d.before G.a0 G.Z = true) (hEL : EW G.Z G.a0 G.EL) (hmem : True) {cz : Int32} (hS : Sta G.Z G.Z.heap Own.ST "COMPACT_STRINGS" "Z" (.int cz)) (hcz : ¬ cz = 0) {fm : Value} (SF : Sta G.Z G.Z.heap "jdk/internal/util/Preconditions" "SIOOBE_FORMATTER" "Ljava/util/function/BiFunction;" fm) (rfm : fm.isRef = true) (hE : G.EL = consts_1) {a en jn : Addr} {kE : ClassId} {n : Int32} {vs : List Value} {h : Heap} (hO : Old G.Z G.n0 h) (Fe : Fld G.Z h a "com/example/vectorfire/vectorfire/model/PackedLines" "ends" "[I" (.ref en)) (Fj : Fld G.Z h a "com/example/vectorfire/vectorfire/model/PackedLines" "joined" "Ljava/lang/String;" (.ref jn)) (Ae : Arv G.Z h en kE .int n vs (.int 0)) {J : List Int32} (SJ : Own.Str G.Z h jn J) {f t : Nat} (hft : f ≤ t) (htJ : t ≤ J.length) (hC : t - f ≤ 16) (hin : (1 : Int32) < n) (hvt : vs.getD (1 : Int32).toNatClampNeg (.int 0) = .int (Int32.ofNat t)) (him : (0 : Int32) < n) (hvf : vs.getD (0 : Int32).toNatClampNeg (.int 0) = .int (Int32.ofNat f)) {ii : Int32} (hii : ii = 1) (Ea : Exa G.Z h a "com/example/vectorfire/vectorfire/model/PackedLines") :
    Own.Con G [] bPgo1 #[.ref a, .int ii] h [] (fun v h' => ∃ o : Addr, v = some (.ref o) ∧ Ext h h' ∧ Own.Str G.Z h' o ((J.drop f).take (t - f))) := by
  refine Own.Con.intro (plainFor_of_name pn_11) hO hEL _ (fun m => ef_bPgo1 m a ii) ?_
  intro X T0 W0 sf
  subst hii
  refine Own.aloadN W0 d50_0 1 rfl (.ref a) rfl rfl ?_
  refine Own.iloadN W0 d50_1 2 rfl (1 : Int32) rfl ?_
  refine Own.callV W0 (tw hw 284 rfl) (tw hw 285 rfl) (fun s q => notFace_of_selects (args := #[]) (mvT (s := s) q (tw hw 287 rfl))) (tw hw 287 rfl) (tw hw 286 rfl) (by decide) (argsL := [(.int (1 : Int32))]) (rest := []) (Own.Con.pay (con_pgs1 hw hEL hmem hS hcz SF rfm hE W0.old Fe Fj Ae SJ hft htJ hC hin hvt him hvf rfl) W0 (tw hw 288 rfl) (tw hw 40 rfl) (len := 3) (wd := 0) (by decide) (by decide) (fun _ q => nomatch q)) Ea rfl (lenOf pd_33 rfl) rfl (Nat.le_of_ble_eq_true rfl) d50_2 5 rfl 2 20 (Nat.le_of_ble_eq_true rfl) (Nat.le_of_ble_eq_true rfl) (Nat.le_of_ble_eq_true rfl) (Nat.le_of_ble_eq_true rfl) ?_
  intro v1 T1 h1 u1 W1 R1 hq
  obtain ⟨o1, rfl, E1, S1⟩ := hq
  show Own.Go _ _ _ _ _ 5 #[.val (.ref a), .val (.int (1 : Int32))] [(.ref o1)]
  exact Own.retA W1 (by decide) (by decide) rfl rfl rfl d50_5 ⟨o1, rfl, E1, S1⟩
set_option maxRecDepth 65536 in
set_option maxHeartbeats 40000000 in
theorem con_pgs2 {G : Own.Gl} (hw : ∀ d ∈ tables_1, d.before G.a0 G.Z = true) (hEL : EW G.Z G.a0 G.EL) (hmem : True) {cz : Int32} (hS : Sta G.Z G.Z.heap Own.ST "COMPACT_STRINGS" "Z" (.int cz)) (hcz : ¬ cz = 0) {fm : Value} (SF : Sta G.Z G.Z.heap "jdk/internal/util/Preconditions" "SIOOBE_FORMATTER" "Ljava/util/function/BiFunction;" fm) (rfm : fm.isRef = true) (hE : G.EL = consts_1) {a en jn : Addr} {kE : ClassId} {n : Int32} {vs : List Value} {h : Heap} (hO : Old G.Z G.n0 h) (Fe : Fld G.Z h a "com/example/vectorfire/vectorfire/model/PackedLines" "ends" "[I" (.ref en)) (Fj : Fld G.Z h a "com/example/vectorfire/vectorfire/model/PackedLines" "joined" "Ljava/lang/String;" (.ref jn)) (Ae : Arv G.Z h en kE .int n vs (.int 0)) {J : List Int32} (SJ : Own.Str G.Z h jn J) {f t : Nat} (hft : f ≤ t) (htJ : t ≤ J.length) (hC : t - f ≤ 16) (hin : (2 : Int32) < n) (hvt : vs.getD (2 : Int32).toNatClampNeg (.int 0) = .int (Int32.ofNat t)) (him : (1 : Int32) < n) (hvf : vs.getD (1 : Int32).toNatClampNeg (.int 0) = .int (Int32.ofNat f)) {ii : Int32} (hii : ii = 2) :
    Own.Con G [] bPgs2 #[.ref a, .int ii] h [] (fun v h' => ∃ o : Addr, v = some (.ref o) ∧ Ext h h' ∧ Own.Str G.Z h' o ((J.drop f).take (t - f))) := by
  refine Own.Con.intro (plainFor_of_name pn_11) hO hEL _ (fun m => ef_bPgs2 m a ii) ?_
  intro X T0 W0 sf
  subst hii
  have XJ := SJ.exa
  refine Own.iloadN W0 d51_0 1 rfl (2 : Int32) rfl ?_
  refine Own.aloadN W0 d51_1 2 rfl (.ref a) rfl rfl ?_
  refine Own.getF W0 (tw hw 110 rfl) Via.refl Fe d51_2 5 rfl ?_
  intro T1 W1
  refine Own.arrlen W1 Ae d51_5 6 rfl ?_
  refine Own.callS W1 (tw hw 289 rfl) (tw hw 158 rfl) (tw hw 159 rfl) (tw hw 160 rfl) (by decide) (argsL := [(.int (2 : Int32)), (.int n)]) (rest := []) (Own.Con.pay (con_oci hw hEL _ n (by decide) hin W1.old) W1 (tw hw 160 rfl) (tw hw 159 rfl) (len := 3) (wd := 0) (by decide) (by decide) (fun _ q => nomatch q)) rfl (lenOf pd_1 rfl) rfl (Nat.le_of_ble_eq_true rfl) d51_6 9 rfl 0 0 (Nat.le_of_ble_eq_true rfl) (Nat.le_of_ble_eq_true rfl) (Nat.le_of_ble_eq_true rfl) (Nat.le_of_ble_eq_true rfl) ?_
  intro v2 T2 h2 u2 W2 R2 hq
  obtain ⟨rfl, eh2⟩ := hq
  have ei2 := eh2.symm; subst ei2
  show Own.Go _ _ _ _ _ 9 #[.val (.ref a), .val (.int (2 : Int32))] [(.int (2 : Int32))]
  refine Own.pop W2 d51_9 10 rfl rfl ?_
  refine Own.aloadN W2 d51_10 11 rfl (.ref a) rfl rfl ?_
  refine Own.getF W2 (tw hw 276 rfl) Via.refl Fj d51_11 14 rfl ?_
  intro T3 W3
  refine Own.iloadN W3 d51_14 15 rfl (2 : Int32) rfl ?_
  refine Own.ifYes W3 d51_15 22 (by decide) (by decide) (by decide) ?_
  refine Own.aloadN W3 d51_22 23 rfl (.ref a) rfl rfl ?_
  refine Own.getF W3 (tw hw 110 rfl) Via.refl Fe d51_23 26 rfl ?_
  intro T4 W4
  refine Own.iloadN W4 d51_26 27 rfl (2 : Int32) rfl ?_
  refine Own.iconst W4 d51_27 28 rfl (1 : Int32) rfl ?_
  refine Own.isub W4 d51_28 29 rfl ?_
  refine Own.iaload W4 Ae ⟨by decide, him⟩ (.int (Int32.ofNat f)) hvf d51_29 30 rfl ?_
  refine Own.aloadN W4 d51_30 31 rfl (.ref a) rfl rfl ?_
  refine Own.getF W4 (tw hw 110 rfl) Via.refl Fe d51_31 34 rfl ?_
  intro T5 W5
  refine Own.iloadN W5 d51_34 35 rfl (2 : Int32) rfl ?_
  refine Own.iaload W5 Ae ⟨by decide, hin⟩ (.int (Int32.ofNat t)) hvt d51_35 36 rfl ?_
  refine Own.callV W5 (tw hw 290 rfl) (tw hw 291 rfl) (fun s q => notFace_of_selects (args := #[]) (mvT (s := s) q (tw hw 293 rfl))) (tw hw 293 rfl) (tw hw 292 rfl) (by decide) (argsL := [(.int (Int32.ofNat f)), (.int (Int32.ofNat t))]) (rest := []) (Own.Con.pay (con_sub hw hEL hmem hS hcz SF rfm hE hft htJ hC rfl rfl W5.old SJ) W5 (tw hw 294 rfl) (tw hw 5 rfl) (len := 3) (wd := 0) (by decide) (by decide) (fun _ q => nomatch q)) XJ rfl (lenOf pd_32 rfl) rfl (Nat.le_of_ble_eq_true rfl) d51_36 39 rfl 2 20 (Nat.le_of_ble_eq_true rfl) (Nat.le_of_ble_eq_true rfl) (Nat.le_of_ble_eq_true rfl) (Nat.le_of_ble_eq_true rfl) ?_
  intro v6 T6 h6 u6 W6 R6 hq
  obtain ⟨o6, rfl, E6, S6⟩ := hq
  show Own.Go _ _ _ _ _ 39 #[.val (.ref a), .val (.int (2 : Int32))] [(.ref o6)]
  exact Own.retA W6 (by decide) (by decide) rfl rfl rfl d51_39 ⟨o6, rfl, E6, S6⟩
set_option maxRecDepth 65536 in
set_option maxHeartbeats 40000000 in
theorem con_pgo2 {G : Own.Gl} (hw : ∀ d ∈ tables_1, d.before G.a0 G.Z = true) (hEL : EW G.Z G.a0 G.EL) (hmem : True) {cz : Int32} (hS : Sta G.Z G.Z.heap Own.ST "COMPACT_STRINGS" "Z" (.int cz)) (hcz : ¬ cz = 0) {fm : Value} (SF : Sta G.Z G.Z.heap "jdk/internal/util/Preconditions" "SIOOBE_FORMATTER" "Ljava/util/function/BiFunction;" fm) (rfm : fm.isRef = true) (hE : G.EL = consts_1) {a en jn : Addr} {kE : ClassId} {n : Int32} {vs : List Value} {h : Heap} (hO : Old G.Z G.n0 h) (Fe : Fld G.Z h a "com/example/vectorfire/vectorfire/model/PackedLines" "ends" "[I" (.ref en)) (Fj : Fld G.Z h a "com/example/vectorfire/vectorfire/model/PackedLines" "joined" "Ljava/lang/String;" (.ref jn)) (Ae : Arv G.Z h en kE .int n vs (.int 0)) {J : List Int32} (SJ : Own.Str G.Z h jn J) {f t : Nat} (hft : f ≤ t) (htJ : t ≤ J.length) (hC : t - f ≤ 16) (hin : (2 : Int32) < n) (hvt : vs.getD (2 : Int32).toNatClampNeg (.int 0) = .int (Int32.ofNat t)) (him : (1 : Int32) < n) (hvf : vs.getD (1 : Int32).toNatClampNeg (.int 0) = .int (Int32.ofNat f)) {ii : Int32} (hii : ii = 2) (Ea : Exa G.Z h a "com/example/vectorfire/vectorfire/model/PackedLines") :
    Own.Con G [] bPgo2 #[.ref a, .int ii] h [] (fun v h' => ∃ o : Addr, v = some (.ref o) ∧ Ext h h' ∧ Own.Str G.Z h' o ((J.drop f).take (t - f))) := by
  refine Own.Con.intro (plainFor_of_name pn_11) hO hEL _ (fun m => ef_bPgo2 m a ii) ?_
  intro X T0 W0 sf
  subst hii
  refine Own.aloadN W0 d50_0 1 rfl (.ref a) rfl rfl ?_
  refine Own.iloadN W0 d50_1 2 rfl (2 : Int32) rfl ?_
  refine Own.callV W0 (tw hw 284 rfl) (tw hw 285 rfl) (fun s q => notFace_of_selects (args := #[]) (mvT (s := s) q (tw hw 287 rfl))) (tw hw 287 rfl) (tw hw 286 rfl) (by decide) (argsL := [(.int (2 : Int32))]) (rest := []) (Own.Con.pay (con_pgs2 hw hEL hmem hS hcz SF rfm hE W0.old Fe Fj Ae SJ hft htJ hC hin hvt him hvf rfl) W0 (tw hw 288 rfl) (tw hw 40 rfl) (len := 3) (wd := 0) (by decide) (by decide) (fun _ q => nomatch q)) Ea rfl (lenOf pd_33 rfl) rfl (Nat.le_of_ble_eq_true rfl) d50_2 5 rfl 2 20 (Nat.le_of_ble_eq_true rfl) (Nat.le_of_ble_eq_true rfl) (Nat.le_of_ble_eq_true rfl) (Nat.le_of_ble_eq_true rfl) ?_
  intro v1 T1 h1 u1 W1 R1 hq
  obtain ⟨o1, rfl, E1, S1⟩ := hq
  show Own.Go _ _ _ _ _ 5 #[.val (.ref a), .val (.int (2 : Int32))] [(.ref o1)]
  exact Own.retA W1 (by decide) (by decide) rfl rfl rfl d50_5 ⟨o1, rfl, E1, S1⟩
set_option maxRecDepth 65536 in
set_option maxHeartbeats 40000000 in
theorem con_law {G : Own.Gl} (hw : ∀ d ∈ tables_1, d.before G.a0 G.Z = true) (hEL : EW G.Z G.a0 G.EL) (hmem : True) {cz : Int32} (hS : Sta G.Z G.Z.heap Own.ST "COMPACT_STRINGS" "Z" (.int cz)) (hcz : ¬ cz = 0) {fm : Value} (SF : Sta G.Z G.Z.heap "jdk/internal/util/Preconditions" "SIOOBE_FORMATTER" "Ljava/util/function/BiFunction;" fm) (rfm : fm.isRef = true) (hE : G.EL = consts_1) (hEN : Own.EN G.Z G.a0 G.EL 16) {dc : Addr} {kD : ClassId} (DS : Sta G.Z G.Z.heap "java/util/ArrayList" "DEFAULTCAPACITY_EMPTY_ELEMENTDATA" "[Ljava/lang/Object;" (.ref dc)) (DA : Arv G.Z G.Z.heap dc kD (.object "java/lang/Object") 0 [] .null) {rn en0 : Addr} {k0 : ClassId} (TN : Sta G.Z G.Z.heap "com/example/vectorfire/vectorfire/model/PackedLines" "NONE" "Lcom/example/vectorfire/vectorfire/model/PackedLines;" (.ref rn)) (XN : Exa G.Z G.Z.heap rn "com/example/vectorfire/vectorfire/model/PackedLines") (FN : Fld G.Z G.Z.heap rn "com/example/vectorfire/vectorfire/model/PackedLines" "ends" "[I" (.ref en0)) (AN : Arv G.Z G.Z.heap en0 k0 .int 0 [] (.int 0)) (p0 : Int32) (p1 : Int32) (p2 : Int32) (p3 : Int32) {h : Heap} (hO : Old G.Z G.n0 h) :
    Own.Con G tables_1 bLaw #[.int p0, .int p1, .int p2, .int p3] h [] (fun v h' => v = some (.int 1)) := by
  refine Own.Con.intro (plainFor_of_name pn_10) hO hEL _ (fun m => ef_law m p0 p1 p2 p3) ?_
  intro X T0 W0 sf
  have XN' := XN.ext W0.old.2
  have FN' := FN.ext W0.old.2
  have AN' := AN.ext W0.old.2
  refine Own.iloadN W0 at_0 1 rfl p0 rfl ?_
  refine Own.iconst W0 at_1 2 rfl (3 : Int32) rfl ?_
  refine Own.iand W0 at_2 3 rfl ?_
  refine Own.istore W0 at_3 5 rfl #[.val (.int p0), .val (.int p1), .val (.int p2), .val (.int p3), .val (.int (p0 &&& (3 : Int32))), .unset, .unset, .unset, .unset, .unset, .unset] rfl ?_
  rcases and3 p0 with en | en | en | en
  · skip
    rw [en]
    show Own.Go _ _ _ _ _ 5 #[.val (.int p0), .val (.int p1), .val (.int p2), .val (.int p3), .val (.int (0 : Int32)), .unset, .unset, .unset, .unset, .unset, .unset] []
    refine Own.iloadN W0 at_5 6 rfl p1 rfl ?_
    refine Own.iloadN W0 at_6 7 rfl p0 rfl ?_
    refine Own.iconst W0 at_7 8 rfl (2 : Int32) rfl ?_
    refine Own.iushr W0 at_8 9 rfl ?_
    refine Own.iconst W0 at_9 10 rfl (3 : Int32) rfl ?_
    refine Own.iand W0 at_10 11 rfl ?_
    refine Own.callS W0 (tw hw 0 rfl) (tw hw 1 rfl) (tw hw 2 rfl) (tw hw 3 rfl) (by decide) (argsL := [(.int p1), (.int (((p0.toUInt32 >>> ((2 : Int32) &&& 31).toUInt32).toInt32) &&& (3 : Int32)))]) (rest := []) (Own.Con.pay (con_lin hw hEL hmem hS hcz hE _ _ W0.old) W0 (tw hw 3 rfl) (tw hw 2 rfl) (len := 3) (wd := 0) (by decide) (by decide) (fun _ q => nomatch q)) rfl (lenOf pd_32 rfl) rfl (Nat.le_of_ble_eq_true rfl) at_11 14 rfl 3 10 (Nat.le_of_ble_eq_true rfl) (Nat.le_of_ble_eq_true rfl) (Nat.le_of_ble_eq_true rfl) (Nat.le_of_ble_eq_true rfl) ?_
    intro v1 T1 h1 u1 W1 R1 hq
    obtain ⟨o1, cs1, rfl, E1, F1, q1⟩ := hq
    have XS1 := F1.exa
    show Own.Go _ _ _ _ _ 14 #[.val (.int p0), .val (.int p1), .val (.int p2), .val (.int p3), .val (.int (0 : Int32)), .unset, .unset, .unset, .unset, .unset, .unset] [(.ref o1)]
    refine Own.astore W1 at_14 16 rfl rfl #[.val (.int p0), .val (.int p1), .val (.int p2), .val (.int p3), .val (.int (0 : Int32)), .val (.ref o1), .unset, .unset, .unset, .unset, .unset] rfl ?_
    refine Own.iloadN W1 at_16 17 rfl p2 rfl ?_
    refine Own.iloadN W1 at_17 18 rfl p0 rfl ?_
    refine Own.iconst W1 at_18 19 rfl (4 : Int32) rfl ?_
    refine Own.iushr W1 at_19 20 rfl ?_
    refine Own.iconst W1 at_20 21 rfl (3 : Int32) rfl ?_
    refine Own.iand W1 at_21 22 rfl ?_
    refine Own.callS W1 (tw hw 0 rfl) (tw hw 1 rfl) (tw hw 2 rfl) (tw hw 3 rfl) (by decide) (argsL := [(.int p2), (.int (((p0.toUInt32 >>> ((4 : Int32) &&& 31).toUInt32).toInt32) &&& (3 : Int32)))]) (rest := []) (Own.Con.pay (con_lin hw hEL hmem hS hcz hE _ _ W1.old) W1 (tw hw 3 rfl) (tw hw 2 rfl) (len := 3) (wd := 0) (by decide) (by decide) (fun _ q => nomatch q)) rfl (lenOf pd_32 rfl) rfl (Nat.le_of_ble_eq_true rfl) at_22 25 rfl 6 20 (Nat.le_of_ble_eq_true rfl) (Nat.le_of_ble_eq_true rfl) (Nat.le_of_ble_eq_true rfl) (Nat.le_of_ble_eq_true rfl) ?_
    intro v2 T2 h2 u2 W2 R2 hq
    obtain ⟨o2, cs2, rfl, E2, F2, q2⟩ := hq
    have XS2 := F2.exa
    show Own.Go _ _ _ _ _ 25 #[.val (.int p0), .val (.int p1), .val (.int p2), .val (.int p3), .val (.int (0 : Int32)), .val (.ref o1), .unset, .unset, .unset, .unset, .unset] [(.ref o2)]
    refine Own.astore W2 at_25 27 rfl rfl #[.val (.int p0), .val (.int p1), .val (.int p2), .val (.int p3), .val (.int (0 : Int32)), .val (.ref o1), .val (.ref o2), .unset, .unset, .unset, .unset] rfl ?_
    refine Own.iloadN W2 at_27 28 rfl p3 rfl ?_
    refine Own.iloadN W2 at_28 29 rfl p0 rfl ?_
    refine Own.bipush W2 at_29 31 rfl (6 : Int32) rfl ?_
    refine Own.iushr W2 at_31 32 rfl ?_
    refine Own.iconst W2 at_32 33 rfl (3 : Int32) rfl ?_
    refine Own.iand W2 at_33 34 rfl ?_
    refine Own.callS W2 (tw hw 0 rfl) (tw hw 1 rfl) (tw hw 2 rfl) (tw hw 3 rfl) (by decide) (argsL := [(.int p3), (.int (((p0.toUInt32 >>> ((6 : Int32) &&& 31).toUInt32).toInt32) &&& (3 : Int32)))]) (rest := []) (Own.Con.pay (con_lin hw hEL hmem hS hcz hE _ _ W2.old) W2 (tw hw 3 rfl) (tw hw 2 rfl) (len := 3) (wd := 0) (by decide) (by decide) (fun _ q => nomatch q)) rfl (lenOf pd_32 rfl) rfl (Nat.le_of_ble_eq_true rfl) at_34 37 rfl 9 30 (Nat.le_of_ble_eq_true rfl) (Nat.le_of_ble_eq_true rfl) (Nat.le_of_ble_eq_true rfl) (Nat.le_of_ble_eq_true rfl) ?_
    intro v3 T3 h3 u3 W3 R3 hq
    obtain ⟨o3, cs3, rfl, E3, F3, q3⟩ := hq
    have XS3 := F3.exa
    show Own.Go _ _ _ _ _ 37 #[.val (.int p0), .val (.int p1), .val (.int p2), .val (.int p3), .val (.int (0 : Int32)), .val (.ref o1), .val (.ref o2), .unset, .unset, .unset, .unset] [(.ref o3)]
    refine Own.astore W3 at_37 39 rfl rfl #[.val (.int p0), .val (.int p1), .val (.int p2), .val (.int p3), .val (.int (0 : Int32)), .val (.ref o1), .val (.ref o2), .val (.ref o3), .unset, .unset, .unset] rfl ?_
    refine Own.newO W3 (tw hw 12 rfl) (tw hw 13 rfl) (tw hw 14 rfl) at_39 42 rfl 10 33 (by decide) (by decide) (by decide) (by decide) ?_
    intro T4 h4 o4 g4 W4 E4 A4 D4 s4 k4
    have F4_modCount : Fld G.Z h4 o4 "java/util/AbstractList" "modCount" "I" (.int (0 : Int32)) := D4 (Or.inl (tw hw 34 rfl)) (ty := .int) (by decide)
    have F4_elementData : Fld G.Z h4 o4 "java/util/ArrayList" "elementData" "[Ljava/lang/Object;" .null := D4 (Or.inl (tw hw 37 rfl)) (ty := (.array (.object "java/lang/Object"))) (by decide)
    have F4_size : Fld G.Z h4 o4 "java/util/ArrayList" "size" "I" (.int (0 : Int32)) := D4 (Or.inl (tw hw 70 rfl)) (ty := .int) (by decide)
    refine Own.dup W4 at_42 43 rfl rfl ?_
    have X5 : Ext h h1 := E1
    have X6 : Ext h h2 := Own.Ext.tr X5 E2
    have X7 : Ext h h3 := Own.Ext.tr X6 E3
    refine Own.callX W4 rfl (tw hw 15 rfl) (tw hw 16 rfl) (tw hw 17 rfl) (by decide) (argsL := []) (rest := [(.ref o4)]) (Own.Con.pay (con_ali hw hEL DS DA W4.old (Nat.le_trans W0.n0 (Nat.le_trans X7.1 (Nat.le_of_eq g4.symm))) A4 F4_modCount F4_size F4_elementData) W4 (tw hw 17 rfl) (tw hw 14 rfl) (len := 3) (wd := 1) (by decide) (by decide) (fun _ q => nomatch q)) rfl (lenOf pd_0 rfl) rfl (Nat.le_of_ble_eq_true rfl) at_43 46 rfl 10 33 (Nat.le_of_ble_eq_true rfl) (Nat.le_of_ble_eq_true rfl) (Nat.le_of_ble_eq_true rfl) (Nat.le_of_ble_eq_true rfl) ?_
    intro v8 T8 h8 u8 W8 R8 hq
    obtain ⟨rfl, K8, L8⟩ := hq
    show Own.Go _ _ _ _ _ 46 #[.val (.int p0), .val (.int p1), .val (.int p2), .val (.int p3), .val (.int (0 : Int32)), .val (.ref o1), .val (.ref o2), .val (.ref o3), .unset, .unset, .unset] [(.ref o4)]
    refine Own.astore W8 at_46 48 rfl rfl #[.val (.int p0), .val (.int p1), .val (.int p2), .val (.int p3), .val (.int (0 : Int32)), .val (.ref o1), .val (.ref o2), .val (.ref o3), .val (.ref o4), .unset, .unset] rfl ?_
    refine Own.iload W8 at_48 50 rfl (0 : Int32) rfl ?_
    refine Own.ifYes W8 at_50 61 (by decide) (by decide) (by decide) ?_
    refine Own.iload W8 at_61 63 rfl (0 : Int32) rfl ?_
    refine Own.iconst W8 at_63 64 rfl (1 : Int32) rfl ?_
    refine Own.icmpYes W8 at_64 75 (by decide) (by decide) (by decide) ?_
    refine Own.iload W8 at_75 77 rfl (0 : Int32) rfl ?_
    refine Own.iconst W8 at_77 78 rfl (2 : Int32) rfl ?_
    refine Own.icmpYes W8 at_78 89 (by decide) (by decide) (by decide) ?_
    refine Own.aload W8 at_89 91 rfl (.ref o4) rfl rfl ?_
    refine Own.callS W8 (tw hw 38 rfl) (tw hw 39 rfl) (tw hw 40 rfl) (tw hw 41 rfl) (by decide) (argsL := [(.ref o4)]) (rest := []) (Own.Con.pay (con_cpy0 hw hEL hmem hS hcz hEN DS DA TN XN FN AN W8.old L8) W8 (tw hw 41 rfl) (tw hw 40 rfl) (len := 3) (wd := 0) (by decide) (by decide) (fun _ q => nomatch q)) rfl (lenOf pd_34 rfl) rfl (Nat.le_of_ble_eq_true rfl) at_91 94 rfl 16 79 (Nat.le_of_ble_eq_true rfl) (Nat.le_of_ble_eq_true rfl) (Nat.le_of_ble_eq_true rfl) (Nat.le_of_ble_eq_true rfl) ?_
    intro v9 T9 h9 u9 W9 R9 hq
    obtain ⟨rfl, E9⟩ := hq
    show Own.Go _ _ _ _ _ 94 #[.val (.int p0), .val (.int p1), .val (.int p2), .val (.int p3), .val (.int (0 : Int32)), .val (.ref o1), .val (.ref o2), .val (.ref o3), .val (.ref o4), .unset, .unset] [(.ref rn)]
    refine Own.astore W9 at_94 96 rfl rfl #[.val (.int p0), .val (.int p1), .val (.int p2), .val (.int p3), .val (.int (0 : Int32)), .val (.ref o1), .val (.ref o2), .val (.ref o3), .val (.ref o4), .val (.ref rn), .unset] rfl ?_
    refine Own.aload W9 at_96 98 rfl (.ref o4) rfl rfl ?_
    refine Own.aload W9 at_98 100 rfl (.ref o1) rfl rfl ?_
    have X11 : Ext h8 h9 := E9
    have XL10 := (L8.ext X11).exa
    have X12 : Ext h1 h2 := E2
    have X13 : Ext h1 h3 := Own.Ext.tr X12 E3
    have X14 : Ext h1 h4 := Own.Ext.tr X13 E4
    have X15 : Ext h1 h8 := Own.Ext.kp X14 K8 (allS (Nat.le_trans X13.1 (Nat.le_of_eq g4.symm)) all0)
    have X16 : Ext h1 h9 := Own.Ext.tr X15 E9
    refine Own.callV W9 (tw hw 74 rfl) (tw hw 75 rfl) (fun s q => notFace_of_selects (args := #[]) (mvT (s := s) q (tw hw 77 rfl))) (tw hw 77 rfl) (tw hw 76 rfl) (by decide) (argsL := [(.ref o1)]) (rest := []) (Own.Con.pay (con_ad_0 hw hEL DS DA W9.old (Nat.le_trans W0.n0 (Nat.le_trans X7.1 (Nat.le_of_eq g4.symm))) (L8.ext X11) (XS1.ext X16)) W9 (tw hw 78 rfl) (tw hw 14 rfl) (len := 3) (wd := 0) (by decide) (by decide) (fun _ q => nomatch q)) XL10 rfl (lenOf pd_35 rfl) rfl (Nat.le_of_ble_eq_true rfl) at_100 103 rfl 17 89 (Nat.le_of_ble_eq_true rfl) (Nat.le_of_ble_eq_true rfl) (Nat.le_of_ble_eq_true rfl) (Nat.le_of_ble_eq_true rfl) ?_
    intro v17 T17 h17 u17 W17 R17 hq
    obtain ⟨rfl, e17, c17, K17, g17, L17, A17, O17⟩ := hq
    show Own.Go _ _ _ _ _ 103 #[.val (.int p0), .val (.int p1), .val (.int p2), .val (.int p3), .val (.int (0 : Int32)), .val (.ref o1), .val (.ref o2), .val (.ref o3), .val (.ref o4), .val (.ref rn), .unset] [(.int (1 : Int32))]
    refine Own.pop W17 at_103 104 rfl rfl ?_
    refine Own.aload W17 at_104 106 rfl (.ref rn) rfl rfl ?_
    have X18 : Ext h h4 := Own.Ext.tr X7 E4
    have X19 : Ext h h8 := Own.Ext.kp X18 K8 (allS (Nat.le_trans X7.1 (Nat.le_of_eq g4.symm)) all0)
    have X20 : Ext h h9 := Own.Ext.tr X19 E9
    have X21 : Ext h h17 := Own.Ext.kp X20 K17 (allS (Nat.le_trans X7.1 (Nat.le_of_eq g4.symm)) all0)
    refine Own.callI W17 (tw hw 103 rfl) (tw hw 61 rfl) (tw hw 62 rfl) rfl (tw hw 104 rfl) (tw hw 105 rfl) (tw hw 106 rfl) (tw hw 107 rfl) (tw hw 108 rfl) (by decide) (argsL := []) (rest := []) (Own.Con.pay (con_psz hw hEL W17.old (FN'.ext X21) (AN'.ext X21)) W17 (tw hw 109 rfl) (tw hw 40 rfl) (len := 5) (wd := 0) (by decide) (by decide) (fun _ q => nomatch q)) (XN'.ext X21) rfl (lenOf pd_11 rfl) rfl (Nat.le_of_ble_eq_true rfl) at_106 111 rfl 17 89 (Nat.le_of_ble_eq_true rfl) (Nat.le_of_ble_eq_true rfl) (Nat.le_of_ble_eq_true rfl) (Nat.le_of_ble_eq_true rfl) ?_
    intro v22 T22 h22 u22 W22 R22 hq
    obtain ⟨rfl, eh22⟩ := hq
    have ei22 := eh22.symm; subst ei22
    show Own.Go _ _ _ _ _ 111 #[.val (.int p0), .val (.int p1), .val (.int p2), .val (.int p3), .val (.int (0 : Int32)), .val (.ref o1), .val (.ref o2), .val (.ref o3), .val (.ref o4), .val (.ref rn), .unset] [(.int (0 : Int32))]
    refine Own.iload W22 at_111 113 rfl (0 : Int32) rfl ?_
    refine Own.icmpYes W22 at_113 118 (by decide) (by decide) (by decide) ?_
    refine Own.iconst W22 at_118 119 rfl (1 : Int32) rfl ?_
    refine Own.istore W22 at_119 121 rfl #[.val (.int p0), .val (.int p1), .val (.int p2), .val (.int p3), .val (.int (0 : Int32)), .val (.ref o1), .val (.ref o2), .val (.ref o3), .val (.ref o4), .val (.ref rn), .val (.int (1 : Int32))] rfl ?_
    refine Own.iload W22 at_121 123 rfl (0 : Int32) rfl ?_
    refine Own.ifYes W22 at_123 157 (by decide) (by decide) (by decide) ?_
    refine Own.iload W22 at_157 159 rfl (0 : Int32) rfl ?_
    refine Own.iconst W22 at_159 160 rfl (1 : Int32) rfl ?_
    refine Own.icmpYes W22 at_160 194 (by decide) (by decide) (by decide) ?_
    refine Own.iload W22 at_194 196 rfl (0 : Int32) rfl ?_
    refine Own.iconst W22 at_196 197 rfl (2 : Int32) rfl ?_
    refine Own.icmpYes W22 at_197 231 (by decide) (by decide) (by decide) ?_
    refine Own.iload W22 at_231 233 rfl (1 : Int32) rfl ?_
    exact Own.retB W22 (by decide) (by decide) rfl at_233 rfl rfl
  · skip
    rw [en]
    show Own.Go _ _ _ _ _ 5 #[.val (.int p0), .val (.int p1), .val (.int p2), .val (.int p3), .val (.int (1 : Int32)), .unset, .unset, .unset, .unset, .unset, .unset] []
    refine Own.iloadN W0 at_5 6 rfl p1 rfl ?_
    refine Own.iloadN W0 at_6 7 rfl p0 rfl ?_
    refine Own.iconst W0 at_7 8 rfl (2 : Int32) rfl ?_
    refine Own.iushr W0 at_8 9 rfl ?_
    refine Own.iconst W0 at_9 10 rfl (3 : Int32) rfl ?_
    refine Own.iand W0 at_10 11 rfl ?_
    refine Own.callS W0 (tw hw 0 rfl) (tw hw 1 rfl) (tw hw 2 rfl) (tw hw 3 rfl) (by decide) (argsL := [(.int p1), (.int (((p0.toUInt32 >>> ((2 : Int32) &&& 31).toUInt32).toInt32) &&& (3 : Int32)))]) (rest := []) (Own.Con.pay (con_lin hw hEL hmem hS hcz hE _ _ W0.old) W0 (tw hw 3 rfl) (tw hw 2 rfl) (len := 3) (wd := 0) (by decide) (by decide) (fun _ q => nomatch q)) rfl (lenOf pd_32 rfl) rfl (Nat.le_of_ble_eq_true rfl) at_11 14 rfl 3 10 (Nat.le_of_ble_eq_true rfl) (Nat.le_of_ble_eq_true rfl) (Nat.le_of_ble_eq_true rfl) (Nat.le_of_ble_eq_true rfl) ?_
    intro v23 T23 h23 u23 W23 R23 hq
    obtain ⟨o23, cs23, rfl, E23, F23, q23⟩ := hq
    have XS23 := F23.exa
    show Own.Go _ _ _ _ _ 14 #[.val (.int p0), .val (.int p1), .val (.int p2), .val (.int p3), .val (.int (1 : Int32)), .unset, .unset, .unset, .unset, .unset, .unset] [(.ref o23)]
    refine Own.astore W23 at_14 16 rfl rfl #[.val (.int p0), .val (.int p1), .val (.int p2), .val (.int p3), .val (.int (1 : Int32)), .val (.ref o23), .unset, .unset, .unset, .unset, .unset] rfl ?_
    refine Own.iloadN W23 at_16 17 rfl p2 rfl ?_
    refine Own.iloadN W23 at_17 18 rfl p0 rfl ?_
    refine Own.iconst W23 at_18 19 rfl (4 : Int32) rfl ?_
    refine Own.iushr W23 at_19 20 rfl ?_
    refine Own.iconst W23 at_20 21 rfl (3 : Int32) rfl ?_
    refine Own.iand W23 at_21 22 rfl ?_
    refine Own.callS W23 (tw hw 0 rfl) (tw hw 1 rfl) (tw hw 2 rfl) (tw hw 3 rfl) (by decide) (argsL := [(.int p2), (.int (((p0.toUInt32 >>> ((4 : Int32) &&& 31).toUInt32).toInt32) &&& (3 : Int32)))]) (rest := []) (Own.Con.pay (con_lin hw hEL hmem hS hcz hE _ _ W23.old) W23 (tw hw 3 rfl) (tw hw 2 rfl) (len := 3) (wd := 0) (by decide) (by decide) (fun _ q => nomatch q)) rfl (lenOf pd_32 rfl) rfl (Nat.le_of_ble_eq_true rfl) at_22 25 rfl 6 20 (Nat.le_of_ble_eq_true rfl) (Nat.le_of_ble_eq_true rfl) (Nat.le_of_ble_eq_true rfl) (Nat.le_of_ble_eq_true rfl) ?_
    intro v24 T24 h24 u24 W24 R24 hq
    obtain ⟨o24, cs24, rfl, E24, F24, q24⟩ := hq
    have XS24 := F24.exa
    show Own.Go _ _ _ _ _ 25 #[.val (.int p0), .val (.int p1), .val (.int p2), .val (.int p3), .val (.int (1 : Int32)), .val (.ref o23), .unset, .unset, .unset, .unset, .unset] [(.ref o24)]
    refine Own.astore W24 at_25 27 rfl rfl #[.val (.int p0), .val (.int p1), .val (.int p2), .val (.int p3), .val (.int (1 : Int32)), .val (.ref o23), .val (.ref o24), .unset, .unset, .unset, .unset] rfl ?_
    refine Own.iloadN W24 at_27 28 rfl p3 rfl ?_
    refine Own.iloadN W24 at_28 29 rfl p0 rfl ?_
    refine Own.bipush W24 at_29 31 rfl (6 : Int32) rfl ?_
    refine Own.iushr W24 at_31 32 rfl ?_
    refine Own.iconst W24 at_32 33 rfl (3 : Int32) rfl ?_
    refine Own.iand W24 at_33 34 rfl ?_
    refine Own.callS W24 (tw hw 0 rfl) (tw hw 1 rfl) (tw hw 2 rfl) (tw hw 3 rfl) (by decide) (argsL := [(.int p3), (.int (((p0.toUInt32 >>> ((6 : Int32) &&& 31).toUInt32).toInt32) &&& (3 : Int32)))]) (rest := []) (Own.Con.pay (con_lin hw hEL hmem hS hcz hE _ _ W24.old) W24 (tw hw 3 rfl) (tw hw 2 rfl) (len := 3) (wd := 0) (by decide) (by decide) (fun _ q => nomatch q)) rfl (lenOf pd_32 rfl) rfl (Nat.le_of_ble_eq_true rfl) at_34 37 rfl 9 30 (Nat.le_of_ble_eq_true rfl) (Nat.le_of_ble_eq_true rfl) (Nat.le_of_ble_eq_true rfl) (Nat.le_of_ble_eq_true rfl) ?_
    intro v25 T25 h25 u25 W25 R25 hq
    obtain ⟨o25, cs25, rfl, E25, F25, q25⟩ := hq
    have XS25 := F25.exa
    show Own.Go _ _ _ _ _ 37 #[.val (.int p0), .val (.int p1), .val (.int p2), .val (.int p3), .val (.int (1 : Int32)), .val (.ref o23), .val (.ref o24), .unset, .unset, .unset, .unset] [(.ref o25)]
    refine Own.astore W25 at_37 39 rfl rfl #[.val (.int p0), .val (.int p1), .val (.int p2), .val (.int p3), .val (.int (1 : Int32)), .val (.ref o23), .val (.ref o24), .val (.ref o25), .unset, .unset, .unset] rfl ?_
    refine Own.newO W25 (tw hw 12 rfl) (tw hw 13 rfl) (tw hw 14 rfl) at_39 42 rfl 10 33 (by decide) (by decide) (by decide) (by decide) ?_
    intro T26 h26 o26 g26 W26 E26 A26 D26 s26 k26
    have F26_modCount : Fld G.Z h26 o26 "java/util/AbstractList" "modCount" "I" (.int (0 : Int32)) := D26 (Or.inl (tw hw 34 rfl)) (ty := .int) (by decide)
    have F26_elementData : Fld G.Z h26 o26 "java/util/ArrayList" "elementData" "[Ljava/lang/Object;" .null := D26 (Or.inl (tw hw 37 rfl)) (ty := (.array (.object "java/lang/Object"))) (by decide)
    have F26_size : Fld G.Z h26 o26 "java/util/ArrayList" "size" "I" (.int (0 : Int32)) := D26 (Or.inl (tw hw 70 rfl)) (ty := .int) (by decide)
    refine Own.dup W26 at_42 43 rfl rfl ?_
    have X27 : Ext h h23 := E23
    have X28 : Ext h h24 := Own.Ext.tr X27 E24
    have X29 : Ext h h25 := Own.Ext.tr X28 E25
    refine Own.callX W26 rfl (tw hw 15 rfl) (tw hw 16 rfl) (tw hw 17 rfl) (by decide) (argsL := []) (rest := [(.ref o26)]) (Own.Con.pay (con_ali hw hEL DS DA W26.old (Nat.le_trans W0.n0 (Nat.le_trans X29.1 (Nat.le_of_eq g26.symm))) A26 F26_modCount F26_size F26_elementData) W26 (tw hw 17 rfl) (tw hw 14 rfl) (len := 3) (wd := 1) (by decide) (by decide) (fun _ q => nomatch q)) rfl (lenOf pd_0 rfl) rfl (Nat.le_of_ble_eq_true rfl) at_43 46 rfl 10 33 (Nat.le_of_ble_eq_true rfl) (Nat.le_of_ble_eq_true rfl) (Nat.le_of_ble_eq_true rfl) (Nat.le_of_ble_eq_true rfl) ?_
    intro v30 T30 h30 u30 W30 R30 hq
    obtain ⟨rfl, K30, L30⟩ := hq
    show Own.Go _ _ _ _ _ 46 #[.val (.int p0), .val (.int p1), .val (.int p2), .val (.int p3), .val (.int (1 : Int32)), .val (.ref o23), .val (.ref o24), .val (.ref o25), .unset, .unset, .unset] [(.ref o26)]
    refine Own.astore W30 at_46 48 rfl rfl #[.val (.int p0), .val (.int p1), .val (.int p2), .val (.int p3), .val (.int (1 : Int32)), .val (.ref o23), .val (.ref o24), .val (.ref o25), .val (.ref o26), .unset, .unset] rfl ?_
    refine Own.iload W30 at_48 50 rfl (1 : Int32) rfl ?_
    refine Own.ifNo W30 at_50 53 (by decide) rfl ?_
    refine Own.aload W30 at_53 55 rfl (.ref o26) rfl rfl ?_
    refine Own.aload W30 at_55 57 rfl (.ref o23) rfl rfl ?_
    have XL31 := L30.exa
    have X32 : Ext h23 h24 := E24
    have X33 : Ext h23 h25 := Own.Ext.tr X32 E25
    have X34 : Ext h23 h26 := Own.Ext.tr X33 E26
    have X35 : Ext h23 h30 := Own.Ext.kp X34 K30 (allS (Nat.le_trans X33.1 (Nat.le_of_eq g26.symm)) all0)
    refine Own.callV W30 (tw hw 74 rfl) (tw hw 75 rfl) (fun s q => notFace_of_selects (args := #[]) (mvT (s := s) q (tw hw 77 rfl))) (tw hw 77 rfl) (tw hw 76 rfl) (by decide) (argsL := [(.ref o23)]) (rest := []) (Own.Con.pay (con_ad_0 hw hEL DS DA W30.old (Nat.le_trans W0.n0 (Nat.le_trans X29.1 (Nat.le_of_eq g26.symm))) L30 (XS23.ext X35)) W30 (tw hw 78 rfl) (tw hw 14 rfl) (len := 3) (wd := 0) (by decide) (by decide) (fun _ q => nomatch q)) XL31 rfl (lenOf pd_35 rfl) rfl (Nat.le_of_ble_eq_true rfl) at_57 60 rfl 11 43 (Nat.le_of_ble_eq_true rfl) (Nat.le_of_ble_eq_true rfl) (Nat.le_of_ble_eq_true rfl) (Nat.le_of_ble_eq_true rfl) ?_
    intro v36 T36 h36 u36 W36 R36 hq
    obtain ⟨rfl, e36, c36, K36, g36, L36, A36, O36⟩ := hq
    show Own.Go _ _ _ _ _ 60 #[.val (.int p0), .val (.int p1), .val (.int p2), .val (.int p3), .val (.int (1 : Int32)), .val (.ref o23), .val (.ref o24), .val (.ref o25), .val (.ref o26), .unset, .unset] [(.int (1 : Int32))]
    refine Own.pop W36 at_60 61 rfl rfl ?_
    refine Own.iload W36 at_61 63 rfl (1 : Int32) rfl ?_
    refine Own.iconst W36 at_63 64 rfl (1 : Int32) rfl ?_
    refine Own.icmpYes W36 at_64 75 (by decide) (by decide) (by decide) ?_
    refine Own.iload W36 at_75 77 rfl (1 : Int32) rfl ?_
    refine Own.iconst W36 at_77 78 rfl (2 : Int32) rfl ?_
    refine Own.icmpYes W36 at_78 89 (by decide) (by decide) (by decide) ?_
    refine Own.aload W36 at_89 91 rfl (.ref o26) rfl rfl ?_
    have X37 : Ext h23 h36 := Own.Ext.kp X35 K36 (allS (Nat.le_trans X33.1 (Nat.le_of_eq g26.symm)) all0)
    refine Own.callS W36 (tw hw 38 rfl) (tw hw 39 rfl) (tw hw 40 rfl) (tw hw 41 rfl) (by decide) (argsL := [(.ref o26)]) (rest := []) (Own.Con.pay (con_cpy1 hw hEL hmem hS hcz hEN DS DA TN XN FN AN W36.old L36 A36 (F23.ext X37) q23) W36 (tw hw 41 rfl) (tw hw 40 rfl) (len := 3) (wd := 0) (by decide) (by decide) (fun _ q => nomatch q)) rfl (lenOf pd_34 rfl) rfl (Nat.le_of_ble_eq_true rfl) at_91 94 rfl 17 89 (Nat.le_of_ble_eq_true rfl) (Nat.le_of_ble_eq_true rfl) (Nat.le_of_ble_eq_true rfl) (Nat.le_of_ble_eq_true rfl) ?_
    intro v38 T38 h38 u38 W38 R38 hq
    obtain ⟨o38, j38, en38, kE38, rfl, E38, g38, gj38, ge38, Er38, Fj38, Fe38, SJ38, Ae38⟩ := hq
    show Own.Go _ _ _ _ _ 94 #[.val (.int p0), .val (.int p1), .val (.int p2), .val (.int p3), .val (.int (1 : Int32)), .val (.ref o23), .val (.ref o24), .val (.ref o25), .val (.ref o26), .unset, .unset] [(.ref o38)]
    refine Own.astore W38 at_94 96 rfl rfl #[.val (.int p0), .val (.int p1), .val (.int p2), .val (.int p3), .val (.int (1 : Int32)), .val (.ref o23), .val (.ref o24), .val (.ref o25), .val (.ref o26), .val (.ref o38), .unset] rfl ?_
    refine Own.aload W38 at_96 98 rfl (.ref o26) rfl rfl ?_
    refine Own.aload W38 at_98 100 rfl (.ref o23) rfl rfl ?_
    have X40 : Ext h36 h38 := E38
    have XL39 := (L36.ext X40).exa
    have X41 : Ext h h26 := Own.Ext.tr X29 E26
    have X42 : Ext h h30 := Own.Ext.kp X41 K30 (allS (Nat.le_trans X29.1 (Nat.le_of_eq g26.symm)) all0)
    have X43 : Ext h23 h38 := Own.Ext.tr X37 E38
    refine Own.callV W38 (tw hw 74 rfl) (tw hw 75 rfl) (fun s q => notFace_of_selects (args := #[]) (mvT (s := s) q (tw hw 77 rfl))) (tw hw 77 rfl) (tw hw 76 rfl) (by decide) (argsL := [(.ref o23)]) (rest := []) (Own.Con.pay (con_ad_1 hw hEL DS DA W38.old (Nat.le_trans W0.n0 (Nat.le_trans X29.1 (Nat.le_of_eq g26.symm))) (Nat.le_trans W0.n0 (Nat.le_trans X42.1 g36)) (Nat.ne_of_lt (Nat.lt_of_lt_of_le XL31.lt g36)) (L36.ext X40) (A36.ext X40) O36 (XS23.ext X43)) W38 (tw hw 78 rfl) (tw hw 14 rfl) (len := 3) (wd := 0) (by decide) (by decide) (fun _ q => nomatch q)) XL39 rfl (lenOf pd_35 rfl) rfl (Nat.le_of_ble_eq_true rfl) at_100 103 rfl 18 99 (Nat.le_of_ble_eq_true rfl) (Nat.le_of_ble_eq_true rfl) (Nat.le_of_ble_eq_true rfl) (Nat.le_of_ble_eq_true rfl) ?_
    intro v44 T44 h44 u44 W44 R44 hq
    obtain ⟨rfl, K44, L44, A44⟩ := hq
    show Own.Go _ _ _ _ _ 103 #[.val (.int p0), .val (.int p1), .val (.int p2), .val (.int p3), .val (.int (1 : Int32)), .val (.ref o23), .val (.ref o24), .val (.ref o25), .val (.ref o26), .val (.ref o38), .unset] [(.int (1 : Int32))]
    refine Own.pop W44 at_103 104 rfl rfl ?_
    refine Own.aload W44 at_104 106 rfl (.ref o38) rfl rfl ?_
    refine Own.callI W44 (tw hw 103 rfl) (tw hw 61 rfl) (tw hw 62 rfl) rfl (tw hw 104 rfl) (tw hw 105 rfl) (tw hw 106 rfl) (tw hw 107 rfl) (tw hw 108 rfl) (by decide) (argsL := []) (rest := []) (Own.Con.pay (con_psz hw hEL W44.old (Fe38.keep K44 (ninS (Ne.symm (Nat.ne_of_lt (Nat.lt_of_lt_of_le XL31.lt (Nat.le_trans (Nat.le_trans (Nat.le_refl _) K36.1) g38)))) (ninS (Ne.symm (Nat.ne_of_lt (Nat.lt_of_lt_of_le A36.lt g38))) nin0))) (Ae38.keep K44 (ninS (Ne.symm (Nat.ne_of_lt (Nat.lt_of_lt_of_le XL31.lt (Nat.le_trans (Nat.le_trans (Nat.le_refl _) K36.1) ge38)))) (ninS (Ne.symm (Nat.ne_of_lt (Nat.lt_of_lt_of_le A36.lt ge38))) nin0)))) W44 (tw hw 109 rfl) (tw hw 40 rfl) (len := 5) (wd := 0) (by decide) (by decide) (fun _ q => nomatch q)) (Er38.keep K44) rfl (lenOf pd_11 rfl) rfl (Nat.le_of_ble_eq_true rfl) at_106 111 rfl 18 99 (Nat.le_of_ble_eq_true rfl) (Nat.le_of_ble_eq_true rfl) (Nat.le_of_ble_eq_true rfl) (Nat.le_of_ble_eq_true rfl) ?_
    intro v45 T45 h45 u45 W45 R45 hq
    obtain ⟨rfl, eh45⟩ := hq
    have ei45 := eh45.symm; subst ei45
    show Own.Go _ _ _ _ _ 111 #[.val (.int p0), .val (.int p1), .val (.int p2), .val (.int p3), .val (.int (1 : Int32)), .val (.ref o23), .val (.ref o24), .val (.ref o25), .val (.ref o26), .val (.ref o38), .unset] [(.int (1 : Int32))]
    refine Own.iload W45 at_111 113 rfl (1 : Int32) rfl ?_
    refine Own.icmpYes W45 at_113 118 (by decide) (by decide) (by decide) ?_
    refine Own.iconst W45 at_118 119 rfl (1 : Int32) rfl ?_
    refine Own.istore W45 at_119 121 rfl #[.val (.int p0), .val (.int p1), .val (.int p2), .val (.int p3), .val (.int (1 : Int32)), .val (.ref o23), .val (.ref o24), .val (.ref o25), .val (.ref o26), .val (.ref o38), .val (.int (1 : Int32))] rfl ?_
    refine Own.iload W45 at_121 123 rfl (1 : Int32) rfl ?_
    refine Own.ifNo W45 at_123 126 (by decide) rfl ?_
    refine Own.iload W45 at_126 128 rfl (1 : Int32) rfl ?_
    refine Own.ifNo W45 at_128 131 (by decide) rfl ?_
    refine Own.aload W45 at_131 133 rfl (.ref o38) rfl rfl ?_
    refine Own.iconst W45 at_133 134 rfl (0 : Int32) rfl ?_
    refine Own.callI W45 (tw hw 278 rfl) (tw hw 150 rfl) (tw hw 151 rfl) rfl (tw hw 279 rfl) (tw hw 280 rfl) (tw hw 281 rfl) (tw hw 282 rfl) (tw hw 108 rfl) (by decide) (argsL := [(.int (0 : Int32))]) (rest := []) (Own.Con.pay (con_pgo0 hw hEL hmem hS hcz SF rfm hE W45.old (Fe38.keep K44 (ninS (Ne.symm (Nat.ne_of_lt (Nat.lt_of_lt_of_le XL31.lt (Nat.le_trans (Nat.le_trans (Nat.le_refl _) K36.1) g38)))) (ninS (Ne.symm (Nat.ne_of_lt (Nat.lt_of_lt_of_le A36.lt g38))) nin0))) (Fj38.keep K44 (ninS (Ne.symm (Nat.ne_of_lt (Nat.lt_of_lt_of_le XL31.lt (Nat.le_trans (Nat.le_trans (Nat.le_refl _) K36.1) g38)))) (ninS (Ne.symm (Nat.ne_of_lt (Nat.lt_of_lt_of_le A36.lt g38))) nin0))) (Ae38.keep K44 (ninS (Ne.symm (Nat.ne_of_lt (Nat.lt_of_lt_of_le XL31.lt (Nat.le_trans (Nat.le_trans (Nat.le_refl _) K36.1) ge38)))) (ninS (Ne.symm (Nat.ne_of_lt (Nat.lt_of_lt_of_le A36.lt ge38))) nin0))) (SJ38.keep K44 (ninS (Ne.symm (Nat.ne_of_lt (Nat.lt_of_lt_of_le XL31.lt (Nat.le_trans (Nat.le_trans (Nat.le_refl _) K36.1) gj38)))) (ninS (Ne.symm (Nat.ne_of_lt (Nat.lt_of_lt_of_le A36.lt gj38))) nin0)) (fun x hx => by rcases List.mem_cons.mp hx with rfl | hx; exact Own.noByteI (tw hw 13 rfl) XL39; cases List.mem_singleton.mp hx; exact Own.noByteA (A36.ext X40) (fun q => by cases q))) (f := ([] : List Int32).length) (t := (([] : List Int32) ++ cs23).length) (by simp only [List.length_append, List.length_nil]; omega) (by simp only [List.length_append, List.length_nil]; omega) (by simp only [List.length_append, List.length_nil]; omega) (by decide) rfl rfl rfl (Er38.keep K44)) W45 (tw hw 283 rfl) (tw hw 40 rfl) (len := 5) (wd := 0) (by decide) (by decide) (fun _ q => nomatch q)) (Er38.keep K44) rfl (lenOf pd_6 rfl) rfl (Nat.le_of_ble_eq_true rfl) at_134 139 rfl 20 119 (Nat.le_of_ble_eq_true rfl) (Nat.le_of_ble_eq_true rfl) (Nat.le_of_ble_eq_true rfl) (Nat.le_of_ble_eq_true rfl) ?_
    intro v46 T46 h46 u46 W46 R46 hq
    obtain ⟨o46, rfl, E46, S46⟩ := hq
    have XG46 := S46.exa
    show Own.Go _ _ _ _ _ 139 #[.val (.int p0), .val (.int p1), .val (.int p2), .val (.int p3), .val (.int (1 : Int32)), .val (.ref o23), .val (.ref o24), .val (.ref o25), .val (.ref o26), .val (.ref o38), .val (.int (1 : Int32))] [(.ref o46)]
    refine Own.castY W46 (tw hw 112 rfl) (Ins.self XG46) at_139 142 rfl ?_
    intro T47 W47
    refine Own.aload W47 at_142 144 rfl (.ref o23) rfl rfl ?_
    have X48 : Ext h23 h44 := Own.Ext.kp X43 K44 (allS (Nat.le_trans X33.1 (Nat.le_of_eq g26.symm)) (allS (Nat.le_trans X35.1 g36) all0))
    have X49 : Ext h23 h46 := Own.Ext.tr X48 E46
    refine Own.callV W47 (tw hw 314 rfl) (tw hw 315 rfl) (fun s q => notFace_of_selects (args := #[]) (mvT (s := s) q (tw hw 317 rfl))) (tw hw 317 rfl) (tw hw 316 rfl) (by decide) (argsL := [(.ref o23)]) (rest := []) (Own.payEq (wQ hw) (kI := 4) (tw hw 6 rfl) W47 S46 (F23.ext X49) hS hcz (len := 3) (wd := 0) (by decide) (by decide)) XG46 rfl (lenOf pd_35 rfl) rfl (Nat.le_of_ble_eq_true rfl) at_144 147 rfl 20 119 (Nat.le_of_ble_eq_true rfl) (Nat.le_of_ble_eq_true rfl) (Nat.le_of_ble_eq_true rfl) (Nat.le_of_ble_eq_true rfl) ?_
    intro v50 T50 h50 u50 W50 R50 hq
    obtain ⟨hv50, eh50⟩ := hq
    have ei50 := eh50.symm; subst ei50
    rcases hv50 with ⟨rfl, -⟩ | ⟨rfl, bad⟩
    rotate_left
    · exact absurd (cutL (P := ([] : List Int32)) (c := cs23) (R := []) (by simp only [List.append_assoc, List.nil_append, List.append_nil]) rfl rfl) bad
    show Own.Go _ _ _ _ _ 147 #[.val (.int p0), .val (.int p1), .val (.int p2), .val (.int p3), .val (.int (1 : Int32)), .val (.ref o23), .val (.ref o24), .val (.ref o25), .val (.ref o26), .val (.ref o38), .val (.int (1 : Int32))] [(.int (1 : Int32))]
    refine Own.ifNo W50 at_147 150 (by decide) rfl ?_
    refine Own.iconst W50 at_150 151 rfl (1 : Int32) rfl ?_
    refine Own.goto W50 at_151 155 (by decide) (by decide) ?_
    refine Own.istore W50 at_155 157 rfl #[.val (.int p0), .val (.int p1), .val (.int p2), .val (.int p3), .val (.int (1 : Int32)), .val (.ref o23), .val (.ref o24), .val (.ref o25), .val (.ref o26), .val (.ref o38), .val (.int (1 : Int32))] rfl ?_
    refine Own.iload W50 at_157 159 rfl (1 : Int32) rfl ?_
    refine Own.iconst W50 at_159 160 rfl (1 : Int32) rfl ?_
    refine Own.icmpYes W50 at_160 194 (by decide) (by decide) (by decide) ?_
    refine Own.iload W50 at_194 196 rfl (1 : Int32) rfl ?_
    refine Own.iconst W50 at_196 197 rfl (2 : Int32) rfl ?_
    refine Own.icmpYes W50 at_197 231 (by decide) (by decide) (by decide) ?_
    refine Own.iload W50 at_231 233 rfl (1 : Int32) rfl ?_
    exact Own.retB W50 (by decide) (by decide) rfl at_233 rfl rfl
  · skip
    rw [en]
    show Own.Go _ _ _ _ _ 5 #[.val (.int p0), .val (.int p1), .val (.int p2), .val (.int p3), .val (.int (2 : Int32)), .unset, .unset, .unset, .unset, .unset, .unset] []
    refine Own.iloadN W0 at_5 6 rfl p1 rfl ?_
    refine Own.iloadN W0 at_6 7 rfl p0 rfl ?_
    refine Own.iconst W0 at_7 8 rfl (2 : Int32) rfl ?_
    refine Own.iushr W0 at_8 9 rfl ?_
    refine Own.iconst W0 at_9 10 rfl (3 : Int32) rfl ?_
    refine Own.iand W0 at_10 11 rfl ?_
    refine Own.callS W0 (tw hw 0 rfl) (tw hw 1 rfl) (tw hw 2 rfl) (tw hw 3 rfl) (by decide) (argsL := [(.int p1), (.int (((p0.toUInt32 >>> ((2 : Int32) &&& 31).toUInt32).toInt32) &&& (3 : Int32)))]) (rest := []) (Own.Con.pay (con_lin hw hEL hmem hS hcz hE _ _ W0.old) W0 (tw hw 3 rfl) (tw hw 2 rfl) (len := 3) (wd := 0) (by decide) (by decide) (fun _ q => nomatch q)) rfl (lenOf pd_32 rfl) rfl (Nat.le_of_ble_eq_true rfl) at_11 14 rfl 3 10 (Nat.le_of_ble_eq_true rfl) (Nat.le_of_ble_eq_true rfl) (Nat.le_of_ble_eq_true rfl) (Nat.le_of_ble_eq_true rfl) ?_
    intro v51 T51 h51 u51 W51 R51 hq
    obtain ⟨o51, cs51, rfl, E51, F51, q51⟩ := hq
    have XS51 := F51.exa
    show Own.Go _ _ _ _ _ 14 #[.val (.int p0), .val (.int p1), .val (.int p2), .val (.int p3), .val (.int (2 : Int32)), .unset, .unset, .unset, .unset, .unset, .unset] [(.ref o51)]
    refine Own.astore W51 at_14 16 rfl rfl #[.val (.int p0), .val (.int p1), .val (.int p2), .val (.int p3), .val (.int (2 : Int32)), .val (.ref o51), .unset, .unset, .unset, .unset, .unset] rfl ?_
    refine Own.iloadN W51 at_16 17 rfl p2 rfl ?_
    refine Own.iloadN W51 at_17 18 rfl p0 rfl ?_
    refine Own.iconst W51 at_18 19 rfl (4 : Int32) rfl ?_
    refine Own.iushr W51 at_19 20 rfl ?_
    refine Own.iconst W51 at_20 21 rfl (3 : Int32) rfl ?_
    refine Own.iand W51 at_21 22 rfl ?_
    refine Own.callS W51 (tw hw 0 rfl) (tw hw 1 rfl) (tw hw 2 rfl) (tw hw 3 rfl) (by decide) (argsL := [(.int p2), (.int (((p0.toUInt32 >>> ((4 : Int32) &&& 31).toUInt32).toInt32) &&& (3 : Int32)))]) (rest := []) (Own.Con.pay (con_lin hw hEL hmem hS hcz hE _ _ W51.old) W51 (tw hw 3 rfl) (tw hw 2 rfl) (len := 3) (wd := 0) (by decide) (by decide) (fun _ q => nomatch q)) rfl (lenOf pd_32 rfl) rfl (Nat.le_of_ble_eq_true rfl) at_22 25 rfl 6 20 (Nat.le_of_ble_eq_true rfl) (Nat.le_of_ble_eq_true rfl) (Nat.le_of_ble_eq_true rfl) (Nat.le_of_ble_eq_true rfl) ?_
    intro v52 T52 h52 u52 W52 R52 hq
    obtain ⟨o52, cs52, rfl, E52, F52, q52⟩ := hq
    have XS52 := F52.exa
    show Own.Go _ _ _ _ _ 25 #[.val (.int p0), .val (.int p1), .val (.int p2), .val (.int p3), .val (.int (2 : Int32)), .val (.ref o51), .unset, .unset, .unset, .unset, .unset] [(.ref o52)]
    refine Own.astore W52 at_25 27 rfl rfl #[.val (.int p0), .val (.int p1), .val (.int p2), .val (.int p3), .val (.int (2 : Int32)), .val (.ref o51), .val (.ref o52), .unset, .unset, .unset, .unset] rfl ?_
    refine Own.iloadN W52 at_27 28 rfl p3 rfl ?_
    refine Own.iloadN W52 at_28 29 rfl p0 rfl ?_
    refine Own.bipush W52 at_29 31 rfl (6 : Int32) rfl ?_
    refine Own.iushr W52 at_31 32 rfl ?_
    refine Own.iconst W52 at_32 33 rfl (3 : Int32) rfl ?_
    refine Own.iand W52 at_33 34 rfl ?_
    refine Own.callS W52 (tw hw 0 rfl) (tw hw 1 rfl) (tw hw 2 rfl) (tw hw 3 rfl) (by decide) (argsL := [(.int p3), (.int (((p0.toUInt32 >>> ((6 : Int32) &&& 31).toUInt32).toInt32) &&& (3 : Int32)))]) (rest := []) (Own.Con.pay (con_lin hw hEL hmem hS hcz hE _ _ W52.old) W52 (tw hw 3 rfl) (tw hw 2 rfl) (len := 3) (wd := 0) (by decide) (by decide) (fun _ q => nomatch q)) rfl (lenOf pd_32 rfl) rfl (Nat.le_of_ble_eq_true rfl) at_34 37 rfl 9 30 (Nat.le_of_ble_eq_true rfl) (Nat.le_of_ble_eq_true rfl) (Nat.le_of_ble_eq_true rfl) (Nat.le_of_ble_eq_true rfl) ?_
    intro v53 T53 h53 u53 W53 R53 hq
    obtain ⟨o53, cs53, rfl, E53, F53, q53⟩ := hq
    have XS53 := F53.exa
    show Own.Go _ _ _ _ _ 37 #[.val (.int p0), .val (.int p1), .val (.int p2), .val (.int p3), .val (.int (2 : Int32)), .val (.ref o51), .val (.ref o52), .unset, .unset, .unset, .unset] [(.ref o53)]
    refine Own.astore W53 at_37 39 rfl rfl #[.val (.int p0), .val (.int p1), .val (.int p2), .val (.int p3), .val (.int (2 : Int32)), .val (.ref o51), .val (.ref o52), .val (.ref o53), .unset, .unset, .unset] rfl ?_
    refine Own.newO W53 (tw hw 12 rfl) (tw hw 13 rfl) (tw hw 14 rfl) at_39 42 rfl 10 33 (by decide) (by decide) (by decide) (by decide) ?_
    intro T54 h54 o54 g54 W54 E54 A54 D54 s54 k54
    have F54_modCount : Fld G.Z h54 o54 "java/util/AbstractList" "modCount" "I" (.int (0 : Int32)) := D54 (Or.inl (tw hw 34 rfl)) (ty := .int) (by decide)
    have F54_elementData : Fld G.Z h54 o54 "java/util/ArrayList" "elementData" "[Ljava/lang/Object;" .null := D54 (Or.inl (tw hw 37 rfl)) (ty := (.array (.object "java/lang/Object"))) (by decide)
    have F54_size : Fld G.Z h54 o54 "java/util/ArrayList" "size" "I" (.int (0 : Int32)) := D54 (Or.inl (tw hw 70 rfl)) (ty := .int) (by decide)
    refine Own.dup W54 at_42 43 rfl rfl ?_
    have X55 : Ext h h51 := E51
    have X56 : Ext h h52 := Own.Ext.tr X55 E52
    have X57 : Ext h h53 := Own.Ext.tr X56 E53
    refine Own.callX W54 rfl (tw hw 15 rfl) (tw hw 16 rfl) (tw hw 17 rfl) (by decide) (argsL := []) (rest := [(.ref o54)]) (Own.Con.pay (con_ali hw hEL DS DA W54.old (Nat.le_trans W0.n0 (Nat.le_trans X57.1 (Nat.le_of_eq g54.symm))) A54 F54_modCount F54_size F54_elementData) W54 (tw hw 17 rfl) (tw hw 14 rfl) (len := 3) (wd := 1) (by decide) (by decide) (fun _ q => nomatch q)) rfl (lenOf pd_0 rfl) rfl (Nat.le_of_ble_eq_true rfl) at_43 46 rfl 10 33 (Nat.le_of_ble_eq_true rfl) (Nat.le_of_ble_eq_true rfl) (Nat.le_of_ble_eq_true rfl) (Nat.le_of_ble_eq_true rfl) ?_
    intro v58 T58 h58 u58 W58 R58 hq
    obtain ⟨rfl, K58, L58⟩ := hq
    show Own.Go _ _ _ _ _ 46 #[.val (.int p0), .val (.int p1), .val (.int p2), .val (.int p3), .val (.int (2 : Int32)), .val (.ref o51), .val (.ref o52), .val (.ref o53), .unset, .unset, .unset] [(.ref o54)]
    refine Own.astore W58 at_46 48 rfl rfl #[.val (.int p0), .val (.int p1), .val (.int p2), .val (.int p3), .val (.int (2 : Int32)), .val (.ref o51), .val (.ref o52), .val (.ref o53), .val (.ref o54), .unset, .unset] rfl ?_
    refine Own.iload W58 at_48 50 rfl (2 : Int32) rfl ?_
    refine Own.ifNo W58 at_50 53 (by decide) rfl ?_
    refine Own.aload W58 at_53 55 rfl (.ref o54) rfl rfl ?_
    refine Own.aload W58 at_55 57 rfl (.ref o51) rfl rfl ?_
    have XL59 := L58.exa
    have X60 : Ext h51 h52 := E52
    have X61 : Ext h51 h53 := Own.Ext.tr X60 E53
    have X62 : Ext h51 h54 := Own.Ext.tr X61 E54
    have X63 : Ext h51 h58 := Own.Ext.kp X62 K58 (allS (Nat.le_trans X61.1 (Nat.le_of_eq g54.symm)) all0)
    refine Own.callV W58 (tw hw 74 rfl) (tw hw 75 rfl) (fun s q => notFace_of_selects (args := #[]) (mvT (s := s) q (tw hw 77 rfl))) (tw hw 77 rfl) (tw hw 76 rfl) (by decide) (argsL := [(.ref o51)]) (rest := []) (Own.Con.pay (con_ad_0 hw hEL DS DA W58.old (Nat.le_trans W0.n0 (Nat.le_trans X57.1 (Nat.le_of_eq g54.symm))) L58 (XS51.ext X63)) W58 (tw hw 78 rfl) (tw hw 14 rfl) (len := 3) (wd := 0) (by decide) (by decide) (fun _ q => nomatch q)) XL59 rfl (lenOf pd_35 rfl) rfl (Nat.le_of_ble_eq_true rfl) at_57 60 rfl 11 43 (Nat.le_of_ble_eq_true rfl) (Nat.le_of_ble_eq_true rfl) (Nat.le_of_ble_eq_true rfl) (Nat.le_of_ble_eq_true rfl) ?_
    intro v64 T64 h64 u64 W64 R64 hq
    obtain ⟨rfl, e64, c64, K64, g64, L64, A64, O64⟩ := hq
    show Own.Go _ _ _ _ _ 60 #[.val (.int p0), .val (.int p1), .val (.int p2), .val (.int p3), .val (.int (2 : Int32)), .val (.ref o51), .val (.ref o52), .val (.ref o53), .val (.ref o54), .unset, .unset] [(.int (1 : Int32))]
    refine Own.pop W64 at_60 61 rfl rfl ?_
    refine Own.iload W64 at_61 63 rfl (2 : Int32) rfl ?_
    refine Own.iconst W64 at_63 64 rfl (1 : Int32) rfl ?_
    refine Own.icmpNo W64 at_64 67 (by decide) rfl ?_
    refine Own.aload W64 at_67 69 rfl (.ref o54) rfl rfl ?_
    refine Own.aload W64 at_69 71 rfl (.ref o52) rfl rfl ?_
    have XL65 := L64.exa
    have X66 : Ext h h54 := Own.Ext.tr X57 E54
    have X67 : Ext h h58 := Own.Ext.kp X66 K58 (allS (Nat.le_trans X57.1 (Nat.le_of_eq g54.symm)) all0)
    have X68 : Ext h52 h53 := E53
    have X69 : Ext h52 h54 := Own.Ext.tr X68 E54
    have X70 : Ext h52 h58 := Own.Ext.kp X69 K58 (allS (Nat.le_trans X68.1 (Nat.le_of_eq g54.symm)) all0)
    have X71 : Ext h52 h64 := Own.Ext.kp X70 K64 (allS (Nat.le_trans X68.1 (Nat.le_of_eq g54.symm)) all0)
    refine Own.callV W64 (tw hw 74 rfl) (tw hw 75 rfl) (fun s q => notFace_of_selects (args := #[]) (mvT (s := s) q (tw hw 77 rfl))) (tw hw 77 rfl) (tw hw 76 rfl) (by decide) (argsL := [(.ref o52)]) (rest := []) (Own.Con.pay (con_ad_1 hw hEL DS DA W64.old (Nat.le_trans W0.n0 (Nat.le_trans X57.1 (Nat.le_of_eq g54.symm))) (Nat.le_trans W0.n0 (Nat.le_trans X67.1 g64)) (Nat.ne_of_lt (Nat.lt_of_lt_of_le XL59.lt g64)) L64 A64 O64 (XS52.ext X71)) W64 (tw hw 78 rfl) (tw hw 14 rfl) (len := 3) (wd := 0) (by decide) (by decide) (fun _ q => nomatch q)) XL65 rfl (lenOf pd_35 rfl) rfl (Nat.le_of_ble_eq_true rfl) at_71 74 rfl 12 53 (Nat.le_of_ble_eq_true rfl) (Nat.le_of_ble_eq_true rfl) (Nat.le_of_ble_eq_true rfl) (Nat.le_of_ble_eq_true rfl) ?_
    intro v72 T72 h72 u72 W72 R72 hq
    obtain ⟨rfl, K72, L72, A72⟩ := hq
    show Own.Go _ _ _ _ _ 74 #[.val (.int p0), .val (.int p1), .val (.int p2), .val (.int p3), .val (.int (2 : Int32)), .val (.ref o51), .val (.ref o52), .val (.ref o53), .val (.ref o54), .unset, .unset] [(.int (1 : Int32))]
    refine Own.pop W72 at_74 75 rfl rfl ?_
    refine Own.iload W72 at_75 77 rfl (2 : Int32) rfl ?_
    refine Own.iconst W72 at_77 78 rfl (2 : Int32) rfl ?_
    refine Own.icmpYes W72 at_78 89 (by decide) (by decide) (by decide) ?_
    refine Own.aload W72 at_89 91 rfl (.ref o54) rfl rfl ?_
    have X73 : Ext h51 h64 := Own.Ext.kp X63 K64 (allS (Nat.le_trans X61.1 (Nat.le_of_eq g54.symm)) all0)
    have X74 : Ext h51 h72 := Own.Ext.kp X73 K72 (allS (Nat.le_trans X61.1 (Nat.le_of_eq g54.symm)) (allS (Nat.le_trans X63.1 g64) all0))
    have X75 : Ext h52 h72 := Own.Ext.kp X71 K72 (allS (Nat.le_trans X68.1 (Nat.le_of_eq g54.symm)) (allS (Nat.le_trans X70.1 g64) all0))
    refine Own.callS W72 (tw hw 38 rfl) (tw hw 39 rfl) (tw hw 40 rfl) (tw hw 41 rfl) (by decide) (argsL := [(.ref o54)]) (rest := []) (Own.Con.pay (con_cpy2 hw hEL hmem hS hcz hEN DS DA TN XN FN AN W72.old L72 A72 (F51.ext X74) q51 (F52.ext X75) q52) W72 (tw hw 41 rfl) (tw hw 40 rfl) (len := 3) (wd := 0) (by decide) (by decide) (fun _ q => nomatch q)) rfl (lenOf pd_34 rfl) rfl (Nat.le_of_ble_eq_true rfl) at_91 94 rfl 18 99 (Nat.le_of_ble_eq_true rfl) (Nat.le_of_ble_eq_true rfl) (Nat.le_of_ble_eq_true rfl) (Nat.le_of_ble_eq_true rfl) ?_
    intro v76 T76 h76 u76 W76 R76 hq
    obtain ⟨o76, j76, en76, kE76, rfl, E76, g76, gj76, ge76, Er76, Fj76, Fe76, SJ76, Ae76⟩ := hq
    show Own.Go _ _ _ _ _ 94 #[.val (.int p0), .val (.int p1), .val (.int p2), .val (.int p3), .val (.int (2 : Int32)), .val (.ref o51), .val (.ref o52), .val (.ref o53), .val (.ref o54), .unset, .unset] [(.ref o76)]
    refine Own.astore W76 at_94 96 rfl rfl #[.val (.int p0), .val (.int p1), .val (.int p2), .val (.int p3), .val (.int (2 : Int32)), .val (.ref o51), .val (.ref o52), .val (.ref o53), .val (.ref o54), .val (.ref o76), .unset] rfl ?_
    refine Own.aload W76 at_96 98 rfl (.ref o54) rfl rfl ?_
    refine Own.aload W76 at_98 100 rfl (.ref o51) rfl rfl ?_
    have X78 : Ext h72 h76 := E76
    have XL77 := (L72.ext X78).exa
    have X79 : Ext h51 h76 := Own.Ext.tr X74 E76
    refine Own.callV W76 (tw hw 74 rfl) (tw hw 75 rfl) (fun s q => notFace_of_selects (args := #[]) (mvT (s := s) q (tw hw 77 rfl))) (tw hw 77 rfl) (tw hw 76 rfl) (by decide) (argsL := [(.ref o51)]) (rest := []) (Own.Con.pay (con_ad_2 hw hEL DS DA W76.old (Nat.le_trans W0.n0 (Nat.le_trans X57.1 (Nat.le_of_eq g54.symm))) (Nat.le_trans W0.n0 (Nat.le_trans X67.1 g64)) (Nat.ne_of_lt (Nat.lt_of_lt_of_le XL59.lt g64)) (L72.ext X78) (A72.ext X78) O64 (XS51.ext X79)) W76 (tw hw 78 rfl) (tw hw 14 rfl) (len := 3) (wd := 0) (by decide) (by decide) (fun _ q => nomatch q)) XL77 rfl (lenOf pd_35 rfl) rfl (Nat.le_of_ble_eq_true rfl) at_100 103 rfl 19 109 (Nat.le_of_ble_eq_true rfl) (Nat.le_of_ble_eq_true rfl) (Nat.le_of_ble_eq_true rfl) (Nat.le_of_ble_eq_true rfl) ?_
    intro v80 T80 h80 u80 W80 R80 hq
    obtain ⟨rfl, K80, L80, A80⟩ := hq
    show Own.Go _ _ _ _ _ 103 #[.val (.int p0), .val (.int p1), .val (.int p2), .val (.int p3), .val (.int (2 : Int32)), .val (.ref o51), .val (.ref o52), .val (.ref o53), .val (.ref o54), .val (.ref o76), .unset] [(.int (1 : Int32))]
    refine Own.pop W80 at_103 104 rfl rfl ?_
    refine Own.aload W80 at_104 106 rfl (.ref o76) rfl rfl ?_
    refine Own.callI W80 (tw hw 103 rfl) (tw hw 61 rfl) (tw hw 62 rfl) rfl (tw hw 104 rfl) (tw hw 105 rfl) (tw hw 106 rfl) (tw hw 107 rfl) (tw hw 108 rfl) (by decide) (argsL := []) (rest := []) (Own.Con.pay (con_psz hw hEL W80.old (Fe76.keep K80 (ninS (Ne.symm (Nat.ne_of_lt (Nat.lt_of_lt_of_le XL59.lt (Nat.le_trans (Nat.le_trans (Nat.le_trans (Nat.le_refl _) K64.1) K72.1) g76)))) (ninS (Ne.symm (Nat.ne_of_lt (Nat.lt_of_lt_of_le A64.lt (Nat.le_trans (Nat.le_trans (Nat.le_refl _) K72.1) g76)))) nin0))) (Ae76.keep K80 (ninS (Ne.symm (Nat.ne_of_lt (Nat.lt_of_lt_of_le XL59.lt (Nat.le_trans (Nat.le_trans (Nat.le_trans (Nat.le_refl _) K64.1) K72.1) ge76)))) (ninS (Ne.symm (Nat.ne_of_lt (Nat.lt_of_lt_of_le A64.lt (Nat.le_trans (Nat.le_trans (Nat.le_refl _) K72.1) ge76)))) nin0)))) W80 (tw hw 109 rfl) (tw hw 40 rfl) (len := 5) (wd := 0) (by decide) (by decide) (fun _ q => nomatch q)) (Er76.keep K80) rfl (lenOf pd_11 rfl) rfl (Nat.le_of_ble_eq_true rfl) at_106 111 rfl 19 109 (Nat.le_of_ble_eq_true rfl) (Nat.le_of_ble_eq_true rfl) (Nat.le_of_ble_eq_true rfl) (Nat.le_of_ble_eq_true rfl) ?_
    intro v81 T81 h81 u81 W81 R81 hq
    obtain ⟨rfl, eh81⟩ := hq
    have ei81 := eh81.symm; subst ei81
    show Own.Go _ _ _ _ _ 111 #[.val (.int p0), .val (.int p1), .val (.int p2), .val (.int p3), .val (.int (2 : Int32)), .val (.ref o51), .val (.ref o52), .val (.ref o53), .val (.ref o54), .val (.ref o76), .unset] [(.int (2 : Int32))]
    refine Own.iload W81 at_111 113 rfl (2 : Int32) rfl ?_
    refine Own.icmpYes W81 at_113 118 (by decide) (by decide) (by decide) ?_
    refine Own.iconst W81 at_118 119 rfl (1 : Int32) rfl ?_
    refine Own.istore W81 at_119 121 rfl #[.val (.int p0), .val (.int p1), .val (.int p2), .val (.int p3), .val (.int (2 : Int32)), .val (.ref o51), .val (.ref o52), .val (.ref o53), .val (.ref o54), .val (.ref o76), .val (.int (1 : Int32))] rfl ?_
    refine Own.iload W81 at_121 123 rfl (2 : Int32) rfl ?_
    refine Own.ifNo W81 at_123 126 (by decide) rfl ?_
    refine Own.iload W81 at_126 128 rfl (1 : Int32) rfl ?_
    refine Own.ifNo W81 at_128 131 (by decide) rfl ?_
    refine Own.aload W81 at_131 133 rfl (.ref o76) rfl rfl ?_
    refine Own.iconst W81 at_133 134 rfl (0 : Int32) rfl ?_
    refine Own.callI W81 (tw hw 278 rfl) (tw hw 150 rfl) (tw hw 151 rfl) rfl (tw hw 279 rfl) (tw hw 280 rfl) (tw hw 281 rfl) (tw hw 282 rfl) (tw hw 108 rfl) (by decide) (argsL := [(.int (0 : Int32))]) (rest := []) (Own.Con.pay (con_pgo0 hw hEL hmem hS hcz SF rfm hE W81.old (Fe76.keep K80 (ninS (Ne.symm (Nat.ne_of_lt (Nat.lt_of_lt_of_le XL59.lt (Nat.le_trans (Nat.le_trans (Nat.le_trans (Nat.le_refl _) K64.1) K72.1) g76)))) (ninS (Ne.symm (Nat.ne_of_lt (Nat.lt_of_lt_of_le A64.lt (Nat.le_trans (Nat.le_trans (Nat.le_refl _) K72.1) g76)))) nin0))) (Fj76.keep K80 (ninS (Ne.symm (Nat.ne_of_lt (Nat.lt_of_lt_of_le XL59.lt (Nat.le_trans (Nat.le_trans (Nat.le_trans (Nat.le_refl _) K64.1) K72.1) g76)))) (ninS (Ne.symm (Nat.ne_of_lt (Nat.lt_of_lt_of_le A64.lt (Nat.le_trans (Nat.le_trans (Nat.le_refl _) K72.1) g76)))) nin0))) (Ae76.keep K80 (ninS (Ne.symm (Nat.ne_of_lt (Nat.lt_of_lt_of_le XL59.lt (Nat.le_trans (Nat.le_trans (Nat.le_trans (Nat.le_refl _) K64.1) K72.1) ge76)))) (ninS (Ne.symm (Nat.ne_of_lt (Nat.lt_of_lt_of_le A64.lt (Nat.le_trans (Nat.le_trans (Nat.le_refl _) K72.1) ge76)))) nin0))) (SJ76.keep K80 (ninS (Ne.symm (Nat.ne_of_lt (Nat.lt_of_lt_of_le XL59.lt (Nat.le_trans (Nat.le_trans (Nat.le_trans (Nat.le_refl _) K64.1) K72.1) gj76)))) (ninS (Ne.symm (Nat.ne_of_lt (Nat.lt_of_lt_of_le A64.lt (Nat.le_trans (Nat.le_trans (Nat.le_refl _) K72.1) gj76)))) nin0)) (fun x hx => by rcases List.mem_cons.mp hx with rfl | hx; exact Own.noByteI (tw hw 13 rfl) XL77; cases List.mem_singleton.mp hx; exact Own.noByteA (A72.ext X78) (fun q => by cases q))) (f := ([] : List Int32).length) (t := (([] : List Int32) ++ cs51).length) (by simp only [List.length_append, List.length_nil]; omega) (by simp only [List.length_append, List.length_nil]; omega) (by simp only [List.length_append, List.length_nil]; omega) (by decide) rfl rfl rfl (Er76.keep K80)) W81 (tw hw 283 rfl) (tw hw 40 rfl) (len := 5) (wd := 0) (by decide) (by decide) (fun _ q => nomatch q)) (Er76.keep K80) rfl (lenOf pd_6 rfl) rfl (Nat.le_of_ble_eq_true rfl) at_134 139 rfl 21 129 (Nat.le_of_ble_eq_true rfl) (Nat.le_of_ble_eq_true rfl) (Nat.le_of_ble_eq_true rfl) (Nat.le_of_ble_eq_true rfl) ?_
    intro v82 T82 h82 u82 W82 R82 hq
    obtain ⟨o82, rfl, E82, S82⟩ := hq
    have XG82 := S82.exa
    show Own.Go _ _ _ _ _ 139 #[.val (.int p0), .val (.int p1), .val (.int p2), .val (.int p3), .val (.int (2 : Int32)), .val (.ref o51), .val (.ref o52), .val (.ref o53), .val (.ref o54), .val (.ref o76), .val (.int (1 : Int32))] [(.ref o82)]
    refine Own.castY W82 (tw hw 112 rfl) (Ins.self XG82) at_139 142 rfl ?_
    intro T83 W83
    refine Own.aload W83 at_142 144 rfl (.ref o51) rfl rfl ?_
    have X84 : Ext h51 h80 := Own.Ext.kp X79 K80 (allS (Nat.le_trans X61.1 (Nat.le_of_eq g54.symm)) (allS (Nat.le_trans X63.1 g64) all0))
    have X85 : Ext h51 h82 := Own.Ext.tr X84 E82
    refine Own.callV W83 (tw hw 314 rfl) (tw hw 315 rfl) (fun s q => notFace_of_selects (args := #[]) (mvT (s := s) q (tw hw 317 rfl))) (tw hw 317 rfl) (tw hw 316 rfl) (by decide) (argsL := [(.ref o51)]) (rest := []) (Own.payEq (wQ hw) (kI := 4) (tw hw 6 rfl) W83 S82 (F51.ext X85) hS hcz (len := 3) (wd := 0) (by decide) (by decide)) XG82 rfl (lenOf pd_35 rfl) rfl (Nat.le_of_ble_eq_true rfl) at_144 147 rfl 21 129 (Nat.le_of_ble_eq_true rfl) (Nat.le_of_ble_eq_true rfl) (Nat.le_of_ble_eq_true rfl) (Nat.le_of_ble_eq_true rfl) ?_
    intro v86 T86 h86 u86 W86 R86 hq
    obtain ⟨hv86, eh86⟩ := hq
    have ei86 := eh86.symm; subst ei86
    rcases hv86 with ⟨rfl, -⟩ | ⟨rfl, bad⟩
    rotate_left
    · exact absurd (cutL (P := ([] : List Int32)) (c := cs51) (R := ([] ++ cs52)) (by simp only [List.append_assoc, List.nil_append, List.append_nil]) rfl rfl) bad
    show Own.Go _ _ _ _ _ 147 #[.val (.int p0), .val (.int p1), .val (.int p2), .val (.int p3), .val (.int (2 : Int32)), .val (.ref o51), .val (.ref o52), .val (.ref o53), .val (.ref o54), .val (.ref o76), .val (.int (1 : Int32))] [(.int (1 : Int32))]
    refine Own.ifNo W86 at_147 150 (by decide) rfl ?_
    refine Own.iconst W86 at_150 151 rfl (1 : Int32) rfl ?_
    refine Own.goto W86 at_151 155 (by decide) (by decide) ?_
    refine Own.istore W86 at_155 157 rfl #[.val (.int p0), .val (.int p1), .val (.int p2), .val (.int p3), .val (.int (2 : Int32)), .val (.ref o51), .val (.ref o52), .val (.ref o53), .val (.ref o54), .val (.ref o76), .val (.int (1 : Int32))] rfl ?_
    refine Own.iload W86 at_157 159 rfl (2 : Int32) rfl ?_
    refine Own.iconst W86 at_159 160 rfl (1 : Int32) rfl ?_
    refine Own.icmpNo W86 at_160 163 (by decide) rfl ?_
    refine Own.iload W86 at_163 165 rfl (1 : Int32) rfl ?_
    refine Own.ifNo W86 at_165 168 (by decide) rfl ?_
    refine Own.aload W86 at_168 170 rfl (.ref o76) rfl rfl ?_
    refine Own.iconst W86 at_170 171 rfl (1 : Int32) rfl ?_
    refine Own.callI W86 (tw hw 278 rfl) (tw hw 150 rfl) (tw hw 151 rfl) rfl (tw hw 279 rfl) (tw hw 280 rfl) (tw hw 281 rfl) (tw hw 282 rfl) (tw hw 108 rfl) (by decide) (argsL := [(.int (1 : Int32))]) (rest := []) (Own.Con.pay (con_pgo1 hw hEL hmem hS hcz SF rfm hE W86.old ((Fe76.keep K80 (ninS (Ne.symm (Nat.ne_of_lt (Nat.lt_of_lt_of_le XL59.lt (Nat.le_trans (Nat.le_trans (Nat.le_trans (Nat.le_refl _) K64.1) K72.1) g76)))) (ninS (Ne.symm (Nat.ne_of_lt (Nat.lt_of_lt_of_le A64.lt (Nat.le_trans (Nat.le_trans (Nat.le_refl _) K72.1) g76)))) nin0))).ext E82) ((Fj76.keep K80 (ninS (Ne.symm (Nat.ne_of_lt (Nat.lt_of_lt_of_le XL59.lt (Nat.le_trans (Nat.le_trans (Nat.le_trans (Nat.le_refl _) K64.1) K72.1) g76)))) (ninS (Ne.symm (Nat.ne_of_lt (Nat.lt_of_lt_of_le A64.lt (Nat.le_trans (Nat.le_trans (Nat.le_refl _) K72.1) g76)))) nin0))).ext E82) ((Ae76.keep K80 (ninS (Ne.symm (Nat.ne_of_lt (Nat.lt_of_lt_of_le XL59.lt (Nat.le_trans (Nat.le_trans (Nat.le_trans (Nat.le_refl _) K64.1) K72.1) ge76)))) (ninS (Ne.symm (Nat.ne_of_lt (Nat.lt_of_lt_of_le A64.lt (Nat.le_trans (Nat.le_trans (Nat.le_refl _) K72.1) ge76)))) nin0))).ext E82) ((SJ76.keep K80 (ninS (Ne.symm (Nat.ne_of_lt (Nat.lt_of_lt_of_le XL59.lt (Nat.le_trans (Nat.le_trans (Nat.le_trans (Nat.le_refl _) K64.1) K72.1) gj76)))) (ninS (Ne.symm (Nat.ne_of_lt (Nat.lt_of_lt_of_le A64.lt (Nat.le_trans (Nat.le_trans (Nat.le_refl _) K72.1) gj76)))) nin0)) (fun x hx => by rcases List.mem_cons.mp hx with rfl | hx; exact Own.noByteI (tw hw 13 rfl) XL77; cases List.mem_singleton.mp hx; exact Own.noByteA (A72.ext X78) (fun q => by cases q))).ext E82) (f := (([] : List Int32) ++ cs51).length) (t := ((([] : List Int32) ++ cs51) ++ cs52).length) (by simp only [List.length_append, List.length_nil]; omega) (by simp only [List.length_append, List.length_nil]; omega) (by simp only [List.length_append, List.length_nil]; omega) (by decide) rfl (by decide) rfl rfl ((Er76.keep K80).ext E82)) W86 (tw hw 283 rfl) (tw hw 40 rfl) (len := 5) (wd := 0) (by decide) (by decide) (fun _ q => nomatch q)) ((Er76.keep K80).ext E82) rfl (lenOf pd_6 rfl) rfl (Nat.le_of_ble_eq_true rfl) at_171 176 rfl 23 149 (Nat.le_of_ble_eq_true rfl) (Nat.le_of_ble_eq_true rfl) (Nat.le_of_ble_eq_true rfl) (Nat.le_of_ble_eq_true rfl) ?_
    intro v87 T87 h87 u87 W87 R87 hq
    obtain ⟨o87, rfl, E87, S87⟩ := hq
    have XG87 := S87.exa
    show Own.Go _ _ _ _ _ 176 #[.val (.int p0), .val (.int p1), .val (.int p2), .val (.int p3), .val (.int (2 : Int32)), .val (.ref o51), .val (.ref o52), .val (.ref o53), .val (.ref o54), .val (.ref o76), .val (.int (1 : Int32))] [(.ref o87)]
    refine Own.castY W87 (tw hw 112 rfl) (Ins.self XG87) at_176 179 rfl ?_
    intro T88 W88
    refine Own.aload W88 at_179 181 rfl (.ref o52) rfl rfl ?_
    have X89 : Ext h52 h76 := Own.Ext.tr X75 E76
    have X90 : Ext h52 h80 := Own.Ext.kp X89 K80 (allS (Nat.le_trans X68.1 (Nat.le_of_eq g54.symm)) (allS (Nat.le_trans X70.1 g64) all0))
    have X91 : Ext h52 h82 := Own.Ext.tr X90 E82
    have X92 : Ext h52 h87 := Own.Ext.tr X91 E87
    refine Own.callV W88 (tw hw 314 rfl) (tw hw 315 rfl) (fun s q => notFace_of_selects (args := #[]) (mvT (s := s) q (tw hw 317 rfl))) (tw hw 317 rfl) (tw hw 316 rfl) (by decide) (argsL := [(.ref o52)]) (rest := []) (Own.payEq (wQ hw) (kI := 4) (tw hw 6 rfl) W88 S87 (F52.ext X92) hS hcz (len := 3) (wd := 0) (by decide) (by decide)) XG87 rfl (lenOf pd_35 rfl) rfl (Nat.le_of_ble_eq_true rfl) at_181 184 rfl 23 149 (Nat.le_of_ble_eq_true rfl) (Nat.le_of_ble_eq_true rfl) (Nat.le_of_ble_eq_true rfl) (Nat.le_of_ble_eq_true rfl) ?_
    intro v93 T93 h93 u93 W93 R93 hq
    obtain ⟨hv93, eh93⟩ := hq
    have ei93 := eh93.symm; subst ei93
    rcases hv93 with ⟨rfl, -⟩ | ⟨rfl, bad⟩
    rotate_left
    · exact absurd (cutL (P := (([] : List Int32) ++ cs51)) (c := cs52) (R := []) (by simp only [List.append_assoc, List.nil_append, List.append_nil]) rfl rfl) bad
    show Own.Go _ _ _ _ _ 184 #[.val (.int p0), .val (.int p1), .val (.int p2), .val (.int p3), .val (.int (2 : Int32)), .val (.ref o51), .val (.ref o52), .val (.ref o53), .val (.ref o54), .val (.ref o76), .val (.int (1 : Int32))] [(.int (1 : Int32))]
    refine Own.ifNo W93 at_184 187 (by decide) rfl ?_
    refine Own.iconst W93 at_187 188 rfl (1 : Int32) rfl ?_
    refine Own.goto W93 at_188 192 (by decide) (by decide) ?_
    refine Own.istore W93 at_192 194 rfl #[.val (.int p0), .val (.int p1), .val (.int p2), .val (.int p3), .val (.int (2 : Int32)), .val (.ref o51), .val (.ref o52), .val (.ref o53), .val (.ref o54), .val (.ref o76), .val (.int (1 : Int32))] rfl ?_
    refine Own.iload W93 at_194 196 rfl (2 : Int32) rfl ?_
    refine Own.iconst W93 at_196 197 rfl (2 : Int32) rfl ?_
    refine Own.icmpYes W93 at_197 231 (by decide) (by decide) (by decide) ?_
    refine Own.iload W93 at_231 233 rfl (1 : Int32) rfl ?_
    exact Own.retB W93 (by decide) (by decide) rfl at_233 rfl rfl
  · skip
    rw [en]
    show Own.Go _ _ _ _ _ 5 #[.val (.int p0), .val (.int p1), .val (.int p2), .val (.int p3), .val (.int (3 : Int32)), .unset, .unset, .unset, .unset, .unset, .unset] []
    refine Own.iloadN W0 at_5 6 rfl p1 rfl ?_
    refine Own.iloadN W0 at_6 7 rfl p0 rfl ?_
    refine Own.iconst W0 at_7 8 rfl (2 : Int32) rfl ?_
    refine Own.iushr W0 at_8 9 rfl ?_
    refine Own.iconst W0 at_9 10 rfl (3 : Int32) rfl ?_
    refine Own.iand W0 at_10 11 rfl ?_
    refine Own.callS W0 (tw hw 0 rfl) (tw hw 1 rfl) (tw hw 2 rfl) (tw hw 3 rfl) (by decide) (argsL := [(.int p1), (.int (((p0.toUInt32 >>> ((2 : Int32) &&& 31).toUInt32).toInt32) &&& (3 : Int32)))]) (rest := []) (Own.Con.pay (con_lin hw hEL hmem hS hcz hE _ _ W0.old) W0 (tw hw 3 rfl) (tw hw 2 rfl) (len := 3) (wd := 0) (by decide) (by decide) (fun _ q => nomatch q)) rfl (lenOf pd_32 rfl) rfl (Nat.le_of_ble_eq_true rfl) at_11 14 rfl 3 10 (Nat.le_of_ble_eq_true rfl) (Nat.le_of_ble_eq_true rfl) (Nat.le_of_ble_eq_true rfl) (Nat.le_of_ble_eq_true rfl) ?_
    intro v94 T94 h94 u94 W94 R94 hq
    obtain ⟨o94, cs94, rfl, E94, F94, q94⟩ := hq
    have XS94 := F94.exa
    show Own.Go _ _ _ _ _ 14 #[.val (.int p0), .val (.int p1), .val (.int p2), .val (.int p3), .val (.int (3 : Int32)), .unset, .unset, .unset, .unset, .unset, .unset] [(.ref o94)]
    refine Own.astore W94 at_14 16 rfl rfl #[.val (.int p0), .val (.int p1), .val (.int p2), .val (.int p3), .val (.int (3 : Int32)), .val (.ref o94), .unset, .unset, .unset, .unset, .unset] rfl ?_
    refine Own.iloadN W94 at_16 17 rfl p2 rfl ?_
    refine Own.iloadN W94 at_17 18 rfl p0 rfl ?_
    refine Own.iconst W94 at_18 19 rfl (4 : Int32) rfl ?_
    refine Own.iushr W94 at_19 20 rfl ?_
    refine Own.iconst W94 at_20 21 rfl (3 : Int32) rfl ?_
    refine Own.iand W94 at_21 22 rfl ?_
    refine Own.callS W94 (tw hw 0 rfl) (tw hw 1 rfl) (tw hw 2 rfl) (tw hw 3 rfl) (by decide) (argsL := [(.int p2), (.int (((p0.toUInt32 >>> ((4 : Int32) &&& 31).toUInt32).toInt32) &&& (3 : Int32)))]) (rest := []) (Own.Con.pay (con_lin hw hEL hmem hS hcz hE _ _ W94.old) W94 (tw hw 3 rfl) (tw hw 2 rfl) (len := 3) (wd := 0) (by decide) (by decide) (fun _ q => nomatch q)) rfl (lenOf pd_32 rfl) rfl (Nat.le_of_ble_eq_true rfl) at_22 25 rfl 6 20 (Nat.le_of_ble_eq_true rfl) (Nat.le_of_ble_eq_true rfl) (Nat.le_of_ble_eq_true rfl) (Nat.le_of_ble_eq_true rfl) ?_
    intro v95 T95 h95 u95 W95 R95 hq
    obtain ⟨o95, cs95, rfl, E95, F95, q95⟩ := hq
    have XS95 := F95.exa
    show Own.Go _ _ _ _ _ 25 #[.val (.int p0), .val (.int p1), .val (.int p2), .val (.int p3), .val (.int (3 : Int32)), .val (.ref o94), .unset, .unset, .unset, .unset, .unset] [(.ref o95)]
    refine Own.astore W95 at_25 27 rfl rfl #[.val (.int p0), .val (.int p1), .val (.int p2), .val (.int p3), .val (.int (3 : Int32)), .val (.ref o94), .val (.ref o95), .unset, .unset, .unset, .unset] rfl ?_
    refine Own.iloadN W95 at_27 28 rfl p3 rfl ?_
    refine Own.iloadN W95 at_28 29 rfl p0 rfl ?_
    refine Own.bipush W95 at_29 31 rfl (6 : Int32) rfl ?_
    refine Own.iushr W95 at_31 32 rfl ?_
    refine Own.iconst W95 at_32 33 rfl (3 : Int32) rfl ?_
    refine Own.iand W95 at_33 34 rfl ?_
    refine Own.callS W95 (tw hw 0 rfl) (tw hw 1 rfl) (tw hw 2 rfl) (tw hw 3 rfl) (by decide) (argsL := [(.int p3), (.int (((p0.toUInt32 >>> ((6 : Int32) &&& 31).toUInt32).toInt32) &&& (3 : Int32)))]) (rest := []) (Own.Con.pay (con_lin hw hEL hmem hS hcz hE _ _ W95.old) W95 (tw hw 3 rfl) (tw hw 2 rfl) (len := 3) (wd := 0) (by decide) (by decide) (fun _ q => nomatch q)) rfl (lenOf pd_32 rfl) rfl (Nat.le_of_ble_eq_true rfl) at_34 37 rfl 9 30 (Nat.le_of_ble_eq_true rfl) (Nat.le_of_ble_eq_true rfl) (Nat.le_of_ble_eq_true rfl) (Nat.le_of_ble_eq_true rfl) ?_
    intro v96 T96 h96 u96 W96 R96 hq
    obtain ⟨o96, cs96, rfl, E96, F96, q96⟩ := hq
    have XS96 := F96.exa
    show Own.Go _ _ _ _ _ 37 #[.val (.int p0), .val (.int p1), .val (.int p2), .val (.int p3), .val (.int (3 : Int32)), .val (.ref o94), .val (.ref o95), .unset, .unset, .unset, .unset] [(.ref o96)]
    refine Own.astore W96 at_37 39 rfl rfl #[.val (.int p0), .val (.int p1), .val (.int p2), .val (.int p3), .val (.int (3 : Int32)), .val (.ref o94), .val (.ref o95), .val (.ref o96), .unset, .unset, .unset] rfl ?_
    refine Own.newO W96 (tw hw 12 rfl) (tw hw 13 rfl) (tw hw 14 rfl) at_39 42 rfl 10 33 (by decide) (by decide) (by decide) (by decide) ?_
    intro T97 h97 o97 g97 W97 E97 A97 D97 s97 k97
    have F97_modCount : Fld G.Z h97 o97 "java/util/AbstractList" "modCount" "I" (.int (0 : Int32)) := D97 (Or.inl (tw hw 34 rfl)) (ty := .int) (by decide)
    have F97_elementData : Fld G.Z h97 o97 "java/util/ArrayList" "elementData" "[Ljava/lang/Object;" .null := D97 (Or.inl (tw hw 37 rfl)) (ty := (.array (.object "java/lang/Object"))) (by decide)
    have F97_size : Fld G.Z h97 o97 "java/util/ArrayList" "size" "I" (.int (0 : Int32)) := D97 (Or.inl (tw hw 70 rfl)) (ty := .int) (by decide)
    refine Own.dup W97 at_42 43 rfl rfl ?_
    have X98 : Ext h h94 := E94
    have X99 : Ext h h95 := Own.Ext.tr X98 E95
    have X100 : Ext h h96 := Own.Ext.tr X99 E96
    refine Own.callX W97 rfl (tw hw 15 rfl) (tw hw 16 rfl) (tw hw 17 rfl) (by decide) (argsL := []) (rest := [(.ref o97)]) (Own.Con.pay (con_ali hw hEL DS DA W97.old (Nat.le_trans W0.n0 (Nat.le_trans X100.1 (Nat.le_of_eq g97.symm))) A97 F97_modCount F97_size F97_elementData) W97 (tw hw 17 rfl) (tw hw 14 rfl) (len := 3) (wd := 1) (by decide) (by decide) (fun _ q => nomatch q)) rfl (lenOf pd_0 rfl) rfl (Nat.le_of_ble_eq_true rfl) at_43 46 rfl 10 33 (Nat.le_of_ble_eq_true rfl) (Nat.le_of_ble_eq_true rfl) (Nat.le_of_ble_eq_true rfl) (Nat.le_of_ble_eq_true rfl) ?_
    intro v101 T101 h101 u101 W101 R101 hq
    obtain ⟨rfl, K101, L101⟩ := hq
    show Own.Go _ _ _ _ _ 46 #[.val (.int p0), .val (.int p1), .val (.int p2), .val (.int p3), .val (.int (3 : Int32)), .val (.ref o94), .val (.ref o95), .val (.ref o96), .unset, .unset, .unset] [(.ref o97)]
    refine Own.astore W101 at_46 48 rfl rfl #[.val (.int p0), .val (.int p1), .val (.int p2), .val (.int p3), .val (.int (3 : Int32)), .val (.ref o94), .val (.ref o95), .val (.ref o96), .val (.ref o97), .unset, .unset] rfl ?_
    refine Own.iload W101 at_48 50 rfl (3 : Int32) rfl ?_
    refine Own.ifNo W101 at_50 53 (by decide) rfl ?_
    refine Own.aload W101 at_53 55 rfl (.ref o97) rfl rfl ?_
    refine Own.aload W101 at_55 57 rfl (.ref o94) rfl rfl ?_
    have XL102 := L101.exa
    have X103 : Ext h94 h95 := E95
    have X104 : Ext h94 h96 := Own.Ext.tr X103 E96
    have X105 : Ext h94 h97 := Own.Ext.tr X104 E97
    have X106 : Ext h94 h101 := Own.Ext.kp X105 K101 (allS (Nat.le_trans X104.1 (Nat.le_of_eq g97.symm)) all0)
    refine Own.callV W101 (tw hw 74 rfl) (tw hw 75 rfl) (fun s q => notFace_of_selects (args := #[]) (mvT (s := s) q (tw hw 77 rfl))) (tw hw 77 rfl) (tw hw 76 rfl) (by decide) (argsL := [(.ref o94)]) (rest := []) (Own.Con.pay (con_ad_0 hw hEL DS DA W101.old (Nat.le_trans W0.n0 (Nat.le_trans X100.1 (Nat.le_of_eq g97.symm))) L101 (XS94.ext X106)) W101 (tw hw 78 rfl) (tw hw 14 rfl) (len := 3) (wd := 0) (by decide) (by decide) (fun _ q => nomatch q)) XL102 rfl (lenOf pd_35 rfl) rfl (Nat.le_of_ble_eq_true rfl) at_57 60 rfl 11 43 (Nat.le_of_ble_eq_true rfl) (Nat.le_of_ble_eq_true rfl) (Nat.le_of_ble_eq_true rfl) (Nat.le_of_ble_eq_true rfl) ?_
    intro v107 T107 h107 u107 W107 R107 hq
    obtain ⟨rfl, e107, c107, K107, g107, L107, A107, O107⟩ := hq
    show Own.Go _ _ _ _ _ 60 #[.val (.int p0), .val (.int p1), .val (.int p2), .val (.int p3), .val (.int (3 : Int32)), .val (.ref o94), .val (.ref o95), .val (.ref o96), .val (.ref o97), .unset, .unset] [(.int (1 : Int32))]
    refine Own.pop W107 at_60 61 rfl rfl ?_
    refine Own.iload W107 at_61 63 rfl (3 : Int32) rfl ?_
    refine Own.iconst W107 at_63 64 rfl (1 : Int32) rfl ?_
    refine Own.icmpNo W107 at_64 67 (by decide) rfl ?_
    refine Own.aload W107 at_67 69 rfl (.ref o97) rfl rfl ?_
    refine Own.aload W107 at_69 71 rfl (.ref o95) rfl rfl ?_
    have XL108 := L107.exa
    have X109 : Ext h h97 := Own.Ext.tr X100 E97
    have X110 : Ext h h101 := Own.Ext.kp X109 K101 (allS (Nat.le_trans X100.1 (Nat.le_of_eq g97.symm)) all0)
    have X111 : Ext h95 h96 := E96
    have X112 : Ext h95 h97 := Own.Ext.tr X111 E97
    have X113 : Ext h95 h101 := Own.Ext.kp X112 K101 (allS (Nat.le_trans X111.1 (Nat.le_of_eq g97.symm)) all0)
    have X114 : Ext h95 h107 := Own.Ext.kp X113 K107 (allS (Nat.le_trans X111.1 (Nat.le_of_eq g97.symm)) all0)
    refine Own.callV W107 (tw hw 74 rfl) (tw hw 75 rfl) (fun s q => notFace_of_selects (args := #[]) (mvT (s := s) q (tw hw 77 rfl))) (tw hw 77 rfl) (tw hw 76 rfl) (by decide) (argsL := [(.ref o95)]) (rest := []) (Own.Con.pay (con_ad_1 hw hEL DS DA W107.old (Nat.le_trans W0.n0 (Nat.le_trans X100.1 (Nat.le_of_eq g97.symm))) (Nat.le_trans W0.n0 (Nat.le_trans X110.1 g107)) (Nat.ne_of_lt (Nat.lt_of_lt_of_le XL102.lt g107)) L107 A107 O107 (XS95.ext X114)) W107 (tw hw 78 rfl) (tw hw 14 rfl) (len := 3) (wd := 0) (by decide) (by decide) (fun _ q => nomatch q)) XL108 rfl (lenOf pd_35 rfl) rfl (Nat.le_of_ble_eq_true rfl) at_71 74 rfl 12 53 (Nat.le_of_ble_eq_true rfl) (Nat.le_of_ble_eq_true rfl) (Nat.le_of_ble_eq_true rfl) (Nat.le_of_ble_eq_true rfl) ?_
    intro v115 T115 h115 u115 W115 R115 hq
    obtain ⟨rfl, K115, L115, A115⟩ := hq
    show Own.Go _ _ _ _ _ 74 #[.val (.int p0), .val (.int p1), .val (.int p2), .val (.int p3), .val (.int (3 : Int32)), .val (.ref o94), .val (.ref o95), .val (.ref o96), .val (.ref o97), .unset, .unset] [(.int (1 : Int32))]
    refine Own.pop W115 at_74 75 rfl rfl ?_
    refine Own.iload W115 at_75 77 rfl (3 : Int32) rfl ?_
    refine Own.iconst W115 at_77 78 rfl (2 : Int32) rfl ?_
    refine Own.icmpNo W115 at_78 81 (by decide) rfl ?_
    refine Own.aload W115 at_81 83 rfl (.ref o97) rfl rfl ?_
    refine Own.aload W115 at_83 85 rfl (.ref o96) rfl rfl ?_
    have XL116 := L115.exa
    have X117 : Ext h96 h97 := E97
    have X118 : Ext h96 h101 := Own.Ext.kp X117 K101 (allS (Nat.le_of_eq g97.symm) all0)
    have X119 : Ext h96 h107 := Own.Ext.kp X118 K107 (allS (Nat.le_of_eq g97.symm) all0)
    have X120 : Ext h96 h115 := Own.Ext.kp X119 K115 (allS (Nat.le_of_eq g97.symm) (allS (Nat.le_trans X118.1 g107) all0))
    refine Own.callV W115 (tw hw 74 rfl) (tw hw 75 rfl) (fun s q => notFace_of_selects (args := #[]) (mvT (s := s) q (tw hw 77 rfl))) (tw hw 77 rfl) (tw hw 76 rfl) (by decide) (argsL := [(.ref o96)]) (rest := []) (Own.Con.pay (con_ad_2 hw hEL DS DA W115.old (Nat.le_trans W0.n0 (Nat.le_trans X100.1 (Nat.le_of_eq g97.symm))) (Nat.le_trans W0.n0 (Nat.le_trans X110.1 g107)) (Nat.ne_of_lt (Nat.lt_of_lt_of_le XL102.lt g107)) L115 A115 O107 (XS96.ext X120)) W115 (tw hw 78 rfl) (tw hw 14 rfl) (len := 3) (wd := 0) (by decide) (by decide) (fun _ q => nomatch q)) XL116 rfl (lenOf pd_35 rfl) rfl (Nat.le_of_ble_eq_true rfl) at_85 88 rfl 13 63 (Nat.le_of_ble_eq_true rfl) (Nat.le_of_ble_eq_true rfl) (Nat.le_of_ble_eq_true rfl) (Nat.le_of_ble_eq_true rfl) ?_
    intro v121 T121 h121 u121 W121 R121 hq
    obtain ⟨rfl, K121, L121, A121⟩ := hq
    show Own.Go _ _ _ _ _ 88 #[.val (.int p0), .val (.int p1), .val (.int p2), .val (.int p3), .val (.int (3 : Int32)), .val (.ref o94), .val (.ref o95), .val (.ref o96), .val (.ref o97), .unset, .unset] [(.int (1 : Int32))]
    refine Own.pop W121 at_88 89 rfl rfl ?_
    refine Own.aload W121 at_89 91 rfl (.ref o97) rfl rfl ?_
    have X122 : Ext h94 h107 := Own.Ext.kp X106 K107 (allS (Nat.le_trans X104.1 (Nat.le_of_eq g97.symm)) all0)
    have X123 : Ext h94 h115 := Own.Ext.kp X122 K115 (allS (Nat.le_trans X104.1 (Nat.le_of_eq g97.symm)) (allS (Nat.le_trans X106.1 g107) all0))
    have X124 : Ext h94 h121 := Own.Ext.kp X123 K121 (allS (Nat.le_trans X104.1 (Nat.le_of_eq g97.symm)) (allS (Nat.le_trans X106.1 g107) all0))
    have X125 : Ext h95 h115 := Own.Ext.kp X114 K115 (allS (Nat.le_trans X111.1 (Nat.le_of_eq g97.symm)) (allS (Nat.le_trans X113.1 g107) all0))
    have X126 : Ext h95 h121 := Own.Ext.kp X125 K121 (allS (Nat.le_trans X111.1 (Nat.le_of_eq g97.symm)) (allS (Nat.le_trans X113.1 g107) all0))
    have X127 : Ext h96 h121 := Own.Ext.kp X120 K121 (allS (Nat.le_of_eq g97.symm) (allS (Nat.le_trans X118.1 g107) all0))
    refine Own.callS W121 (tw hw 38 rfl) (tw hw 39 rfl) (tw hw 40 rfl) (tw hw 41 rfl) (by decide) (argsL := [(.ref o97)]) (rest := []) (Own.Con.pay (con_cpy3 hw hEL hmem hS hcz hEN DS DA TN XN FN AN W121.old L121 A121 (F94.ext X124) q94 (F95.ext X126) q95 (F96.ext X127) q96) W121 (tw hw 41 rfl) (tw hw 40 rfl) (len := 3) (wd := 0) (by decide) (by decide) (fun _ q => nomatch q)) rfl (lenOf pd_34 rfl) rfl (Nat.le_of_ble_eq_true rfl) at_91 94 rfl 19 109 (Nat.le_of_ble_eq_true rfl) (Nat.le_of_ble_eq_true rfl) (Nat.le_of_ble_eq_true rfl) (Nat.le_of_ble_eq_true rfl) ?_
    intro v128 T128 h128 u128 W128 R128 hq
    obtain ⟨o128, j128, en128, kE128, rfl, E128, g128, gj128, ge128, Er128, Fj128, Fe128, SJ128, Ae128⟩ := hq
    show Own.Go _ _ _ _ _ 94 #[.val (.int p0), .val (.int p1), .val (.int p2), .val (.int p3), .val (.int (3 : Int32)), .val (.ref o94), .val (.ref o95), .val (.ref o96), .val (.ref o97), .unset, .unset] [(.ref o128)]
    refine Own.astore W128 at_94 96 rfl rfl #[.val (.int p0), .val (.int p1), .val (.int p2), .val (.int p3), .val (.int (3 : Int32)), .val (.ref o94), .val (.ref o95), .val (.ref o96), .val (.ref o97), .val (.ref o128), .unset] rfl ?_
    refine Own.aload W128 at_96 98 rfl (.ref o97) rfl rfl ?_
    refine Own.aload W128 at_98 100 rfl (.ref o94) rfl rfl ?_
    have X130 : Ext h121 h128 := E128
    have XL129 := (L121.ext X130).exa
    have X131 : Ext h94 h128 := Own.Ext.tr X124 E128
    refine Own.callV W128 (tw hw 74 rfl) (tw hw 75 rfl) (fun s q => notFace_of_selects (args := #[]) (mvT (s := s) q (tw hw 77 rfl))) (tw hw 77 rfl) (tw hw 76 rfl) (by decide) (argsL := [(.ref o94)]) (rest := []) (Own.Con.pay (con_ad_3 hw hEL DS DA W128.old (Nat.le_trans W0.n0 (Nat.le_trans X100.1 (Nat.le_of_eq g97.symm))) (Nat.le_trans W0.n0 (Nat.le_trans X110.1 g107)) (Nat.ne_of_lt (Nat.lt_of_lt_of_le XL102.lt g107)) (L121.ext X130) (A121.ext X130) O107 (XS94.ext X131)) W128 (tw hw 78 rfl) (tw hw 14 rfl) (len := 3) (wd := 0) (by decide) (by decide) (fun _ q => nomatch q)) XL129 rfl (lenOf pd_35 rfl) rfl (Nat.le_of_ble_eq_true rfl) at_100 103 rfl 20 119 (Nat.le_of_ble_eq_true rfl) (Nat.le_of_ble_eq_true rfl) (Nat.le_of_ble_eq_true rfl) (Nat.le_of_ble_eq_true rfl) ?_
    intro v132 T132 h132 u132 W132 R132 hq
    obtain ⟨rfl, K132, L132, A132⟩ := hq
    show Own.Go _ _ _ _ _ 103 #[.val (.int p0), .val (.int p1), .val (.int p2), .val (.int p3), .val (.int (3 : Int32)), .val (.ref o94), .val (.ref o95), .val (.ref o96), .val (.ref o97), .val (.ref o128), .unset] [(.int (1 : Int32))]
    refine Own.pop W132 at_103 104 rfl rfl ?_
    refine Own.aload W132 at_104 106 rfl (.ref o128) rfl rfl ?_
    refine Own.callI W132 (tw hw 103 rfl) (tw hw 61 rfl) (tw hw 62 rfl) rfl (tw hw 104 rfl) (tw hw 105 rfl) (tw hw 106 rfl) (tw hw 107 rfl) (tw hw 108 rfl) (by decide) (argsL := []) (rest := []) (Own.Con.pay (con_psz hw hEL W132.old (Fe128.keep K132 (ninS (Ne.symm (Nat.ne_of_lt (Nat.lt_of_lt_of_le XL102.lt (Nat.le_trans (Nat.le_trans (Nat.le_trans (Nat.le_trans (Nat.le_refl _) K107.1) K115.1) K121.1) g128)))) (ninS (Ne.symm (Nat.ne_of_lt (Nat.lt_of_lt_of_le A107.lt (Nat.le_trans (Nat.le_trans (Nat.le_trans (Nat.le_refl _) K115.1) K121.1) g128)))) nin0))) (Ae128.keep K132 (ninS (Ne.symm (Nat.ne_of_lt (Nat.lt_of_lt_of_le XL102.lt (Nat.le_trans (Nat.le_trans (Nat.le_trans (Nat.le_trans (Nat.le_refl _) K107.1) K115.1) K121.1) ge128)))) (ninS (Ne.symm (Nat.ne_of_lt (Nat.lt_of_lt_of_le A107.lt (Nat.le_trans (Nat.le_trans (Nat.le_trans (Nat.le_refl _) K115.1) K121.1) ge128)))) nin0)))) W132 (tw hw 109 rfl) (tw hw 40 rfl) (len := 5) (wd := 0) (by decide) (by decide) (fun _ q => nomatch q)) (Er128.keep K132) rfl (lenOf pd_11 rfl) rfl (Nat.le_of_ble_eq_true rfl) at_106 111 rfl 20 119 (Nat.le_of_ble_eq_true rfl) (Nat.le_of_ble_eq_true rfl) (Nat.le_of_ble_eq_true rfl) (Nat.le_of_ble_eq_true rfl) ?_
    intro v133 T133 h133 u133 W133 R133 hq
    obtain ⟨rfl, eh133⟩ := hq
    have ei133 := eh133.symm; subst ei133
    show Own.Go _ _ _ _ _ 111 #[.val (.int p0), .val (.int p1), .val (.int p2), .val (.int p3), .val (.int (3 : Int32)), .val (.ref o94), .val (.ref o95), .val (.ref o96), .val (.ref o97), .val (.ref o128), .unset] [(.int (3 : Int32))]
    refine Own.iload W133 at_111 113 rfl (3 : Int32) rfl ?_
    refine Own.icmpYes W133 at_113 118 (by decide) (by decide) (by decide) ?_
    refine Own.iconst W133 at_118 119 rfl (1 : Int32) rfl ?_
    refine Own.istore W133 at_119 121 rfl #[.val (.int p0), .val (.int p1), .val (.int p2), .val (.int p3), .val (.int (3 : Int32)), .val (.ref o94), .val (.ref o95), .val (.ref o96), .val (.ref o97), .val (.ref o128), .val (.int (1 : Int32))] rfl ?_
    refine Own.iload W133 at_121 123 rfl (3 : Int32) rfl ?_
    refine Own.ifNo W133 at_123 126 (by decide) rfl ?_
    refine Own.iload W133 at_126 128 rfl (1 : Int32) rfl ?_
    refine Own.ifNo W133 at_128 131 (by decide) rfl ?_
    refine Own.aload W133 at_131 133 rfl (.ref o128) rfl rfl ?_
    refine Own.iconst W133 at_133 134 rfl (0 : Int32) rfl ?_
    refine Own.callI W133 (tw hw 278 rfl) (tw hw 150 rfl) (tw hw 151 rfl) rfl (tw hw 279 rfl) (tw hw 280 rfl) (tw hw 281 rfl) (tw hw 282 rfl) (tw hw 108 rfl) (by decide) (argsL := [(.int (0 : Int32))]) (rest := []) (Own.Con.pay (con_pgo0 hw hEL hmem hS hcz SF rfm hE W133.old (Fe128.keep K132 (ninS (Ne.symm (Nat.ne_of_lt (Nat.lt_of_lt_of_le XL102.lt (Nat.le_trans (Nat.le_trans (Nat.le_trans (Nat.le_trans (Nat.le_refl _) K107.1) K115.1) K121.1) g128)))) (ninS (Ne.symm (Nat.ne_of_lt (Nat.lt_of_lt_of_le A107.lt (Nat.le_trans (Nat.le_trans (Nat.le_trans (Nat.le_refl _) K115.1) K121.1) g128)))) nin0))) (Fj128.keep K132 (ninS (Ne.symm (Nat.ne_of_lt (Nat.lt_of_lt_of_le XL102.lt (Nat.le_trans (Nat.le_trans (Nat.le_trans (Nat.le_trans (Nat.le_refl _) K107.1) K115.1) K121.1) g128)))) (ninS (Ne.symm (Nat.ne_of_lt (Nat.lt_of_lt_of_le A107.lt (Nat.le_trans (Nat.le_trans (Nat.le_trans (Nat.le_refl _) K115.1) K121.1) g128)))) nin0))) (Ae128.keep K132 (ninS (Ne.symm (Nat.ne_of_lt (Nat.lt_of_lt_of_le XL102.lt (Nat.le_trans (Nat.le_trans (Nat.le_trans (Nat.le_trans (Nat.le_refl _) K107.1) K115.1) K121.1) ge128)))) (ninS (Ne.symm (Nat.ne_of_lt (Nat.lt_of_lt_of_le A107.lt (Nat.le_trans (Nat.le_trans (Nat.le_trans (Nat.le_refl _) K115.1) K121.1) ge128)))) nin0))) (SJ128.keep K132 (ninS (Ne.symm (Nat.ne_of_lt (Nat.lt_of_lt_of_le XL102.lt (Nat.le_trans (Nat.le_trans (Nat.le_trans (Nat.le_trans (Nat.le_refl _) K107.1) K115.1) K121.1) gj128)))) (ninS (Ne.symm (Nat.ne_of_lt (Nat.lt_of_lt_of_le A107.lt (Nat.le_trans (Nat.le_trans (Nat.le_trans (Nat.le_refl _) K115.1) K121.1) gj128)))) nin0)) (fun x hx => by rcases List.mem_cons.mp hx with rfl | hx; exact Own.noByteI (tw hw 13 rfl) XL129; cases List.mem_singleton.mp hx; exact Own.noByteA (A121.ext X130) (fun q => by cases q))) (f := ([] : List Int32).length) (t := (([] : List Int32) ++ cs94).length) (by simp only [List.length_append, List.length_nil]; omega) (by simp only [List.length_append, List.length_nil]; omega) (by simp only [List.length_append, List.length_nil]; omega) (by decide) rfl rfl rfl (Er128.keep K132)) W133 (tw hw 283 rfl) (tw hw 40 rfl) (len := 5) (wd := 0) (by decide) (by decide) (fun _ q => nomatch q)) (Er128.keep K132) rfl (lenOf pd_6 rfl) rfl (Nat.le_of_ble_eq_true rfl) at_134 139 rfl 22 139 (Nat.le_of_ble_eq_true rfl) (Nat.le_of_ble_eq_true rfl) (Nat.le_of_ble_eq_true rfl) (Nat.le_of_ble_eq_true rfl) ?_
    intro v134 T134 h134 u134 W134 R134 hq
    obtain ⟨o134, rfl, E134, S134⟩ := hq
    have XG134 := S134.exa
    show Own.Go _ _ _ _ _ 139 #[.val (.int p0), .val (.int p1), .val (.int p2), .val (.int p3), .val (.int (3 : Int32)), .val (.ref o94), .val (.ref o95), .val (.ref o96), .val (.ref o97), .val (.ref o128), .val (.int (1 : Int32))] [(.ref o134)]
    refine Own.castY W134 (tw hw 112 rfl) (Ins.self XG134) at_139 142 rfl ?_
    intro T135 W135
    refine Own.aload W135 at_142 144 rfl (.ref o94) rfl rfl ?_
    have X136 : Ext h94 h132 := Own.Ext.kp X131 K132 (allS (Nat.le_trans X104.1 (Nat.le_of_eq g97.symm)) (allS (Nat.le_trans X106.1 g107) all0))
    have X137 : Ext h94 h134 := Own.Ext.tr X136 E134
    refine Own.callV W135 (tw hw 314 rfl) (tw hw 315 rfl) (fun s q => notFace_of_selects (args := #[]) (mvT (s := s) q (tw hw 317 rfl))) (tw hw 317 rfl) (tw hw 316 rfl) (by decide) (argsL := [(.ref o94)]) (rest := []) (Own.payEq (wQ hw) (kI := 4) (tw hw 6 rfl) W135 S134 (F94.ext X137) hS hcz (len := 3) (wd := 0) (by decide) (by decide)) XG134 rfl (lenOf pd_35 rfl) rfl (Nat.le_of_ble_eq_true rfl) at_144 147 rfl 22 139 (Nat.le_of_ble_eq_true rfl) (Nat.le_of_ble_eq_true rfl) (Nat.le_of_ble_eq_true rfl) (Nat.le_of_ble_eq_true rfl) ?_
    intro v138 T138 h138 u138 W138 R138 hq
    obtain ⟨hv138, eh138⟩ := hq
    have ei138 := eh138.symm; subst ei138
    rcases hv138 with ⟨rfl, -⟩ | ⟨rfl, bad⟩
    rotate_left
    · exact absurd (cutL (P := ([] : List Int32)) (c := cs94) (R := (([] ++ cs95) ++ cs96)) (by simp only [List.append_assoc, List.nil_append, List.append_nil]) rfl rfl) bad
    show Own.Go _ _ _ _ _ 147 #[.val (.int p0), .val (.int p1), .val (.int p2), .val (.int p3), .val (.int (3 : Int32)), .val (.ref o94), .val (.ref o95), .val (.ref o96), .val (.ref o97), .val (.ref o128), .val (.int (1 : Int32))] [(.int (1 : Int32))]
    refine Own.ifNo W138 at_147 150 (by decide) rfl ?_
    refine Own.iconst W138 at_150 151 rfl (1 : Int32) rfl ?_
    refine Own.goto W138 at_151 155 (by decide) (by decide) ?_
    refine Own.istore W138 at_155 157 rfl #[.val (.int p0), .val (.int p1), .val (.int p2), .val (.int p3), .val (.int (3 : Int32)), .val (.ref o94), .val (.ref o95), .val (.ref o96), .val (.ref o97), .val (.ref o128), .val (.int (1 : Int32))] rfl ?_
    refine Own.iload W138 at_157 159 rfl (3 : Int32) rfl ?_
    refine Own.iconst W138 at_159 160 rfl (1 : Int32) rfl ?_
    refine Own.icmpNo W138 at_160 163 (by decide) rfl ?_
    refine Own.iload W138 at_163 165 rfl (1 : Int32) rfl ?_
    refine Own.ifNo W138 at_165 168 (by decide) rfl ?_
    refine Own.aload W138 at_168 170 rfl (.ref o128) rfl rfl ?_
    refine Own.iconst W138 at_170 171 rfl (1 : Int32) rfl ?_
    refine Own.callI W138 (tw hw 278 rfl) (tw hw 150 rfl) (tw hw 151 rfl) rfl (tw hw 279 rfl) (tw hw 280 rfl) (tw hw 281 rfl) (tw hw 282 rfl) (tw hw 108 rfl) (by decide) (argsL := [(.int (1 : Int32))]) (rest := []) (Own.Con.pay (con_pgo1 hw hEL hmem hS hcz SF rfm hE W138.old ((Fe128.keep K132 (ninS (Ne.symm (Nat.ne_of_lt (Nat.lt_of_lt_of_le XL102.lt (Nat.le_trans (Nat.le_trans (Nat.le_trans (Nat.le_trans (Nat.le_refl _) K107.1) K115.1) K121.1) g128)))) (ninS (Ne.symm (Nat.ne_of_lt (Nat.lt_of_lt_of_le A107.lt (Nat.le_trans (Nat.le_trans (Nat.le_trans (Nat.le_refl _) K115.1) K121.1) g128)))) nin0))).ext E134) ((Fj128.keep K132 (ninS (Ne.symm (Nat.ne_of_lt (Nat.lt_of_lt_of_le XL102.lt (Nat.le_trans (Nat.le_trans (Nat.le_trans (Nat.le_trans (Nat.le_refl _) K107.1) K115.1) K121.1) g128)))) (ninS (Ne.symm (Nat.ne_of_lt (Nat.lt_of_lt_of_le A107.lt (Nat.le_trans (Nat.le_trans (Nat.le_trans (Nat.le_refl _) K115.1) K121.1) g128)))) nin0))).ext E134) ((Ae128.keep K132 (ninS (Ne.symm (Nat.ne_of_lt (Nat.lt_of_lt_of_le XL102.lt (Nat.le_trans (Nat.le_trans (Nat.le_trans (Nat.le_trans (Nat.le_refl _) K107.1) K115.1) K121.1) ge128)))) (ninS (Ne.symm (Nat.ne_of_lt (Nat.lt_of_lt_of_le A107.lt (Nat.le_trans (Nat.le_trans (Nat.le_trans (Nat.le_refl _) K115.1) K121.1) ge128)))) nin0))).ext E134) ((SJ128.keep K132 (ninS (Ne.symm (Nat.ne_of_lt (Nat.lt_of_lt_of_le XL102.lt (Nat.le_trans (Nat.le_trans (Nat.le_trans (Nat.le_trans (Nat.le_refl _) K107.1) K115.1) K121.1) gj128)))) (ninS (Ne.symm (Nat.ne_of_lt (Nat.lt_of_lt_of_le A107.lt (Nat.le_trans (Nat.le_trans (Nat.le_trans (Nat.le_refl _) K115.1) K121.1) gj128)))) nin0)) (fun x hx => by rcases List.mem_cons.mp hx with rfl | hx; exact Own.noByteI (tw hw 13 rfl) XL129; cases List.mem_singleton.mp hx; exact Own.noByteA (A121.ext X130) (fun q => by cases q))).ext E134) (f := (([] : List Int32) ++ cs94).length) (t := ((([] : List Int32) ++ cs94) ++ cs95).length) (by simp only [List.length_append, List.length_nil]; omega) (by simp only [List.length_append, List.length_nil]; omega) (by simp only [List.length_append, List.length_nil]; omega) (by decide) rfl (by decide) rfl rfl ((Er128.keep K132).ext E134)) W138 (tw hw 283 rfl) (tw hw 40 rfl) (len := 5) (wd := 0) (by decide) (by decide) (fun _ q => nomatch q)) ((Er128.keep K132).ext E134) rfl (lenOf pd_6 rfl) rfl (Nat.le_of_ble_eq_true rfl) at_171 176 rfl 24 159 (Nat.le_of_ble_eq_true rfl) (Nat.le_of_ble_eq_true rfl) (Nat.le_of_ble_eq_true rfl) (Nat.le_of_ble_eq_true rfl) ?_
    intro v139 T139 h139 u139 W139 R139 hq
    obtain ⟨o139, rfl, E139, S139⟩ := hq
    have XG139 := S139.exa
    show Own.Go _ _ _ _ _ 176 #[.val (.int p0), .val (.int p1), .val (.int p2), .val (.int p3), .val (.int (3 : Int32)), .val (.ref o94), .val (.ref o95), .val (.ref o96), .val (.ref o97), .val (.ref o128), .val (.int (1 : Int32))] [(.ref o139)]
    refine Own.castY W139 (tw hw 112 rfl) (Ins.self XG139) at_176 179 rfl ?_
    intro T140 W140
    refine Own.aload W140 at_179 181 rfl (.ref o95) rfl rfl ?_
    have X141 : Ext h95 h128 := Own.Ext.tr X126 E128
    have X142 : Ext h95 h132 := Own.Ext.kp X141 K132 (allS (Nat.le_trans X111.1 (Nat.le_of_eq g97.symm)) (allS (Nat.le_trans X113.1 g107) all0))
    have X143 : Ext h95 h134 := Own.Ext.tr X142 E134
    have X144 : Ext h95 h139 := Own.Ext.tr X143 E139
    refine Own.callV W140 (tw hw 314 rfl) (tw hw 315 rfl) (fun s q => notFace_of_selects (args := #[]) (mvT (s := s) q (tw hw 317 rfl))) (tw hw 317 rfl) (tw hw 316 rfl) (by decide) (argsL := [(.ref o95)]) (rest := []) (Own.payEq (wQ hw) (kI := 4) (tw hw 6 rfl) W140 S139 (F95.ext X144) hS hcz (len := 3) (wd := 0) (by decide) (by decide)) XG139 rfl (lenOf pd_35 rfl) rfl (Nat.le_of_ble_eq_true rfl) at_181 184 rfl 24 159 (Nat.le_of_ble_eq_true rfl) (Nat.le_of_ble_eq_true rfl) (Nat.le_of_ble_eq_true rfl) (Nat.le_of_ble_eq_true rfl) ?_
    intro v145 T145 h145 u145 W145 R145 hq
    obtain ⟨hv145, eh145⟩ := hq
    have ei145 := eh145.symm; subst ei145
    rcases hv145 with ⟨rfl, -⟩ | ⟨rfl, bad⟩
    rotate_left
    · exact absurd (cutL (P := (([] : List Int32) ++ cs94)) (c := cs95) (R := ([] ++ cs96)) (by simp only [List.append_assoc, List.nil_append, List.append_nil]) rfl rfl) bad
    show Own.Go _ _ _ _ _ 184 #[.val (.int p0), .val (.int p1), .val (.int p2), .val (.int p3), .val (.int (3 : Int32)), .val (.ref o94), .val (.ref o95), .val (.ref o96), .val (.ref o97), .val (.ref o128), .val (.int (1 : Int32))] [(.int (1 : Int32))]
    refine Own.ifNo W145 at_184 187 (by decide) rfl ?_
    refine Own.iconst W145 at_187 188 rfl (1 : Int32) rfl ?_
    refine Own.goto W145 at_188 192 (by decide) (by decide) ?_
    refine Own.istore W145 at_192 194 rfl #[.val (.int p0), .val (.int p1), .val (.int p2), .val (.int p3), .val (.int (3 : Int32)), .val (.ref o94), .val (.ref o95), .val (.ref o96), .val (.ref o97), .val (.ref o128), .val (.int (1 : Int32))] rfl ?_
    refine Own.iload W145 at_194 196 rfl (3 : Int32) rfl ?_
    refine Own.iconst W145 at_196 197 rfl (2 : Int32) rfl ?_
    refine Own.icmpNo W145 at_197 200 (by decide) rfl ?_
    refine Own.iload W145 at_200 202 rfl (1 : Int32) rfl ?_
    refine Own.ifNo W145 at_202 205 (by decide) rfl ?_
    refine Own.aload W145 at_205 207 rfl (.ref o128) rfl rfl ?_
    refine Own.iconst W145 at_207 208 rfl (2 : Int32) rfl ?_
    refine Own.callI W145 (tw hw 278 rfl) (tw hw 150 rfl) (tw hw 151 rfl) rfl (tw hw 279 rfl) (tw hw 280 rfl) (tw hw 281 rfl) (tw hw 282 rfl) (tw hw 108 rfl) (by decide) (argsL := [(.int (2 : Int32))]) (rest := []) (Own.Con.pay (con_pgo2 hw hEL hmem hS hcz SF rfm hE W145.old (((Fe128.keep K132 (ninS (Ne.symm (Nat.ne_of_lt (Nat.lt_of_lt_of_le XL102.lt (Nat.le_trans (Nat.le_trans (Nat.le_trans (Nat.le_trans (Nat.le_refl _) K107.1) K115.1) K121.1) g128)))) (ninS (Ne.symm (Nat.ne_of_lt (Nat.lt_of_lt_of_le A107.lt (Nat.le_trans (Nat.le_trans (Nat.le_trans (Nat.le_refl _) K115.1) K121.1) g128)))) nin0))).ext E134).ext E139) (((Fj128.keep K132 (ninS (Ne.symm (Nat.ne_of_lt (Nat.lt_of_lt_of_le XL102.lt (Nat.le_trans (Nat.le_trans (Nat.le_trans (Nat.le_trans (Nat.le_refl _) K107.1) K115.1) K121.1) g128)))) (ninS (Ne.symm (Nat.ne_of_lt (Nat.lt_of_lt_of_le A107.lt (Nat.le_trans (Nat.le_trans (Nat.le_trans (Nat.le_refl _) K115.1) K121.1) g128)))) nin0))).ext E134).ext E139) (((Ae128.keep K132 (ninS (Ne.symm (Nat.ne_of_lt (Nat.lt_of_lt_of_le XL102.lt (Nat.le_trans (Nat.le_trans (Nat.le_trans (Nat.le_trans (Nat.le_refl _) K107.1) K115.1) K121.1) ge128)))) (ninS (Ne.symm (Nat.ne_of_lt (Nat.lt_of_lt_of_le A107.lt (Nat.le_trans (Nat.le_trans (Nat.le_trans (Nat.le_refl _) K115.1) K121.1) ge128)))) nin0))).ext E134).ext E139) (((SJ128.keep K132 (ninS (Ne.symm (Nat.ne_of_lt (Nat.lt_of_lt_of_le XL102.lt (Nat.le_trans (Nat.le_trans (Nat.le_trans (Nat.le_trans (Nat.le_refl _) K107.1) K115.1) K121.1) gj128)))) (ninS (Ne.symm (Nat.ne_of_lt (Nat.lt_of_lt_of_le A107.lt (Nat.le_trans (Nat.le_trans (Nat.le_trans (Nat.le_refl _) K115.1) K121.1) gj128)))) nin0)) (fun x hx => by rcases List.mem_cons.mp hx with rfl | hx; exact Own.noByteI (tw hw 13 rfl) XL129; cases List.mem_singleton.mp hx; exact Own.noByteA (A121.ext X130) (fun q => by cases q))).ext E134).ext E139) (f := ((([] : List Int32) ++ cs94) ++ cs95).length) (t := (((([] : List Int32) ++ cs94) ++ cs95) ++ cs96).length) (by simp only [List.length_append, List.length_nil]; omega) (by simp only [List.length_append, List.length_nil]; omega) (by simp only [List.length_append, List.length_nil]; omega) (by decide) rfl (by decide) rfl rfl (((Er128.keep K132).ext E134).ext E139)) W145 (tw hw 283 rfl) (tw hw 40 rfl) (len := 5) (wd := 0) (by decide) (by decide) (fun _ q => nomatch q)) (((Er128.keep K132).ext E134).ext E139) rfl (lenOf pd_6 rfl) rfl (Nat.le_of_ble_eq_true rfl) at_208 213 rfl 26 179 (Nat.le_of_ble_eq_true rfl) (Nat.le_of_ble_eq_true rfl) (Nat.le_of_ble_eq_true rfl) (Nat.le_of_ble_eq_true rfl) ?_
    intro v146 T146 h146 u146 W146 R146 hq
    obtain ⟨o146, rfl, E146, S146⟩ := hq
    have XG146 := S146.exa
    show Own.Go _ _ _ _ _ 213 #[.val (.int p0), .val (.int p1), .val (.int p2), .val (.int p3), .val (.int (3 : Int32)), .val (.ref o94), .val (.ref o95), .val (.ref o96), .val (.ref o97), .val (.ref o128), .val (.int (1 : Int32))] [(.ref o146)]
    refine Own.castY W146 (tw hw 112 rfl) (Ins.self XG146) at_213 216 rfl ?_
    intro T147 W147
    refine Own.aload W147 at_216 218 rfl (.ref o96) rfl rfl ?_
    have X148 : Ext h96 h128 := Own.Ext.tr X127 E128
    have X149 : Ext h96 h132 := Own.Ext.kp X148 K132 (allS (Nat.le_of_eq g97.symm) (allS (Nat.le_trans X118.1 g107) all0))
    have X150 : Ext h96 h134 := Own.Ext.tr X149 E134
    have X151 : Ext h96 h139 := Own.Ext.tr X150 E139
    have X152 : Ext h96 h146 := Own.Ext.tr X151 E146
    refine Own.callV W147 (tw hw 314 rfl) (tw hw 315 rfl) (fun s q => notFace_of_selects (args := #[]) (mvT (s := s) q (tw hw 317 rfl))) (tw hw 317 rfl) (tw hw 316 rfl) (by decide) (argsL := [(.ref o96)]) (rest := []) (Own.payEq (wQ hw) (kI := 4) (tw hw 6 rfl) W147 S146 (F96.ext X152) hS hcz (len := 3) (wd := 0) (by decide) (by decide)) XG146 rfl (lenOf pd_35 rfl) rfl (Nat.le_of_ble_eq_true rfl) at_218 221 rfl 26 179 (Nat.le_of_ble_eq_true rfl) (Nat.le_of_ble_eq_true rfl) (Nat.le_of_ble_eq_true rfl) (Nat.le_of_ble_eq_true rfl) ?_
    intro v153 T153 h153 u153 W153 R153 hq
    obtain ⟨hv153, eh153⟩ := hq
    have ei153 := eh153.symm; subst ei153
    rcases hv153 with ⟨rfl, -⟩ | ⟨rfl, bad⟩
    rotate_left
    · exact absurd (cutL (P := ((([] : List Int32) ++ cs94) ++ cs95)) (c := cs96) (R := []) (by simp only [List.append_assoc, List.nil_append, List.append_nil]) rfl rfl) bad
    show Own.Go _ _ _ _ _ 221 #[.val (.int p0), .val (.int p1), .val (.int p2), .val (.int p3), .val (.int (3 : Int32)), .val (.ref o94), .val (.ref o95), .val (.ref o96), .val (.ref o97), .val (.ref o128), .val (.int (1 : Int32))] [(.int (1 : Int32))]
    refine Own.ifNo W153 at_221 224 (by decide) rfl ?_
    refine Own.iconst W153 at_224 225 rfl (1 : Int32) rfl ?_
    refine Own.goto W153 at_225 229 (by decide) (by decide) ?_
    refine Own.istore W153 at_229 231 rfl #[.val (.int p0), .val (.int p1), .val (.int p2), .val (.int p3), .val (.int (3 : Int32)), .val (.ref o94), .val (.ref o95), .val (.ref o96), .val (.ref o97), .val (.ref o128), .val (.int (1 : Int32))] rfl ?_
    refine Own.iload W153 at_231 233 rfl (1 : Int32) rfl ?_
    exact Own.retB W153 (by decide) (by decide) rfl at_233 rfl rfl
theorem elW {G : Own.Gl} (hw : ∀ d ∈ tables_1, d.before G.a0 G.Z = true) : EW G.Z G.a0 consts_1 := (EW.cons (tw hw 4 rfl) (by decide) (EW.cons (tw hw 322 rfl) (by decide) EW.nil))
theorem enW16 {G : Own.Gl} (hw : ∀ d ∈ tables_1, d.before G.a0 G.Z = true) : Own.EN G.Z G.a0 consts_1 16 := (Own.EN.cons (tw hw 4 rfl) (by decide) (by decide) (Own.EN.cons (tw hw 322 rfl) (by decide) (by decide) Own.EN.nil))
set_option maxRecDepth 65536 in
set_option maxHeartbeats 40000000 in
theorem comes_1 {Post : Tables → Env → Array Value → State → Outcome → State → Prop} (hpost : ∀ tb e args s v u, (limb_1_1.after args s (.returned v) u = true ∧ limb_1_2.after args s (.returned v) u = true ∧ True) → ReturnedEndW s (.returned v) u (Jvm.fieldLocs frame_1_writes args s ++ Jvm.arrayLocs frame_1_arrays args s ++ Jvm.staticLocs frame_1_statics s) 64 2368 → Post tb e args s (.returned v) u) :
    ArmFor flags0 classFile x code maxLocals ret World_1 tables_1 room_1 Calls_1 rest_1 Pre_1 Post := by
  intro l hfl _ _ p e ha hc hk s m args below hf hA hF happ hP
  obtain ⟨hcalls, hrest, hpre⟩ := hP
  obtain ⟨-, -, -, hnamed, -, -, -, hat⟩ := (Spec.applies_iff hf).mp happ
  obtain ⟨hg, hn⟩ := and_e (Cond.before_iff.mp (show (Jvm.Cond.and given_1 narrow_1).before args s = true from hpre))
  obtain ⟨hcnt, g1⟩ := and_e hg
  obtain ⟨a0, g2⟩ := and_e g1
  obtain ⟨a1, g3⟩ := and_e g2
  obtain ⟨a2, g4⟩ := and_e g3
  have a3 := g4
  obtain ⟨w0, w1, w2, w3, rfl⟩ : ∃ w0 w1 w2 w3 : Value, args = #[w0, w1, w2, w3] := by
    have hs : args.size = 4 := by simpa [Cond.value, given_1] using hcnt
    obtain ⟨L⟩ := args
    match L, hs with
    | [w0, w1, w2, w3], _ => exact ⟨w0, w1, w2, w3, rfl⟩
  have hw := fun d (hd : d ∈ tables_1) => atoms_spec (ws := Jvm.Cond.code x code maxLocals ret :: tables_1) hat d (List.mem_cons_of_mem _ hd)
  have hfit : Fit s := fun {y c} hc i hi => by
    obtain ⟨ha, rfl⟩ := Array.getElem?_eq_some_iff.mp hc
    have q := List.all_eq_true.mp ((Array.all_eq_true_iff_forall_mem.mp hF) _ (Array.getElem_mem ha)) i (List.mem_range.mpr hi)
    simpa [Array.getElem?_eq_getElem hi] using q
  obtain ⟨hsets, hown0⟩ := atoms_of _ (rest_1_c_eq ▸ (show rest_1_c.before _ s = true from hrest))
  obtain ⟨i0, ei0⟩ := is_v a0
  obtain rfl : w0 = (.int i0) := Option.some.inj ei0
  obtain ⟨i1, ei1⟩ := is_v a1
  obtain rfl : w1 = (.int i1) := Option.some.inj ei1
  obtain ⟨i2, ei2⟩ := is_v a2
  obtain rfl : w2 = (.int i2) := Option.some.inj ei2
  obtain ⟨i3, ei3⟩ := is_v a3
  obtain rfl : w3 = (.int i3) := Option.some.inj ei3
  have n3 := not_v (Cond.before_iff.mp (hsets _ (List.mem_of_getElem? (i := 11) rfl)))
  obtain ⟨cz, ecz⟩ := is_v (Cond.before_iff.mp (hsets _ (List.mem_of_getElem? (i := 10) rfl)))
  have S8 : Sta s s.heap "java/lang/String" "COMPACT_STRINGS" "Z" (.int cz) := Sta.start ecz (Or.inl (hsets _ (List.mem_of_getElem? (i := 9) rfl)))
  have hcz : ¬ (cz = (0 : Int32)) := gotF (Cond.eq_ints ecz (Term.int_eval (0))) n3
  obtain ⟨fm, efm, rfm⟩ := isR_v (Cond.before_iff.mp (hsets _ (List.mem_of_getElem? (i := 17) rfl)))
  have SF : Sta s s.heap "jdk/internal/util/Preconditions" "SIOOBE_FORMATTER" "Ljava/util/function/BiFunction;" fm := Sta.start efm (Or.inl (hsets _ (List.mem_of_getElem? (i := 16) rfl)))
  let G : Own.Gl := (l, s, #[(.int i0), (.int i1), (.int i2), (.int i3)], consts_1, s.heap.size)
  have hw' : ∀ d ∈ tables_1, d.before G.a0 G.Z = true := hw
  have hEL : EW G.Z G.a0 G.EL := elW hw'
  have hcw : Jvm.Lit.compactW.before G.a0 G.Z = true := hsets _ (List.mem_of_getElem? (i := 11) rfl)
  have hCH : CHv G.Z G.EL G.Z.vm G.Z.heap := CHv.start hEL (fun q hq => hcalls.1 q hq) hcw (tw hw' 7 rfl) (tw hw' 6 rfl)
  obtain ⟨dc, edc⟩ := arr_v (Cond.before_iff.mp (hsets _ (List.mem_of_getElem? (i := 6) rfl)))
  have DS := Sta.start edc (Or.inr ⟨hw _ (List.mem_of_getElem? (i := 14) rfl), hsets _ (List.mem_of_getElem? (i := 2) rfl)⟩)
  obtain ⟨kD, DA⟩ := Own.arvStart hfit (dv := .null) (vs := []) edc (Cond.before_iff.mp (hsets _ (List.mem_of_getElem? (i := 6) rfl))) (Cond.before_iff.mp (hsets _ (List.mem_of_getElem? (i := 8) rfl))) (by decide) rfl (by intro i hi; cases hi)
  obtain ⟨m0, q1⟩ := and_e hn
  obtain ⟨m1, m2⟩ := and_e q1
  obtain ⟨rn, ern⟩ := exa_v m0
  have XN := Exa.start ern m0
  have TN := Sta.start ern (Or.inr ⟨hw _ (List.mem_of_getElem? (i := 40) rfl), hw _ (List.mem_of_getElem? (i := 73) rfl)⟩)
  obtain ⟨en0, een⟩ := arr_v m1
  have FN := Fld.start (by have e := een; rwa [fld_at ern] at e)
  obtain ⟨k0, AN⟩ := Own.arvStart hfit (dv := .int 0) (vs := []) een m1 m2 (by decide) rfl (by intro i hi; cases hi)
  obtain ⟨n, o, h1, h2, h3, v, L, rfl, ⟨hv, N, -⟩, -, hq⟩ := con_law (G := G) hw' hEL trivial S8 hcz SF rfm rfl (enW16 hw') DS DA TN XN FN AN i0 i1 i2 i3 (Old.start s) p e ha hc hk s m _ below hf ((Spec.applies_iff_loose hf).mp happ).1 ⟨rfl, State.Warmed39.refl s, rfl, hCH, fun _ q => nomatch q⟩ trivial
  subst hv
  exact ⟨n, _, h1, h2, h3, hpost _ _ _ _ _ _ ⟨Cond.after_iff.mpr rfl, Cond.after_iff.mpr (eq_i res_at (Term.int_eval (1)) rfl), trivial⟩ ⟨hq.1, hq.2.1, hq.2.2.1, (hq.2.2.2.sift fun y hy => Or.inr (N y hy)).mono (by decide) (by decide)⟩⟩
theorem main_1_1 : Claimed_1_1 := comes_1 fun _ _ _ _ _ _ h hF => ⟨h.1, hF⟩
theorem main_1_2 : Claimed_1_2 := comes_1 fun _ _ _ _ _ _ h hF => ⟨h.2.1, hF⟩
end Jvm.Pilot.@@N@@
namespace Jvm.Pilot.@@N@@
open Jvm Jvm.ClassFile Sem Op Lib Jvm.Free Jvm.Stand Jvm.Pilot.@@N@@.Jvm.D
/-! MADE BY PROGRAM (witnessworld.py) out of the Statement's table words and the real class files: 36 classes; the members and pool entries that the words name. The judged class is class 1, her method 2. -/
namespace start1
open Jvm.ClassFile
def u (s : String) : CpInfo := .utf8 (stringToUtf16 s)
/-- a pool by its gaps: so many unusable entries, then the entry; so many at the end -/
def gap : Nat → List CpInfo → List CpInfo
  | 0, r => r
  | n + 1, r => .unusable :: gap n r
def poolList (es : List (Nat × CpInfo)) (last : Nat) : List CpInfo := es.foldr (fun e r => gap e.1 (e.2 :: r)) (gap last [])
def pool (es : List (Nat × CpInfo)) (last : Nat) : Array CpInfo := ⟨poolList es last⟩
def fileOf (pool : Array CpInfo) (this : Nat) (attrs : Array Attribute := #[]) (ms : Array MethodInfo := #[]) (fl : Nat := 33) (sup : Nat := 0) (ifs : Array Nat := #[]) (fds : Array FieldInfo := #[]) : ClassFile where
  minorVersion := 0
  majorVersion := 65
  constantPool := pool
  accessFlags := fl
  thisClass := this
  superClass := sup
  interfaces := ifs
  fields := fds
  methods := ms
  attributes := attrs
def plain (name : String) (sup : Option ClassId) : Class where
  name := name
  kind := .ordinary
  loader := none
  accessFlags := 33
  super := sup
  interfaces := #[]
  cf := none
  fields := #[]
  methods := #[]
  instanceTypes := #[]
  staticTypes := #[]
  resolved := #[]
  callSites := []
  init := .initialized
  statics := none
  mirror := none

def pool0 : Array CpInfo := pool [(5, u "<init>"), (0, u "()V"), (1, .class_ 10), (1, u "java/lang/Object")] 113

def k0c0 : Code := { maxStack := 0, maxLocals := 1, code := object_method_1_code, exceptionTable := #[], attributes := #[] }
def k0m0 : Method := { name := "<init>", desc := "()V", sig := { parameters := [], returnType := none }, accessFlags := 1, code := some k0c0 }
/-- java/lang/Object -/
def k0 : Class := { plain "java/lang/Object" none with
  accessFlags := 33
  interfaces := #[]
  cf := some (fileOf pool0 8 #[] #[{ accessFlags := 1, nameIndex := 5, descriptorIndex := 6, attributes := #[] }] 33 0 #[] #[])
  fields := #[]
  methods := #[k0m0]
  instanceTypes := #[]
  staticTypes := #[]
  resolved := Array.replicate 124 none
  statics := none }

def pool1 : Array CpInfo := pool [(2, .class_ 4), (0, .nameAndType 5 6), (0, u "java/lang/Object"), (0, u "<init>"), (0, u "()V"), (0, .string 8), (0, u ""), (0, .methodref 10 11), (0, .class_ 12), (0, .nameAndType 13 14), (0, u "java/lang/String"), (0, u "valueOf"), (0, u "(C)Ljava/lang/String;"), (0, .methodref 10 16), (0, .nameAndType 5 17), (0, u "([C)V"), (0, .methodref 19 20), (0, .class_ 21), (0, .nameAndType 22 23), (0, u "com/example/vectorfire/vectorfire/model/PackedLinesCopyOfPinLaw"), (0, u "line"), (0, u "(II)Ljava/lang/String;"), (0, .class_ 25), (0, u "java/util/ArrayList"), (0, .methodref 24 3), (0, .methodref 24 28), (0, .nameAndType 29 30), (0, u "add"), (0, u "(Ljava/lang/Object;)Z"), (0, .methodref 32 33), (0, .class_ 34), (0, .nameAndType 35 36), (0, u "com/example/vectorfire/vectorfire/model/PackedLines"), (0, u "copyOf"), (0, u "(Ljava/util/List;)Ljava/util/List;"), (0, .interfaceMethodref 38 39), (0, .class_ 40), (0, .nameAndType 41 42), (0, u "java/util/List"), (0, u "size"), (0, u "()I"), (0, .interfaceMethodref 38 44), (0, .nameAndType 45 46), (0, u "get"), (0, u "(I)Ljava/lang/Object;"), (0, .methodref 10 48), (0, .nameAndType 49 30), (0, u "equals"), (3, u "law"), (0, u "(IIII)Z")] 2

def k1m0 : Method := { name := "<init>", desc := "()V", sig := { parameters := [], returnType := none }, accessFlags := 2, code := none }
def k1c1 : Code := { maxStack := 6, maxLocals := 5, code := method_2_code, exceptionTable := #[], attributes := #[] }
def k1m1 : Method := { name := "line", desc := "(II)Ljava/lang/String;", sig := { parameters := [.int, .int], returnType := some (.object "java/lang/String") }, accessFlags := 10, code := some k1c1 }
def k1c2 : Code := { maxStack := 3, maxLocals := 11, code := code, exceptionTable := #[], attributes := #[] }
def k1m2 : Method := { name := "law", desc := "(IIII)Z", sig := { parameters := [.int, .int, .int, .int], returnType := some .boolean }, accessFlags := 9, code := some k1c2 }
/-- com/example/vectorfire/vectorfire/model/PackedLinesCopyOfPinLaw -/
def k1 : Class := { plain "com/example/vectorfire/vectorfire/model/PackedLinesCopyOfPinLaw" (some 0) with
  accessFlags := 49
  interfaces := #[]
  cf := some (fileOf pool1 19 #[] #[{ accessFlags := 2, nameIndex := 5, descriptorIndex := 6, attributes := #[] }, { accessFlags := 10, nameIndex := 22, descriptorIndex := 23, attributes := #[] }, { accessFlags := 9, nameIndex := 53, descriptorIndex := 54, attributes := #[] }] 49 2 #[] #[])
  fields := #[]
  methods := #[k1m0, k1m1, k1m2]
  instanceTypes := #[]
  staticTypes := #[]
  resolved := Array.replicate 57 none
  statics := none }

def pool2 : Array CpInfo := pool [(1, .class_ 2), (0, u "java/io/Serializable"), (0, .class_ 4), (0, u "java/lang/Object")] 2

/-- java/io/Serializable -/
def k2 : Class := { plain "java/io/Serializable" (some 0) with
  accessFlags := 1537
  interfaces := #[]
  cf := some (fileOf pool2 1 #[] #[] 1537 3 #[] #[])
  fields := #[]
  methods := #[]
  instanceTypes := #[]
  staticTypes := #[]
  resolved := Array.replicate 7 none
  statics := none }

def pool3 : Array CpInfo := pool [(1, .class_ 2), (0, u "java/lang/Comparable"), (0, .class_ 4), (0, u "java/lang/Object")] 7

/-- java/lang/Comparable -/
def k3 : Class := { plain "java/lang/Comparable" (some 0) with
  accessFlags := 1537
  interfaces := #[]
  cf := some (fileOf pool3 1 #[] #[] 1537 3 #[] #[])
  fields := #[]
  methods := #[]
  instanceTypes := #[]
  staticTypes := #[]
  resolved := Array.replicate 12 none
  statics := none }

def pool4 : Array CpInfo := pool [(2, .class_ 4), (1, u "java/lang/CharSequence"), (42, .class_ 48), (0, u "java/lang/CharSequence$1CodePointIterator"), (10, .class_ 60), (0, u "java/lang/CharSequence$1CharIterator"), (5, .class_ 67), (0, u "java/lang/Object")] 63

/-- java/lang/CharSequence -/
def k4 : Class := { plain "java/lang/CharSequence" (some 0) with
  accessFlags := 1537
  interfaces := #[]
  cf := some (fileOf pool4 2 #[.nestMembers #[47, 59]] #[] 1537 66 #[] #[])
  fields := #[]
  methods := #[]
  instanceTypes := #[]
  staticTypes := #[]
  resolved := Array.replicate 131 none
  statics := none }

def pool5 : Array CpInfo := pool [(1, .class_ 2), (0, u "java/lang/constant/Constable"), (0, .class_ 4), (0, u "java/lang/Object")] 6

/-- java/lang/constant/Constable -/
def k5 : Class := { plain "java/lang/constant/Constable" (some 0) with
  accessFlags := 1537
  interfaces := #[]
  cf := some (fileOf pool5 1 #[] #[] 1537 3 #[] #[])
  fields := #[]
  methods := #[]
  instanceTypes := #[]
  staticTypes := #[]
  resolved := Array.replicate 11 none
  statics := none }

def pool6 : Array CpInfo := pool [(1, .class_ 2), (0, u "java/lang/constant/ConstantDesc"), (0, .class_ 4), (0, u "java/lang/Object")] 32

/-- java/lang/constant/ConstantDesc -/
def k6 : Class := { plain "java/lang/constant/ConstantDesc" (some 0) with
  accessFlags := 1537
  interfaces := #[]
  cf := some (fileOf pool6 1 #[] #[] 1537 3 #[] #[])
  fields := #[]
  methods := #[]
  instanceTypes := #[]
  staticTypes := #[]
  resolved := Array.replicate 37 none
  statics := none }

def pool7 : Array CpInfo := pool [(1, .methodref 2 3), (0, .class_ 4), (0, .nameAndType 5 6), (0, u "java/lang/Object"), (0, u "<init>"), (0, u "()V"), (2, .fieldref 10 11), (0, .class_ 12), (0, .nameAndType 13 14), (0, u "java/lang/String"), (0, u "value"), (0, u "[B"), (0, .fieldref 10 16), (0, .nameAndType 17 18), (0, u "coder"), (0, u "B"), (2, u "hash"), (0, u "I"), (2, u "hashIsZero"), (0, u "Z"), (0, .methodref 10 28), (0, .nameAndType 5 29), (0, u "([CIILjava/lang/Void;)V"), (8, .fieldref 10 39), (0, .nameAndType 40 26), (0, u "COMPACT_STRINGS"), (1, .class_ 44), (1, u "java/lang/StringUTF16"), (0, u "compress"), (1, .methodref 42 48), (0, .nameAndType 49 50), (0, u "coderFromArrayLen"), (0, u "([BI)B"), (2, u "toBytes"), (0, .methodref 55 56), (0, .class_ 57), (0, .nameAndType 58 59), (0, u "java/util/Arrays"), (0, u "copyOfRange"), (0, u "([BII)[B"), (47, .class_ 109), (1, u "java/lang/StringLatin1"), (32, u "()Z"), (34, .methodref 42 178), (0, .nameAndType 45 179), (0, u "([CII)[B"), (13, .class_ 195), (1, u "java/lang/System"), (13, .methodref 10 210), (0, .nameAndType 5 211), (0, u "([BB)V"), (0, .methodref 193 213), (0, .nameAndType 214 215), (0, u "arraycopy"), (0, u "(Ljava/lang/Object;ILjava/lang/Object;II)V"), (118, u "()I"), (0, .methodref 10 336), (0, .nameAndType 17 337), (0, u "()B"), (2, u "()[B"), (28, u "(C)Z"), (119, .methodref 10 490), (0, .nameAndType 5 491), (0, u "(Ljava/lang/AbstractStringBuilder;Ljava/lang/Void;)V"), (0, .methodref 10 493), (0, .nameAndType 494 142), (0, u "isLatin1"), (10, .methodref 10 506), (0, .nameAndType 507 334), (0, u "length"), (5, u "checkFromToIndex"), (7, .methodref 10 522), (0, .nameAndType 523 524), (0, u "checkBoundsBeginEnd"), (0, u "(III)V"), (7, u "getBytes"), (8, .methodref 107 542), (0, .nameAndType 543 544), (0, u "equals"), (0, u "([B[B)Z"), (4, .methodref 550 506), (0, .class_ 551), (0, u "java/lang/AbstractStringBuilder"), (0, .methodref 550 553), (0, .nameAndType 554 340), (0, u "getValue"), (18, u "(Ljava/lang/Object;)Z"), (1, .class_ 576), (0, u "java/lang/CharSequence"), (22, u "CASE_INSENSITIVE_ORDER"), (0, u "Ljava/util/Comparator;"), (82, u "substring"), (0, u "(II)Ljava/lang/String;"), (0, .methodref 107 686), (0, .nameAndType 687 688), (0, u "newString"), (0, u "([BII)Ljava/lang/String;"), (93, u "valueOf"), (0, u "(C)Ljava/lang/String;"), (37, u "([BIB)V"), (188, u "([C)V"), (4, .methodref 107 1016), (0, .nameAndType 1017 369), (0, u "canEncode"), (0, .methodref 107 1019), (0, .nameAndType 53 1020), (0, u "(C)[B"), (26, .methodref 550 493), (5, .fieldref 1054 1055), (0, .class_ 1056), (0, .nameAndType 1057 1058), (0, u "jdk/internal/util/Preconditions"), (0, u "SIOOBE_FORMATTER"), (0, u "Ljava/util/function/BiFunction;"), (3, .methodref 1054 1063), (0, .nameAndType 513 1064), (0, u "(IIILjava/util/function/BiFunction;)I"), (36, u "serialPersistentFields"), (0, u "[Ljava/io/ObjectStreamField;"), (0, .class_ 1104), (0, u "java/lang/String$CaseInsensitiveComparator"), (1, .class_ 1107), (0, u "java/io/Serializable"), (0, .class_ 1109), (0, u "java/lang/Comparable"), (0, .class_ 1111), (0, u "java/lang/constant/Constable"), (0, .class_ 1113), (0, u "java/lang/constant/ConstantDesc"), (2, u "serialVersionUID"), (0, u "J"), (3, u "REPL"), (0, u "C"), (2, u "LATIN1"), (1, u "UTF16"), (105, u "(Ljava/lang/StringBuilder;)V")] 217

def k7m0 : Method := { name := "<init>", desc := "()V", sig := { parameters := [], returnType := none }, accessFlags := 1, code := none }
def k7c1 : Code := { maxStack := 5, maxLocals := 2, code := jdk_42_method_3_code, exceptionTable := #[], attributes := #[] }
def k7m1 : Method := { name := "<init>", desc := "([C)V", sig := { parameters := [(.array .char)], returnType := none }, accessFlags := 1, code := some k7c1 }
def k7c2 : Code := { maxStack := 3, maxLocals := 2, code := jdk_42_method_53_code, exceptionTable := #[], attributes := #[] }
def k7m2 : Method := { name := "<init>", desc := "(Ljava/lang/StringBuilder;)V", sig := { parameters := [(.object "java/lang/StringBuilder")], returnType := none }, accessFlags := 1, code := some k7c2 }
def k7c3 : Code := { maxStack := 2, maxLocals := 1, code := jdk_42_method_54_code, exceptionTable := #[], attributes := #[] }
def k7m3 : Method := { name := "length", desc := "()I", sig := { parameters := [], returnType := some .int }, accessFlags := 1, code := some k7c3 }
def k7c4 : Code := { maxStack := 2, maxLocals := 3, code := jdk_42_method_66_code, exceptionTable := #[], attributes := #[] }
def k7m4 : Method := { name := "equals", desc := "(Ljava/lang/Object;)Z", sig := { parameters := [(.object "java/lang/Object")], returnType := some .boolean }, accessFlags := 1, code := some k7c4 }
def k7c5 : Code := { maxStack := 3, maxLocals := 5, code := jdk_42_method_92_code, exceptionTable := #[], attributes := #[] }
def k7m5 : Method := { name := "substring", desc := "(II)Ljava/lang/String;", sig := { parameters := [.int, .int], returnType := some (.object "java/lang/String") }, accessFlags := 1, code := some k7c5 }
def k7c6 : Code := { maxStack := 4, maxLocals := 1, code := jdk_42_method_139_code, exceptionTable := #[], attributes := #[] }
def k7m6 : Method := { name := "valueOf", desc := "(C)Ljava/lang/String;", sig := { parameters := [.char], returnType := some (.object "java/lang/String") }, accessFlags := 9, code := some k7c6 }
def k7c7 : Code := { maxStack := 5, maxLocals := 4, code := jdk_42_method_147_code, exceptionTable := #[], attributes := #[] }
def k7m7 : Method := { name := "getBytes", desc := "([BIB)V", sig := { parameters := [(.array .byte), .int, .byte], returnType := none }, accessFlags := 0, code := some k7c7 }
def k7c8 : Code := { maxStack := 4, maxLocals := 6, code := jdk_42_method_149_code, exceptionTable := #[], attributes := #[] }
def k7m8 : Method := { name := "<init>", desc := "([CIILjava/lang/Void;)V", sig := { parameters := [(.array .char), .int, .int, (.object "java/lang/Void")], returnType := none }, accessFlags := 2, code := some k7c8 }
def k7c9 : Code := { maxStack := 5, maxLocals := 5, code := jdk_42_method_150_code, exceptionTable := #[], attributes := #[] }
def k7m9 : Method := { name := "<init>", desc := "(Ljava/lang/AbstractStringBuilder;Ljava/lang/Void;)V", sig := { parameters := [(.object "java/lang/AbstractStringBuilder"), (.object "java/lang/Void")], returnType := none }, accessFlags := 0, code := some k7c9 }
def k7c10 : Code := { maxStack := 2, maxLocals := 3, code := jdk_42_method_151_code, exceptionTable := #[], attributes := #[] }
def k7m10 : Method := { name := "<init>", desc := "([BB)V", sig := { parameters := [(.array .byte), .byte], returnType := none }, accessFlags := 0, code := some k7c10 }
def k7c11 : Code := { maxStack := 1, maxLocals := 1, code := jdk_42_method_152_code, exceptionTable := #[], attributes := #[] }
def k7m11 : Method := { name := "coder", desc := "()B", sig := { parameters := [], returnType := some .byte }, accessFlags := 0, code := some k7c11 }
def k7c12 : Code := { maxStack := 1, maxLocals := 1, code := jdk_42_method_154_code, exceptionTable := #[], attributes := #[] }
def k7m12 : Method := { name := "isLatin1", desc := "()Z", sig := { parameters := [], returnType := some .boolean }, accessFlags := 0, code := some k7c12 }
def k7c13 : Code := { maxStack := 4, maxLocals := 3, code := jdk_42_method_158_code, exceptionTable := #[], attributes := #[] }
def k7m13 : Method := { name := "checkBoundsBeginEnd", desc := "(III)V", sig := { parameters := [.int, .int, .int], returnType := none }, accessFlags := 8, code := some k7c13 }
/-- java/lang/String -/
def k7 : Class := { plain "java/lang/String" (some 0) with
  accessFlags := 49
  interfaces := #[2, 3, 4, 5, 6]
  cf := some (fileOf pool7 10 #[.nestMembers #[1103]] #[{ accessFlags := 1, nameIndex := 5, descriptorIndex := 6, attributes := #[] }, { accessFlags := 1, nameIndex := 5, descriptorIndex := 1010, attributes := #[] }, { accessFlags := 1, nameIndex := 5, descriptorIndex := 1233, attributes := #[] }, { accessFlags := 1, nameIndex := 507, descriptorIndex := 334, attributes := #[] }, { accessFlags := 1, nameIndex := 543, descriptorIndex := 573, attributes := #[] }, { accessFlags := 1, nameIndex := 683, descriptorIndex := 684, attributes := #[] }, { accessFlags := 9, nameIndex := 782, descriptorIndex := 783, attributes := #[] }, { accessFlags := 0, nameIndex := 532, descriptorIndex := 821, attributes := #[] }, { accessFlags := 2, nameIndex := 5, descriptorIndex := 29, attributes := #[] }, { accessFlags := 0, nameIndex := 5, descriptorIndex := 491, attributes := #[] }, { accessFlags := 0, nameIndex := 5, descriptorIndex := 211, attributes := #[] }, { accessFlags := 0, nameIndex := 17, descriptorIndex := 337, attributes := #[] }, { accessFlags := 0, nameIndex := 494, descriptorIndex := 142, attributes := #[] }, { accessFlags := 8, nameIndex := 523, descriptorIndex := 524, attributes := #[] }] 49 2 #[1106, 1108, 575, 1110, 1112] #[{ accessFlags := 18, nameIndex := 13, descriptorIndex := 14, attributes := #[] }, { accessFlags := 18, nameIndex := 17, descriptorIndex := 18, attributes := #[] }, { accessFlags := 2, nameIndex := 21, descriptorIndex := 22, attributes := #[] }, { accessFlags := 2, nameIndex := 25, descriptorIndex := 26, attributes := #[] }, { accessFlags := 26, nameIndex := 1116, descriptorIndex := 1117, attributes := #[] }, { accessFlags := 24, nameIndex := 40, descriptorIndex := 26, attributes := #[] }, { accessFlags := 26, nameIndex := 1101, descriptorIndex := 1102, attributes := #[] }, { accessFlags := 26, nameIndex := 1121, descriptorIndex := 1122, attributes := #[] }, { accessFlags := 25, nameIndex := 599, descriptorIndex := 600, attributes := #[] }, { accessFlags := 24, nameIndex := 1125, descriptorIndex := 18, attributes := #[] }, { accessFlags := 24, nameIndex := 1127, descriptorIndex := 18, attributes := #[] }])
  fields := #[{ name := "value", type := (.array .byte), accessFlags := 18, slot := 0, constantValue := 0 }, { name := "coder", type := .byte, accessFlags := 18, slot := 1, constantValue := 0 }, { name := "hash", type := .int, accessFlags := 2, slot := 2, constantValue := 0 }, { name := "hashIsZero", type := .boolean, accessFlags := 2, slot := 3, constantValue := 0 }, { name := "serialVersionUID", type := .long, accessFlags := 26, slot := 0, constantValue := 0 }, { name := "COMPACT_STRINGS", type := .boolean, accessFlags := 24, slot := 1, constantValue := 0 }, { name := "serialPersistentFields", type := (.array (.object "java/io/ObjectStreamField")), accessFlags := 26, slot := 2, constantValue := 0 }, { name := "REPL", type := .char, accessFlags := 26, slot := 3, constantValue := 0 }, { name := "CASE_INSENSITIVE_ORDER", type := (.object "java/util/Comparator"), accessFlags := 25, slot := 4, constantValue := 0 }, { name := "LATIN1", type := .byte, accessFlags := 24, slot := 5, constantValue := 0 }, { name := "UTF16", type := .byte, accessFlags := 24, slot := 6, constantValue := 0 }]
  methods := #[k7m0, k7m1, k7m2, k7m3, k7m4, k7m5, k7m6, k7m7, k7m8, k7m9, k7m10, k7m11, k7m12, k7m13]
  instanceTypes := #[(.array .byte), .byte, .int, .boolean]
  staticTypes := #[.long, .boolean, (.array (.object "java/io/ObjectStreamField")), .char, (.object "java/util/Comparator"), .byte, .byte]
  resolved := Array.replicate 1451 none
  statics := some 0 }

def pool8 : Array CpInfo := pool [(8, .class_ 10), (1, u "java/lang/Iterable"), (24, .class_ 36), (0, u "java/lang/Object")] 25

/-- java/lang/Iterable -/
def k8 : Class := { plain "java/lang/Iterable" (some 0) with
  accessFlags := 1537
  interfaces := #[]
  cf := some (fileOf pool8 8 #[] #[] 1537 35 #[] #[])
  fields := #[]
  methods := #[]
  instanceTypes := #[]
  staticTypes := #[]
  resolved := Array.replicate 62 none
  statics := none }

def pool9 : Array CpInfo := pool [(10, .class_ 12), (1, u "java/util/Collection"), (47, .class_ 61), (0, u "java/lang/Object"), (0, .class_ 63), (0, u "java/lang/Iterable")] 51

/-- java/util/Collection -/
def k9 : Class := { plain "java/util/Collection" (some 0) with
  accessFlags := 1537
  interfaces := #[8]
  cf := some (fileOf pool9 10 #[] #[] 1537 60 #[62] #[])
  fields := #[]
  methods := #[]
  instanceTypes := #[]
  staticTypes := #[]
  resolved := Array.replicate 115 none
  statics := none }

def pool10 : Array CpInfo := pool [(1, .methodref 2 3), (0, .class_ 4), (0, .nameAndType 5 6), (0, u "java/lang/Object"), (0, u "<init>"), (0, u "()V"), (1, .class_ 10), (1, u "java/util/AbstractCollection"), (66, .class_ 78), (0, u "java/util/Collection")] 81

def k10c0 : Code := { maxStack := 1, maxLocals := 1, code := jdk_22_method_1_code, exceptionTable := #[], attributes := #[] }
def k10m0 : Method := { name := "<init>", desc := "()V", sig := { parameters := [], returnType := none }, accessFlags := 4, code := some k10c0 }
/-- java/util/AbstractCollection -/
def k10 : Class := { plain "java/util/AbstractCollection" (some 0) with
  accessFlags := 1057
  interfaces := #[9]
  cf := some (fileOf pool10 8 #[] #[{ accessFlags := 4, nameIndex := 5, descriptorIndex := 6, attributes := #[] }] 1057 2 #[77] #[])
  fields := #[]
  methods := #[k10m0]
  instanceTypes := #[]
  staticTypes := #[]
  resolved := Array.replicate 160 none
  statics := none }

def pool11 : Array CpInfo := pool [(8, .class_ 10), (1, u "java/util/SequencedCollection"), (15, .class_ 27), (0, u "java/lang/Object"), (0, .class_ 29), (0, u "java/util/Collection")] 27

/-- java/util/SequencedCollection -/
def k11 : Class := { plain "java/util/SequencedCollection" (some 0) with
  accessFlags := 1537
  interfaces := #[9]
  cf := some (fileOf pool11 8 #[] #[] 1537 26 #[28] #[])
  fields := #[]
  methods := #[]
  instanceTypes := #[]
  staticTypes := #[]
  resolved := Array.replicate 57 none
  statics := none }

def pool12 : Array CpInfo := pool [(8, .class_ 10), (1, u "java/util/List"), (64, u "get"), (0, u "(I)Ljava/lang/Object;"), (2, u "size"), (0, u "()I"), (22, .class_ 104), (0, u "java/lang/Object"), (15, .class_ 121), (0, u "java/util/SequencedCollection")] 129

def k12m0 : Method := { name := "size", desc := "()I", sig := { parameters := [], returnType := some .int }, accessFlags := 1025, code := none }
def k12m1 : Method := { name := "get", desc := "(I)Ljava/lang/Object;", sig := { parameters := [.int], returnType := some (.object "java/lang/Object") }, accessFlags := 1025, code := none }
/-- java/util/List -/
def k12 : Class := { plain "java/util/List" (some 0) with
  accessFlags := 1537
  interfaces := #[11]
  cf := some (fileOf pool12 8 #[] #[{ accessFlags := 1025, nameIndex := 79, descriptorIndex := 80, attributes := #[] }, { accessFlags := 1025, nameIndex := 75, descriptorIndex := 76, attributes := #[] }] 1537 103 #[120] #[])
  fields := #[]
  methods := #[k12m0, k12m1]
  instanceTypes := #[]
  staticTypes := #[]
  resolved := Array.replicate 251 none
  statics := none }

def pool13 : Array CpInfo := pool [(1, .methodref 2 3), (0, .class_ 4), (0, .nameAndType 5 6), (0, u "java/util/AbstractCollection"), (0, u "<init>"), (0, u "()V"), (0, .fieldref 8 9), (0, .class_ 10), (0, .nameAndType 11 12), (0, u "java/util/AbstractList"), (0, u "modCount"), (0, u "I"), (64, .class_ 78), (0, u "java/util/AbstractList$Itr"), (3, .class_ 83), (0, u "java/util/AbstractList$ListItr"), (9, .class_ 94), (0, u "java/util/AbstractList$RandomAccessSubList"), (3, .class_ 99), (0, u "java/util/AbstractList$SubList"), (33, .class_ 134), (0, u "java/util/List"), (73, .class_ 209), (0, u "java/util/AbstractList$SubList$1"), (0, .class_ 211), (0, u "java/util/AbstractList$RandomAccessSpliterator")] 6

def k13c0 : Code := { maxStack := 2, maxLocals := 1, code := jdk_39_method_1_code, exceptionTable := #[], attributes := #[] }
def k13m0 : Method := { name := "<init>", desc := "()V", sig := { parameters := [], returnType := none }, accessFlags := 4, code := some k13c0 }
/-- java/util/AbstractList -/
def k13 : Class := { plain "java/util/AbstractList" (some 10) with
  accessFlags := 1057
  interfaces := #[12]
  cf := some (fileOf pool13 8 #[.nestMembers #[93, 98, 208, 210, 82, 77]] #[{ accessFlags := 4, nameIndex := 5, descriptorIndex := 6, attributes := #[] }] 1057 2 #[133] #[{ accessFlags := 132, nameIndex := 11, descriptorIndex := 12, attributes := #[] }])
  fields := #[{ name := "modCount", type := .int, accessFlags := 132, slot := 0, constantValue := 0 }]
  methods := #[k13m0]
  instanceTypes := #[.int]
  staticTypes := #[]
  resolved := Array.replicate 218 none
  statics := none }

def pool14 : Array CpInfo := pool [(1, .class_ 2), (0, u "java/util/RandomAccess"), (0, .class_ 4), (0, u "java/lang/Object")] 2

/-- java/util/RandomAccess -/
def k14 : Class := { plain "java/util/RandomAccess" (some 0) with
  accessFlags := 1537
  interfaces := #[]
  cf := some (fileOf pool14 1 #[] #[] 1537 3 #[] #[])
  fields := #[]
  methods := #[]
  instanceTypes := #[]
  staticTypes := #[]
  resolved := Array.replicate 7 none
  statics := none }

def pool15 : Array CpInfo := pool [(1, .class_ 2), (0, u "java/lang/Cloneable"), (0, .class_ 4), (0, u "java/lang/Object")] 2

/-- java/lang/Cloneable -/
def k15 : Class := { plain "java/lang/Cloneable" (some 0) with
  accessFlags := 1537
  interfaces := #[]
  cf := some (fileOf pool15 1 #[] #[] 1537 3 #[] #[])
  fields := #[]
  methods := #[]
  instanceTypes := #[]
  staticTypes := #[]
  resolved := Array.replicate 7 none
  statics := none }

def pool16 : Array CpInfo := pool [(1, .methodref 2 3), (0, .class_ 4), (0, .nameAndType 5 6), (0, u "java/util/AbstractList"), (0, u "<init>"), (0, u "()V"), (0, .class_ 8), (0, u "java/lang/Object"), (0, .fieldref 10 11), (0, .class_ 12), (0, .nameAndType 13 14), (0, u "java/util/ArrayList"), (0, u "elementData"), (0, u "[Ljava/lang/Object;"), (2, u "EMPTY_ELEMENTDATA"), (21, .fieldref 10 40), (0, .nameAndType 41 14), (0, u "DEFAULTCAPACITY_EMPTY_ELEMENTDATA"), (5, u "()[Ljava/lang/Object;"), (0, .fieldref 10 49), (0, .nameAndType 50 51), (0, u "size"), (0, u "I"), (11, .fieldref 10 64), (0, .nameAndType 65 51), (0, u "modCount"), (3, .methodref 10 70), (0, .nameAndType 71 72), (0, u "grow"), (0, u "(I)[Ljava/lang/Object;"), (6, .methodref 80 81), (0, .class_ 82), (0, .nameAndType 83 84), (0, u "java/lang/Math"), (0, u "max"), (0, u "(II)I"), (11, u "(Ljava/lang/Object;)Z"), (21, .methodref 119 120), (0, .class_ 121), (0, .nameAndType 122 84), (0, u "java/util/Objects"), (0, u "checkIndex"), (0, .methodref 10 124), (0, .nameAndType 13 125), (0, u "(I)Ljava/lang/Object;"), (3, .methodref 10 130), (0, .nameAndType 71 47), (0, .methodref 10 132), (0, .nameAndType 133 134), (0, u "add"), (0, u "(Ljava/lang/Object;[Ljava/lang/Object;I)V"), (13, .class_ 149), (0, u "java/util/List"), (36, u "()I"), (75, .class_ 263), (0, u "java/util/ArrayList$ListItr"), (3, .class_ 268), (0, u "java/util/ArrayList$Itr"), (7, .class_ 277), (0, u "java/util/ArrayList$SubList"), (12, .class_ 291), (0, u "java/util/ArrayList$ArrayListSpliterator"), (37, .class_ 330), (0, u "java/util/RandomAccess"), (0, .class_ 332), (0, u "java/lang/Cloneable"), (0, .class_ 334), (0, u "java/io/Serializable"), (0, u "serialVersionUID"), (0, u "J"), (3, u "DEFAULT_CAPACITY"), (40, u "get"), (118, .class_ 501), (0, u "java/util/ArrayList$SubList$2"), (0, .class_ 503), (0, u "java/util/ArrayList$SubList$1")] 5

def k16c0 : Code := { maxStack := 2, maxLocals := 1, code := jdk_38_method_2_code, exceptionTable := #[], attributes := #[] }
def k16m0 : Method := { name := "<init>", desc := "()V", sig := { parameters := [], returnType := none }, accessFlags := 1, code := some k16c0 }
def k16c1 : Code := { maxStack := 4, maxLocals := 4, code := jdk_38_method_6_code, exceptionTable := #[], attributes := #[] }
def k16m1 : Method := { name := "grow", desc := "(I)[Ljava/lang/Object;", sig := { parameters := [.int], returnType := some (.array (.object "java/lang/Object")) }, accessFlags := 2, code := some k16c1 }
def k16c2 : Code := { maxStack := 3, maxLocals := 1, code := jdk_38_method_7_code, exceptionTable := #[], attributes := #[] }
def k16m2 : Method := { name := "grow", desc := "()[Ljava/lang/Object;", sig := { parameters := [], returnType := some (.array (.object "java/lang/Object")) }, accessFlags := 2, code := some k16c2 }
def k16c3 : Code := { maxStack := 1, maxLocals := 1, code := jdk_38_method_8_code, exceptionTable := #[], attributes := #[] }
def k16m3 : Method := { name := "size", desc := "()I", sig := { parameters := [], returnType := some .int }, accessFlags := 1, code := some k16c3 }
def k16c4 : Code := { maxStack := 2, maxLocals := 2, code := jdk_38_method_18_code, exceptionTable := #[], attributes := #[] }
def k16m4 : Method := { name := "elementData", desc := "(I)Ljava/lang/Object;", sig := { parameters := [.int], returnType := some (.object "java/lang/Object") }, accessFlags := 0, code := some k16c4 }
def k16c5 : Code := { maxStack := 2, maxLocals := 2, code := jdk_38_method_20_code, exceptionTable := #[], attributes := #[] }
def k16m5 : Method := { name := "get", desc := "(I)Ljava/lang/Object;", sig := { parameters := [.int], returnType := some (.object "java/lang/Object") }, accessFlags := 1, code := some k16c5 }
def k16c6 : Code := { maxStack := 3, maxLocals := 4, code := jdk_38_method_24_code, exceptionTable := #[], attributes := #[] }
def k16m6 : Method := { name := "add", desc := "(Ljava/lang/Object;[Ljava/lang/Object;I)V", sig := { parameters := [(.object "java/lang/Object"), (.array (.object "java/lang/Object")), .int], returnType := none }, accessFlags := 2, code := some k16c6 }
def k16c7 : Code := { maxStack := 4, maxLocals := 2, code := jdk_38_method_25_code, exceptionTable := #[], attributes := #[] }
def k16m7 : Method := { name := "add", desc := "(Ljava/lang/Object;)Z", sig := { parameters := [(.object "java/lang/Object")], returnType := some .boolean }, accessFlags := 1, code := some k16c7 }
/-- java/util/ArrayList -/
def k16 : Class := { plain "java/util/ArrayList" (some 13) with
  accessFlags := 33
  interfaces := #[12, 14, 15, 2]
  cf := some (fileOf pool16 10 #[.nestMembers #[290, 276, 500, 502, 262, 267]] #[{ accessFlags := 1, nameIndex := 5, descriptorIndex := 6, attributes := #[] }, { accessFlags := 2, nameIndex := 71, descriptorIndex := 72, attributes := #[] }, { accessFlags := 2, nameIndex := 71, descriptorIndex := 47, attributes := #[] }, { accessFlags := 1, nameIndex := 50, descriptorIndex := 186, attributes := #[] }, { accessFlags := 0, nameIndex := 13, descriptorIndex := 125, attributes := #[] }, { accessFlags := 1, nameIndex := 381, descriptorIndex := 125, attributes := #[] }, { accessFlags := 2, nameIndex := 133, descriptorIndex := 134, attributes := #[] }, { accessFlags := 1, nameIndex := 133, descriptorIndex := 96, attributes := #[] }] 33 2 #[148, 329, 331, 333] #[{ accessFlags := 26, nameIndex := 335, descriptorIndex := 336, attributes := #[] }, { accessFlags := 26, nameIndex := 340, descriptorIndex := 51, attributes := #[] }, { accessFlags := 26, nameIndex := 17, descriptorIndex := 14, attributes := #[] }, { accessFlags := 26, nameIndex := 41, descriptorIndex := 14, attributes := #[] }, { accessFlags := 128, nameIndex := 13, descriptorIndex := 14, attributes := #[] }, { accessFlags := 2, nameIndex := 50, descriptorIndex := 51, attributes := #[] }])
  fields := #[{ name := "serialVersionUID", type := .long, accessFlags := 26, slot := 0, constantValue := 0 }, { name := "DEFAULT_CAPACITY", type := .int, accessFlags := 26, slot := 1, constantValue := 0 }, { name := "EMPTY_ELEMENTDATA", type := (.array (.object "java/lang/Object")), accessFlags := 26, slot := 2, constantValue := 0 }, { name := "DEFAULTCAPACITY_EMPTY_ELEMENTDATA", type := (.array (.object "java/lang/Object")), accessFlags := 26, slot := 3, constantValue := 0 }, { name := "elementData", type := (.array (.object "java/lang/Object")), accessFlags := 128, slot := 1, constantValue := 0 }, { name := "size", type := .int, accessFlags := 2, slot := 2, constantValue := 0 }]
  methods := #[k16m0, k16m1, k16m2, k16m3, k16m4, k16m5, k16m6, k16m7]
  instanceTypes := #[.int, (.array (.object "java/lang/Object")), .int]
  staticTypes := #[.long, .int, (.array (.object "java/lang/Object")), (.array (.object "java/lang/Object"))]
  resolved := Array.replicate 509 none
  statics := some 1 }

def pool17 : Array CpInfo := pool [(1, .methodref 2 3), (0, .class_ 4), (0, .nameAndType 5 6), (0, u "java/util/AbstractList"), (0, u "<init>"), (0, u "()V"), (0, .fieldref 8 9), (0, .class_ 10), (0, .nameAndType 11 12), (0, u "com/example/vectorfire/vectorfire/model/PackedLines"), (0, u "joined"), (0, u "Ljava/lang/String;"), (0, .fieldref 8 14), (0, .nameAndType 15 16), (0, u "ends"), (0, u "[I"), (0, .class_ 18), (0, u "java/lang/StringBuilder"), (0, .methodref 17 3), (0, .interfaceMethodref 21 22), (0, .class_ 23), (0, .nameAndType 24 25), (0, u "java/util/List"), (0, u "size"), (0, u "()I"), (0, .interfaceMethodref 21 27), (0, .nameAndType 28 29), (0, u "get"), (0, u "(I)Ljava/lang/Object;"), (0, .class_ 31), (0, u "java/lang/String"), (0, .methodref 33 34), (0, .class_ 35), (0, .nameAndType 36 37), (0, u "java/util/Objects"), (0, u "requireNonNull"), (0, u "(Ljava/lang/Object;)Ljava/lang/Object;"), (0, .methodref 17 39), (0, .nameAndType 40 41), (0, u "append"), (0, u "(Ljava/lang/String;)Ljava/lang/StringBuilder;"), (0, .methodref 17 43), (0, .nameAndType 44 25), (0, u "length"), (0, .fieldref 8 46), (0, .nameAndType 47 48), (0, u "NONE"), (0, u "Lcom/example/vectorfire/vectorfire/model/PackedLines;"), (0, .methodref 17 50), (0, .nameAndType 51 52), (0, u "toString"), (0, u "()Ljava/lang/String;"), (0, .methodref 8 54), (0, .nameAndType 5 55), (0, u "(Ljava/lang/String;[I)V"), (0, .methodref 33 57), (0, .nameAndType 58 59), (0, u "checkIndex"), (0, u "(II)I"), (0, .methodref 30 61), (0, .nameAndType 62 63), (0, u "substring"), (0, u "(II)Ljava/lang/String;"), (33, .methodref 8 98), (0, .nameAndType 28 99), (0, u "(I)Ljava/lang/String;"), (2, .class_ 103), (0, u "java/util/RandomAccess"), (0, u "OBJECTS"), (0, u "I"), (2, u "ARRAY_HEADER"), (1, u "REGION"), (0, u "J"), (2, u "copyOf"), (0, u "(Ljava/util/List;)Ljava/util/List;")] 31

def k17c0 : Code := { maxStack := 2, maxLocals := 3, code := prog_8_method_1_code, exceptionTable := #[], attributes := #[] }
def k17m0 : Method := { name := "<init>", desc := "(Ljava/lang/String;[I)V", sig := { parameters := [(.object "java/lang/String"), (.array .int)], returnType := none }, accessFlags := 2, code := some k17c0 }
def k17c1 : Code := { maxStack := 4, maxLocals := 4, code := prog_8_method_2_code, exceptionTable := #[], attributes := #[] }
def k17m1 : Method := { name := "copyOf", desc := "(Ljava/util/List;)Ljava/util/List;", sig := { parameters := [(.object "java/util/List")], returnType := some (.object "java/util/List") }, accessFlags := 8, code := some k17c1 }
def k17c2 : Code := { maxStack := 4, maxLocals := 2, code := prog_8_method_3_code, exceptionTable := #[], attributes := #[] }
def k17m2 : Method := { name := "get", desc := "(I)Ljava/lang/String;", sig := { parameters := [.int], returnType := some (.object "java/lang/String") }, accessFlags := 1, code := some k17c2 }
def k17c3 : Code := { maxStack := 1, maxLocals := 1, code := prog_8_method_4_code, exceptionTable := #[], attributes := #[] }
def k17m3 : Method := { name := "size", desc := "()I", sig := { parameters := [], returnType := some .int }, accessFlags := 1, code := some k17c3 }
def k17c4 : Code := { maxStack := 2, maxLocals := 2, code := prog_8_method_7_code, exceptionTable := #[], attributes := #[] }
def k17m4 : Method := { name := "get", desc := "(I)Ljava/lang/Object;", sig := { parameters := [.int], returnType := some (.object "java/lang/Object") }, accessFlags := 4161, code := some k17c4 }
/-- com/example/vectorfire/vectorfire/model/PackedLines -/
def k17 : Class := { plain "com/example/vectorfire/vectorfire/model/PackedLines" (some 13) with
  accessFlags := 48
  interfaces := #[14]
  cf := some (fileOf pool17 8 #[] #[{ accessFlags := 2, nameIndex := 5, descriptorIndex := 55, attributes := #[] }, { accessFlags := 8, nameIndex := 114, descriptorIndex := 115, attributes := #[] }, { accessFlags := 1, nameIndex := 28, descriptorIndex := 99, attributes := #[] }, { accessFlags := 1, nameIndex := 24, descriptorIndex := 25, attributes := #[] }, { accessFlags := 4161, nameIndex := 28, descriptorIndex := 29, attributes := #[] }] 48 2 #[102] #[{ accessFlags := 26, nameIndex := 104, descriptorIndex := 105, attributes := #[] }, { accessFlags := 26, nameIndex := 108, descriptorIndex := 105, attributes := #[] }, { accessFlags := 26, nameIndex := 110, descriptorIndex := 111, attributes := #[] }, { accessFlags := 26, nameIndex := 47, descriptorIndex := 48, attributes := #[] }, { accessFlags := 18, nameIndex := 11, descriptorIndex := 12, attributes := #[] }, { accessFlags := 18, nameIndex := 15, descriptorIndex := 16, attributes := #[] }])
  fields := #[{ name := "OBJECTS", type := .int, accessFlags := 26, slot := 0, constantValue := 0 }, { name := "ARRAY_HEADER", type := .int, accessFlags := 26, slot := 1, constantValue := 0 }, { name := "REGION", type := .long, accessFlags := 26, slot := 2, constantValue := 0 }, { name := "NONE", type := (.object "com/example/vectorfire/vectorfire/model/PackedLines"), accessFlags := 26, slot := 3, constantValue := 0 }, { name := "joined", type := (.object "java/lang/String"), accessFlags := 18, slot := 1, constantValue := 0 }, { name := "ends", type := (.array .int), accessFlags := 18, slot := 2, constantValue := 0 }]
  methods := #[k17m0, k17m1, k17m2, k17m3, k17m4]
  instanceTypes := #[.int, (.object "java/lang/String"), (.array .int)]
  staticTypes := #[.int, .int, .long, (.object "com/example/vectorfire/vectorfire/model/PackedLines")]
  resolved := Array.replicate 147 none
  statics := some 2 }

def pool18 : Array CpInfo := pool [(1, .class_ 2), (0, u "java/lang/Appendable"), (0, .class_ 4), (0, u "java/lang/Object")] 9

/-- java/lang/Appendable -/
def k18 : Class := { plain "java/lang/Appendable" (some 0) with
  accessFlags := 1537
  interfaces := #[]
  cf := some (fileOf pool18 1 #[] #[] 1537 3 #[] #[])
  fields := #[]
  methods := #[]
  instanceTypes := #[]
  staticTypes := #[]
  resolved := Array.replicate 14 none
  statics := none }

def pool19 : Array CpInfo := pool [(1, .class_ 2), (0, u "java/lang/String"), (0, .methodref 4 5), (0, .class_ 6), (0, .nameAndType 7 8), (0, u "java/lang/Object"), (0, u "<init>"), (0, u "()V"), (1, .class_ 12), (1, u "java/lang/AbstractStringBuilder"), (0, u "EMPTYVALUE"), (0, u "[B"), (0, .fieldref 10 16), (0, .nameAndType 17 14), (0, u "value"), (0, .fieldref 1 19), (0, .nameAndType 20 21), (0, u "COMPACT_STRINGS"), (0, u "Z"), (0, .fieldref 10 23), (0, .nameAndType 24 25), (0, u "coder"), (0, u "B"), (6, .methodref 1 33), (0, .nameAndType 34 35), (0, u "length"), (0, u "()I"), (4, .methodref 1 41), (0, .nameAndType 24 42), (0, u "()B"), (2, u "append"), (0, u "(Ljava/lang/String;)Ljava/lang/AbstractStringBuilder;"), (1, .class_ 49), (0, u "java/lang/CharSequence"), (19, u "(Ljava/lang/String;)V"), (5, u "maybeLatin1"), (3, .fieldref 10 80), (0, .nameAndType 81 82), (0, u "count"), (0, u "I"), (2, u "isLatin1"), (0, u "()Z"), (13, .methodref 10 101), (0, .nameAndType 102 103), (0, u "ensureCapacityInternal"), (0, u "(I)V"), (104, .methodref 10 209), (0, .nameAndType 210 211), (0, u "putStringAt"), (0, u "(ILjava/lang/String;)V"), (5, u "inflateIfNeededFor"), (2, .nameAndType 221 222), (0, u "getBytes"), (0, u "([BIB)V"), (174, .methodref 10 398), (0, .nameAndType 217 69), (0, .methodref 1 220), (3, u "()[B"), (40, .class_ 445), (0, u "java/lang/Appendable"), (106, u "getValue")] 56

def k19m0 : Method := { name := "<init>", desc := "()V", sig := { parameters := [], returnType := none }, accessFlags := 0, code := none }
def k19c1 : Code := { maxStack := 2, maxLocals := 2, code := jdk_68_method_2_code, exceptionTable := #[], attributes := #[] }
def k19m1 : Method := { name := "<init>", desc := "(I)V", sig := { parameters := [.int], returnType := none }, accessFlags := 0, code := some k19c1 }
def k19c2 : Code := { maxStack := 1, maxLocals := 1, code := jdk_68_method_6_code, exceptionTable := #[], attributes := #[] }
def k19m2 : Method := { name := "length", desc := "()I", sig := { parameters := [], returnType := some .int }, accessFlags := 1, code := some k19c2 }
def k19c3 : Code := { maxStack := 4, maxLocals := 3, code := jdk_68_method_9_code, exceptionTable := #[], attributes := #[] }
def k19m3 : Method := { name := "ensureCapacityInternal", desc := "(I)V", sig := { parameters := [.int], returnType := none }, accessFlags := 2, code := some k19c3 }
def k19c4 : Code := { maxStack := 3, maxLocals := 3, code := jdk_68_method_22_code, exceptionTable := #[], attributes := #[] }
def k19m4 : Method := { name := "append", desc := "(Ljava/lang/String;)Ljava/lang/AbstractStringBuilder;", sig := { parameters := [(.object "java/lang/String")], returnType := some (.object "java/lang/AbstractStringBuilder") }, accessFlags := 1, code := some k19c4 }
def k19c5 : Code := { maxStack := 1, maxLocals := 1, code := jdk_68_method_64_code, exceptionTable := #[], attributes := #[] }
def k19m5 : Method := { name := "getValue", desc := "()[B", sig := { parameters := [], returnType := some (.array .byte) }, accessFlags := 16, code := some k19c5 }
def k19c6 : Code := { maxStack := 1, maxLocals := 1, code := jdk_68_method_68_code, exceptionTable := #[], attributes := #[] }
def k19m6 : Method := { name := "isLatin1", desc := "()Z", sig := { parameters := [], returnType := some .boolean }, accessFlags := 16, code := some k19c6 }
def k19c7 : Code := { maxStack := 2, maxLocals := 2, code := jdk_68_method_71_code, exceptionTable := #[], attributes := #[] }
def k19m7 : Method := { name := "inflateIfNeededFor", desc := "(Ljava/lang/String;)V", sig := { parameters := [(.object "java/lang/String")], returnType := none }, accessFlags := 2, code := some k19c7 }
def k19c8 : Code := { maxStack := 4, maxLocals := 3, code := jdk_68_method_73_code, exceptionTable := #[], attributes := #[] }
def k19m8 : Method := { name := "putStringAt", desc := "(ILjava/lang/String;)V", sig := { parameters := [.int, (.object "java/lang/String")], returnType := none }, accessFlags := 2, code := some k19c8 }
/-- java/lang/AbstractStringBuilder -/
def k19 : Class := { plain "java/lang/AbstractStringBuilder" (some 0) with
  accessFlags := 1056
  interfaces := #[18, 4]
  cf := some (fileOf pool19 10 #[] #[{ accessFlags := 0, nameIndex := 7, descriptorIndex := 8, attributes := #[] }, { accessFlags := 0, nameIndex := 7, descriptorIndex := 103, attributes := #[] }, { accessFlags := 1, nameIndex := 34, descriptorIndex := 35, attributes := #[] }, { accessFlags := 2, nameIndex := 102, descriptorIndex := 103, attributes := #[] }, { accessFlags := 1, nameIndex := 45, descriptorIndex := 46, attributes := #[] }, { accessFlags := 16, nameIndex := 552, descriptorIndex := 403, attributes := #[] }, { accessFlags := 16, nameIndex := 85, descriptorIndex := 86, attributes := #[] }, { accessFlags := 2, nameIndex := 217, descriptorIndex := 69, attributes := #[] }, { accessFlags := 2, nameIndex := 210, descriptorIndex := 211, attributes := #[] }] 1056 4 #[444, 48] #[{ accessFlags := 0, nameIndex := 17, descriptorIndex := 14, attributes := #[] }, { accessFlags := 0, nameIndex := 24, descriptorIndex := 25, attributes := #[] }, { accessFlags := 0, nameIndex := 75, descriptorIndex := 21, attributes := #[] }, { accessFlags := 0, nameIndex := 81, descriptorIndex := 82, attributes := #[] }, { accessFlags := 26, nameIndex := 13, descriptorIndex := 14, attributes := #[] }])
  fields := #[{ name := "value", type := (.array .byte), accessFlags := 0, slot := 0, constantValue := 0 }, { name := "coder", type := .byte, accessFlags := 0, slot := 1, constantValue := 0 }, { name := "maybeLatin1", type := .boolean, accessFlags := 0, slot := 2, constantValue := 0 }, { name := "count", type := .int, accessFlags := 0, slot := 3, constantValue := 0 }, { name := "EMPTYVALUE", type := (.array .byte), accessFlags := 26, slot := 0, constantValue := 0 }]
  methods := #[k19m0, k19m1, k19m2, k19m3, k19m4, k19m5, k19m6, k19m7, k19m8]
  instanceTypes := #[(.array .byte), .byte, .boolean, .int]
  staticTypes := #[(.array .byte)]
  resolved := Array.replicate 609 none
  statics := none }

def pool20 : Array CpInfo := pool [(1, .methodref 2 3), (0, .class_ 4), (0, .nameAndType 5 6), (0, u "java/lang/AbstractStringBuilder"), (0, u "<init>"), (0, u "(I)V"), (11, .class_ 20), (1, u "java/lang/String"), (3, .class_ 26), (1, u "java/lang/StringBuilder"), (0, u "append"), (0, u "(Ljava/lang/String;)Ljava/lang/StringBuilder;"), (0, .methodref 2 30), (0, .nameAndType 27 31), (0, u "(Ljava/lang/String;)Ljava/lang/AbstractStringBuilder;"), (105, .methodref 18 138), (0, .nameAndType 5 139), (0, u "(Ljava/lang/StringBuilder;)V"), (5, u "()V"), (10, u "()I"), (186, .methodref 2 344), (0, .nameAndType 345 156), (0, u "length"), (3, .class_ 350), (0, u "java/lang/Appendable"), (0, .class_ 352), (0, u "java/io/Serializable"), (0, .class_ 354), (0, u "java/lang/Comparable"), (0, .class_ 356), (0, u "java/lang/CharSequence"), (0, u "serialVersionUID"), (0, u "J"), (40, u "toString"), (0, u "()Ljava/lang/String;")] 21

def k20c0 : Code := { maxStack := 2, maxLocals := 1, code := jdk_67_method_1_code, exceptionTable := #[], attributes := #[] }
def k20m0 : Method := { name := "<init>", desc := "()V", sig := { parameters := [], returnType := none }, accessFlags := 1, code := some k20c0 }
def k20c1 : Code := { maxStack := 2, maxLocals := 2, code := jdk_67_method_7_code, exceptionTable := #[], attributes := #[] }
def k20m1 : Method := { name := "append", desc := "(Ljava/lang/String;)Ljava/lang/StringBuilder;", sig := { parameters := [(.object "java/lang/String")], returnType := some (.object "java/lang/StringBuilder") }, accessFlags := 1, code := some k20c1 }
def k20c2 : Code := { maxStack := 3, maxLocals := 1, code := jdk_67_method_42_code, exceptionTable := #[], attributes := #[] }
def k20m2 : Method := { name := "toString", desc := "()Ljava/lang/String;", sig := { parameters := [], returnType := some (.object "java/lang/String") }, accessFlags := 1, code := some k20c2 }
def k20c3 : Code := { maxStack := 1, maxLocals := 1, code := jdk_67_method_93_code, exceptionTable := #[], attributes := #[] }
def k20m3 : Method := { name := "length", desc := "()I", sig := { parameters := [], returnType := some .int }, accessFlags := 4161, code := some k20c3 }
/-- java/lang/StringBuilder -/
def k20 : Class := { plain "java/lang/StringBuilder" (some 19) with
  accessFlags := 49
  interfaces := #[18, 2, 3, 4]
  cf := some (fileOf pool20 24 #[] #[{ accessFlags := 1, nameIndex := 5, descriptorIndex := 145, attributes := #[] }, { accessFlags := 1, nameIndex := 27, descriptorIndex := 28, attributes := #[] }, { accessFlags := 1, nameIndex := 399, descriptorIndex := 400, attributes := #[] }, { accessFlags := 4161, nameIndex := 345, descriptorIndex := 156, attributes := #[] }] 49 2 #[349, 351, 353, 355] #[{ accessFlags := 24, nameIndex := 357, descriptorIndex := 358, attributes := #[] }])
  fields := #[{ name := "serialVersionUID", type := .long, accessFlags := 24, slot := 0, constantValue := 0 }]
  methods := #[k20m0, k20m1, k20m2, k20m3]
  instanceTypes := #[(.array .byte), .byte, .boolean, .int]
  staticTypes := #[.long]
  resolved := Array.replicate 422 none
  statics := none }

def pool21 : Array CpInfo := pool [(1, .class_ 2), (0, u "java/lang/Math"), (1, .class_ 6), (1, u "java/lang/Object"), (0, u "<init>"), (0, u "()V"), (89, .class_ 100), (1, u "java/lang/Math$RandomNumberGeneratorHolder"), (71, u "negativeZeroFloatBits"), (0, u "J"), (2, u "negativeZeroDoubleBits"), (21, u "max"), (2, u "min"), (43, u "$assertionsDisabled"), (0, u "Z"), (88, u "(II)I"), (2, u "twoToTheDoubleScaleDown"), (0, u "D"), (4, u "twoToTheDoubleScaleUp"), (9, u "E"), (3, u "PI"), (2, u "TAU"), (2, u "DEGREES_TO_RADIANS"), (0, u "RADIANS_TO_DEGREES")] 94

def k21m0 : Method := { name := "<init>", desc := "()V", sig := { parameters := [], returnType := none }, accessFlags := 2, code := none }
def k21c1 : Code := { maxStack := 2, maxLocals := 2, code := jdk_29_method_65_code, exceptionTable := #[], attributes := #[] }
def k21m1 : Method := { name := "max", desc := "(II)I", sig := { parameters := [.int, .int], returnType := some .int }, accessFlags := 9, code := some k21c1 }
def k21c2 : Code := { maxStack := 2, maxLocals := 2, code := jdk_29_method_69_code, exceptionTable := #[], attributes := #[] }
def k21m2 : Method := { name := "min", desc := "(II)I", sig := { parameters := [.int, .int], returnType := some .int }, accessFlags := 9, code := some k21c2 }
/-- java/lang/Math -/
def k21 : Class := { plain "java/lang/Math" (some 0) with
  accessFlags := 49
  interfaces := #[]
  cf := some (fileOf pool21 1 #[.nestMembers #[98]] #[{ accessFlags := 2, nameIndex := 7, descriptorIndex := 8, attributes := #[] }, { accessFlags := 9, nameIndex := 198, descriptorIndex := 335, attributes := #[] }, { accessFlags := 9, nameIndex := 201, descriptorIndex := 335, attributes := #[] }] 49 4 #[] #[{ accessFlags := 25, nameIndex := 354, descriptorIndex := 339, attributes := #[] }, { accessFlags := 25, nameIndex := 358, descriptorIndex := 339, attributes := #[] }, { accessFlags := 25, nameIndex := 361, descriptorIndex := 339, attributes := #[] }, { accessFlags := 26, nameIndex := 364, descriptorIndex := 339, attributes := #[] }, { accessFlags := 26, nameIndex := 365, descriptorIndex := 339, attributes := #[] }, { accessFlags := 26, nameIndex := 172, descriptorIndex := 173, attributes := #[] }, { accessFlags := 26, nameIndex := 176, descriptorIndex := 173, attributes := #[] }, { accessFlags := 8, nameIndex := 344, descriptorIndex := 339, attributes := #[] }, { accessFlags := 8, nameIndex := 338, descriptorIndex := 339, attributes := #[] }, { accessFlags := 4120, nameIndex := 245, descriptorIndex := 246, attributes := #[] }])
  fields := #[{ name := "E", type := .double, accessFlags := 25, slot := 0, constantValue := 0 }, { name := "PI", type := .double, accessFlags := 25, slot := 1, constantValue := 0 }, { name := "TAU", type := .double, accessFlags := 25, slot := 2, constantValue := 0 }, { name := "DEGREES_TO_RADIANS", type := .double, accessFlags := 26, slot := 3, constantValue := 0 }, { name := "RADIANS_TO_DEGREES", type := .double, accessFlags := 26, slot := 4, constantValue := 0 }, { name := "negativeZeroFloatBits", type := .long, accessFlags := 26, slot := 5, constantValue := 0 }, { name := "negativeZeroDoubleBits", type := .long, accessFlags := 26, slot := 6, constantValue := 0 }, { name := "twoToTheDoubleScaleUp", type := .double, accessFlags := 8, slot := 7, constantValue := 0 }, { name := "twoToTheDoubleScaleDown", type := .double, accessFlags := 8, slot := 8, constantValue := 0 }, { name := "$assertionsDisabled", type := .boolean, accessFlags := 4120, slot := 9, constantValue := 0 }]
  methods := #[k21m0, k21m1, k21m2]
  instanceTypes := #[]
  staticTypes := #[.double, .double, .double, .double, .double, .long, .long, .double, .double, .boolean]
  resolved := Array.replicate 460 none
  statics := none }

def pool22 : Array CpInfo := pool [(6, .class_ 8), (1, u "java/lang/Object"), (0, u "<init>"), (0, u "()V"), (1, .class_ 14), (1, u "java/lang/StringUTF16"), (31, u "$assertionsDisabled"), (0, u "Z"), (13, u "HI_BYTE_SHIFT"), (0, u "I"), (2, u "LO_BYTE_SHIFT"), (49, .methodref 12 116), (0, .nameAndType 117 118), (0, u "compress"), (0, u "([CI[BII)I"), (3, u "([CII)[B"), (138, u "coderFromArrayLen"), (0, u "([BI)B"), (106, .class_ 371), (1, u "java/lang/StringUTF16$LinesSpliterator"), (58, u "MAX_LENGTH"), (196, .class_ 628), (0, u "java/lang/StringUTF16$CodePointsSpliterator"), (0, .class_ 630), (0, u "java/lang/StringUTF16$CharsSpliterator")] 4

def k22m0 : Method := { name := "<init>", desc := "()V", sig := { parameters := [], returnType := none }, accessFlags := 0, code := none }
def k22c1 : Code := { maxStack := 2, maxLocals := 2, code := jdk_52_method_15_code, exceptionTable := #[], attributes := #[] }
def k22m1 : Method := { name := "coderFromArrayLen", desc := "([BI)B", sig := { parameters := [(.array .byte), .int], returnType := some .byte }, accessFlags := 8, code := some k22c1 }
def k22c2 : Code := { maxStack := 5, maxLocals := 6, code := jdk_52_method_16_code, exceptionTable := #[], attributes := #[] }
def k22m2 : Method := { name := "compress", desc := "([CII)[B", sig := { parameters := [(.array .char), .int, .int], returnType := some (.array .byte) }, accessFlags := 9, code := some k22c2 }
def k22c3 : Code := { maxStack := 3, maxLocals := 7, code := jdk_52_method_21_code, exceptionTable := #[], attributes := #[] }
def k22m3 : Method := { name := "compress", desc := "([CI[BII)I", sig := { parameters := [(.array .char), .int, (.array .byte), .int, .int], returnType := some .int }, accessFlags := 9, code := some k22c3 }
/-- java/lang/StringUTF16 -/
def k22 : Class := { plain "java/lang/StringUTF16" (some 0) with
  accessFlags := 48
  interfaces := #[]
  cf := some (fileOf pool22 12 #[.nestMembers #[627, 629, 369]] #[{ accessFlags := 0, nameIndex := 9, descriptorIndex := 10, attributes := #[] }, { accessFlags := 8, nameIndex := 261, descriptorIndex := 262, attributes := #[] }, { accessFlags := 9, nameIndex := 117, descriptorIndex := 122, attributes := #[] }, { accessFlags := 9, nameIndex := 117, descriptorIndex := 118, attributes := #[] }] 48 6 #[] #[{ accessFlags := 26, nameIndex := 61, descriptorIndex := 62, attributes := #[] }, { accessFlags := 26, nameIndex := 65, descriptorIndex := 62, attributes := #[] }, { accessFlags := 24, nameIndex := 430, descriptorIndex := 62, attributes := #[] }, { accessFlags := 4120, nameIndex := 46, descriptorIndex := 47, attributes := #[] }])
  fields := #[{ name := "HI_BYTE_SHIFT", type := .int, accessFlags := 26, slot := 0, constantValue := 0 }, { name := "LO_BYTE_SHIFT", type := .int, accessFlags := 26, slot := 1, constantValue := 0 }, { name := "MAX_LENGTH", type := .int, accessFlags := 24, slot := 2, constantValue := 0 }, { name := "$assertionsDisabled", type := .boolean, accessFlags := 4120, slot := 3, constantValue := 0 }]
  methods := #[k22m0, k22m1, k22m2, k22m3]
  instanceTypes := #[]
  staticTypes := #[.int, .int, .int, .boolean]
  resolved := Array.replicate 635 none
  statics := none }

def pool23 : Array CpInfo := pool [(1, .class_ 2), (0, u "java/lang/String"), (1, .class_ 6), (1, u "java/lang/Object"), (0, u "<init>"), (0, u "()V"), (5, .class_ 16), (1, u "java/lang/StringLatin1"), (73, u "canEncode"), (14, u "(C)Z"), (6, .methodref 1 113), (0, .nameAndType 7 114), (0, u "([BB)V"), (6, u "$assertionsDisabled"), (0, u "Z"), (8, .class_ 133), (1, u "java/util/Arrays"), (17, .string 152), (0, u ""), (43, u "newString"), (0, u "([BII)Ljava/lang/String;"), (23, .class_ 223), (1, u "java/lang/StringLatin1$LinesSpliterator"), (8, .methodref 131 233), (0, .nameAndType 234 235), (0, u "copyOfRange"), (0, u "([BII)[B"), (45, u "equals"), (0, u "([B[B)Z"), (97, u "toBytes"), (1, u "(C)[B"), (7, .class_ 391), (0, u "java/lang/StringLatin1$CharsSpliterator")] 3

def k23m0 : Method := { name := "<init>", desc := "()V", sig := { parameters := [], returnType := none }, accessFlags := 0, code := none }
def k23c1 : Code := { maxStack := 2, maxLocals := 1, code := jdk_43_method_3_code, exceptionTable := #[], attributes := #[] }
def k23m1 : Method := { name := "canEncode", desc := "(C)Z", sig := { parameters := [.char], returnType := some .boolean }, accessFlags := 9, code := some k23c1 }
def k23c2 : Code := { maxStack := 3, maxLocals := 3, code := jdk_43_method_13_code, exceptionTable := #[], attributes := #[] }
def k23m2 : Method := { name := "equals", desc := "([B[B)Z", sig := { parameters := [(.array .byte), (.array .byte)], returnType := some .boolean }, accessFlags := 9, code := some k23c2 }
def k23c3 : Code := { maxStack := 4, maxLocals := 1, code := jdk_43_method_46_code, exceptionTable := #[], attributes := #[] }
def k23m3 : Method := { name := "toBytes", desc := "(C)[B", sig := { parameters := [.char], returnType := some (.array .byte) }, accessFlags := 9, code := some k23c3 }
def k23c4 : Code := { maxStack := 6, maxLocals := 3, code := jdk_43_method_47_code, exceptionTable := #[], attributes := #[] }
def k23m4 : Method := { name := "newString", desc := "([BII)Ljava/lang/String;", sig := { parameters := [(.array .byte), .int, .int], returnType := some (.object "java/lang/String") }, accessFlags := 9, code := some k23c4 }
/-- java/lang/StringLatin1 -/
def k23 : Class := { plain "java/lang/StringLatin1" (some 0) with
  accessFlags := 48
  interfaces := #[]
  cf := some (fileOf pool23 14 #[.nestMembers #[390, 221]] #[{ accessFlags := 0, nameIndex := 7, descriptorIndex := 8, attributes := #[] }, { accessFlags := 9, nameIndex := 90, descriptorIndex := 105, attributes := #[] }, { accessFlags := 9, nameIndex := 281, descriptorIndex := 282, attributes := #[] }, { accessFlags := 9, nameIndex := 380, descriptorIndex := 382, attributes := #[] }, { accessFlags := 9, nameIndex := 196, descriptorIndex := 197, attributes := #[] }] 48 4 #[] #[{ accessFlags := 4120, nameIndex := 121, descriptorIndex := 122, attributes := #[] }])
  fields := #[{ name := "$assertionsDisabled", type := .boolean, accessFlags := 4120, slot := 0, constantValue := 0 }]
  methods := #[k23m0, k23m1, k23m2, k23m3, k23m4]
  instanceTypes := #[]
  staticTypes := #[.boolean]
  resolved := Array.replicate 395 none
  statics := none }

def pool24 : Array CpInfo := pool [(2, .class_ 4), (1, u "java/lang/Object"), (0, u "<init>"), (0, u "()V"), (35, .class_ 44), (1, u "java/util/Objects"), (0, u "requireNonNull"), (0, u "(Ljava/lang/Object;)Ljava/lang/Object;"), (58, .methodref 106 107), (0, .class_ 108), (0, .nameAndType 109 110), (0, u "jdk/internal/util/Preconditions"), (0, u "checkIndex"), (0, u "(IILjava/util/function/BiFunction;)I"), (60, u "(II)I")] 12

def k24m0 : Method := { name := "<init>", desc := "()V", sig := { parameters := [], returnType := none }, accessFlags := 2, code := none }
def k24c1 : Code := { maxStack := 2, maxLocals := 1, code := jdk_31_method_10_code, exceptionTable := #[], attributes := #[] }
def k24m1 : Method := { name := "requireNonNull", desc := "(Ljava/lang/Object;)Ljava/lang/Object;", sig := { parameters := [(.object "java/lang/Object")], returnType := some (.object "java/lang/Object") }, accessFlags := 9, code := some k24c1 }
def k24c2 : Code := { maxStack := 3, maxLocals := 2, code := jdk_31_method_17_code, exceptionTable := #[], attributes := #[] }
def k24m2 : Method := { name := "checkIndex", desc := "(II)I", sig := { parameters := [.int, .int], returnType := some .int }, accessFlags := 9, code := some k24c2 }
/-- java/util/Objects -/
def k24 : Class := { plain "java/util/Objects" (some 0) with
  accessFlags := 49
  interfaces := #[]
  cf := some (fileOf pool24 42 #[] #[{ accessFlags := 2, nameIndex := 5, descriptorIndex := 6, attributes := #[] }, { accessFlags := 9, nameIndex := 45, descriptorIndex := 46, attributes := #[] }, { accessFlags := 9, nameIndex := 109, descriptorIndex := 171, attributes := #[] }] 49 2 #[] #[])
  fields := #[]
  methods := #[k24m0, k24m1, k24m2]
  instanceTypes := #[]
  staticTypes := #[]
  resolved := Array.replicate 184 none
  statics := none }

def pool25 : Array CpInfo := pool [(2, .class_ 4), (1, u "java/lang/Object"), (0, u "<init>"), (0, u "()V"), (17, .class_ 26), (1, u "jdk/internal/util/Preconditions"), (6, u "checkIndex"), (13, u "checkFromToIndex"), (7, .class_ 56), (0, u "jdk/internal/util/Preconditions$4"), (57, .class_ 115), (0, u "jdk/internal/util/Preconditions$1"), (7, u "SIOOBE_FORMATTER"), (0, u "Ljava/util/function/BiFunction;"), (0, .class_ 126), (0, u "jdk/internal/util/Preconditions$2"), (3, u "AIOOBE_FORMATTER"), (0, .class_ 132), (0, u "jdk/internal/util/Preconditions$3"), (3, u "IOOBE_FORMATTER"), (41, u "(IILjava/util/function/BiFunction;)I"), (4, u "(IIILjava/util/function/BiFunction;)I")] 10

def k25m0 : Method := { name := "<init>", desc := "()V", sig := { parameters := [], returnType := none }, accessFlags := 1, code := none }
def k25c1 : Code := { maxStack := 3, maxLocals := 3, code := jdk_41_method_11_code, exceptionTable := #[], attributes := #[] }
def k25m1 : Method := { name := "checkIndex", desc := "(IILjava/util/function/BiFunction;)I", sig := { parameters := [.int, .int, (.object "java/util/function/BiFunction")], returnType := some .int }, accessFlags := 9, code := some k25c1 }
def k25c2 : Code := { maxStack := 4, maxLocals := 4, code := jdk_41_method_12_code, exceptionTable := #[], attributes := #[] }
def k25m2 : Method := { name := "checkFromToIndex", desc := "(IIILjava/util/function/BiFunction;)I", sig := { parameters := [.int, .int, .int, (.object "java/util/function/BiFunction")], returnType := some .int }, accessFlags := 9, code := some k25c2 }
/-- jdk/internal/util/Preconditions -/
def k25 : Class := { plain "jdk/internal/util/Preconditions" (some 0) with
  accessFlags := 33
  interfaces := #[]
  cf := some (fileOf pool25 24 #[.nestMembers #[55, 131, 125, 114]] #[{ accessFlags := 1, nameIndex := 5, descriptorIndex := 6, attributes := #[] }, { accessFlags := 9, nameIndex := 33, descriptorIndex := 178, attributes := #[] }, { accessFlags := 9, nameIndex := 47, descriptorIndex := 183, attributes := #[] }] 33 2 #[] #[{ accessFlags := 25, nameIndex := 123, descriptorIndex := 124, attributes := #[] }, { accessFlags := 25, nameIndex := 130, descriptorIndex := 124, attributes := #[] }, { accessFlags := 25, nameIndex := 136, descriptorIndex := 124, attributes := #[] }])
  fields := #[{ name := "SIOOBE_FORMATTER", type := (.object "java/util/function/BiFunction"), accessFlags := 25, slot := 0, constantValue := 0 }, { name := "AIOOBE_FORMATTER", type := (.object "java/util/function/BiFunction"), accessFlags := 25, slot := 1, constantValue := 0 }, { name := "IOOBE_FORMATTER", type := (.object "java/util/function/BiFunction"), accessFlags := 25, slot := 2, constantValue := 0 }]
  methods := #[k25m0, k25m1, k25m2]
  instanceTypes := #[]
  staticTypes := #[(.object "java/util/function/BiFunction"), (.object "java/util/function/BiFunction"), (.object "java/util/function/BiFunction")]
  resolved := Array.replicate 194 none
  statics := some 3 }

def pool26 : Array CpInfo := pool [(2, .class_ 4), (1, u "java/lang/Object"), (0, u "<init>"), (0, u "()V"), (1, .class_ 10), (1, u "java/lang/System"), (0, u "allowSecurityManager"), (0, u "I"), (16, u "cons"), (0, u "Ljava/io/Console;"), (77, .class_ 110), (1, u "java/lang/System$CallersHolder"), (43, u "initialErrStream"), (0, u "Ljava/io/PrintStream;"), (19, u "security"), (0, u "Ljava/lang/SecurityManager;"), (31, .class_ 209), (0, u "java/lang/System$1"), (7, u "props"), (0, u "Ljava/util/Properties;"), (2, u "lineSeparator"), (0, u "Ljava/lang/String;"), (96, .class_ 321), (1, u "java/lang/System$LoggerFinder"), (5, .class_ 328), (0, u "java/lang/System$Logger"), (67, u "err"), (2, u "out"), (91, u "notSupportedJnuEncoding"), (15, u "in"), (17, u "initialIn"), (0, u "Ljava/io/InputStream;"), (35, u "bootLayer"), (0, u "Ljava/lang/ModuleLayer;"), (99, .class_ 664), (0, u "java/lang/System$2"), (9, u "NEVER"), (2, u "MAYBE"), (49, u "arraycopy"), (0, u "(Ljava/lang/Object;ILjava/lang/Object;II)V"), (72, .class_ 802), (0, u "java/lang/System$Logger$Level")] 31

def k26m0 : Method := { name := "<init>", desc := "()V", sig := { parameters := [], returnType := none }, accessFlags := 2, code := none }
def k26m1 : Method := { name := "arraycopy", desc := "(Ljava/lang/Object;ILjava/lang/Object;II)V", sig := { parameters := [(.object "java/lang/Object"), .int, (.object "java/lang/Object"), .int, .int], returnType := none }, accessFlags := 265, code := none }
/-- java/lang/System -/
def k26 : Class := { plain "java/lang/System" (some 0) with
  accessFlags := 49
  interfaces := #[]
  cf := some (fileOf pool26 8 #[.nestMembers #[319, 327, 801, 108, 663, 208]] #[{ accessFlags := 2, nameIndex := 5, descriptorIndex := 6, attributes := #[] }, { accessFlags := 265, nameIndex := 727, descriptorIndex := 728, attributes := #[] }] 49 2 #[] #[{ accessFlags := 25, nameIndex := 507, descriptorIndex := 526, attributes := #[] }, { accessFlags := 25, nameIndex := 399, descriptorIndex := 155, attributes := #[] }, { accessFlags := 25, nameIndex := 396, descriptorIndex := 155, attributes := #[] }, { accessFlags := 10, nameIndex := 525, descriptorIndex := 526, attributes := #[] }, { accessFlags := 26, nameIndex := 674, descriptorIndex := 12, attributes := #[] }, { accessFlags := 26, nameIndex := 677, descriptorIndex := 12, attributes := #[] }, { accessFlags := 10, nameIndex := 11, descriptorIndex := 12, attributes := #[] }, { accessFlags := 74, nameIndex := 175, descriptorIndex := 176, attributes := #[] }, { accessFlags := 10, nameIndex := 491, descriptorIndex := 222, attributes := #[] }, { accessFlags := 74, nameIndex := 29, descriptorIndex := 30, attributes := #[] }, { accessFlags := 74, nameIndex := 154, descriptorIndex := 155, attributes := #[] }, { accessFlags := 10, nameIndex := 217, descriptorIndex := 218, attributes := #[] }, { accessFlags := 10, nameIndex := 221, descriptorIndex := 222, attributes := #[] }, { accessFlags := 8, nameIndex := 562, descriptorIndex := 563, attributes := #[] }])
  fields := #[{ name := "in", type := (.object "java/io/InputStream"), accessFlags := 25, slot := 0, constantValue := 0 }, { name := "out", type := (.object "java/io/PrintStream"), accessFlags := 25, slot := 1, constantValue := 0 }, { name := "err", type := (.object "java/io/PrintStream"), accessFlags := 25, slot := 2, constantValue := 0 }, { name := "initialIn", type := (.object "java/io/InputStream"), accessFlags := 10, slot := 3, constantValue := 0 }, { name := "NEVER", type := .int, accessFlags := 26, slot := 4, constantValue := 0 }, { name := "MAYBE", type := .int, accessFlags := 26, slot := 5, constantValue := 0 }, { name := "allowSecurityManager", type := .int, accessFlags := 10, slot := 6, constantValue := 0 }, { name := "security", type := (.object "java/lang/SecurityManager"), accessFlags := 74, slot := 7, constantValue := 0 }, { name := "notSupportedJnuEncoding", type := (.object "java/lang/String"), accessFlags := 10, slot := 8, constantValue := 0 }, { name := "cons", type := (.object "java/io/Console"), accessFlags := 74, slot := 9, constantValue := 0 }, { name := "initialErrStream", type := (.object "java/io/PrintStream"), accessFlags := 74, slot := 10, constantValue := 0 }, { name := "props", type := (.object "java/util/Properties"), accessFlags := 10, slot := 11, constantValue := 0 }, { name := "lineSeparator", type := (.object "java/lang/String"), accessFlags := 10, slot := 12, constantValue := 0 }, { name := "bootLayer", type := (.object "java/lang/ModuleLayer"), accessFlags := 8, slot := 13, constantValue := 0 }]
  methods := #[k26m0, k26m1]
  instanceTypes := #[]
  staticTypes := #[(.object "java/io/InputStream"), (.object "java/io/PrintStream"), (.object "java/io/PrintStream"), (.object "java/io/InputStream"), .int, .int, .int, (.object "java/lang/SecurityManager"), (.object "java/lang/String"), (.object "java/io/Console"), (.object "java/io/PrintStream"), (.object "java/util/Properties"), (.object "java/lang/String"), (.object "java/lang/ModuleLayer")]
  resolved := Array.replicate 834 none
  statics := none }

def pool27 : Array CpInfo := pool [(2, .class_ 4), (1, u "java/lang/Object"), (0, u "<init>"), (0, u "()V"), (7, .class_ 16), (1, u "java/util/Arrays"), (57, .class_ 76), (1, u "java/util/Arrays$NaturalOrder"), (36, .class_ 115), (1, u "java/util/Arrays$LegacyMergeSort"), (1, u "Z"), (21, u "copyOfRange"), (10, .methodref 151 152), (0, .class_ 153), (0, .nameAndType 154 155), (0, u "java/lang/System"), (0, u "arraycopy"), (0, u "(Ljava/lang/Object;ILjava/lang/Object;II)V"), (148, .methodref 305 306), (0, .class_ 307), (0, .nameAndType 308 309), (0, u "java/lang/Math"), (0, u "min"), (0, u "(II)I"), (29, .methodref 14 340), (0, .nameAndType 341 342), (0, u "copyOfRangeByte"), (0, u "([BII)[B"), (0, .methodref 14 344), (0, .nameAndType 345 346), (0, u "checkLength"), (0, u "(II)V"), (28, .class_ 376), (0, u "java/util/Arrays$ArrayList"), (68, u "$assertionsDisabled"), (269, u "MIN_ARRAY_SORT_GRAN"), (0, u "I"), (2, u "INSERTIONSORT_THRESHOLD"), (255, .class_ 976), (0, u "java/util/Arrays$ArrayItr")] 52

def k27m0 : Method := { name := "<init>", desc := "()V", sig := { parameters := [], returnType := none }, accessFlags := 2, code := none }
def k27c1 : Code := { maxStack := 4, maxLocals := 2, code := jdk_65_method_131_code, exceptionTable := #[], attributes := #[] }
def k27m1 : Method := { name := "checkLength", desc := "(II)V", sig := { parameters := [.int, .int], returnType := none }, accessFlags := 10, code := some k27c1 }
def k27c2 : Code := { maxStack := 3, maxLocals := 3, code := jdk_65_method_132_code, exceptionTable := #[], attributes := #[] }
def k27m2 : Method := { name := "copyOfRange", desc := "([BII)[B", sig := { parameters := [(.array .byte), .int, .int], returnType := some (.array .byte) }, accessFlags := 9, code := some k27c2 }
def k27c3 : Code := { maxStack := 6, maxLocals := 5, code := jdk_65_method_133_code, exceptionTable := #[], attributes := #[] }
def k27m3 : Method := { name := "copyOfRangeByte", desc := "([BII)[B", sig := { parameters := [(.array .byte), .int, .int], returnType := some (.array .byte) }, accessFlags := 10, code := some k27c3 }
/-- java/util/Arrays -/
def k27 : Class := { plain "java/util/Arrays" (some 0) with
  accessFlags := 49
  interfaces := #[]
  cf := some (fileOf pool27 14 #[.nestMembers #[975, 375, 113, 74]] #[{ accessFlags := 2, nameIndex := 5, descriptorIndex := 6, attributes := #[] }, { accessFlags := 10, nameIndex := 345, descriptorIndex := 346, attributes := #[] }, { accessFlags := 9, nameIndex := 139, descriptorIndex := 342, attributes := #[] }, { accessFlags := 10, nameIndex := 341, descriptorIndex := 342, attributes := #[] }] 49 2 #[] #[{ accessFlags := 26, nameIndex := 715, descriptorIndex := 716, attributes := #[] }, { accessFlags := 26, nameIndex := 719, descriptorIndex := 716, attributes := #[] }, { accessFlags := 4120, nameIndex := 445, descriptorIndex := 117, attributes := #[] }])
  fields := #[{ name := "MIN_ARRAY_SORT_GRAN", type := .int, accessFlags := 26, slot := 0, constantValue := 0 }, { name := "INSERTIONSORT_THRESHOLD", type := .int, accessFlags := 26, slot := 1, constantValue := 0 }, { name := "$assertionsDisabled", type := .boolean, accessFlags := 4120, slot := 2, constantValue := 0 }]
  methods := #[k27m0, k27m1, k27m2, k27m3]
  instanceTypes := #[]
  staticTypes := #[.int, .int, .boolean]
  resolved := Array.replicate 1029 none
  statics := none }

def pool28 : Array CpInfo := pool [(9, u "<init>"), (6, .class_ 18), (1, u "java/lang/Object"), (0, u "()V"), (1, .class_ 23), (1, u "jdk/internal/util/ArraysSupport"), (0, u "LOG2_ARRAY_LONG_INDEX_SCALE"), (0, u "I"), (2, u "U"), (0, u "Ljdk/internal/misc/Unsafe;"), (8, u "BIG_ENDIAN"), (0, u "Z"), (8, u "LOG2_BYTE_BIT_SIZE"), (4, u "LOG2_ARRAY_INT_INDEX_SCALE"), (54, u "JLA"), (0, u "Ljdk/internal/access/JavaLangAccess;"), (11, u "LOG2_ARRAY_BOOLEAN_INDEX_SCALE"), (9, u "LOG2_ARRAY_BYTE_INDEX_SCALE"), (5, u "LOG2_ARRAY_CHAR_INDEX_SCALE"), (5, u "LOG2_ARRAY_SHORT_INDEX_SCALE"), (18, u "LOG2_ARRAY_FLOAT_INDEX_SCALE"), (24, u "LOG2_ARRAY_DOUBLE_INDEX_SCALE"), (89, u "T_BOOLEAN"), (2, u "T_CHAR"), (1, u "T_FLOAT"), (1, u "T_DOUBLE"), (1, u "T_BYTE"), (1, u "T_SHORT"), (1, u "T_INT"), (1, u "T_LONG"), (1, u "SOFT_MAX_ARRAY_LENGTH")] 83

def k28m0 : Method := { name := "<init>", desc := "()V", sig := { parameters := [], returnType := none }, accessFlags := 2, code := none }
/-- jdk/internal/util/ArraysSupport -/
def k28 : Class := { plain "jdk/internal/util/ArraysSupport" (some 0) with
  accessFlags := 33
  interfaces := #[]
  cf := some (fileOf pool28 21 #[] #[{ accessFlags := 2, nameIndex := 9, descriptorIndex := 19, attributes := #[] }] 33 16 #[] #[{ accessFlags := 24, nameIndex := 28, descriptorIndex := 29, attributes := #[] }, { accessFlags := 26, nameIndex := 38, descriptorIndex := 39, attributes := #[] }, { accessFlags := 25, nameIndex := 121, descriptorIndex := 25, attributes := #[] }, { accessFlags := 25, nameIndex := 131, descriptorIndex := 25, attributes := #[] }, { accessFlags := 25, nameIndex := 137, descriptorIndex := 25, attributes := #[] }, { accessFlags := 25, nameIndex := 143, descriptorIndex := 25, attributes := #[] }, { accessFlags := 25, nameIndex := 53, descriptorIndex := 25, attributes := #[] }, { accessFlags := 25, nameIndex := 24, descriptorIndex := 25, attributes := #[] }, { accessFlags := 25, nameIndex := 162, descriptorIndex := 25, attributes := #[] }, { accessFlags := 25, nameIndex := 187, descriptorIndex := 25, attributes := #[] }, { accessFlags := 26, nameIndex := 48, descriptorIndex := 25, attributes := #[] }, { accessFlags := 25, nameIndex := 277, descriptorIndex := 25, attributes := #[] }, { accessFlags := 25, nameIndex := 280, descriptorIndex := 25, attributes := #[] }, { accessFlags := 25, nameIndex := 282, descriptorIndex := 25, attributes := #[] }, { accessFlags := 25, nameIndex := 284, descriptorIndex := 25, attributes := #[] }, { accessFlags := 25, nameIndex := 286, descriptorIndex := 25, attributes := #[] }, { accessFlags := 25, nameIndex := 288, descriptorIndex := 25, attributes := #[] }, { accessFlags := 25, nameIndex := 290, descriptorIndex := 25, attributes := #[] }, { accessFlags := 25, nameIndex := 292, descriptorIndex := 25, attributes := #[] }, { accessFlags := 26, nameIndex := 108, descriptorIndex := 109, attributes := #[] }, { accessFlags := 25, nameIndex := 294, descriptorIndex := 25, attributes := #[] }])
  fields := #[{ name := "U", type := (.object "jdk/internal/misc/Unsafe"), accessFlags := 24, slot := 0, constantValue := 0 }, { name := "BIG_ENDIAN", type := .boolean, accessFlags := 26, slot := 1, constantValue := 0 }, { name := "LOG2_ARRAY_BOOLEAN_INDEX_SCALE", type := .int, accessFlags := 25, slot := 2, constantValue := 0 }, { name := "LOG2_ARRAY_BYTE_INDEX_SCALE", type := .int, accessFlags := 25, slot := 3, constantValue := 0 }, { name := "LOG2_ARRAY_CHAR_INDEX_SCALE", type := .int, accessFlags := 25, slot := 4, constantValue := 0 }, { name := "LOG2_ARRAY_SHORT_INDEX_SCALE", type := .int, accessFlags := 25, slot := 5, constantValue := 0 }, { name := "LOG2_ARRAY_INT_INDEX_SCALE", type := .int, accessFlags := 25, slot := 6, constantValue := 0 }, { name := "LOG2_ARRAY_LONG_INDEX_SCALE", type := .int, accessFlags := 25, slot := 7, constantValue := 0 }, { name := "LOG2_ARRAY_FLOAT_INDEX_SCALE", type := .int, accessFlags := 25, slot := 8, constantValue := 0 }, { name := "LOG2_ARRAY_DOUBLE_INDEX_SCALE", type := .int, accessFlags := 25, slot := 9, constantValue := 0 }, { name := "LOG2_BYTE_BIT_SIZE", type := .int, accessFlags := 26, slot := 10, constantValue := 0 }, { name := "T_BOOLEAN", type := .int, accessFlags := 25, slot := 11, constantValue := 0 }, { name := "T_CHAR", type := .int, accessFlags := 25, slot := 12, constantValue := 0 }, { name := "T_FLOAT", type := .int, accessFlags := 25, slot := 13, constantValue := 0 }, { name := "T_DOUBLE", type := .int, accessFlags := 25, slot := 14, constantValue := 0 }, { name := "T_BYTE", type := .int, accessFlags := 25, slot := 15, constantValue := 0 }, { name := "T_SHORT", type := .int, accessFlags := 25, slot := 16, constantValue := 0 }, { name := "T_INT", type := .int, accessFlags := 25, slot := 17, constantValue := 0 }, { name := "T_LONG", type := .int, accessFlags := 25, slot := 18, constantValue := 0 }, { name := "JLA", type := (.object "jdk/internal/access/JavaLangAccess"), accessFlags := 26, slot := 19, constantValue := 0 }, { name := "SOFT_MAX_ARRAY_LENGTH", type := .int, accessFlags := 25, slot := 20, constantValue := 0 }]
  methods := #[k28m0]
  instanceTypes := #[]
  staticTypes := #[(.object "jdk/internal/misc/Unsafe"), .boolean, .int, .int, .int, .int, .int, .int, .int, .int, .int, .int, .int, .int, .int, .int, .int, .int, .int, (.object "jdk/internal/access/JavaLangAccess"), .int]
  resolved := Array.replicate 378 none
  statics := none }

/-- the primitive byte -/
def k29 : Class := { plain "byte" none with kind := .primitive 'B', accessFlags := 0x411 }
/-- [B -/
def k30 : Class := { plain "[B" (some 0) with kind := .array 29 .byte, interfaces := #[15, 2], accessFlags := 1041 }

/-- the primitive char -/
def k31 : Class := { plain "char" none with kind := .primitive 'C', accessFlags := 0x411 }
/-- [C -/
def k32 : Class := { plain "[C" (some 0) with kind := .array 31 .char, interfaces := #[15, 2], accessFlags := 1041 }

/-- the primitive int -/
def k33 : Class := { plain "int" none with kind := .primitive 'I', accessFlags := 0x411 }
/-- [I -/
def k34 : Class := { plain "[I" (some 0) with kind := .array 33 .int, interfaces := #[15, 2], accessFlags := 1041 }

/-- [Ljava/lang/Object; -/
def k35 : Class := { plain "[Ljava/lang/Object;" (some 0) with kind := .array 0 (.object "java/lang/Object"), interfaces := #[15, 2], accessFlags := 1041 }

def heap : Heap := #[{ cls := 7, slots := #[.long 0, .int 1, .null, .int 0, .null, .int 0, .int 0], vm := .statics 7 },
  { cls := 16, slots := #[.long 0, .int 0, .ref 6, .ref 7], vm := .statics 16 },
  { cls := 17, slots := #[.int 0, .int 0, .long 0, .ref 4], vm := .statics 17 },
  { cls := 25, slots := #[.null, .null, .null], vm := .statics 25 },
  { cls := 17, slots := #[.int 0, .null, .ref 5], vm := .none },
  { cls := 34, slots := #[], vm := .none },
  { cls := 35, slots := #[], vm := .none },
  { cls := 35, slots := #[], vm := .none }]
def classes : Array Class := #[k0, k1, k2, k3, k4, k5, k6, k7, k8, k9, k10, k11, k12, k13, k14, k15, k16, k17, k18, k19, k20, k21, k22, k23, k24, k25, k26, k27, k28, k29, k30, k31, k32, k33, k34, k35]
def interned : List (Array UInt16 × Addr) := []
def slotsUsed : Nat := 21
def theMethod : MethodId := ⟨1, 2⟩
def args0 : Array Value := #[.int 5, .int 6, .int 7, .int 9]
def aboutOver (below : List Frame) : State where
  vm := { classes := classes, interned := interned.toArray }
  heap := heap
  slotsUsed := slotsUsed
  threads := #[{ frames := .invoking theMethod args0 :: below }]
def below0 : List Frame := [.native { method := ⟨0, 0⟩, args := #[] }]
def about1 : State := aboutOver below0
def p0 : Program := .bare "" "" ""
def e0 : Env := launch0.env 0 0 0
theorem w_frames : about1.frames = Frame.invoking theMethod args0 :: below0 := rfl
set_option maxRecDepth 65536 in
theorem w_args : argsFit about1.vm theMethod args0 = true := by decide +kernel
set_option maxRecDepth 65536 in
theorem w_heap : heapFits about1 = true := by decide +kernel
set_option maxRecDepth 65536 in
theorem w_runnable : about1.curStatus? = some .runnable := by decide +kernel
set_option maxRecDepth 65536 in
theorem w_alone : about1.alone = true := by decide +kernel
set_option maxRecDepth 65536 in
theorem w_named : about1.methodNamed? x = some theMethod := by decide +kernel
set_option maxRecDepth 65536 in
theorem w_hears : about1.hears theMethod below0 = true := by decide +kernel
set_option maxRecDepth 65536 in
theorem w_ripe : about1.ripe theMethod args0 below0 = true := by decide +kernel
theorem w_running : about1.status = .running := rfl
set_option maxRecDepth 65536 in
theorem w_room : about1.hasRoom e0.platform room_1 = true :=
  launch0.hasRoom_least _ room_1 (by decide +kernel) (by decide +kernel) (by decide +kernel) (by decide +kernel) (by decide +kernel) (by decide +kernel)
theorem allAtoms_all (ts : List Jvm.Cond) (a : Array Jvm.Value) (st : Jvm.State) : (allAtoms ts).before a st = ts.all (fun c => c.before a st) := by
  induction ts with
  | nil => rfl
  | cons c t ih =>
    show (Jvm.Cond.and c (allAtoms t)).before a st = _
    rw [Jvm.Cond.before_and, ih, List.all_cons]
def words1 : List Jvm.Cond := Jvm.Cond.code x code maxLocals ret :: tables_1
/-- a 'code' word, met by the world's own term for the bytes: nothing is compared byte by byte -/
theorem code_word {y : MethodName} {bytes : ByteArray} {mx : Nat} {rt : Option FieldType} {a : Array Value} {s : State} {m : MethodId} {meth : Method} {c : Code} (h1 : s.methodNamed? y = some m) (h2 : s.vm.method? m = some meth) (h3 : meth.code = some c) (h4 : c.code = bytes)
    (h5 : (c.maxLocals == mx && c.exceptionTable.isEmpty && decide (c.maxStack ≤ mostOperands) && decide (meth.sig.returnType = rt) && !meth.locks && decide (parseMethodDescriptor y.desc = some meth.sig)) = true) : (Jvm.Cond.code y bytes mx rt).before a s = true := by
  simp only [Bool.and_eq_true, beq_iff_eq, Bool.not_eq_true', decide_eq_true_eq] at h5
  obtain ⟨⟨⟨⟨⟨g1, g2⟩, g3⟩, g4⟩, g5⟩, g6⟩ := h5
  simp [Cond.before, Cond.holds, Cond.value, h1, h2, h3, h4, g1, g2, g3, g4, g5, g6]
def isCode : Jvm.Cond → Bool
  | .code _ _ _ _ => true
  | _ => false
theorem all_split {L : List Jvm.Cond} {P : Jvm.Cond → Bool} (h1 : L.all (fun c => isCode c || P c) = true) (h2 : ∀ c ∈ L.filter isCode, P c = true) : L.all P = true := by
  refine List.all_eq_true.mpr fun c hc => ?_
  have h := List.all_eq_true.mp h1 c hc
  rcases Bool.eq_false_or_eq_true (isCode c) with hi | hi
  · exact h2 c (List.mem_filter.mpr ⟨hc, hi⟩)
  · simpa [hi] using h
set_option maxRecDepth 65536 in
theorem w_c0 : (Jvm.Cond.code x code maxLocals ret).before args0 about1 = true := code_word (m := ⟨1, 2⟩) (meth := k1m2) (c := k1c2) (by decide +kernel) rfl rfl rfl (by decide +kernel)
set_option maxRecDepth 65536 in
theorem w_c1 : (Jvm.Cond.code ({ cls := "com/example/vectorfire/vectorfire/model/PackedLinesCopyOfPinLaw", name := "line", desc := "(II)Ljava/lang/String;" } : Jvm.MethodName) method_2_code (5 : Nat) (Option.some (Jvm.ClassFile.FieldType.object "java/lang/String"))).before args0 about1 = true := code_word (m := ⟨1, 1⟩) (meth := k1m1) (c := k1c1) (by decide +kernel) rfl rfl rfl (by decide +kernel)
set_option maxRecDepth 65536 in
theorem w_c2 : (Jvm.Cond.code ({ cls := "java/util/ArrayList", name := "<init>", desc := "()V" } : Jvm.MethodName) jdk_38_method_2_code (1 : Nat) (Option.none : Option Jvm.ClassFile.FieldType)).before args0 about1 = true := code_word (m := ⟨16, 0⟩) (meth := k16m0) (c := k16c0) (by decide +kernel) rfl rfl rfl (by decide +kernel)
set_option maxRecDepth 65536 in
theorem w_c3 : (Jvm.Cond.code ({ cls := "java/util/AbstractList", name := "<init>", desc := "()V" } : Jvm.MethodName) jdk_39_method_1_code (1 : Nat) (Option.none : Option Jvm.ClassFile.FieldType)).before args0 about1 = true := code_word (m := ⟨13, 0⟩) (meth := k13m0) (c := k13c0) (by decide +kernel) rfl rfl rfl (by decide +kernel)
set_option maxRecDepth 65536 in
theorem w_c4 : (Jvm.Cond.code ({ cls := "java/util/AbstractCollection", name := "<init>", desc := "()V" } : Jvm.MethodName) jdk_22_method_1_code (1 : Nat) (Option.none : Option Jvm.ClassFile.FieldType)).before args0 about1 = true := code_word (m := ⟨10, 0⟩) (meth := k10m0) (c := k10c0) (by decide +kernel) rfl rfl rfl (by decide +kernel)
set_option maxRecDepth 65536 in
theorem w_c5 : (Jvm.Cond.code ({ cls := "java/lang/Object", name := "<init>", desc := "()V" } : Jvm.MethodName) object_method_1_code (1 : Nat) (Option.none : Option Jvm.ClassFile.FieldType)).before args0 about1 = true := code_word (m := ⟨0, 0⟩) (meth := k0m0) (c := k0c0) (by decide +kernel) rfl rfl rfl (by decide +kernel)
set_option maxRecDepth 65536 in
theorem w_c6 : (Jvm.Cond.code ({ cls := "com/example/vectorfire/vectorfire/model/PackedLines", name := "copyOf", desc := "(Ljava/util/List;)Ljava/util/List;" } : Jvm.MethodName) prog_8_method_2_code (4 : Nat) (Option.some (Jvm.ClassFile.FieldType.object "java/util/List"))).before args0 about1 = true := code_word (m := ⟨17, 1⟩) (meth := k17m1) (c := k17c1) (by decide +kernel) rfl rfl rfl (by decide +kernel)
set_option maxRecDepth 65536 in
theorem w_c7 : (Jvm.Cond.code ({ cls := "java/lang/StringBuilder", name := "<init>", desc := "()V" } : Jvm.MethodName) jdk_67_method_1_code (1 : Nat) (Option.none : Option Jvm.ClassFile.FieldType)).before args0 about1 = true := code_word (m := ⟨20, 0⟩) (meth := k20m0) (c := k20c0) (by decide +kernel) rfl rfl rfl (by decide +kernel)
set_option maxRecDepth 65536 in
theorem w_c8 : (Jvm.Cond.code ({ cls := "java/lang/AbstractStringBuilder", name := "<init>", desc := "(I)V" } : Jvm.MethodName) jdk_68_method_2_code (2 : Nat) (Option.none : Option Jvm.ClassFile.FieldType)).before args0 about1 = true := code_word (m := ⟨19, 1⟩) (meth := k19m1) (c := k19c1) (by decide +kernel) rfl rfl rfl (by decide +kernel)
set_option maxRecDepth 65536 in
theorem w_c9 : (Jvm.Cond.code ({ cls := "java/util/ArrayList", name := "size", desc := "()I" } : Jvm.MethodName) jdk_38_method_8_code (1 : Nat) (Option.some Jvm.ClassFile.FieldType.int)).before args0 about1 = true := code_word (m := ⟨16, 3⟩) (meth := k16m3) (c := k16c3) (by decide +kernel) rfl rfl rfl (by decide +kernel)
set_option maxRecDepth 65536 in
theorem w_c10 : (Jvm.Cond.code ({ cls := "java/util/ArrayList", name := "add", desc := "(Ljava/lang/Object;)Z" } : Jvm.MethodName) jdk_38_method_25_code (2 : Nat) (Option.some Jvm.ClassFile.FieldType.boolean)).before args0 about1 = true := code_word (m := ⟨16, 7⟩) (meth := k16m7) (c := k16c7) (by decide +kernel) rfl rfl rfl (by decide +kernel)
set_option maxRecDepth 65536 in
theorem w_c11 : (Jvm.Cond.code ({ cls := "java/util/ArrayList", name := "add", desc := "(Ljava/lang/Object;[Ljava/lang/Object;I)V" } : Jvm.MethodName) jdk_38_method_24_code (4 : Nat) (Option.none : Option Jvm.ClassFile.FieldType)).before args0 about1 = true := code_word (m := ⟨16, 6⟩) (meth := k16m6) (c := k16c6) (by decide +kernel) rfl rfl rfl (by decide +kernel)
set_option maxRecDepth 65536 in
theorem w_c12 : (Jvm.Cond.code ({ cls := "java/util/ArrayList", name := "grow", desc := "()[Ljava/lang/Object;" } : Jvm.MethodName) jdk_38_method_7_code (1 : Nat) (Option.some (Jvm.ClassFile.FieldType.array (Jvm.ClassFile.FieldType.object "java/lang/Object")))).before args0 about1 = true := code_word (m := ⟨16, 2⟩) (meth := k16m2) (c := k16c2) (by decide +kernel) rfl rfl rfl (by decide +kernel)
set_option maxRecDepth 65536 in
theorem w_c13 : (Jvm.Cond.code ({ cls := "java/util/ArrayList", name := "grow", desc := "(I)[Ljava/lang/Object;" } : Jvm.MethodName) jdk_38_method_6_code (4 : Nat) (Option.some (Jvm.ClassFile.FieldType.array (Jvm.ClassFile.FieldType.object "java/lang/Object")))).before args0 about1 = true := code_word (m := ⟨16, 1⟩) (meth := k16m1) (c := k16c1) (by decide +kernel) rfl rfl rfl (by decide +kernel)
set_option maxRecDepth 65536 in
theorem w_c14 : (Jvm.Cond.code ({ cls := "java/lang/Math", name := "max", desc := "(II)I" } : Jvm.MethodName) jdk_29_method_65_code (2 : Nat) (Option.some Jvm.ClassFile.FieldType.int)).before args0 about1 = true := code_word (m := ⟨21, 1⟩) (meth := k21m1) (c := k21c1) (by decide +kernel) rfl rfl rfl (by decide +kernel)
set_option maxRecDepth 65536 in
theorem w_c15 : (Jvm.Cond.code ({ cls := "com/example/vectorfire/vectorfire/model/PackedLines", name := "size", desc := "()I" } : Jvm.MethodName) prog_8_method_4_code (1 : Nat) (Option.some Jvm.ClassFile.FieldType.int)).before args0 about1 = true := code_word (m := ⟨17, 3⟩) (meth := k17m3) (c := k17c3) (by decide +kernel) rfl rfl rfl (by decide +kernel)
set_option maxRecDepth 65536 in
theorem w_c16 : (Jvm.Cond.code ({ cls := "java/lang/String", name := "<init>", desc := "([C)V" } : Jvm.MethodName) jdk_42_method_3_code (2 : Nat) (Option.none : Option Jvm.ClassFile.FieldType)).before args0 about1 = true := code_word (m := ⟨7, 1⟩) (meth := k7m1) (c := k7c1) (by decide +kernel) rfl rfl rfl (by decide +kernel)
set_option maxRecDepth 65536 in
theorem w_c17 : (Jvm.Cond.code ({ cls := "java/lang/String", name := "<init>", desc := "([CIILjava/lang/Void;)V" } : Jvm.MethodName) jdk_42_method_149_code (6 : Nat) (Option.none : Option Jvm.ClassFile.FieldType)).before args0 about1 = true := code_word (m := ⟨7, 8⟩) (meth := k7m8) (c := k7c8) (by decide +kernel) rfl rfl rfl (by decide +kernel)
set_option maxRecDepth 65536 in
theorem w_c18 : (Jvm.Cond.code ({ cls := "java/lang/StringUTF16", name := "compress", desc := "([CII)[B" } : Jvm.MethodName) jdk_52_method_16_code (6 : Nat) (Option.some (Jvm.ClassFile.FieldType.array Jvm.ClassFile.FieldType.byte))).before args0 about1 = true := code_word (m := ⟨22, 2⟩) (meth := k22m2) (c := k22c2) (by decide +kernel) rfl rfl rfl (by decide +kernel)
set_option maxRecDepth 65536 in
theorem w_c19 : (Jvm.Cond.code ({ cls := "java/lang/StringUTF16", name := "compress", desc := "([CI[BII)I" } : Jvm.MethodName) jdk_52_method_21_code (7 : Nat) (Option.some Jvm.ClassFile.FieldType.int)).before args0 about1 = true := code_word (m := ⟨22, 3⟩) (meth := k22m3) (c := k22c3) (by decide +kernel) rfl rfl rfl (by decide +kernel)
set_option maxRecDepth 65536 in
theorem w_c20 : (Jvm.Cond.code ({ cls := "java/lang/StringUTF16", name := "coderFromArrayLen", desc := "([BI)B" } : Jvm.MethodName) jdk_52_method_15_code (2 : Nat) (Option.some Jvm.ClassFile.FieldType.byte)).before args0 about1 = true := code_word (m := ⟨22, 1⟩) (meth := k22m1) (c := k22c1) (by decide +kernel) rfl rfl rfl (by decide +kernel)
set_option maxRecDepth 65536 in
theorem w_c21 : (Jvm.Cond.code ({ cls := "java/lang/String", name := "valueOf", desc := "(C)Ljava/lang/String;" } : Jvm.MethodName) jdk_42_method_139_code (1 : Nat) (Option.some (Jvm.ClassFile.FieldType.object "java/lang/String"))).before args0 about1 = true := code_word (m := ⟨7, 6⟩) (meth := k7m6) (c := k7c6) (by decide +kernel) rfl rfl rfl (by decide +kernel)
set_option maxRecDepth 65536 in
theorem w_c22 : (Jvm.Cond.code ({ cls := "java/lang/StringLatin1", name := "canEncode", desc := "(C)Z" } : Jvm.MethodName) jdk_43_method_3_code (1 : Nat) (Option.some Jvm.ClassFile.FieldType.boolean)).before args0 about1 = true := code_word (m := ⟨23, 1⟩) (meth := k23m1) (c := k23c1) (by decide +kernel) rfl rfl rfl (by decide +kernel)
set_option maxRecDepth 65536 in
theorem w_c23 : (Jvm.Cond.code ({ cls := "java/lang/StringLatin1", name := "toBytes", desc := "(C)[B" } : Jvm.MethodName) jdk_43_method_46_code (1 : Nat) (Option.some (Jvm.ClassFile.FieldType.array Jvm.ClassFile.FieldType.byte))).before args0 about1 = true := code_word (m := ⟨23, 3⟩) (meth := k23m3) (c := k23c3) (by decide +kernel) rfl rfl rfl (by decide +kernel)
set_option maxRecDepth 65536 in
theorem w_c24 : (Jvm.Cond.code ({ cls := "java/lang/String", name := "<init>", desc := "([BB)V" } : Jvm.MethodName) jdk_42_method_151_code (3 : Nat) (Option.none : Option Jvm.ClassFile.FieldType)).before args0 about1 = true := code_word (m := ⟨7, 10⟩) (meth := k7m10) (c := k7c10) (by decide +kernel) rfl rfl rfl (by decide +kernel)
set_option maxRecDepth 65536 in
theorem w_c25 : (Jvm.Cond.code ({ cls := "java/util/ArrayList", name := "get", desc := "(I)Ljava/lang/Object;" } : Jvm.MethodName) jdk_38_method_20_code (2 : Nat) (Option.some (Jvm.ClassFile.FieldType.object "java/lang/Object"))).before args0 about1 = true := code_word (m := ⟨16, 5⟩) (meth := k16m5) (c := k16c5) (by decide +kernel) rfl rfl rfl (by decide +kernel)
set_option maxRecDepth 65536 in
theorem w_c26 : (Jvm.Cond.code ({ cls := "java/util/Objects", name := "checkIndex", desc := "(II)I" } : Jvm.MethodName) jdk_31_method_17_code (2 : Nat) (Option.some Jvm.ClassFile.FieldType.int)).before args0 about1 = true := code_word (m := ⟨24, 2⟩) (meth := k24m2) (c := k24c2) (by decide +kernel) rfl rfl rfl (by decide +kernel)
set_option maxRecDepth 65536 in
theorem w_c27 : (Jvm.Cond.code ({ cls := "jdk/internal/util/Preconditions", name := "checkIndex", desc := "(IILjava/util/function/BiFunction;)I" } : Jvm.MethodName) jdk_41_method_11_code (3 : Nat) (Option.some Jvm.ClassFile.FieldType.int)).before args0 about1 = true := code_word (m := ⟨25, 1⟩) (meth := k25m1) (c := k25c1) (by decide +kernel) rfl rfl rfl (by decide +kernel)
set_option maxRecDepth 65536 in
theorem w_c28 : (Jvm.Cond.code ({ cls := "java/util/ArrayList", name := "elementData", desc := "(I)Ljava/lang/Object;" } : Jvm.MethodName) jdk_38_method_18_code (2 : Nat) (Option.some (Jvm.ClassFile.FieldType.object "java/lang/Object"))).before args0 about1 = true := code_word (m := ⟨16, 4⟩) (meth := k16m4) (c := k16c4) (by decide +kernel) rfl rfl rfl (by decide +kernel)
set_option maxRecDepth 65536 in
theorem w_c29 : (Jvm.Cond.code ({ cls := "java/util/Objects", name := "requireNonNull", desc := "(Ljava/lang/Object;)Ljava/lang/Object;" } : Jvm.MethodName) jdk_31_method_10_code (1 : Nat) (Option.some (Jvm.ClassFile.FieldType.object "java/lang/Object"))).before args0 about1 = true := code_word (m := ⟨24, 1⟩) (meth := k24m1) (c := k24c1) (by decide +kernel) rfl rfl rfl (by decide +kernel)
set_option maxRecDepth 65536 in
theorem w_c30 : (Jvm.Cond.code ({ cls := "java/lang/StringBuilder", name := "append", desc := "(Ljava/lang/String;)Ljava/lang/StringBuilder;" } : Jvm.MethodName) jdk_67_method_7_code (2 : Nat) (Option.some (Jvm.ClassFile.FieldType.object "java/lang/StringBuilder"))).before args0 about1 = true := code_word (m := ⟨20, 1⟩) (meth := k20m1) (c := k20c1) (by decide +kernel) rfl rfl rfl (by decide +kernel)
set_option maxRecDepth 65536 in
theorem w_c31 : (Jvm.Cond.code ({ cls := "java/lang/AbstractStringBuilder", name := "append", desc := "(Ljava/lang/String;)Ljava/lang/AbstractStringBuilder;" } : Jvm.MethodName) jdk_68_method_22_code (3 : Nat) (Option.some (Jvm.ClassFile.FieldType.object "java/lang/AbstractStringBuilder"))).before args0 about1 = true := code_word (m := ⟨19, 4⟩) (meth := k19m4) (c := k19c4) (by decide +kernel) rfl rfl rfl (by decide +kernel)
set_option maxRecDepth 65536 in
theorem w_c32 : (Jvm.Cond.code ({ cls := "java/lang/String", name := "length", desc := "()I" } : Jvm.MethodName) jdk_42_method_54_code (1 : Nat) (Option.some Jvm.ClassFile.FieldType.int)).before args0 about1 = true := code_word (m := ⟨7, 3⟩) (meth := k7m3) (c := k7c3) (by decide +kernel) rfl rfl rfl (by decide +kernel)
set_option maxRecDepth 65536 in
theorem w_c33 : (Jvm.Cond.code ({ cls := "java/lang/String", name := "coder", desc := "()B" } : Jvm.MethodName) jdk_42_method_152_code (1 : Nat) (Option.some Jvm.ClassFile.FieldType.byte)).before args0 about1 = true := code_word (m := ⟨7, 11⟩) (meth := k7m11) (c := k7c11) (by decide +kernel) rfl rfl rfl (by decide +kernel)
set_option maxRecDepth 65536 in
theorem w_c34 : (Jvm.Cond.code ({ cls := "java/lang/AbstractStringBuilder", name := "ensureCapacityInternal", desc := "(I)V" } : Jvm.MethodName) jdk_68_method_9_code (3 : Nat) (Option.none : Option Jvm.ClassFile.FieldType)).before args0 about1 = true := code_word (m := ⟨19, 3⟩) (meth := k19m3) (c := k19c3) (by decide +kernel) rfl rfl rfl (by decide +kernel)
set_option maxRecDepth 65536 in
theorem w_c35 : (Jvm.Cond.code ({ cls := "java/lang/AbstractStringBuilder", name := "putStringAt", desc := "(ILjava/lang/String;)V" } : Jvm.MethodName) jdk_68_method_73_code (3 : Nat) (Option.none : Option Jvm.ClassFile.FieldType)).before args0 about1 = true := code_word (m := ⟨19, 8⟩) (meth := k19m8) (c := k19c8) (by decide +kernel) rfl rfl rfl (by decide +kernel)
set_option maxRecDepth 65536 in
theorem w_c36 : (Jvm.Cond.code ({ cls := "java/lang/AbstractStringBuilder", name := "inflateIfNeededFor", desc := "(Ljava/lang/String;)V" } : Jvm.MethodName) jdk_68_method_71_code (2 : Nat) (Option.none : Option Jvm.ClassFile.FieldType)).before args0 about1 = true := code_word (m := ⟨19, 7⟩) (meth := k19m7) (c := k19c7) (by decide +kernel) rfl rfl rfl (by decide +kernel)
set_option maxRecDepth 65536 in
theorem w_c37 : (Jvm.Cond.code ({ cls := "java/lang/String", name := "getBytes", desc := "([BIB)V" } : Jvm.MethodName) jdk_42_method_147_code (4 : Nat) (Option.none : Option Jvm.ClassFile.FieldType)).before args0 about1 = true := code_word (m := ⟨7, 7⟩) (meth := k7m7) (c := k7c7) (by decide +kernel) rfl rfl rfl (by decide +kernel)
set_option maxRecDepth 65536 in
theorem w_c38 : (Jvm.Cond.code ({ cls := "java/lang/StringBuilder", name := "length", desc := "()I" } : Jvm.MethodName) jdk_67_method_93_code (1 : Nat) (Option.some Jvm.ClassFile.FieldType.int)).before args0 about1 = true := code_word (m := ⟨20, 3⟩) (meth := k20m3) (c := k20c3) (by decide +kernel) rfl rfl rfl (by decide +kernel)
set_option maxRecDepth 65536 in
theorem w_c39 : (Jvm.Cond.code ({ cls := "java/lang/AbstractStringBuilder", name := "length", desc := "()I" } : Jvm.MethodName) jdk_68_method_6_code (1 : Nat) (Option.some Jvm.ClassFile.FieldType.int)).before args0 about1 = true := code_word (m := ⟨19, 2⟩) (meth := k19m2) (c := k19c2) (by decide +kernel) rfl rfl rfl (by decide +kernel)
set_option maxRecDepth 65536 in
theorem w_c40 : (Jvm.Cond.code ({ cls := "java/lang/StringBuilder", name := "toString", desc := "()Ljava/lang/String;" } : Jvm.MethodName) jdk_67_method_42_code (1 : Nat) (Option.some (Jvm.ClassFile.FieldType.object "java/lang/String"))).before args0 about1 = true := code_word (m := ⟨20, 2⟩) (meth := k20m2) (c := k20c2) (by decide +kernel) rfl rfl rfl (by decide +kernel)
set_option maxRecDepth 65536 in
theorem w_c41 : (Jvm.Cond.code ({ cls := "java/lang/String", name := "<init>", desc := "(Ljava/lang/StringBuilder;)V" } : Jvm.MethodName) jdk_42_method_53_code (2 : Nat) (Option.none : Option Jvm.ClassFile.FieldType)).before args0 about1 = true := code_word (m := ⟨7, 2⟩) (meth := k7m2) (c := k7c2) (by decide +kernel) rfl rfl rfl (by decide +kernel)
set_option maxRecDepth 65536 in
theorem w_c42 : (Jvm.Cond.code ({ cls := "java/lang/String", name := "<init>", desc := "(Ljava/lang/AbstractStringBuilder;Ljava/lang/Void;)V" } : Jvm.MethodName) jdk_42_method_150_code (5 : Nat) (Option.none : Option Jvm.ClassFile.FieldType)).before args0 about1 = true := code_word (m := ⟨7, 9⟩) (meth := k7m9) (c := k7c9) (by decide +kernel) rfl rfl rfl (by decide +kernel)
set_option maxRecDepth 65536 in
theorem w_c43 : (Jvm.Cond.code ({ cls := "java/lang/AbstractStringBuilder", name := "getValue", desc := "()[B" } : Jvm.MethodName) jdk_68_method_64_code (1 : Nat) (Option.some (Jvm.ClassFile.FieldType.array Jvm.ClassFile.FieldType.byte))).before args0 about1 = true := code_word (m := ⟨19, 5⟩) (meth := k19m5) (c := k19c5) (by decide +kernel) rfl rfl rfl (by decide +kernel)
set_option maxRecDepth 65536 in
theorem w_c44 : (Jvm.Cond.code ({ cls := "java/lang/AbstractStringBuilder", name := "isLatin1", desc := "()Z" } : Jvm.MethodName) jdk_68_method_68_code (1 : Nat) (Option.some Jvm.ClassFile.FieldType.boolean)).before args0 about1 = true := code_word (m := ⟨19, 6⟩) (meth := k19m6) (c := k19c6) (by decide +kernel) rfl rfl rfl (by decide +kernel)
set_option maxRecDepth 65536 in
theorem w_c45 : (Jvm.Cond.code ({ cls := "java/util/Arrays", name := "copyOfRange", desc := "([BII)[B" } : Jvm.MethodName) jdk_65_method_132_code (3 : Nat) (Option.some (Jvm.ClassFile.FieldType.array Jvm.ClassFile.FieldType.byte))).before args0 about1 = true := code_word (m := ⟨27, 2⟩) (meth := k27m2) (c := k27c2) (by decide +kernel) rfl rfl rfl (by decide +kernel)
set_option maxRecDepth 65536 in
theorem w_c46 : (Jvm.Cond.code ({ cls := "java/util/Arrays", name := "copyOfRangeByte", desc := "([BII)[B" } : Jvm.MethodName) jdk_65_method_133_code (5 : Nat) (Option.some (Jvm.ClassFile.FieldType.array Jvm.ClassFile.FieldType.byte))).before args0 about1 = true := code_word (m := ⟨27, 3⟩) (meth := k27m3) (c := k27c3) (by decide +kernel) rfl rfl rfl (by decide +kernel)
set_option maxRecDepth 65536 in
theorem w_c47 : (Jvm.Cond.code ({ cls := "java/util/Arrays", name := "checkLength", desc := "(II)V" } : Jvm.MethodName) jdk_65_method_131_code (2 : Nat) (Option.none : Option Jvm.ClassFile.FieldType)).before args0 about1 = true := code_word (m := ⟨27, 1⟩) (meth := k27m1) (c := k27c1) (by decide +kernel) rfl rfl rfl (by decide +kernel)
set_option maxRecDepth 65536 in
theorem w_c48 : (Jvm.Cond.code ({ cls := "java/lang/Math", name := "min", desc := "(II)I" } : Jvm.MethodName) jdk_29_method_69_code (2 : Nat) (Option.some Jvm.ClassFile.FieldType.int)).before args0 about1 = true := code_word (m := ⟨21, 2⟩) (meth := k21m2) (c := k21c2) (by decide +kernel) rfl rfl rfl (by decide +kernel)
set_option maxRecDepth 65536 in
theorem w_c49 : (Jvm.Cond.code ({ cls := "com/example/vectorfire/vectorfire/model/PackedLines", name := "<init>", desc := "(Ljava/lang/String;[I)V" } : Jvm.MethodName) prog_8_method_1_code (3 : Nat) (Option.none : Option Jvm.ClassFile.FieldType)).before args0 about1 = true := code_word (m := ⟨17, 0⟩) (meth := k17m0) (c := k17c0) (by decide +kernel) rfl rfl rfl (by decide +kernel)
set_option maxRecDepth 65536 in
theorem w_c50 : (Jvm.Cond.code ({ cls := "com/example/vectorfire/vectorfire/model/PackedLines", name := "get", desc := "(I)Ljava/lang/Object;" } : Jvm.MethodName) prog_8_method_7_code (2 : Nat) (Option.some (Jvm.ClassFile.FieldType.object "java/lang/Object"))).before args0 about1 = true := code_word (m := ⟨17, 4⟩) (meth := k17m4) (c := k17c4) (by decide +kernel) rfl rfl rfl (by decide +kernel)
set_option maxRecDepth 65536 in
theorem w_c51 : (Jvm.Cond.code ({ cls := "com/example/vectorfire/vectorfire/model/PackedLines", name := "get", desc := "(I)Ljava/lang/String;" } : Jvm.MethodName) prog_8_method_3_code (2 : Nat) (Option.some (Jvm.ClassFile.FieldType.object "java/lang/String"))).before args0 about1 = true := code_word (m := ⟨17, 2⟩) (meth := k17m2) (c := k17c2) (by decide +kernel) rfl rfl rfl (by decide +kernel)
set_option maxRecDepth 65536 in
theorem w_c52 : (Jvm.Cond.code ({ cls := "java/lang/String", name := "substring", desc := "(II)Ljava/lang/String;" } : Jvm.MethodName) jdk_42_method_92_code (5 : Nat) (Option.some (Jvm.ClassFile.FieldType.object "java/lang/String"))).before args0 about1 = true := code_word (m := ⟨7, 5⟩) (meth := k7m5) (c := k7c5) (by decide +kernel) rfl rfl rfl (by decide +kernel)
set_option maxRecDepth 65536 in
theorem w_c53 : (Jvm.Cond.code ({ cls := "java/lang/String", name := "checkBoundsBeginEnd", desc := "(III)V" } : Jvm.MethodName) jdk_42_method_158_code (3 : Nat) (Option.none : Option Jvm.ClassFile.FieldType)).before args0 about1 = true := code_word (m := ⟨7, 13⟩) (meth := k7m13) (c := k7c13) (by decide +kernel) rfl rfl rfl (by decide +kernel)
set_option maxRecDepth 65536 in
theorem w_c54 : (Jvm.Cond.code ({ cls := "jdk/internal/util/Preconditions", name := "checkFromToIndex", desc := "(IIILjava/util/function/BiFunction;)I" } : Jvm.MethodName) jdk_41_method_12_code (4 : Nat) (Option.some Jvm.ClassFile.FieldType.int)).before args0 about1 = true := code_word (m := ⟨25, 2⟩) (meth := k25m2) (c := k25c2) (by decide +kernel) rfl rfl rfl (by decide +kernel)
set_option maxRecDepth 65536 in
theorem w_c55 : (Jvm.Cond.code ({ cls := "java/lang/String", name := "isLatin1", desc := "()Z" } : Jvm.MethodName) jdk_42_method_154_code (1 : Nat) (Option.some Jvm.ClassFile.FieldType.boolean)).before args0 about1 = true := code_word (m := ⟨7, 12⟩) (meth := k7m12) (c := k7c12) (by decide +kernel) rfl rfl rfl (by decide +kernel)
set_option maxRecDepth 65536 in
theorem w_c56 : (Jvm.Cond.code ({ cls := "java/lang/StringLatin1", name := "newString", desc := "([BII)Ljava/lang/String;" } : Jvm.MethodName) jdk_43_method_47_code (3 : Nat) (Option.some (Jvm.ClassFile.FieldType.object "java/lang/String"))).before args0 about1 = true := code_word (m := ⟨23, 4⟩) (meth := k23m4) (c := k23c4) (by decide +kernel) rfl rfl rfl (by decide +kernel)
set_option maxRecDepth 65536 in
theorem w_c57 : (Jvm.Cond.code ({ cls := "java/lang/String", name := "equals", desc := "(Ljava/lang/Object;)Z" } : Jvm.MethodName) jdk_42_method_66_code (3 : Nat) (Option.some Jvm.ClassFile.FieldType.boolean)).before args0 about1 = true := code_word (m := ⟨7, 4⟩) (meth := k7m4) (c := k7c4) (by decide +kernel) rfl rfl rfl (by decide +kernel)
set_option maxRecDepth 65536 in
theorem w_c58 : (Jvm.Cond.code ({ cls := "java/lang/StringLatin1", name := "equals", desc := "([B[B)Z" } : Jvm.MethodName) jdk_43_method_13_code (3 : Nat) (Option.some Jvm.ClassFile.FieldType.boolean)).before args0 about1 = true := code_word (m := ⟨23, 2⟩) (meth := k23m2) (c := k23c2) (by decide +kernel) rfl rfl rfl (by decide +kernel)
def codes1 : List Jvm.Cond := [Jvm.Cond.code x code maxLocals ret, Jvm.Cond.code ({ cls := "com/example/vectorfire/vectorfire/model/PackedLinesCopyOfPinLaw", name := "line", desc := "(II)Ljava/lang/String;" } : Jvm.MethodName) method_2_code (5 : Nat) (Option.some (Jvm.ClassFile.FieldType.object "java/lang/String")), Jvm.Cond.code ({ cls := "java/util/ArrayList", name := "<init>", desc := "()V" } : Jvm.MethodName) jdk_38_method_2_code (1 : Nat) (Option.none : Option Jvm.ClassFile.FieldType), Jvm.Cond.code ({ cls := "java/util/AbstractList", name := "<init>", desc := "()V" } : Jvm.MethodName) jdk_39_method_1_code (1 : Nat) (Option.none : Option Jvm.ClassFile.FieldType), Jvm.Cond.code ({ cls := "java/util/AbstractCollection", name := "<init>", desc := "()V" } : Jvm.MethodName) jdk_22_method_1_code (1 : Nat) (Option.none : Option Jvm.ClassFile.FieldType), Jvm.Cond.code ({ cls := "java/lang/Object", name := "<init>", desc := "()V" } : Jvm.MethodName) object_method_1_code (1 : Nat) (Option.none : Option Jvm.ClassFile.FieldType), Jvm.Cond.code ({ cls := "com/example/vectorfire/vectorfire/model/PackedLines", name := "copyOf", desc := "(Ljava/util/List;)Ljava/util/List;" } : Jvm.MethodName) prog_8_method_2_code (4 : Nat) (Option.some (Jvm.ClassFile.FieldType.object "java/util/List")), Jvm.Cond.code ({ cls := "java/lang/StringBuilder", name := "<init>", desc := "()V" } : Jvm.MethodName) jdk_67_method_1_code (1 : Nat) (Option.none : Option Jvm.ClassFile.FieldType), Jvm.Cond.code ({ cls := "java/lang/AbstractStringBuilder", name := "<init>", desc := "(I)V" } : Jvm.MethodName) jdk_68_method_2_code (2 : Nat) (Option.none : Option Jvm.ClassFile.FieldType), Jvm.Cond.code ({ cls := "java/util/ArrayList", name := "size", desc := "()I" } : Jvm.MethodName) jdk_38_method_8_code (1 : Nat) (Option.some Jvm.ClassFile.FieldType.int), Jvm.Cond.code ({ cls := "java/util/ArrayList", name := "add", desc := "(Ljava/lang/Object;)Z" } : Jvm.MethodName) jdk_38_method_25_code (2 : Nat) (Option.some Jvm.ClassFile.FieldType.boolean), Jvm.Cond.code ({ cls := "java/util/ArrayList", name := "add", desc := "(Ljava/lang/Object;[Ljava/lang/Object;I)V" } : Jvm.MethodName) jdk_38_method_24_code (4 : Nat) (Option.none : Option Jvm.ClassFile.FieldType), Jvm.Cond.code ({ cls := "java/util/ArrayList", name := "grow", desc := "()[Ljava/lang/Object;" } : Jvm.MethodName) jdk_38_method_7_code (1 : Nat) (Option.some (Jvm.ClassFile.FieldType.array (Jvm.ClassFile.FieldType.object "java/lang/Object"))), Jvm.Cond.code ({ cls := "java/util/ArrayList", name := "grow", desc := "(I)[Ljava/lang/Object;" } : Jvm.MethodName) jdk_38_method_6_code (4 : Nat) (Option.some (Jvm.ClassFile.FieldType.array (Jvm.ClassFile.FieldType.object "java/lang/Object"))), Jvm.Cond.code ({ cls := "java/lang/Math", name := "max", desc := "(II)I" } : Jvm.MethodName) jdk_29_method_65_code (2 : Nat) (Option.some Jvm.ClassFile.FieldType.int), Jvm.Cond.code ({ cls := "com/example/vectorfire/vectorfire/model/PackedLines", name := "size", desc := "()I" } : Jvm.MethodName) prog_8_method_4_code (1 : Nat) (Option.some Jvm.ClassFile.FieldType.int), Jvm.Cond.code ({ cls := "java/lang/String", name := "<init>", desc := "([C)V" } : Jvm.MethodName) jdk_42_method_3_code (2 : Nat) (Option.none : Option Jvm.ClassFile.FieldType), Jvm.Cond.code ({ cls := "java/lang/String", name := "<init>", desc := "([CIILjava/lang/Void;)V" } : Jvm.MethodName) jdk_42_method_149_code (6 : Nat) (Option.none : Option Jvm.ClassFile.FieldType), Jvm.Cond.code ({ cls := "java/lang/StringUTF16", name := "compress", desc := "([CII)[B" } : Jvm.MethodName) jdk_52_method_16_code (6 : Nat) (Option.some (Jvm.ClassFile.FieldType.array Jvm.ClassFile.FieldType.byte)), Jvm.Cond.code ({ cls := "java/lang/StringUTF16", name := "compress", desc := "([CI[BII)I" } : Jvm.MethodName) jdk_52_method_21_code (7 : Nat) (Option.some Jvm.ClassFile.FieldType.int), Jvm.Cond.code ({ cls := "java/lang/StringUTF16", name := "coderFromArrayLen", desc := "([BI)B" } : Jvm.MethodName) jdk_52_method_15_code (2 : Nat) (Option.some Jvm.ClassFile.FieldType.byte), Jvm.Cond.code ({ cls := "java/lang/String", name := "valueOf", desc := "(C)Ljava/lang/String;" } : Jvm.MethodName) jdk_42_method_139_code (1 : Nat) (Option.some (Jvm.ClassFile.FieldType.object "java/lang/String")), Jvm.Cond.code ({ cls := "java/lang/StringLatin1", name := "canEncode", desc := "(C)Z" } : Jvm.MethodName) jdk_43_method_3_code (1 : Nat) (Option.some Jvm.ClassFile.FieldType.boolean), Jvm.Cond.code ({ cls := "java/lang/StringLatin1", name := "toBytes", desc := "(C)[B" } : Jvm.MethodName) jdk_43_method_46_code (1 : Nat) (Option.some (Jvm.ClassFile.FieldType.array Jvm.ClassFile.FieldType.byte)), Jvm.Cond.code ({ cls := "java/lang/String", name := "<init>", desc := "([BB)V" } : Jvm.MethodName) jdk_42_method_151_code (3 : Nat) (Option.none : Option Jvm.ClassFile.FieldType), Jvm.Cond.code ({ cls := "java/util/ArrayList", name := "get", desc := "(I)Ljava/lang/Object;" } : Jvm.MethodName) jdk_38_method_20_code (2 : Nat) (Option.some (Jvm.ClassFile.FieldType.object "java/lang/Object")), Jvm.Cond.code ({ cls := "java/util/Objects", name := "checkIndex", desc := "(II)I" } : Jvm.MethodName) jdk_31_method_17_code (2 : Nat) (Option.some Jvm.ClassFile.FieldType.int), Jvm.Cond.code ({ cls := "jdk/internal/util/Preconditions", name := "checkIndex", desc := "(IILjava/util/function/BiFunction;)I" } : Jvm.MethodName) jdk_41_method_11_code (3 : Nat) (Option.some Jvm.ClassFile.FieldType.int), Jvm.Cond.code ({ cls := "java/util/ArrayList", name := "elementData", desc := "(I)Ljava/lang/Object;" } : Jvm.MethodName) jdk_38_method_18_code (2 : Nat) (Option.some (Jvm.ClassFile.FieldType.object "java/lang/Object")), Jvm.Cond.code ({ cls := "java/util/Objects", name := "requireNonNull", desc := "(Ljava/lang/Object;)Ljava/lang/Object;" } : Jvm.MethodName) jdk_31_method_10_code (1 : Nat) (Option.some (Jvm.ClassFile.FieldType.object "java/lang/Object")), Jvm.Cond.code ({ cls := "java/lang/StringBuilder", name := "append", desc := "(Ljava/lang/String;)Ljava/lang/StringBuilder;" } : Jvm.MethodName) jdk_67_method_7_code (2 : Nat) (Option.some (Jvm.ClassFile.FieldType.object "java/lang/StringBuilder")), Jvm.Cond.code ({ cls := "java/lang/AbstractStringBuilder", name := "append", desc := "(Ljava/lang/String;)Ljava/lang/AbstractStringBuilder;" } : Jvm.MethodName) jdk_68_method_22_code (3 : Nat) (Option.some (Jvm.ClassFile.FieldType.object "java/lang/AbstractStringBuilder")), Jvm.Cond.code ({ cls := "java/lang/String", name := "length", desc := "()I" } : Jvm.MethodName) jdk_42_method_54_code (1 : Nat) (Option.some Jvm.ClassFile.FieldType.int), Jvm.Cond.code ({ cls := "java/lang/String", name := "coder", desc := "()B" } : Jvm.MethodName) jdk_42_method_152_code (1 : Nat) (Option.some Jvm.ClassFile.FieldType.byte), Jvm.Cond.code ({ cls := "java/lang/AbstractStringBuilder", name := "ensureCapacityInternal", desc := "(I)V" } : Jvm.MethodName) jdk_68_method_9_code (3 : Nat) (Option.none : Option Jvm.ClassFile.FieldType), Jvm.Cond.code ({ cls := "java/lang/AbstractStringBuilder", name := "putStringAt", desc := "(ILjava/lang/String;)V" } : Jvm.MethodName) jdk_68_method_73_code (3 : Nat) (Option.none : Option Jvm.ClassFile.FieldType), Jvm.Cond.code ({ cls := "java/lang/AbstractStringBuilder", name := "inflateIfNeededFor", desc := "(Ljava/lang/String;)V" } : Jvm.MethodName) jdk_68_method_71_code (2 : Nat) (Option.none : Option Jvm.ClassFile.FieldType), Jvm.Cond.code ({ cls := "java/lang/String", name := "getBytes", desc := "([BIB)V" } : Jvm.MethodName) jdk_42_method_147_code (4 : Nat) (Option.none : Option Jvm.ClassFile.FieldType), Jvm.Cond.code ({ cls := "java/lang/StringBuilder", name := "length", desc := "()I" } : Jvm.MethodName) jdk_67_method_93_code (1 : Nat) (Option.some Jvm.ClassFile.FieldType.int), Jvm.Cond.code ({ cls := "java/lang/AbstractStringBuilder", name := "length", desc := "()I" } : Jvm.MethodName) jdk_68_method_6_code (1 : Nat) (Option.some Jvm.ClassFile.FieldType.int), Jvm.Cond.code ({ cls := "java/lang/StringBuilder", name := "toString", desc := "()Ljava/lang/String;" } : Jvm.MethodName) jdk_67_method_42_code (1 : Nat) (Option.some (Jvm.ClassFile.FieldType.object "java/lang/String")), Jvm.Cond.code ({ cls := "java/lang/String", name := "<init>", desc := "(Ljava/lang/StringBuilder;)V" } : Jvm.MethodName) jdk_42_method_53_code (2 : Nat) (Option.none : Option Jvm.ClassFile.FieldType), Jvm.Cond.code ({ cls := "java/lang/String", name := "<init>", desc := "(Ljava/lang/AbstractStringBuilder;Ljava/lang/Void;)V" } : Jvm.MethodName) jdk_42_method_150_code (5 : Nat) (Option.none : Option Jvm.ClassFile.FieldType), Jvm.Cond.code ({ cls := "java/lang/AbstractStringBuilder", name := "getValue", desc := "()[B" } : Jvm.MethodName) jdk_68_method_64_code (1 : Nat) (Option.some (Jvm.ClassFile.FieldType.array Jvm.ClassFile.FieldType.byte)), Jvm.Cond.code ({ cls := "java/lang/AbstractStringBuilder", name := "isLatin1", desc := "()Z" } : Jvm.MethodName) jdk_68_method_68_code (1 : Nat) (Option.some Jvm.ClassFile.FieldType.boolean), Jvm.Cond.code ({ cls := "java/util/Arrays", name := "copyOfRange", desc := "([BII)[B" } : Jvm.MethodName) jdk_65_method_132_code (3 : Nat) (Option.some (Jvm.ClassFile.FieldType.array Jvm.ClassFile.FieldType.byte)), Jvm.Cond.code ({ cls := "java/util/Arrays", name := "copyOfRangeByte", desc := "([BII)[B" } : Jvm.MethodName) jdk_65_method_133_code (5 : Nat) (Option.some (Jvm.ClassFile.FieldType.array Jvm.ClassFile.FieldType.byte)), Jvm.Cond.code ({ cls := "java/util/Arrays", name := "checkLength", desc := "(II)V" } : Jvm.MethodName) jdk_65_method_131_code (2 : Nat) (Option.none : Option Jvm.ClassFile.FieldType), Jvm.Cond.code ({ cls := "java/lang/Math", name := "min", desc := "(II)I" } : Jvm.MethodName) jdk_29_method_69_code (2 : Nat) (Option.some Jvm.ClassFile.FieldType.int), Jvm.Cond.code ({ cls := "com/example/vectorfire/vectorfire/model/PackedLines", name := "<init>", desc := "(Ljava/lang/String;[I)V" } : Jvm.MethodName) prog_8_method_1_code (3 : Nat) (Option.none : Option Jvm.ClassFile.FieldType), Jvm.Cond.code ({ cls := "com/example/vectorfire/vectorfire/model/PackedLines", name := "get", desc := "(I)Ljava/lang/Object;" } : Jvm.MethodName) prog_8_method_7_code (2 : Nat) (Option.some (Jvm.ClassFile.FieldType.object "java/lang/Object")), Jvm.Cond.code ({ cls := "com/example/vectorfire/vectorfire/model/PackedLines", name := "get", desc := "(I)Ljava/lang/String;" } : Jvm.MethodName) prog_8_method_3_code (2 : Nat) (Option.some (Jvm.ClassFile.FieldType.object "java/lang/String")), Jvm.Cond.code ({ cls := "java/lang/String", name := "substring", desc := "(II)Ljava/lang/String;" } : Jvm.MethodName) jdk_42_method_92_code (5 : Nat) (Option.some (Jvm.ClassFile.FieldType.object "java/lang/String")), Jvm.Cond.code ({ cls := "java/lang/String", name := "checkBoundsBeginEnd", desc := "(III)V" } : Jvm.MethodName) jdk_42_method_158_code (3 : Nat) (Option.none : Option Jvm.ClassFile.FieldType), Jvm.Cond.code ({ cls := "jdk/internal/util/Preconditions", name := "checkFromToIndex", desc := "(IIILjava/util/function/BiFunction;)I" } : Jvm.MethodName) jdk_41_method_12_code (4 : Nat) (Option.some Jvm.ClassFile.FieldType.int), Jvm.Cond.code ({ cls := "java/lang/String", name := "isLatin1", desc := "()Z" } : Jvm.MethodName) jdk_42_method_154_code (1 : Nat) (Option.some Jvm.ClassFile.FieldType.boolean), Jvm.Cond.code ({ cls := "java/lang/StringLatin1", name := "newString", desc := "([BII)Ljava/lang/String;" } : Jvm.MethodName) jdk_43_method_47_code (3 : Nat) (Option.some (Jvm.ClassFile.FieldType.object "java/lang/String")), Jvm.Cond.code ({ cls := "java/lang/String", name := "equals", desc := "(Ljava/lang/Object;)Z" } : Jvm.MethodName) jdk_42_method_66_code (3 : Nat) (Option.some Jvm.ClassFile.FieldType.boolean), Jvm.Cond.code ({ cls := "java/lang/StringLatin1", name := "equals", desc := "([B[B)Z" } : Jvm.MethodName) jdk_43_method_13_code (3 : Nat) (Option.some Jvm.ClassFile.FieldType.boolean)]
set_option maxRecDepth 65536 in
theorem codes_eq : words1.filter isCode = codes1 := rfl
theorem w_codes : ∀ c ∈ words1.filter isCode, c.before args0 about1 = true := by
  rw [codes_eq]
  intro c hc
  simp only [codes1, List.mem_cons, List.not_mem_nil, or_false] at hc
  rcases hc with rfl | rfl | rfl | rfl | rfl | rfl | rfl | rfl | rfl | rfl | rfl | rfl | rfl | rfl | rfl | rfl | rfl | rfl | rfl | rfl | rfl | rfl | rfl | rfl | rfl | rfl | rfl | rfl | rfl | rfl | rfl | rfl | rfl | rfl | rfl | rfl | rfl | rfl | rfl | rfl | rfl | rfl | rfl | rfl | rfl | rfl | rfl | rfl | rfl | rfl | rfl | rfl | rfl | rfl | rfl | rfl | rfl | rfl | rfl
  · exact w_c0
  · exact w_c1
  · exact w_c2
  · exact w_c3
  · exact w_c4
  · exact w_c5
  · exact w_c6
  · exact w_c7
  · exact w_c8
  · exact w_c9
  · exact w_c10
  · exact w_c11
  · exact w_c12
  · exact w_c13
  · exact w_c14
  · exact w_c15
  · exact w_c16
  · exact w_c17
  · exact w_c18
  · exact w_c19
  · exact w_c20
  · exact w_c21
  · exact w_c22
  · exact w_c23
  · exact w_c24
  · exact w_c25
  · exact w_c26
  · exact w_c27
  · exact w_c28
  · exact w_c29
  · exact w_c30
  · exact w_c31
  · exact w_c32
  · exact w_c33
  · exact w_c34
  · exact w_c35
  · exact w_c36
  · exact w_c37
  · exact w_c38
  · exact w_c39
  · exact w_c40
  · exact w_c41
  · exact w_c42
  · exact w_c43
  · exact w_c44
  · exact w_c45
  · exact w_c46
  · exact w_c47
  · exact w_c48
  · exact w_c49
  · exact w_c50
  · exact w_c51
  · exact w_c52
  · exact w_c53
  · exact w_c54
  · exact w_c55
  · exact w_c56
  · exact w_c57
  · exact w_c58
set_option maxRecDepth 65536 in
theorem w_t1 : (words1.take 24).all (fun c => isCode c || c.before args0 about1) = true := by decide +kernel
set_option maxRecDepth 65536 in
theorem w_t2 : ((words1.drop 24).take 24).all (fun c => isCode c || c.before args0 about1) = true := by decide +kernel
set_option maxRecDepth 65536 in
theorem w_t3 : (((words1.drop 24).drop 24).take 24).all (fun c => isCode c || c.before args0 about1) = true := by decide +kernel
set_option maxRecDepth 65536 in
theorem w_t4 : ((((words1.drop 24).drop 24).drop 24).take 24).all (fun c => isCode c || c.before args0 about1) = true := by decide +kernel
set_option maxRecDepth 65536 in
theorem w_t5 : (((((words1.drop 24).drop 24).drop 24).drop 24).take 24).all (fun c => isCode c || c.before args0 about1) = true := by decide +kernel
set_option maxRecDepth 65536 in
theorem w_t6 : ((((((words1.drop 24).drop 24).drop 24).drop 24).drop 24).take 24).all (fun c => isCode c || c.before args0 about1) = true := by decide +kernel
set_option maxRecDepth 65536 in
theorem w_t7 : (((((((words1.drop 24).drop 24).drop 24).drop 24).drop 24).drop 24).take 24).all (fun c => isCode c || c.before args0 about1) = true := by decide +kernel
set_option maxRecDepth 65536 in
theorem w_t8 : ((((((((words1.drop 24).drop 24).drop 24).drop 24).drop 24).drop 24).drop 24).take 24).all (fun c => isCode c || c.before args0 about1) = true := by decide +kernel
set_option maxRecDepth 65536 in
theorem w_t9 : (((((((((words1.drop 24).drop 24).drop 24).drop 24).drop 24).drop 24).drop 24).drop 24).take 24).all (fun c => isCode c || c.before args0 about1) = true := by decide +kernel
set_option maxRecDepth 65536 in
theorem w_t10 : ((((((((((words1.drop 24).drop 24).drop 24).drop 24).drop 24).drop 24).drop 24).drop 24).drop 24).take 24).all (fun c => isCode c || c.before args0 about1) = true := by decide +kernel
set_option maxRecDepth 65536 in
theorem w_t11 : (((((((((((words1.drop 24).drop 24).drop 24).drop 24).drop 24).drop 24).drop 24).drop 24).drop 24).drop 24).take 24).all (fun c => isCode c || c.before args0 about1) = true := by decide +kernel
set_option maxRecDepth 65536 in
theorem w_t12 : ((((((((((((words1.drop 24).drop 24).drop 24).drop 24).drop 24).drop 24).drop 24).drop 24).drop 24).drop 24).drop 24).take 24).all (fun c => isCode c || c.before args0 about1) = true := by decide +kernel
set_option maxRecDepth 65536 in
theorem w_t13 : (((((((((((((words1.drop 24).drop 24).drop 24).drop 24).drop 24).drop 24).drop 24).drop 24).drop 24).drop 24).drop 24).drop 24).take 24).all (fun c => isCode c || c.before args0 about1) = true := by decide +kernel
set_option maxRecDepth 65536 in
theorem w_t14 : (((((((((((((words1.drop 24).drop 24).drop 24).drop 24).drop 24).drop 24).drop 24).drop 24).drop 24).drop 24).drop 24).drop 24).drop 24).all (fun c => isCode c || c.before args0 about1) = true := by decide +kernel
theorem w_tables : (allAtoms (Jvm.Cond.code x code maxLocals ret :: tables_1)).before args0 about1 = true := by
  rw [allAtoms_all]
  show words1.all (fun c => c.before args0 about1) = true
  refine all_split ?_ w_codes
  rw [← List.take_append_drop 24 words1, List.all_append, w_t1, ← List.take_append_drop 24 (words1.drop 24), List.all_append, w_t2, ← List.take_append_drop 24 ((words1.drop 24).drop 24), List.all_append, w_t3, ← List.take_append_drop 24 (((words1.drop 24).drop 24).drop 24), List.all_append, w_t4, ← List.take_append_drop 24 ((((words1.drop 24).drop 24).drop 24).drop 24), List.all_append, w_t5, ← List.take_append_drop 24 (((((words1.drop 24).drop 24).drop 24).drop 24).drop 24), List.all_append, w_t6, ← List.take_append_drop 24 ((((((words1.drop 24).drop 24).drop 24).drop 24).drop 24).drop 24), List.all_append, w_t7, ← List.take_append_drop 24 (((((((words1.drop 24).drop 24).drop 24).drop 24).drop 24).drop 24).drop 24), List.all_append, w_t8, ← List.take_append_drop 24 ((((((((words1.drop 24).drop 24).drop 24).drop 24).drop 24).drop 24).drop 24).drop 24), List.all_append, w_t9, ← List.take_append_drop 24 (((((((((words1.drop 24).drop 24).drop 24).drop 24).drop 24).drop 24).drop 24).drop 24).drop 24), List.all_append, w_t10, ← List.take_append_drop 24 ((((((((((words1.drop 24).drop 24).drop 24).drop 24).drop 24).drop 24).drop 24).drop 24).drop 24).drop 24), List.all_append, w_t11, ← List.take_append_drop 24 (((((((((((words1.drop 24).drop 24).drop 24).drop 24).drop 24).drop 24).drop 24).drop 24).drop 24).drop 24).drop 24), List.all_append, w_t12, ← List.take_append_drop 24 ((((((((((((words1.drop 24).drop 24).drop 24).drop 24).drop 24).drop 24).drop 24).drop 24).drop 24).drop 24).drop 24).drop 24), List.all_append, w_t13, w_t14]
  rfl
set_option maxRecDepth 65536 in
theorem w_rest : rest_1_c.before args0 about1 = true := by decide +kernel
set_option maxRecDepth 65536 in
theorem w_case : (Jvm.Cond.and given_1 narrow_1).before args0 about1 = true := by decide +kernel
set_option maxRecDepth 65536 in
theorem w_consts : constsHeld consts_1 about1 := Jvm.Lit.constsHeldB_iff.mp (by decide +kernel)
theorem w_applies : (headSpec (Jvm.Cond.code x code maxLocals ret :: tables_1) room_1).applies x e0.platform about1 = true :=
  (Spec.applies_iff w_frames).mpr ⟨w_running, w_runnable, w_alone, w_named, w_hears, w_ripe, w_room, w_tables⟩
theorem atStart : AtStart classFile x code maxLocals ret World_1 tables_1 room_1 Calls_1 rest_1 Pre_1 launch0 p0 e0 about1 theMethod args0 below0 :=
  ⟨lists_1, trivial, launch0.admits_env _ _ _, launch0.least_env, fairChoices_fair.cas, fairChoices_fair.clock, w_frames, w_args, w_heap, w_applies, ⟨w_consts, trivial⟩, w_rest, w_case⟩
end start1
theorem witness_1 : WitnessClaimed_1 := ⟨start1.p0, start1.e0, start1.about1, start1.theMethod, start1.args0, start1.below0, start1.atStart⟩
end Jvm.Pilot.@@N@@
