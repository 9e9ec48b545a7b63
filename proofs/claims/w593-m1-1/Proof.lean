import JvmDerived
import JvmDerived.Pilot.@@N@@Statement
import JvmDerived.Pilot.@@N@@Code
set_option linter.unusedVariables false
set_option linter.unusedSimpArgs false
/- laws to paste: Road.backV, Road.eqW, Road.lenW, Road.chN (cut by pick.py; bodies as the Statement names them) -/
namespace Jvm.Pilot.@@N@@
namespace StrChars
open Jvm Sem ClassFile Op Lib Jvm.Stand Jvm.Free.XT Jvm.Free.ALB Jvm.Free.JM Jvm.Free
open Jvm.Lib.Cold (StaticIs)
/-- a char array whose places are chars -/
def Ch (a : Addr) (A : Cell) (U : State) : Prop := Arr .char a A U ∧ Typed .char A
theorem Ch.mv {a : Addr} {A : Cell} {U U' : State} (h : Ch a A U) (hal : U.vm.Alike U'.vm) (hh : U'.heap = U.heap) : Ch a A U' := ⟨h.1.mv hal hh, h.2⟩
theorem Ch.keep {a : Addr} {A : Cell} {U U' : State} (h : Ch a A U) (hal : U.vm.Alike U'.vm) (hk : U'.heap[a]? = some A) : Ch a A U' := ⟨h.1.keep hal hk, h.2⟩
/-- what place i of a char[]'s cell holds -/
def cv (A : Cell) (i : Nat) : Int32 := match A.slots[i]? with | some (.int x) => x | _ => 0
theorem Ch.get {a : Addr} {A : Cell} {U : State} (h : Ch a A U) {i : Nat} (hi : i < A.slots.size) : A.slots[i]? = some (.int (cv A i)) := by
  have e := Array.getElem?_eq_getElem hi
  have f := h.2 i _ e
  unfold cv; rw [e]
  generalize A.slots[i] = v at f
  cases v <;> simp [fits] at f ⊢
/-- the byte that i2b leaves of a char -/
def lo8 (x : Int32) : Int32 := x.toInt8.toInt32
theorem fits_lo8 (y : Int32) : fits .byte (.int (lo8 y)) = true := by
  have h1 := y.toInt8.le_toInt
  have h2 := y.toInt8.toInt_lt
  simp only [lo8, fits, Bool.and_eq_true, decide_eq_true_eq, Int32.le_iff_toInt_le, Int8.toInt_toInt32, show (-128 : Int32).toInt = -128 from by decide, show (127 : Int32).toInt = 127 from by decide]
  omega
/-- A' is A but that each place j of lo .. hi - 1 holds f j -/
def Laid (A A' : Cell) (lo hi : Nat) (f : Nat → Value) : Prop := A'.cls = A.cls ∧ A'.vm = A.vm ∧ A'.slots.size = A.slots.size ∧ ∀ i, A'.slots[i]? = if lo ≤ i ∧ i < hi then some (f i) else A.slots[i]?
theorem Laid.zero (A : Cell) (lo : Nat) (f : Nat → Value) : Laid A A lo (lo + 0) f := ⟨rfl, rfl, rfl, fun i => by rw [if_neg (by omega)]⟩
theorem Laid.step {A Ak : Cell} {lo k : Nat} {f : Nat → Value} {v : Value} (h : Laid A Ak lo k f) (hlo : lo ≤ k) (hk : k < Ak.slots.size) (hv : v = f k) : Laid A (Ak.setSlot k v) lo (k + 1) f := by
  refine ⟨h.1, h.2.1, by simpa [Cell.setSlot] using h.2.2.1, fun i => ?_⟩
  by_cases e : k = i
  · subst e; rw [Cell.slots_setSlot_self v hk, if_pos (by omega), hv]
  · rw [Cell.slots_setSlot_ne v e, h.2.2.2 i]
    by_cases q : lo ≤ i ∧ i < k
    · rw [if_pos q, if_pos (by omega)]
    · rw [if_neg q, if_neg (by omega)]
def U16 : String := "java/lang/StringUTF16"
namespace Cmp5
def yN : MethodName := ⟨"java/lang/StringUTF16", "compress", "([CI[BII)I"⟩
abbrev yB : ByteArray := jdk_52_method_21_code
theorem d0 : decode yB 0 = .ok (.iconst 0, 1) := by decide +kernel
theorem d1 : decode yB 1 = .ok (.istore 5, 2) := by decide +kernel
theorem d3 : decode yB 3 = .ok (.iload 5, 2) := by decide +kernel
theorem d5 : decode yB 5 = .ok (.iload 4, 2) := by decide +kernel
theorem d7 : decode yB 7 = .ok (.if_icmp (.ge) 37, 3) := by decide +kernel
theorem d10 : decode yB 10 = .ok (.aload_n 0, 1) := by decide +kernel
theorem d11 : decode yB 11 = .ok (.iload_n 1, 1) := by decide +kernel
theorem d12 : decode yB 12 = .ok (.caload, 1) := by decide +kernel
theorem d13 : decode yB 13 = .ok (.istore 6, 2) := by decide +kernel
theorem d15 : decode yB 15 = .ok (.iload 6, 2) := by decide +kernel
theorem d17 : decode yB 17 = .ok (.sipush 255, 3) := by decide +kernel
theorem d20 : decode yB 20 = .ok (.if_icmp (.le) 6, 3) := by decide +kernel
theorem d26 : decode yB 26 = .ok (.aload_n 2, 1) := by decide +kernel
theorem d27 : decode yB 27 = .ok (.iload_n 3, 1) := by decide +kernel
theorem d28 : decode yB 28 = .ok (.iload 6, 2) := by decide +kernel
theorem d30 : decode yB 30 = .ok (.i2b, 1) := by decide +kernel
theorem d31 : decode yB 31 = .ok (.bastore, 1) := by decide +kernel
theorem d32 : decode yB 32 = .ok (.iinc 1 1, 3) := by decide +kernel
theorem d35 : decode yB 35 = .ok (.iinc 3 1, 3) := by decide +kernel
theorem d38 : decode yB 38 = .ok (.iinc 5 1, 3) := by decide +kernel
theorem d41 : decode yB 41 = .ok (.goto (-38), 3) := by decide +kernel
theorem d44 : decode yB 44 = .ok (.iload 4, 2) := by decide +kernel
theorem d46 : decode yB 46 = .ok (.ireturn, 1) := by decide +kernel
def site : List Cond := []
def tab : Cond := tabOf yN yB 7 (some .int) site
def P (b : Addr) (A : Cell) (d : Addr) (B : Cell) (o q len : Nat) (args : Array Value) (s : State) : Prop := args = #[.ref b, .int (Int32.ofNat o), .ref d, .int (Int32.ofNat q), .int (Int32.ofNat len)] ∧ Ch b A s ∧ Arr .byte d B s ∧ b ≠ d ∧ o + len ≤ A.slots.size ∧ q + len ≤ B.slots.size ∧ ∀ i, i < len → ¬ 255 < cv A (o + i)
def E (b : Addr) (A : Cell) (d : Addr) (B : Cell) (o q len : Nat) (r : Option Value) (s u : State) : Prop := r = some (.int (Int32.ofNat len)) ∧ ∃ B', Put d B' s u ∧ Laid B B' q (q + len) (fun j => Value.int (lo8 (cv A (o + (j - q)))))
/-- no char of the range above 255: len; the places written hold each char's low byte -/
theorem law (l : Launch) (b : Addr) (A : Cell) (d : Addr) (B : Cell) (o q len : Nat) : Law l yN 5 5 0 0 yB 7 (some .int) site (P b A d B o q len) (E b A d B o q len) (copyLocs d q len) 0 0 := by
  refine Law.of_walk (plainFor_of_name (by decide +kernel)) (by decide +kernel) (by decide +kernel) (by decide) (fun _ _ h => by rw [h.1]; rfl) (fun _ U U' hal hh h => ⟨h.1, h.2.1.mv hal hh, h.2.2.1.mv hal hh, h.2.2.2⟩) (fun r U U' V V' h1 hal h2 h => ⟨h.1, h.2.elim fun B' q => ⟨B', q.1.mv h1 h2, q.2⟩⟩) ?_
  intro p e s m args below meth c s₁ X0 hexec hbytes hml hret hlk hnm hown hh0 W hP
  obtain ⟨rfl, hA, hB, hne, l1, l2, hp⟩ := hP
  have c1 : Steps p.tables e below (s₁.setTop (entryFrame m #[.ref b, .int (Int32.ofNat o), .ref d, .int (Int32.ofNat q), .int (Int32.ofNat len)] 7)) (s₁.setTop (mkF m 0 #[.val (.ref b), .val (.int (Int32.ofNat o)), .val (.ref d), .val (.int (Int32.ofNat q)), .val (.int (Int32.ofNat len)), .unset, .unset] [])) := entry rfl
  have hA0 := hA.1.mv X0.warmed.alike hh0
  have hB0 := hB.mv X0.warmed.alike hh0
  have a31 := hA.1.2.2.2
  have c2 : Steps p.tables e below (s₁.setTop (entryFrame m #[.ref b, .int (Int32.ofNat o), .ref d, .int (Int32.ofNat q), .int (Int32.ofNat len)] 7)) (s₁.setTop (mkF m 3 #[.val (.ref b), .val (.int (Int32.ofNat o)), .val (.ref d), .val (.int (Int32.ofNat q)), .val (.int (Int32.ofNat len)), .val (.int 0), .unset] [])) := c1.trans (by
    refine iconstV X0.here hexec rfl 0 (hb hbytes d0) (by decide) ?_
    refine XS.istore X0.here hexec rfl (hb hbytes d1) rfl rfl ?_
    exact Steps.refl _)
  have loop : ∀ (r i : Nat), i + r = len → ∀ (z : Slot), (z = .unset ∨ ∃ w, z = .val w ∧ w.category = 1) → ∀ (Tl : State) (Bk : Cell), Stand p l e { frames := 0, locals := 0, cells := 0, slots := 0 } s m #[.ref b, .int (Int32.ofNat o), .ref d, .int (Int32.ofNat q), .int (Int32.ofNat len)] below meth c Tl ([] ++ copyLocs d q i) 0 0 → Put d Bk s₁ Tl → Laid B Bk q (q + i) (fun j => Value.int (lo8 (cv A (o + (j - q))))) →
      Steps p.tables e below (s₁.setTop (entryFrame m #[.ref b, .int (Int32.ofNat o), .ref d, .int (Int32.ofNat q), .int (Int32.ofNat len)] 7)) (Tl.setTop (mkF m 3 #[.val (.ref b), .val (.int (Int32.ofNat (o + i))), .val (.ref d), .val (.int (Int32.ofNat (q + i))), .val (.int (Int32.ofNat len)), .val (.int (Int32.ofNat i)), z] [])) → ∃ (T' : State) (B' : Cell) (z' : Slot), Stand p l e { frames := 0, locals := 0, cells := 0, slots := 0 } s m #[.ref b, .int (Int32.ofNat o), .ref d, .int (Int32.ofNat q), .int (Int32.ofNat len)] below meth c T' ([] ++ copyLocs d q len) 0 0 ∧ Put d B' s₁ T' ∧ Laid B B' q (q + len) (fun j => Value.int (lo8 (cv A (o + (j - q))))) ∧
      Steps p.tables e below (s₁.setTop (entryFrame m #[.ref b, .int (Int32.ofNat o), .ref d, .int (Int32.ofNat q), .int (Int32.ofNat len)] 7)) (T'.setTop (mkF m 3 #[.val (.ref b), .val (.int (Int32.ofNat (o + len))), .val (.ref d), .val (.int (Int32.ofNat (q + len))), .val (.int (Int32.ofNat len)), .val (.int (Int32.ofNat len)), z'] [])) := by
    intro r
    induction r with
    | zero =>
      intro i hi z hz Tl Bk Xl pl fl cl
      have hil : i = len := by omega
      rw [hil] at Xl fl cl
      exact ⟨Tl, Bk, z, Xl, pl, fl, cl⟩
    | succ r ih =>
      intro i hi z hz Tl Bk Xl pl fl cl
      have all := X0.warmed.alike.symm.trans Xl.warmed.alike
      have hAl := hA0.keep all (pl.other hne hA0.1)
      have hBk := hB0.like all pl.1 fl.1 fl.2.1 fl.2.2.1
      have hlt : q + i < Bk.slots.size := by rw [fl.2.2.1]; omega
      have c3 : Steps p.tables e below (s₁.setTop (entryFrame m #[.ref b, .int (Int32.ofNat o), .ref d, .int (Int32.ofNat q), .int (Int32.ofNat len)] 7)) (Tl.setTop (mkF m 12 #[.val (.ref b), .val (.int (Int32.ofNat (o + i))), .val (.ref d), .val (.int (Int32.ofNat (q + i))), .val (.int (Int32.ofNat len)), .val (.int (Int32.ofNat i)), z] [.int (Int32.ofNat (o + i)), .ref b])) := cl.trans (by
        refine XS.iload Xl.here hexec rfl (hb hbytes d3) rfl ?_
        refine XS.iload Xl.here hexec rfl (hb hbytes d5) rfl ?_
        refine XS.icmpNo Xl.here hexec rfl (hb hbytes d7) rfl (ii_ge_f (lt32 (by omega) (by omega))) ?_
        refine XS.aloadN Xl.here hexec rfl (hb hbytes d10) rfl rfl ?_
        refine XS.iloadN Xl.here hexec rfl (hb hbytes d11) rfl ?_
        exact Steps.refl _)
      have c4 : Steps p.tables e below (s₁.setTop (entryFrame m #[.ref b, .int (Int32.ofNat o), .ref d, .int (Int32.ofNat q), .int (Int32.ofNat len)] 7)) (Tl.setTop (mkF m 13 #[.val (.ref b), .val (.int (Int32.ofNat (o + i))), .val (.ref d), .val (.int (Int32.ofNat (q + i))), .val (.int (Int32.ofNat len)), .val (.int (Int32.ofNat i)), z] [.int (cv A (o + i))])) := c3.trans (by
        refine Xl.aget hexec hAl rfl (hA.get (i := o + i) (by omega)) rfl rfl (hb hbytes d12) ?_
        exact Steps.refl _)
      have c5 : Steps p.tables e below (s₁.setTop (entryFrame m #[.ref b, .int (Int32.ofNat o), .ref d, .int (Int32.ofNat q), .int (Int32.ofNat len)] 7)) (Tl.setTop (mkF m 15 #[.val (.ref b), .val (.int (Int32.ofNat (o + i))), .val (.ref d), .val (.int (Int32.ofNat (q + i))), .val (.int (Int32.ofNat len)), .val (.int (Int32.ofNat i)), .val (.int (cv A (o + i)))] [])) := c4.trans (by
        refine XS.istoreS Xl.here hexec rfl (hb hbytes d13) rfl rfl hz ?_
        exact Steps.refl _)
      have c6 : Steps p.tables e below (s₁.setTop (entryFrame m #[.ref b, .int (Int32.ofNat o), .ref d, .int (Int32.ofNat q), .int (Int32.ofNat len)] 7)) (Tl.setTop (mkF m 31 #[.val (.ref b), .val (.int (Int32.ofNat (o + i))), .val (.ref d), .val (.int (Int32.ofNat (q + i))), .val (.int (Int32.ofNat len)), .val (.int (Int32.ofNat i)), .val (.int (cv A (o + i)))] [.int (lo8 (cv A (o + i))), .int (Int32.ofNat (q + i)), .ref d])) := c5.trans (by
        refine XS.iload Xl.here hexec rfl (hb hbytes d15) rfl ?_
        refine sipushV Xl.here hexec rfl 255 (hb hbytes d17) (by decide) ?_
        refine XS.icmpYes Xl.here hexec rfl (pc0 := 20) rfl (hb hbytes d20) rfl (ii_le_t (hp i (by omega))) (by decide) rfl ?_
        refine XS.aloadN Xl.here hexec rfl (hb hbytes d26) rfl rfl ?_
        refine XS.iloadN Xl.here hexec rfl (hb hbytes d27) rfl ?_
        refine XS.iload Xl.here hexec rfl (hb hbytes d28) rfl ?_
        refine i2b Xl.here hexec rfl (hb hbytes d30) rfl ?_
        exact Steps.refl _)
      obtain ⟨T7, X7, p7, st7⟩ := Xl.aput hexec hBk rfl hlt rfl (fits_lo8 (cv A (o + i))) (g := (mkF m 31 #[.val (.ref b), .val (.int (Int32.ofNat (o + i))), .val (.ref d), .val (.int (Int32.ofNat (q + i))), .val (.int (Int32.ofNat len)), .val (.int (Int32.ofNat i)), .val (.int (cv A (o + i)))] [.int (lo8 (cv A (o + i))), .int (Int32.ofNat (q + i)), .ref d])) rfl (rest := []) rfl (hb hbytes d31)
      have c8 : Steps p.tables e below (s₁.setTop (entryFrame m #[.ref b, .int (Int32.ofNat o), .ref d, .int (Int32.ofNat q), .int (Int32.ofNat len)] 7)) (T7.setTop (mkF m 32 #[.val (.ref b), .val (.int (Int32.ofNat (o + i))), .val (.ref d), .val (.int (Int32.ofNat (q + i))), .val (.int (Int32.ofNat len)), .val (.int (Int32.ofNat i)), .val (.int (cv A (o + i)))] [])) := c6.trans (st7 _ (Steps.refl _))
      have c9 : Steps p.tables e below (s₁.setTop (entryFrame m #[.ref b, .int (Int32.ofNat o), .ref d, .int (Int32.ofNat q), .int (Int32.ofNat len)] 7)) (T7.setTop (mkF m 3 #[.val (.ref b), .val (.int (Int32.ofNat (o + i) + 1)), .val (.ref d), .val (.int (Int32.ofNat (q + i) + 1)), .val (.int (Int32.ofNat len)), .val (.int (Int32.ofNat i + 1)), .val (.int (cv A (o + i)))] [])) := c8.trans (by
        refine iincV X7.here hexec rfl 1 (hb hbytes d32) (by decide) rfl rfl ?_
        refine iincV X7.here hexec rfl 1 (hb hbytes d35) (by decide) rfl rfl ?_
        refine iincV X7.here hexec rfl 1 (hb hbytes d38) (by decide) rfl rfl ?_
        refine XS.goto X7.here hexec rfl (pc0 := 41) rfl (hb hbytes d41) (by decide) rfl ?_
        exact Steps.refl _)
      have c10 : Steps p.tables e below (s₁.setTop (entryFrame m #[.ref b, .int (Int32.ofNat o), .ref d, .int (Int32.ofNat q), .int (Int32.ofNat len)] 7)) (T7.setTop (mkF m 3 #[.val (.ref b), .val (.int (Int32.ofNat (o + (i + 1)))), .val (.ref d), .val (.int (Int32.ofNat (q + (i + 1)))), .val (.int (Int32.ofNat len)), .val (.int (Int32.ofNat (i + 1))), .val (.int (cv A (o + i)))] [])) := by
        have := c9
        rw [succ32, succ32, succ32] at this
        exact this
      exact ih (i + 1) (by omega) _ (Or.inr ⟨_, rfl, rfl⟩) T7 _ (by rw [copyLocs_step, ← List.append_assoc]; exact X7) (pl.trans p7) (fl.step (by omega) hlt (by simp)) c10
  obtain ⟨T9, B9, z9, X9, p9, f9, g9⟩ := loop len 0 (by omega) .unset (Or.inl rfl) s₁ B (by simpa [copyLocs] using X0) ⟨hB0.1, fun _ _ => rfl, rfl⟩ (Laid.zero _ _ _) c2
  have c11 : Steps p.tables e below (s₁.setTop (entryFrame m #[.ref b, .int (Int32.ofNat o), .ref d, .int (Int32.ofNat q), .int (Int32.ofNat len)] 7)) (T9.setTop (mkF m 46 #[.val (.ref b), .val (.int (Int32.ofNat (o + len))), .val (.ref d), .val (.int (Int32.ofNat (q + len))), .val (.int (Int32.ofNat len)), .val (.int (Int32.ofNat len)), z9] [.int (Int32.ofNat len)])) := g9.trans (by
    refine XS.iload X9.here hexec rfl (hb hbytes d3) rfl ?_
    refine XS.iload X9.here hexec rfl (hb hbytes d5) rfl ?_
    refine XS.icmpYes X9.here hexec rfl (pc0 := 7) rfl (hb hbytes d7) rfl (ii_ge_t (nlt32 (by omega) (Nat.le_refl _))) (by decide) rfl ?_
    refine XS.iload X9.here hexec rfl (hb hbytes d44) rfl ?_
    exact Steps.refl _)
  exact ⟨T9, some (.int (Int32.ofNat len)), _, _, _, X9, by simp, rfl, rfl, (fun h => by cases h), ⟨rfl, B9, p9.from hh0, f9⟩, fun fs hl => c11.trans (X9.ireturnOut hexec hret rfl (Or.inl rfl) (hb hbytes d46) hl)⟩
end Cmp5
namespace Cmp3
def yN : MethodName := ⟨"java/lang/StringUTF16", "compress", "([CII)[B"⟩
abbrev yB : ByteArray := jdk_52_method_16_code
theorem d0 : decode yB 0 = .ok (.iload_n 2, 1) := by decide +kernel
theorem d1 : decode yB 1 = .ok (.newarray .byte, 2) := by decide +kernel
theorem d3 : decode yB 3 = .ok (.astore_n 3, 1) := by decide +kernel
theorem d4 : decode yB 4 = .ok (.aload_n 0, 1) := by decide +kernel
theorem d5 : decode yB 5 = .ok (.iload_n 1, 1) := by decide +kernel
theorem d6 : decode yB 6 = .ok (.aload_n 3, 1) := by decide +kernel
theorem d7 : decode yB 7 = .ok (.iconst 0, 1) := by decide +kernel
theorem d8 : decode yB 8 = .ok (.iload_n 2, 1) := by decide +kernel
theorem d9 : decode yB 9 = .ok (.invokestatic 115, 3) := by decide +kernel
theorem d12 : decode yB 12 = .ok (.istore 4, 2) := by decide +kernel
theorem d14 : decode yB 14 = .ok (.iload 4, 2) := by decide +kernel
theorem d16 : decode yB 16 = .ok (.iload_n 2, 1) := by decide +kernel
theorem d17 : decode yB 17 = .ok (.if_icmp (.eq) 40, 3) := by decide +kernel
theorem d57 : decode yB 57 = .ok (.aload_n 3, 1) := by decide +kernel
theorem d58 : decode yB 58 = .ok (.areturn, 1) := by decide +kernel
def site : List Cond := [.arrayClass .byte, Cmp5.tab] ++ staticW U16 115 Cmp5.yN
def tab : Cond := tabOf yN yB 6 (some (.array .byte)) site
def P (b : Addr) (A : Cell) (o len : Nat) (args : Array Value) (s : State) : Prop := args = #[.ref b, .int (Int32.ofNat o), .int (Int32.ofNat len)] ∧ Ch b A s ∧ o + len ≤ A.slots.size ∧ len ≤ 536870912 ∧ ∀ i, i < len → ¬ 255 < cv A (o + i)
def E (b : Addr) (A : Cell) (o len : Nat) (r : Option Value) (s u : State) : Prop := NewArr .byte "[B" len (fun j => .int (lo8 (cv A (o + j)))) r s u ∧ u.heap.size = s.heap.size + 1
/-- no char of the range above 255: a new byte[] of their low bytes -/
theorem law (l : Launch) (b : Addr) (A : Cell) (o len : Nat) : Law l yN 3 3 1 18 yB 6 (some (.array .byte)) site (P b A o len) (E b A o len) [] 1 len := by
  refine Law.of_walk (plainFor_of_name (by decide +kernel)) (by decide +kernel) (by decide +kernel) (by decide) (fun _ _ h => by rw [h.1]; rfl) (fun _ U U' hal hh h => ⟨h.1, h.2.1.mv hal hh, h.2.2⟩) (fun r U U' V V' h1 hal h2 h => ⟨NewArr.mv r U U' V V' h1 hal h2 h.1, by rw [h1, h2]; exact h.2⟩) ?_
  intro p e s m args below meth c s₁ X0 hexec hbytes hml hret hlk hnm hown hh0 W hP
  obtain ⟨rfl, hA, l1, l2, hp⟩ := hP
  have a31 := hA.1.2.2.2
  have c1 : Steps p.tables e below (s₁.setTop (entryFrame m #[.ref b, .int (Int32.ofNat o), .int (Int32.ofNat len)] 6)) (s₁.setTop (mkF m 0 #[.val (.ref b), .val (.int (Int32.ofNat o)), .val (.int (Int32.ofNat len)), .unset, .unset, .unset] [])) := entry rfl
  have c2 : Steps p.tables e below (s₁.setTop (entryFrame m #[.ref b, .int (Int32.ofNat o), .int (Int32.ofNat len)] 6)) (s₁.setTop (mkF m 1 #[.val (.ref b), .val (.int (Int32.ofNat o)), .val (.int (Int32.ofNat len)), .unset, .unset, .unset] [.int (Int32.ofNat len)])) := c1.trans (by
    refine XS.iloadN X0.here hexec rfl (hb hbytes d0) rfl ?_
    exact Steps.refl _)
  obtain ⟨T3, B3, X3, ba3, bs3, bv3, bh3, bf3, st3⟩ := X0.anew hexec (atype := .byte) (wk W (.arrayClass .byte)) rfl (by show len * 1 ≤ _; omega) (by omega) (g := (mkF m 1 #[.val (.ref b), .val (.int (Int32.ofNat o)), .val (.int (Int32.ofNat len)), .unset, .unset, .unset] [.int (Int32.ofNat len)])) rfl (hb hbytes d1) (rest := []) rfl (Nat.le_refl _) (by show 0 + len ≤ len; omega)
  rw [hh0] at ba3 st3
  have kp3 : XT.Kept s T3 := (XT.Kept.of_eq hh0).push bh3
  have hA3 := hA.keep X3.warmed.alike (kp3 _ _ hA.1.1)
  have hne : b ≠ s.heap.size := hA.1.ne
  have c4 : Steps p.tables e below (s₁.setTop (entryFrame m #[.ref b, .int (Int32.ofNat o), .int (Int32.ofNat len)] 6)) (T3.setTop (mkF m 3 #[.val (.ref b), .val (.int (Int32.ofNat o)), .val (.int (Int32.ofNat len)), .unset, .unset, .unset] [.ref s.heap.size])) := c2.trans (st3 _ (Steps.refl _))
  have c5 : Steps p.tables e below (s₁.setTop (entryFrame m #[.ref b, .int (Int32.ofNat o), .int (Int32.ofNat len)] 6)) (T3.setTop (mkF m 9 #[.val (.ref b), .val (.int (Int32.ofNat o)), .val (.int (Int32.ofNat len)), .val (.ref s.heap.size), .unset, .unset] [.int (Int32.ofNat len), .int 0, .ref s.heap.size, .int (Int32.ofNat o), .ref b])) := c4.trans (by
    refine XS.astoreN X3.here hexec rfl (hb hbytes d3) rfl rfl rfl ?_
    refine XS.aloadN X3.here hexec rfl (hb hbytes d4) rfl rfl ?_
    refine XS.iloadN X3.here hexec rfl (hb hbytes d5) rfl ?_
    refine XS.aloadN X3.here hexec rfl (hb hbytes d6) rfl rfl ?_
    refine iconstV X3.here hexec rfl 0 (hb hbytes d7) (by decide) ?_
    refine XS.iloadN X3.here hexec rfl (hb hbytes d8) rfl ?_
    exact Steps.refl _)
  obtain ⟨v6, T6, X6, E6, g6⟩ := X3.callS hexec (Cmp5.law l b A s.heap.size B3 o 0 len) hown (wks W (staticW U16 115 Cmp5.yN)) (wk W Cmp5.tab) (W := 0) (Nat.le_of_ble_eq_true rfl) (Nat.le_of_ble_eq_true rfl) (Nat.le_refl _) (by show 0 + len + 0 ≤ len; omega) (g := (mkF m 9 #[.val (.ref b), .val (.int (Int32.ofNat o)), .val (.int (Int32.ofNat len)), .val (.ref s.heap.size), .unset, .unset] [.int (Int32.ofNat len), .int (Int32.ofNat 0), .ref s.heap.size, .int (Int32.ofNat o), .ref b])) rfl (by rw [hml]; rfl) c5 (argsL := [.ref b, .int (Int32.ofNat o), .ref s.heap.size, .int (Int32.ofNat 0), .int (Int32.ofNat len)]) (rest := []) rfl rfl (by show 2 * 0 + 0 ≤ _; decide) (hb hbytes d9) (⟨rfl, hA3, ba3, hne, l1, by rw [bs3]; simp, hp⟩)
  obtain ⟨rfl, B6, p6, f6⟩ := E6
  have c7 : Steps p.tables e below (s₁.setTop (entryFrame m #[.ref b, .int (Int32.ofNat o), .int (Int32.ofNat len)] 6)) (T6.setTop (mkF m 12 #[.val (.ref b), .val (.int (Int32.ofNat o)), .val (.int (Int32.ofNat len)), .val (.ref s.heap.size), .unset, .unset] [.int (Int32.ofNat len)])) := g6
  have c8 : Steps p.tables e below (s₁.setTop (entryFrame m #[.ref b, .int (Int32.ofNat o), .int (Int32.ofNat len)] 6)) (T6.setTop (mkF m 58 #[.val (.ref b), .val (.int (Int32.ofNat o)), .val (.int (Int32.ofNat len)), .val (.ref s.heap.size), .val (.int (Int32.ofNat len)), .unset] [.ref s.heap.size])) := c7.trans (by
    refine XS.istore X6.here hexec rfl (hb hbytes d12) rfl rfl ?_
    refine XS.iload X6.here hexec rfl (hb hbytes d14) rfl ?_
    refine XS.iloadN X6.here hexec rfl (hb hbytes d16) rfl ?_
    refine XS.icmpYes X6.here hexec rfl (pc0 := 17) rfl (hb hbytes d17) rfl (ii_eq_t rfl) (by decide) rfl ?_
    refine XS.aloadN X6.here hexec rfl (hb hbytes d57) rfl rfl ?_
    exact Steps.refl _)
  have X8 := X6.wide (L' := []) (cells' := 1) (slots' := len) (fun x hx hlt => by
    simp only [List.nil_append, copyLocs, List.mem_map, List.mem_range] at hx
    obtain ⟨i, -, rfl⟩ := hx
    exact absurd hlt (Nat.lt_irrefl _)) (Nat.le_refl _) (by omega)
  exact ⟨T6, some (.ref s.heap.size), _, _, _, X8, rfl, rfl, rfl, (fun h => by cases h), ⟨⟨rfl, B6, ba3.like (X3.warmed.alike.symm.trans X6.warmed.alike) p6.1 f6.1 f6.2.1 f6.2.2.1, f6.2.1.trans bv3, by rw [X6.warmed.alike.findClass, f6.1]; exact bf3, by rw [f6.2.2.1, bs3]; simp, fun j hj => by rw [f6.2.2.2 j, if_pos (by omega)]; rfl, kp3.put p6 (Nat.le_refl _)⟩, by rw [p6.2.2, bh3, hh0]; simp⟩, fun fs hl => c8.trans (X8.areturnOut hexec rfl hret rfl (hb hbytes d58) hl)⟩
end Cmp3
namespace CodL
def yN : MethodName := ⟨"java/lang/StringUTF16", "coderFromArrayLen", "([BI)B"⟩
abbrev yB : ByteArray := jdk_52_method_15_code
theorem d0 : decode yB 0 = .ok (.iload_n 1, 1) := by decide +kernel
theorem d1 : decode yB 1 = .ok (.aload_n 0, 1) := by decide +kernel
theorem d2 : decode yB 2 = .ok (.arraylength, 1) := by decide +kernel
theorem d3 : decode yB 3 = .ok (.isub, 1) := by decide +kernel
theorem d4 : decode yB 4 = .ok (.bipush 31, 2) := by decide +kernel
theorem d6 : decode yB 6 = .ok (.iushr, 1) := by decide +kernel
theorem d7 : decode yB 7 = .ok (.i2b, 1) := by decide +kernel
theorem d8 : decode yB 8 = .ok (.ireturn, 1) := by decide +kernel
def site : List Cond := []
def tab : Cond := tabOf yN yB 2 (some .byte) site
def P (d : Addr) (B : Cell) (args : Array Value) (s : State) : Prop := args = #[.ref d, .int (Int32.ofNat B.slots.size)] ∧ Arr .byte d B s
def E (r : Option Value) (s u : State) : Prop := XT.PureE (some (.int 0)) r s u
/-- an array as long as the number of chars: LATIN1 -/
theorem law (l : Launch) (d : Addr) (B : Cell) : Law l yN 2 2 0 0 yB 2 (some .byte) site (P d B) E [] 0 0 := by
  refine Law.of_walk (plainFor_of_name (by decide +kernel)) (by decide +kernel) (by decide +kernel) (by decide) (fun _ _ h => by rw [h.1]; rfl) (fun _ U U' hal hh h => ⟨h.1, h.2.mv hal hh⟩) (fun r U U' V V' h1 hal h2 h => XT.PureE.mv r U U' V V' h1 hal h2 h) ?_
  intro p e s m args below meth c s₁ X0 hexec hbytes hml hret hlk hnm hown hh0 W hP
  obtain ⟨rfl, hB⟩ := hP
  have hB0 := hB.mv X0.warmed.alike hh0
  have c1 : Steps p.tables e below (s₁.setTop (entryFrame m #[.ref d, .int (Int32.ofNat B.slots.size)] 2)) (s₁.setTop (mkF m 0 #[.val (.ref d), .val (.int (Int32.ofNat B.slots.size))] [])) := entry rfl
  have c2 : Steps p.tables e below (s₁.setTop (entryFrame m #[.ref d, .int (Int32.ofNat B.slots.size)] 2)) (s₁.setTop (mkF m 2 #[.val (.ref d), .val (.int (Int32.ofNat B.slots.size))] [.ref d, .int (Int32.ofNat B.slots.size)])) := c1.trans (by
    refine XS.iloadN X0.here hexec rfl (hb hbytes d0) rfl ?_
    refine XS.aloadN X0.here hexec rfl (hb hbytes d1) rfl rfl ?_
    exact Steps.refl _)
  have c3 : Steps p.tables e below (s₁.setTop (entryFrame m #[.ref d, .int (Int32.ofNat B.slots.size)] 2)) (s₁.setTop (mkF m 8 #[.val (.ref d), .val (.int (Int32.ofNat B.slots.size))] [.int (lo8 (ushr (Int32.ofNat B.slots.size - Int32.ofNat B.slots.size) 31))])) := c2.trans (by
    refine X0.alen hexec hB0 rfl rfl (hb hbytes d2) ?_
    refine XS.isub X0.here hexec rfl (hb hbytes d3) rfl ?_
    refine bipushV X0.here hexec rfl 31 (hb hbytes d4) (by decide) ?_
    refine iushr X0.here hexec rfl (hb hbytes d6) rfl ?_
    refine i2b X0.here hexec rfl (hb hbytes d7) rfl ?_
    exact Steps.refl _)
  have e0 : lo8 (ushr (Int32.ofNat B.slots.size - Int32.ofNat B.slots.size) 31) = 0 := by rw [Int32.sub_self]; decide
  rw [e0] at c3
  exact ⟨s₁, some (.int 0), _, _, _, X0, rfl, rfl, rfl, (fun h => by cases h), ⟨rfl, hh0⟩, fun fs hl => c3.trans (X0.ireturnOut hexec hret rfl (Or.inr (Or.inr (Or.inl rfl))) (hb hbytes d8) hl)⟩
end CodL
/-- the String at a is Latin-1 over a new byte[] (the heap's one new cell): the low bytes of the len chars of A from o on; every cell but a is kept -/
def Got (a : Addr) (D : Cell) (fV fC : Field) (A : Cell) (o len : Nat) (r : Option Value) (s u : State) : Prop := r = none ∧ ∃ D' V : Cell, Blank "java/lang/String" a D' u ∧ Same D D' [fV.slot, fC.slot] ∧ D'.slots[fV.slot]? = some (.ref s.heap.size) ∧ D'.slots[fC.slot]? = some (.int 0) ∧ Arr .byte s.heap.size V u ∧ V.vm = .none ∧ u.vm.findClass "[B" = some V.cls ∧ V.slots.size = len ∧ (∀ j, j < len → V.slots[j]? = some (.int (lo8 (cv A (o + j))))) ∧ (∀ (y : Addr) (c : Cell), y ≠ a → s.heap[y]? = some c → u.heap[y]? = some c) ∧ u.heap.size = s.heap.size + 1
theorem Got.mv {a : Addr} {D A : Cell} {fV fC : Field} {o len : Nat} : ∀ r (U U' V V' : State), U'.heap = U.heap → V.vm.Alike V'.vm → V'.heap = V.heap → Got a D fV fC A o len r U V → Got a D fV fC A o len r U' V' :=
  fun r U U' V V' h1 hal h2 ⟨e0, D', X, a1, a2, a3, a4, a5, a6, a7, a8, a9, a10, a11⟩ => ⟨e0, D', X, a1.mv hal h2, a2, by rw [h1]; exact a3, a4, by rw [h1]; exact a5.mv hal h2, a6, by rw [hal.findClass]; exact a7, a8, a9, by rw [h1, h2]; exact a10, by rw [h1, h2]; exact a11⟩
namespace New4
def yN : MethodName := ⟨"java/lang/String", "<init>", "([CIILjava/lang/Void;)V"⟩
abbrev yB : ByteArray := jdk_42_method_149_code
theorem d0 : decode yB 0 = .ok (.aload_n 0, 1) := by decide +kernel
theorem d1 : decode yB 1 = .ok (.invokespecial 1, 3) := by decide +kernel
theorem d4 : decode yB 4 = .ok (.iload_n 3, 1) := by decide +kernel
theorem d5 : decode yB 5 = .ok (.ifCond (.ne) 22, 3) := by decide +kernel
theorem d27 : decode yB 27 = .ok (.getstatic 38, 3) := by decide +kernel
theorem d30 : decode yB 30 = .ok (.ifCond (.eq) 28, 3) := by decide +kernel
theorem d33 : decode yB 33 = .ok (.aload_n 1, 1) := by decide +kernel
theorem d34 : decode yB 34 = .ok (.iload_n 2, 1) := by decide +kernel
theorem d35 : decode yB 35 = .ok (.iload_n 3, 1) := by decide +kernel
theorem d36 : decode yB 36 = .ok (.invokestatic 177, 3) := by decide +kernel
theorem d39 : decode yB 39 = .ok (.astore 5, 2) := by decide +kernel
theorem d41 : decode yB 41 = .ok (.aload_n 0, 1) := by decide +kernel
theorem d42 : decode yB 42 = .ok (.aload 5, 2) := by decide +kernel
theorem d44 : decode yB 44 = .ok (.iload_n 3, 1) := by decide +kernel
theorem d45 : decode yB 45 = .ok (.invokestatic 47, 3) := by decide +kernel
theorem d48 : decode yB 48 = .ok (.putfield 15, 3) := by decide +kernel
theorem d51 : decode yB 51 = .ok (.aload_n 0, 1) := by decide +kernel
theorem d52 : decode yB 52 = .ok (.aload 5, 2) := by decide +kernel
theorem d54 : decode yB 54 = .ok (.putfield 9, 3) := by decide +kernel
theorem d57 : decode yB 57 = .ok (.return_, 1) := by decide +kernel
def site : List Cond := [.fieldLink "java/lang/String" 38 "java/lang/String" "COMPACT_STRINGS" "Z", Cmp3.tab, CodL.tab, .laysFinal "java/lang/String" "java/lang/String" "value" "[B", .fieldLink "java/lang/String" 9 "java/lang/String" "value" "[B", .laysFinal "java/lang/String" "java/lang/String" "coder" "B", .fieldLink "java/lang/String" 15 "java/lang/String" "coder" "B"] ++ objW "java/lang/String" 1 ++ staticW "java/lang/String" 177 Cmp3.yN ++ staticW "java/lang/String" 47 CodL.yN
def tab : Cond := tabOf yN yB 6 none site
def P (a : Addr) (D : Cell) (fV fC : Field) (b : Addr) (A : Cell) (z : Int32) (o len : Nat) (args : Array Value) (s : State) : Prop := args = #[.ref a, .ref b, .int (Int32.ofNat o), .int (Int32.ofNat len), .null] ∧ Blank "java/lang/String" a D s ∧ Found "java/lang/String" "value" "[B" fV s ∧ Found "java/lang/String" "coder" "B" fC s ∧ Ch b A s ∧ StaticIs s "java/lang/String" "COMPACT_STRINGS" "Z" (.int z) ∧ ¬ z = 0 ∧ 0 < len ∧ o + len ≤ A.slots.size ∧ len ≤ 536870912 ∧ ∀ i, i < len → ¬ 255 < cv A (o + i)
def E (a : Addr) (D : Cell) (fV fC : Field) (A : Cell) (o len : Nat) (r : Option Value) (s u : State) : Prop := Got a D fV fC A o len r s u
/-- len > 0, no char of the range above 255: a Latin-1 String of their low bytes -/
theorem law (l : Launch) (a : Addr) (D : Cell) (fV fC : Field) (b : Addr) (A : Cell) (z : Int32) (o len : Nat) : Law l yN 5 4 2 35 yB 6 none site (P a D fV fC b A z o len) (E a D fV fC A o len) [⟨a, fC.slot⟩, ⟨a, fV.slot⟩] 1 len := by
  refine Law.of_walk (plainFor_of_name (by decide +kernel)) (by decide +kernel) (by decide +kernel) (by decide) (fun _ _ h => by rw [h.1]; rfl) (fun _ U U' hal hh h => ⟨h.1, h.2.1.mv hal hh, h.2.2.1.al hal, h.2.2.2.1.al hal, h.2.2.2.2.1.mv hal hh, h.2.2.2.2.2.1.there hal hh, h.2.2.2.2.2.2⟩) (fun r U U' V V' h1 hal h2 h => Got.mv r U U' V V' h1 hal h2 h) ?_
  intro p e s m args below meth c s₁ X0 hexec hbytes hml hret hlk hnm hown hh0 W hP
  obtain ⟨rfl, hB, f1, f2, hA, s1, hz, l0, l1, l2, hp⟩ := hP
  have a31 := hA.1.2.2.2
  have c1 : Steps p.tables e below (s₁.setTop (entryFrame m #[.ref a, .ref b, .int (Int32.ofNat o), .int (Int32.ofNat len), .null] 6)) (s₁.setTop (mkF m 0 #[.val (.ref a), .val (.ref b), .val (.int (Int32.ofNat o)), .val (.int (Int32.ofNat len)), .val .null, .unset] [])) := entry rfl
  have c2 : Steps p.tables e below (s₁.setTop (entryFrame m #[.ref a, .ref b, .int (Int32.ofNat o), .int (Int32.ofNat len), .null] 6)) (s₁.setTop (mkF m 1 #[.val (.ref a), .val (.ref b), .val (.int (Int32.ofNat o)), .val (.int (Int32.ofNat len)), .val .null, .unset] [.ref a])) := c1.trans (by
    refine XS.aloadN X0.here hexec rfl (hb hbytes d0) rfl rfl ?_
    exact Steps.refl _)
  obtain ⟨T3, X3, q3, st3⟩ := X0.oinit hexec hown (wks W (objW "java/lang/String" 1)) (g := (mkF m 1 #[.val (.ref a), .val (.ref b), .val (.int (Int32.ofNat o)), .val (.int (Int32.ofNat len)), .val .null, .unset] [.ref a])) rfl (by rw [hml]; rfl) (rest := []) rfl (hb hbytes d1) (W := 0) (by show 2 * 0 + 0 ≤ _; decide) (Nat.le_of_ble_eq_true rfl) (Nat.le_of_ble_eq_true rfl)
  have hh3 := q3.trans hh0
  have c4 : Steps p.tables e below (s₁.setTop (entryFrame m #[.ref a, .ref b, .int (Int32.ofNat o), .int (Int32.ofNat len), .null] 6)) (T3.setTop (mkF m 27 #[.val (.ref a), .val (.ref b), .val (.int (Int32.ofNat o)), .val (.int (Int32.ofNat len)), .val .null, .unset] [])) := (c2.trans (st3 _ (Steps.refl _))).trans (by
    refine XS.iloadN X3.here hexec rfl (hb hbytes d4) rfl ?_
    refine XS.ifYes X3.here hexec rfl (pc0 := 5) rfl (hb hbytes d5) rfl (i0_ne_t (nz32 (by omega) l0)) (by decide) rfl ?_
    exact Steps.refl _)
  obtain ⟨T5, X5, q5, st5⟩ := X3.sget hexec hown (wk W (.fieldLink "java/lang/String" 38 "java/lang/String" "COMPACT_STRINGS" "Z")) s1 (fun _ _ h => by rw [hh3]; exact h) (g := (mkF m 27 #[.val (.ref a), .val (.ref b), .val (.int (Int32.ofNat o)), .val (.int (Int32.ofNat len)), .val .null, .unset] [])) rfl (hb hbytes d27)
  have hh5 := q5.trans hh3
  have c6 : Steps p.tables e below (s₁.setTop (entryFrame m #[.ref a, .ref b, .int (Int32.ofNat o), .int (Int32.ofNat len), .null] 6)) (T5.setTop (mkF m 30 #[.val (.ref a), .val (.ref b), .val (.int (Int32.ofNat o)), .val (.int (Int32.ofNat len)), .val .null, .unset] [.int z])) := c4.trans (st5 _ (Steps.refl _))
  have c7 : Steps p.tables e below (s₁.setTop (entryFrame m #[.ref a, .ref b, .int (Int32.ofNat o), .int (Int32.ofNat len), .null] 6)) (T5.setTop (mkF m 36 #[.val (.ref a), .val (.ref b), .val (.int (Int32.ofNat o)), .val (.int (Int32.ofNat len)), .val .null, .unset] [.int (Int32.ofNat len), .int (Int32.ofNat o), .ref b])) := c6.trans (by
    refine XS.ifNo X5.here hexec rfl (hb hbytes d30) rfl (i0_eq_f hz) ?_
    refine XS.aloadN X5.here hexec rfl (hb hbytes d33) rfl rfl ?_
    refine XS.iloadN X5.here hexec rfl (hb hbytes d34) rfl ?_
    refine XS.iloadN X5.here hexec rfl (hb hbytes d35) rfl ?_
    exact Steps.refl _)
  obtain ⟨v8, T8, X8, E8, g8⟩ := X5.callS hexec (Cmp3.law l b A o len) hown (wks W (staticW "java/lang/String" 177 Cmp3.yN)) (wk W Cmp3.tab) (W := 0) (Nat.le_of_ble_eq_true rfl) (Nat.le_of_ble_eq_true rfl) (Nat.le_refl _) (by show 0 + len ≤ len; omega) (g := (mkF m 36 #[.val (.ref a), .val (.ref b), .val (.int (Int32.ofNat o)), .val (.int (Int32.ofNat len)), .val .null, .unset] [.int (Int32.ofNat len), .int (Int32.ofNat o), .ref b])) rfl (by rw [hml]; rfl) c7 (argsL := [.ref b, .int (Int32.ofNat o), .int (Int32.ofNat len)]) (rest := []) rfl rfl (by show 2 * 0 + 0 ≤ _; decide) (hb hbytes d36) (⟨rfl, hA.mv X5.warmed.alike hh5, l1, l2, hp⟩)
  obtain ⟨e8, z8⟩ := E8
  obtain ⟨rfl, N, n1, n2, n3, n4, n5, n6⟩ := NewArr.mv _ T5 s _ _ hh5.symm (Vm.Alike.refl _) rfl e8
  rw [hh5] at z8
  have hB1 := hB.keep X8.warmed.alike (n6 _ _ hB.1)
  have hne : s.heap.size ≠ a := (Nat.ne_of_lt (Array.getElem?_eq_some_iff.mp hB.1).1).symm
  have c9 : Steps p.tables e below (s₁.setTop (entryFrame m #[.ref a, .ref b, .int (Int32.ofNat o), .int (Int32.ofNat len), .null] 6)) (T8.setTop (mkF m 39 #[.val (.ref a), .val (.ref b), .val (.int (Int32.ofNat o)), .val (.int (Int32.ofNat len)), .val .null, .unset] [.ref s.heap.size])) := g8
  have c10 : Steps p.tables e below (s₁.setTop (entryFrame m #[.ref a, .ref b, .int (Int32.ofNat o), .int (Int32.ofNat len), .null] 6)) (T8.setTop (mkF m 45 #[.val (.ref a), .val (.ref b), .val (.int (Int32.ofNat o)), .val (.int (Int32.ofNat len)), .val .null, .val (.ref s.heap.size)] [.int (Int32.ofNat N.slots.size), .ref s.heap.size, .ref a])) := by
    have hc : Steps p.tables e below (s₁.setTop (entryFrame m #[.ref a, .ref b, .int (Int32.ofNat o), .int (Int32.ofNat len), .null] 6)) (T8.setTop (mkF m 45 #[.val (.ref a), .val (.ref b), .val (.int (Int32.ofNat o)), .val (.int (Int32.ofNat len)), .val .null, .val (.ref s.heap.size)] [.int (Int32.ofNat len), .ref s.heap.size, .ref a])) := c9.trans (by
      refine XS.astore X8.here hexec rfl (hb hbytes d39) rfl rfl rfl ?_
      refine XS.aloadN X8.here hexec rfl (hb hbytes d41) rfl rfl ?_
      refine XS.aload X8.here hexec rfl (hb hbytes d42) rfl rfl ?_
      refine XS.iloadN X8.here hexec rfl (hb hbytes d44) rfl ?_
      exact Steps.refl _)
    rw [n4]; exact hc
  obtain ⟨v11, T11, X11, E11, g11⟩ := X8.callS hexec (CodL.law l s.heap.size N) hown (wks W (staticW "java/lang/String" 47 CodL.yN)) (wk W CodL.tab) (W := 1) (Nat.le_of_ble_eq_true rfl) (Nat.le_of_ble_eq_true rfl) (Nat.le_refl _) (by show 0 + len + 0 ≤ len; omega) (g := (mkF m 45 #[.val (.ref a), .val (.ref b), .val (.int (Int32.ofNat o)), .val (.int (Int32.ofNat len)), .val .null, .val (.ref s.heap.size)] [.int (Int32.ofNat N.slots.size), .ref s.heap.size, .ref a])) rfl (by rw [hml]; rfl) c10 (argsL := [.ref s.heap.size, .int (Int32.ofNat N.slots.size)]) (rest := [.ref a]) rfl rfl (by show 2 * 0 + (1 + 0) ≤ _; decide) (hb hbytes d45) (⟨rfl, n1⟩)
  obtain ⟨rfl, q11⟩ := E11
  have hB11 := hB1.mv (X8.warmed.alike.symm.trans X11.warmed.alike) q11
  have c12 : Steps p.tables e below (s₁.setTop (entryFrame m #[.ref a, .ref b, .int (Int32.ofNat o), .int (Int32.ofNat len), .null] 6)) (T11.setTop (mkF m 48 #[.val (.ref a), .val (.ref b), .val (.int (Int32.ofNat o)), .val (.int (Int32.ofNat len)), .val .null, .val (.ref s.heap.size)] [.int 0, .ref a])) := g11
  obtain ⟨T13, X13, p13, bl13, sl13, st13⟩ := X11.finit hexec hown (wk W (.fieldLink "java/lang/String" 15 "java/lang/String" "coder" "B")) (Or.inr ⟨_, (wk W (.laysFinal "java/lang/String" "java/lang/String" "coder" "B"))⟩) (Or.inl ⟨rfl, hnm⟩) f2 (Or.inl rfl) hB11 (t := .byte) (by decide +kernel) rfl (g := (mkF m 48 #[.val (.ref a), .val (.ref b), .val (.int (Int32.ofNat o)), .val (.int (Int32.ofNat len)), .val .null, .val (.ref s.heap.size)] [.int 0, .ref a])) rfl (rest := []) rfl (hb hbytes d48)
  have c14 : Steps p.tables e below (s₁.setTop (entryFrame m #[.ref a, .ref b, .int (Int32.ofNat o), .int (Int32.ofNat len), .null] 6)) (T13.setTop (mkF m 54 #[.val (.ref a), .val (.ref b), .val (.int (Int32.ofNat o)), .val (.int (Int32.ofNat len)), .val .null, .val (.ref s.heap.size)] [.ref s.heap.size, .ref a])) := (c12.trans (st13 _ (Steps.refl _))).trans (by
    refine XS.aloadN X13.here hexec rfl (hb hbytes d51) rfl rfl ?_
    refine XS.aload X13.here hexec rfl (hb hbytes d52) rfl rfl ?_
    exact Steps.refl _)
  obtain ⟨T15, X15, p15, bl15, sl15, st15⟩ := X13.finit hexec hown (wk W (.fieldLink "java/lang/String" 9 "java/lang/String" "value" "[B")) (Or.inr ⟨_, (wk W (.laysFinal "java/lang/String" "java/lang/String" "value" "[B"))⟩) (Or.inl ⟨rfl, hnm⟩) f1 (Or.inl rfl) bl13 (t := (.array .byte)) (by decide +kernel) rfl (g := (mkF m 54 #[.val (.ref a), .val (.ref b), .val (.int (Int32.ofNat o)), .val (.int (Int32.ofNat len)), .val .null, .val (.ref s.heap.size)] [.ref s.heap.size, .ref a])) rfl (rest := []) rfl (hb hbytes d54)
  have c16 : Steps p.tables e below (s₁.setTop (entryFrame m #[.ref a, .ref b, .int (Int32.ofNat o), .int (Int32.ofNat len), .null] 6)) (T15.setTop (mkF m 57 #[.val (.ref a), .val (.ref b), .val (.int (Int32.ofNat o)), .val (.int (Int32.ofNat len)), .val .null, .val (.ref s.heap.size)] [])) := c14.trans (st15 _ (Steps.refl _))
  have ap := apart (Or.inr ⟨_, (wk W (.laysFinal "java/lang/String" "java/lang/String" "value" "[B"))⟩) (Or.inr ⟨_, (wk W (.laysFinal "java/lang/String" "java/lang/String" "coder" "B"))⟩) f1 f2 (t₁ := .array .byte) (t₂ := .byte) (by decide +kernel) (by decide +kernel) (by decide)
  have al := X8.warmed.alike.symm.trans X15.warmed.alike
  have n7 : T11.heap[s.heap.size]? = some N := by rw [q11]; exact n1.1
  exact ⟨T15, none, _, _, _, X15, by simp, rfl, by omega, (fun _ => rfl), ⟨rfl, _, N, bl15, ((Same.refl D _).set _ (by simp)).set _ (by simp), sl15, (Cell.slots_setSlot_ne _ ap).trans sl13, n1.keep al (p15.other hne (p13.other hne n7)), n2, by rw [al.findClass]; exact n3, n4, n5, fun y c h1 h2 => p15.other h1 (p13.other h1 (by rw [q11]; exact n6 y c h2)), by rw [p15.2.2, p13.2.2, q11]; exact z8⟩, fun fs hl => c16.trans (X15.returnOut hexec hret (hb hbytes d57) hl)⟩
end New4
namespace New1
def yN : MethodName := ⟨"java/lang/String", "<init>", "([C)V"⟩
abbrev yB : ByteArray := jdk_42_method_3_code
theorem d0 : decode yB 0 = .ok (.aload_n 0, 1) := by decide +kernel
theorem d1 : decode yB 1 = .ok (.aload_n 1, 1) := by decide +kernel
theorem d2 : decode yB 2 = .ok (.iconst 0, 1) := by decide +kernel
theorem d3 : decode yB 3 = .ok (.aload_n 1, 1) := by decide +kernel
theorem d4 : decode yB 4 = .ok (.arraylength, 1) := by decide +kernel
theorem d5 : decode yB 5 = .ok (.aconst_null, 1) := by decide +kernel
theorem d6 : decode yB 6 = .ok (.invokespecial 27, 3) := by decide +kernel
theorem d9 : decode yB 9 = .ok (.return_, 1) := by decide +kernel
def site : List Cond := [New4.tab] ++ initW "java/lang/String" 27 New4.yN
def tab : Cond := tabOf yN yB 2 none site
def P (a : Addr) (D : Cell) (fV fC : Field) (b : Addr) (A : Cell) (z : Int32) (args : Array Value) (s : State) : Prop := args = #[.ref a, .ref b] ∧ Blank "java/lang/String" a D s ∧ Found "java/lang/String" "value" "[B" fV s ∧ Found "java/lang/String" "coder" "B" fC s ∧ Ch b A s ∧ StaticIs s "java/lang/String" "COMPACT_STRINGS" "Z" (.int z) ∧ ¬ z = 0 ∧ 0 < A.slots.size ∧ A.slots.size ≤ 536870912 ∧ ∀ i, i < A.slots.size → ¬ 255 < cv A i
def E (a : Addr) (D : Cell) (fV fC : Field) (A : Cell) (r : Option Value) (s u : State) : Prop := Got a D fV fC A 0 A.slots.size r s u
/-- new String(chars), not empty, no char above 255: a Latin-1 String of their low bytes -/
theorem law (l : Launch) (a : Addr) (D : Cell) (fV fC : Field) (b : Addr) (A : Cell) (z : Int32) : Law l yN 2 1 3 52 yB 2 none site (P a D fV fC b A z) (E a D fV fC A) [⟨a, fC.slot⟩, ⟨a, fV.slot⟩] 1 A.slots.size := by
  refine Law.of_walk (plainFor_of_name (by decide +kernel)) (by decide +kernel) (by decide +kernel) (by decide) (fun _ _ h => by rw [h.1]; rfl) (fun _ U U' hal hh h => ⟨h.1, h.2.1.mv hal hh, h.2.2.1.al hal, h.2.2.2.1.al hal, h.2.2.2.2.1.mv hal hh, h.2.2.2.2.2.1.there hal hh, h.2.2.2.2.2.2⟩) (fun r U U' V V' h1 hal h2 h => Got.mv r U U' V V' h1 hal h2 h) ?_
  intro p e s m args below meth c s₁ X0 hexec hbytes hml hret hlk hnm hown hh0 W hP
  obtain ⟨rfl, hB, f1, f2, hA, s1, hz, l0, l2, hp⟩ := hP
  have c1 : Steps p.tables e below (s₁.setTop (entryFrame m #[.ref a, .ref b] 2)) (s₁.setTop (mkF m 0 #[.val (.ref a), .val (.ref b)] [])) := entry rfl
  have c2 : Steps p.tables e below (s₁.setTop (entryFrame m #[.ref a, .ref b] 2)) (s₁.setTop (mkF m 6 #[.val (.ref a), .val (.ref b)] [.null, .int (Int32.ofNat A.slots.size), .int 0, .ref b, .ref a])) := c1.trans (by
    refine XS.aloadN X0.here hexec rfl (hb hbytes d0) rfl rfl ?_
    refine XS.aloadN X0.here hexec rfl (hb hbytes d1) rfl rfl ?_
    refine iconstV X0.here hexec rfl 0 (hb hbytes d2) (by decide) ?_
    refine XS.aloadN X0.here hexec rfl (hb hbytes d3) rfl rfl ?_
    refine X0.alen hexec (hA.1.mv X0.warmed.alike hh0) rfl rfl (hb hbytes d4) ?_
    refine XS.aconstNull X0.here hexec rfl (hb hbytes d5) ?_
    exact Steps.refl _)
  obtain ⟨v3, T3, X3, E3, g3⟩ := X0.callN hexec (New4.law l a D fV fC b A z 0 A.slots.size) rfl hown (wks W (initW "java/lang/String" 27 New4.yN)) (W New4.tab (by simp only [site, List.mem_cons, List.mem_append, true_or, or_true])) (W := 0) (Nat.le_of_ble_eq_true rfl) (Nat.le_of_ble_eq_true rfl) (Nat.le_refl _) (by show 0 + A.slots.size ≤ A.slots.size; omega) (g := (mkF m 6 #[.val (.ref a), .val (.ref b)] [.null, .int (Int32.ofNat A.slots.size), .int (Int32.ofNat 0), .ref b, .ref a])) rfl (by rw [hml]; rfl) c2 (argsL := [.ref b, .int (Int32.ofNat 0), .int (Int32.ofNat A.slots.size), .null]) (rest := []) rfl rfl (by show 2 * 0 + 0 ≤ _; decide) (hb hbytes d6) (⟨rfl, hB.mv X0.warmed.alike hh0, f1.al X0.warmed.alike, f2.al X0.warmed.alike, hA.mv X0.warmed.alike hh0, s1.there X0.warmed.alike hh0, hz, l0, by omega, l2, fun i hi => by rw [Nat.zero_add]; exact hp i hi⟩)
  have e0 := Got.mv _ s₁ s _ _ hh0.symm (Vm.Alike.refl _) rfl E3
  obtain rfl := e0.1
  have c4 : Steps p.tables e below (s₁.setTop (entryFrame m #[.ref a, .ref b] 2)) (T3.setTop (mkF m 9 #[.val (.ref a), .val (.ref b)] [])) := g3
  exact ⟨T3, none, _, _, _, X3, by simp, rfl, by omega, (fun _ => rfl), e0, fun fs hl => c4.trans (X3.returnOut hexec hret (hb hbytes d9) hl)⟩
theorem pays {l : Launch} {R : Room} {p : Program} {e : Env} {below : List Frame} {s : State} {sargs : Array Value} {len W : Nat} (a : Addr) (D : Cell) (fV fC : Field) (b : Addr) (A : Cell) (z : Int32) (htab : tab.before sargs s = true) (hfr : 4 ≤ R.frames) (hlo : W + 65 ≤ R.locals) :
    Back l R p e below s sargs yN len W (fun A₁ a₁ => A₁.cells + 1 ≤ R.cells ∧ A₁.slots + A.slots.size ≤ R.slots ∧ P a D fV fC b A z a₁ A₁.U) (fun A₁ _ v₁ B₁ => E a D fV fC A v₁ A₁.U B₁.U ∧ B₁.locs = A₁.locs ++ [⟨a, fC.slot⟩, ⟨a, fV.slot⟩] ∧ B₁.cells = A₁.cells + 1 ∧ B₁.slots = A₁.slots + A.slots.size) :=
  (law l a D fV fC b A z).pays htab hfr (by omega)
end New1
/-- the byte, read back as charAt reads it, is the char -/
theorem lo8_mask {x : Int32} (h0 : ¬ x < 0) (h1 : ¬ 255 < x) : lo8 x &&& 255 = x := by
  have t : ∀ k : Fin 256, lo8 (Int32.ofNat k.val) &&& 255 = Int32.ofNat k.val := by decide +kernel
  rw [Int32.lt_iff_toInt_lt] at h0 h1
  have e0 : (0 : Int32).toInt = 0 := rfl
  have e1 : (255 : Int32).toInt = 255 := rfl
  obtain ⟨k, hk⟩ : ∃ k : Nat, x.toInt = k := ⟨x.toInt.toNat, by omega⟩
  have hx : x = Int32.ofNat k := Int32.toInt_inj.mp (by rw [hk, Int32.toInt_ofNat_small (by omega)])
  rw [hx]
  exact t ⟨k, by omega⟩
end StrChars
namespace StrChars.Road
open Jvm Sem ClassFile Op Lib Jvm.Stand Jvm.Free Jvm.Free.XT
open Jvm.Lib.Cold (StaticIs)
abbrev ST : String := "java/lang/String"
/-- every table word that New1's law asks, flat -/
abbrev words : List Jvm.Cond := [.code New1.yN New1.yB 2 none, .initialized ST, .methodLink ST 27 New4.yN, .instanceMethod New4.yN,
  .code New4.yN New4.yB 6 none, .fieldLink ST 38 ST "COMPACT_STRINGS" "Z", .laysFinal ST ST "value" "[B", .fieldLink ST 9 ST "value" "[B", .laysFinal ST ST "coder" "B", .fieldLink ST 15 ST "coder" "B",
  .methodLink ST 1 Lib.objectInit, .instanceMethod Lib.objectInit, .code Lib.objectInit ⟨#[0xb1]⟩ 1 none, .methodLink ST 177 Cmp3.yN, .static Cmp3.yN, .methodLink ST 47 CodL.yN, .static CodL.yN,
  .code Cmp3.yN Cmp3.yB 6 (some (.array .byte)), .initialized U16, .arrayClass .byte, .methodLink U16 115 Cmp5.yN, .static Cmp5.yN, .code Cmp5.yN Cmp5.yB 7 (some .int), .code CodL.yN CodL.yB 2 (some .byte)]
theorem tab_of {a : Array Value} {s : State} (h : ∀ w ∈ words, w.before a s = true) : New1.tab.before a s = true := by
  have h5 : Cmp5.tab.before a s = true := unparts (wk h (.code Cmp5.yN Cmp5.yB 7 (some .int))) (wks h (.initialized Cmp5.yN.cls :: Cmp5.site))
  have hc : CodL.tab.before a s = true := unparts (wk h (.code CodL.yN CodL.yB 2 (some .byte))) (wks h (.initialized CodL.yN.cls :: CodL.site))
  have q5 : ∀ w ∈ Cmp5.tab :: words, w.before a s = true := fun w hw => (List.mem_cons.mp hw).elim (fun e => e ▸ h5) (h w)
  have h3 : Cmp3.tab.before a s = true := unparts (wk q5 (.code Cmp3.yN Cmp3.yB 6 (some (.array .byte)))) (wks q5 (.initialized Cmp3.yN.cls :: Cmp3.site))
  have q3 : ∀ w ∈ Cmp3.tab :: CodL.tab :: words, w.before a s = true := fun w hw => (List.mem_cons.mp hw).elim (fun e => e ▸ h3) fun hw => (List.mem_cons.mp hw).elim (fun e => e ▸ hc) (h w)
  have h4 : New4.tab.before a s = true := unparts (wk q3 (.code New4.yN New4.yB 6 none)) (wks q3 (.initialized New4.yN.cls :: New4.site))
  have q4 : ∀ w ∈ New4.tab :: words, w.before a s = true := fun w hw => (List.mem_cons.mp hw).elim (fun e => e ▸ h4) (h w)
  exact unparts (wk q4 (.code New1.yN New1.yB 2 none)) (wks q4 (.initialized New1.yN.cls :: New1.site))
/-- the words ride from the start Z to the walk's own state -/
theorem moved {Z s : State} {a0 args : Array Value} (hZ : Z.Warmed39 s.vm) (hw : ∀ d ∈ words, d.before a0 Z = true) : ∀ d ∈ words, d.before args s = true := fun d hd => by
  have q := hw d hd
  have t : ∀ d ∈ words, d = .arrayClass .byte ∨ (d.onTables && d.keepsFace) = true := by decide +kernel
  rcases t d hd with rfl | t
  · exact RoadKit.mvA hZ q
  · exact RoadKit.mv hZ q t
/-- WHAT COMES BACK, over the tables of the start Z: h the heap at the call, h' behind it -/
def Q (Z : State) (x : Addr) (A : Cell) (h : Heap) (v : Option Value) (h' : Heap) (L : List Loc) : Prop := v = none ∧ (∀ y ∈ L, y.base = x) ∧ RoadKit.Keep h h' [x] ∧ h'.size = h.size + 1 ∧ RoadKit.Exa Z h' x ST ∧ RoadKit.Fld Z h' x ST "value" "[B" (.ref h.size) ∧ RoadKit.Fld Z h' x ST "coder" "B" (.int 0) ∧
  (∃ V : Cell, RoadKit.Arr Z h' h.size V .byte ∧ V.vm = .none ∧ Z.vm.findClass "[B" = some V.cls ∧ V.slots.size = A.slots.size ∧ ∀ j, j < A.slots.size → V.slots[j]? = some (.int (lo8 (cv A j)))) ∧
  ∀ (O n d : String) (w : Value), RoadKit.Fld Z h x O n d w → RoadKit.slotOf Z O n d ≠ RoadKit.slotOf Z ST "value" "[B" → RoadKit.slotOf Z O n d ≠ RoadKit.slotOf Z ST "coder" "B" → RoadKit.Fld Z h' x O n d w
/-- **new String(chars) AT A CALL, IN THE ROAD'S FORM**: for specialBack behind newO: x the fresh String, b the char[] with the cell A -/
theorem back {p : Program} {l : Launch} {e : Env} {R : Room} {s : State} {args : Array Value} {below : List Frame} {len W : Nat} {Z : State} {a0 : Array Value} {h : Heap} (hZ : Z.Warmed39 s.vm) (hw : ∀ d ∈ words, d.before a0 Z = true) {kI : Nat} (wi : (Jvm.Cond.instantiable ST kI).before a0 Z = true)
    {x b : Addr} {A : Cell} {z : Int32} {v0 c0 : Value} (E : RoadKit.Exa Z h x ST) (V : RoadKit.Fld Z h x ST "value" "[B" v0) (C : RoadKit.Fld Z h x ST "coder" "B" c0) (K : RoadKit.Arr Z h b A .char) (hty : Typed .char A) (S : RoadKit.Sta Z h ST "COMPACT_STRINGS" "Z" (.int z)) (hz : ¬ z = 0)
    (l0 : 0 < A.slots.size) (l2 : A.slots.size ≤ 536870912) (hp : ∀ i, i < A.slots.size → ¬ 255 < cv A i) (hfr : 4 ≤ R.frames) (hlo : W + 65 ≤ R.locals) :
    Back l R p e below s args New1.yN len W (fun P a => a = #[.ref x, .ref b] ∧ P.U.heap = h ∧ P.cells + 1 ≤ R.cells ∧ P.slots + A.slots.size ≤ R.slots)
      (fun P _ v B => ∃ L, Q Z x A h v B.U.heap L ∧ B.locs = P.locs ++ L ∧ B.cells = P.cells + 1 ∧ B.slots = P.slots + A.slots.size) := by
  intro m meth c P g ig mk a X hg hsize hdg hW hn hp'
  obtain ⟨rfl, rfl, r1, r2⟩ := hp'
  have al : Z.vm.Alike P.U.vm := hZ.alike.trans X.warmed.alike
  obtain ⟨D, cfV, kV, iV, fV, hD, gV, stV, knV, obV, asV, slV⟩ := id V
  obtain ⟨D', cfC, kC, iC, fC, hD', gC, stC, -, -, asC, slC⟩ := id C
  cases hD.symm.trans hD'
  obtain ⟨D2, kD, e1, e2, e3, e4, e5⟩ := id E
  cases hD.symm.trans e1
  obtain ⟨c2, k2, i1, i2, i3, -⟩ := Cond.instantiable_spec wi
  cases e2.symm.trans i1
  cases e3.symm.trans i2
  obtain ⟨kU, u1, u2⟩ := al.2.2 _ _ e3
  have hB : Blank ST x D P.U := ⟨hD, ⟨knV, fun q hq => by rw [hq] at obV; cases obV⟩, by rw [al.findClass]; exact e2, kU, u1, by rw [u2]; exact i3, by rw [u2]; exact e5 i3⟩
  have F1 : Found ST "value" "[B" fV P.U := ⟨SBG.found_only al ⟨cfV, kV, iV, gV⟩, stV⟩
  have F2 : Found ST "coder" "B" fC P.U := ⟨SBG.found_only al ⟨cfC, kC, iC, gC⟩, stC⟩
  have hA : Ch b A P.U := ⟨⟨K.1, State.isArrayOf_alike al K.2.1, K.2.2, by omega⟩, hty⟩
  have hS : StaticIs P.U ST "COMPACT_STRINGS" "Z" (.int z) := by
    obtain ⟨cfS, iS, kS, fS, st, cS, t1, t2, t3, t4, t5, t6, t7⟩ := S
    exact StaticIs.there (s := { Z with heap := P.U.heap }) ⟨cfS, iS, kS, fS, st, cS, t1, t2, t3, t4, t5, (fun q => by rw [q] at t6; cases t6), t7⟩ al rfl
  obtain ⟨v, B, X', ⟨⟨hv, E', V', q1, q2, q3, q4, q5, q6, q7, q8, q9, q10, q11⟩, hl, hc, hs⟩, st⟩ := New1.pays x D fV fC b A z (tab_of (moved hZ hw)) hfr hlo m meth c P g ig mk _ X hg hsize hdg hW hn ⟨r1, r2, rfl, hB, F1, F2, hA, hS, hz, l0, l2, hp⟩
  have al' : Z.vm.Alike B.U.vm := hZ.alike.trans X'.warmed.alike
  have hsz : E'.slots.size = D.slots.size := by
    obtain ⟨-, -, -, kB, w1, w2, w3⟩ := q1
    obtain ⟨kB', y1, y2⟩ := al'.2.2 _ _ e3
    rw [q2.2.1] at w1
    cases w1.symm.trans y1
    rw [w3, e5 i3, y2]
  refine ⟨v, B, X', ⟨_, ⟨hv, ?_, ⟨by omega, fun y cy hy hn' => q10 y cy (by simpa using hn') hy, fun y cy hy => ?_⟩, q11, ⟨E', _, q1.1, by rw [q2.2.1]; exact e2, by rw [q2.2.1]; exact e3, by rw [q2.1]; exact obV, fun _ => by rw [hsz]; exact e5 i3⟩,
    ⟨E', cfV, kV, iV, fV, q1.1, gV, stV, by rw [q2.1]; exact knV, by rw [q2.1]; exact obV, by rw [q2.2.1]; exact asV, q3⟩, ⟨E', cfC, kC, iC, fC, q1.1, gC, stC, by rw [q2.1]; exact knV, by rw [q2.1]; exact obV, by rw [q2.2.1]; exact asC, q4⟩,
    ⟨V', ⟨q5.1, State.isArrayOf_alike al'.symm q5.2.1, q5.2.2.1⟩, q6, by rw [← al'.findClass]; exact q7, q8, fun j hj => by have := q9 j hj; rwa [Nat.zero_add] at this⟩, fun O n d w F n1 n2 => ?_⟩, hl, hc, hs⟩, st⟩
  · intro y hy
    simp only [List.mem_cons, List.not_mem_nil, or_false] at hy
    rcases hy with rfl | rfl <;> rfl
  · by_cases q : y = x
    · subst q
      cases hD.symm.trans hy
      exact ⟨E', q1.1, q2.2.1, q2.1, hsz⟩
    · exact ⟨cy, q10 y cy q hy, rfl, rfl, rfl⟩
  · obtain ⟨D3, cf, k, i, f, g1, g2, g3, g4, g5, g6, g7⟩ := F
    cases hD.symm.trans g1
    simp only [RoadKit.slotOf, g2, gV, gC, Option.map_some, Option.getD_some] at n1 n2
    exact ⟨E', cf, k, i, f, q1.1, g2, g3, by rw [q2.1]; exact g4, by rw [q2.1]; exact g5, by rw [q2.2.1]; exact g6, by rw [q2.2.2 f.slot (by simp [n1, n2])]; exact g7⟩
end StrChars.Road
namespace StrChars.Road
open Jvm Sem ClassFile Op Lib Jvm.Stand Jvm.Free Jvm.Free.XT
/-- WHAT COMES BACK, the byte[] as a list of values -/
def QA (Z : State) (x : Addr) (zn : Int32) (cs : List Int32) (h : Heap) (v : Option Value) (h' : Heap) (L : List Loc) : Prop := v = none ∧ (∀ y ∈ L, y.base = x) ∧ RoadKit.Keep h h' [x] ∧ h'.size = h.size + 1 ∧ RoadKit.Exa Z h' x ST ∧ RoadKit.Fld Z h' x ST "value" "[B" (.ref h.size) ∧ RoadKit.Fld Z h' x ST "coder" "B" (.int 0) ∧
  (∃ kb, Z.vm.findClass "[B" = some kb ∧ RoadKit.Arv Z h' h.size kb .byte zn (cs.map fun c => .int (lo8 c)) (.int 0)) ∧
  ∀ (O n d : String) (w : Value), RoadKit.Fld Z h x O n d w → RoadKit.slotOf Z O n d ≠ RoadKit.slotOf Z ST "value" "[B" → RoadKit.slotOf Z O n d ≠ RoadKit.slotOf Z ST "coder" "B" → RoadKit.Fld Z h' x O n d w
/-- **new String(chars) AT A CALL, THE ARRAYS AS LISTS**: the char[] at b holds cs, not empty, no char above 255 -/
theorem backArv {p : Program} {l : Launch} {e : Env} {R : Room} {s : State} {args : Array Value} {below : List Frame} {len W : Nat} {Z : State} {a0 : Array Value} {h : Heap} (hZ : Z.Warmed39 s.vm) (hw : ∀ d ∈ words, d.before a0 Z = true) {kI : Nat} (wi : (Jvm.Cond.instantiable ST kI).before a0 Z = true)
    {x b : Addr} {k : ClassId} {zn z : Int32} {cs : List Int32} {dv v0 c0 : Value} (E : RoadKit.Exa Z h x ST) (V : RoadKit.Fld Z h x ST "value" "[B" v0) (C : RoadKit.Fld Z h x ST "coder" "B" c0) (K : RoadKit.Arv Z h b k .char zn (cs.map Value.int) dv) (S : RoadKit.Sta Z h ST "COMPACT_STRINGS" "Z" (.int z)) (hz : ¬ z = 0)
    (hlen : zn.toNatClampNeg = cs.length) (h0 : 0 < cs.length) (hbig : cs.length ≤ 536870912) (hall : ∀ c ∈ cs, ¬ 255 < c) (hfr : 4 ≤ R.frames) (hlo : W + 65 ≤ R.locals) :
    Back l R p e below s args New1.yN len W (fun P a => a = #[.ref x, .ref b] ∧ P.U.heap = h ∧ P.cells + 1 ≤ R.cells ∧ P.slots + cs.length ≤ R.slots)
      (fun P _ v B => ∃ L, QA Z x zn cs h v B.U.heap L ∧ B.locs = P.locs ++ L ∧ B.cells = P.cells + 1 ∧ B.slots = P.slots + cs.length) := by
  obtain ⟨A, K1, K2, K3, K4, K5, K6⟩ := K
  have e : A.slots.size = cs.length := K3.trans hlen
  have hat : ∀ (i : Nat) (hi : i < cs.length), A.slots[i]? = some (.int cs[i]) := fun i hi => by rw [K5 i (by omega)]; simp [List.getD_eq_getElem?_getD, hi]
  have hcv : ∀ (i : Nat) (hi : i < cs.length), cv A i = cs[i] := fun i hi => by unfold cv; rw [hat i hi]
  have hty : Typed .char A := fun i v hv => by
    have hi : i < A.slots.size := (Array.getElem?_eq_some_iff.mp hv).1
    have q := K5 i hi
    rw [hv] at q
    rw [Option.some.inj q]
    exact K6 i hi
  refine Back.mono (back hZ hw wi E V C K1 hty S hz (by omega) (by omega) (fun i hi => by rw [hcv i (by omega)]; exact hall _ (List.getElem_mem _)) hfr hlo) (fun P a hp => ⟨hp.1, hp.2.1, hp.2.2.1, by rw [e]; exact hp.2.2.2⟩) (fun P a v B hp hq => ?_)
  obtain ⟨L, ⟨q1, q2, q3, q4, q5, q6, q7, ⟨V', v1, v2, v3, v4, v5⟩, q9⟩, hl, hc, hs⟩ := hq
  refine ⟨L, ⟨q1, q2, q3, q4, q5, q6, q7, ⟨V'.cls, v3, V', v1, rfl, by rw [v4, e, hlen], K4, fun i hi => ?_, fun i hi => ?_⟩, q9⟩, hl, hc, by rw [hs, e]⟩
  · have hi' : i < cs.length := by omega
    rw [v5 i (by omega), hcv i hi']; simp [List.getD_eq_getElem?_getD, hi']
  · have hi' : i < cs.length := by omega
    simp only [List.getD_eq_getElem?_getD, List.getElem?_map, List.getElem?_eq_getElem hi', Option.map_some, Option.getD_some]
    exact fits_lo8 _
end StrChars.Road
namespace StrChars.Road
open Jvm Sem ClassFile Op Lib Jvm.Stand Jvm.Free Jvm.Free.XT
/-- WHAT COMES BACK, in the writer's own shape -/
def QV (Z : State) (x : Addr) (N : Int32) (bs : List Int32) (h : Heap) (n0 : Nat) (v : Option Value) (h' : Heap) (L : List Loc) : Prop := v = none ∧ RoadKit.Fr n0 L ∧ RoadKit.Keep h h' [x] ∧ RoadKit.Exa Z h' x ST ∧ RoadKit.Fld Z h' x ST "coder" "B" (.int 0) ∧
  ∃ (t : Addr) (kb : ClassId), n0 ≤ t ∧ h.size ≤ t ∧ ¬ t = x ∧ RoadKit.Fld Z h' x ST "value" "[B" (.ref t) ∧ RoadKit.Arv Z h' t kb .byte N (bs.map Value.int) (.int 0)
/-- **new String(chars) AT A CALL, FOR THE WRITER**: a char[] of n known ints, each 0 to 255 -/
theorem backV {p : Program} {l : Launch} {e : Env} {R : Room} {s : State} {args : Array Value} {below : List Frame} {len W : Nat} {Z : State} {a0 : Array Value} {h : Heap} (hZ : Z.Warmed39 s.vm) (hw : ∀ d ∈ words, d.before a0 Z = true) {kI : Nat} (wi : (Jvm.Cond.instantiable ST kI).before a0 Z = true)
    {x b : Addr} {kC : ClassId} {cs bs : List Int32} {d v0 c0 : Value} {z N : Int32} {n n0 : Nat} (hx0 : n0 ≤ x) (hh0 : n0 ≤ h.size) (E : RoadKit.Exa Z h x ST) (V : RoadKit.Fld Z h x ST "value" "[B" v0) (C : RoadKit.Fld Z h x ST "coder" "B" c0) (K : RoadKit.Arv Z h b kC .char N (cs.map Value.int) d) (S : RoadKit.Sta Z h ST "COMPACT_STRINGS" "Z" (.int z)) (hz : ¬ z = 0)
    (hn : cs.length = n) (hN : N = Int32.ofNat n) (l0 : 0 < n) (l2 : n ≤ 4000) (hp : ∀ c ∈ cs, ¬ c < 0 ∧ ¬ (255 : Int32) < c) (hb : bs = cs.map (fun c => c.toInt8.toInt32)) (hfr : 4 ≤ R.frames) (hlo : W + 65 ≤ R.locals) :
    Back l R p e below s args (⟨"java/lang/String", "<init>", "([C)V"⟩ : MethodName) len W (fun P a => a = #[.ref x, .ref b] ∧ P.U.heap = h ∧ P.cells + 1 ≤ R.cells ∧ P.slots + n ≤ R.slots)
      (fun P _ v B => ∃ L, QV Z x N bs h n0 v B.U.heap L ∧ B.locs = P.locs ++ L ∧ B.cells = P.cells + 1 ∧ B.slots = P.slots + n) := by
  subst hn hN hb
  refine Back.mono (backArv hZ hw wi E V C K S hz (n32 (by omega)) l0 (by omega) (fun c hc => (hp c hc).2) hfr hlo) (fun P a hp => hp) (fun P a v B hp hq => ?_)
  obtain ⟨L, ⟨q1, q2, q3, q4, q5, q6, q7, ⟨kb, v1, v2⟩, q9⟩, hl, hc, hs⟩ := hq
  exact ⟨L, ⟨q1, fun y hy => by rw [q2 y hy]; exact hx0, q3, q5, q7, h.size, kb, hh0, Nat.le_refl _, Nat.ne_of_gt E.lt, q6, by rw [List.map_map]; exact v2⟩, hl, hc, hs⟩
end StrChars.Road
namespace StrChars
open Jvm Sem ClassFile Op Lib Jvm.Stand Jvm.Free.XT Jvm.Free.ALB Jvm.Free.JM Jvm.Free
open Jvm.Lib.Cold (StaticIs)
def hi8 (x : Int32) : Int32 := lo8 (x >>> ((8 : Int32) &&& 31))
/-- what StringUTF16.getChar makes of two bytes -/
def pairCh (u v : Int32) : Int32 := (((u &&& 255) <<< ((0 : Int32) &&& 31)) ||| ((v &&& 255) <<< ((8 : Int32) &&& 31))).toUInt32.toUInt16.toUInt32.toInt32
theorem shr0 (c : Int32) : c >>> ((0 : Int32) &&& 31) = c := by
  have e : ((0 : Int32) &&& 31) = 0 := by decide
  rw [e]
  apply Int32.toBitVec_inj.mp
  rw [Int32.toBitVec_shiftRight]
  have e1 : ((0 : Int32).toBitVec.smod 32) = 0#32 := by decide
  rw [e1, BitVec.sshiftRight_eq']
  exact BitVec.sshiftRight_zero
theorem lo8_and (x : Int32) : (lo8 x &&& 255).toBitVec.toNat = x.toBitVec.toNat % 256 := by
  have h : (lo8 x).toBitVec = (x.toBitVec.signExtend 8).signExtend 32 := by rw [lo8, Int8.toBitVec_toInt32, Int32.toBitVec_toInt8]
  rw [Int32.toBitVec_and, BitVec.toNat_and, h]
  have e : ((x.toBitVec.signExtend 8).signExtend 32).toNat % 256 = x.toBitVec.toNat % 256 := by
    rw [BitVec.toNat_signExtend]
    have hlt := x.toBitVec.isLt
    simp only [BitVec.toNat_setWidth, BitVec.toNat_signExtend]
    split <;> split <;> omega
  rw [← e]
  exact Nat.and_two_pow_sub_one_eq_mod _ 8
theorem pair_says {c : Int32} (h0 : ¬ c < 0) (h1 : ¬ 65535 < c) : pairCh (lo8 c) (hi8 c) = c := by
  rw [Int32.lt_iff_toInt_lt] at h0 h1
  have e0 : (0 : Int32).toInt = 0 := rfl
  have e1 : (65535 : Int32).toInt = 65535 := rfl
  have hc : c.toInt = c.toBitVec.toNat := by
    have := c.toBitVec.isLt
    have e : c.toInt = c.toBitVec.toInt := rfl
    rw [e] at h0 h1
    rw [e]
    rw [BitVec.toInt_eq_toNat_cond] at h0 h1 ⊢
    split at h0 <;> split <;> omega
  have hn : c.toBitVec.toNat < 65536 := by omega
  have a1 := lo8_and c
  have a2 : (hi8 c &&& 255).toBitVec.toNat = c.toBitVec.toNat / 256 := by
    rw [hi8, lo8_and]
    have e : ((8 : Int32) &&& 31) = 8 := by decide
    rw [e, Int32.toBitVec_shiftRight]
    have e2 : ((8 : Int32).toBitVec.smod 32) = 8#32 := by decide
    rw [e2, BitVec.sshiftRight_eq', BitVec.toNat_sshiftRight_of_msb_false (by rw [BitVec.msb_eq_false_iff_two_mul_lt]; omega)]
    show c.toBitVec.toNat >>> 8 % 256 = _
    rw [Nat.shiftRight_eq_div_pow]
    omega
  unfold pairCh
  apply Int32.toBitVec_inj.mp
  apply BitVec.eq_of_toNat_eq
  have f0 : ((0 : Int32) &&& 31) = 0 := by decide
  have f8 : ((8 : Int32) &&& 31) = 8 := by decide
  rw [f0, f8]
  have g : (((lo8 c &&& 255) <<< (0 : Int32)) ||| ((hi8 c &&& 255) <<< (8 : Int32))).toBitVec.toNat = c.toBitVec.toNat := by
    rw [Int32.toBitVec_or, Int32.toBitVec_shiftLeft, Int32.toBitVec_shiftLeft]
    have s0 : ((0 : Int32).toBitVec.smod 32) = 0#32 := by decide
    have s8 : ((8 : Int32).toBitVec.smod 32) = 8#32 := by decide
    rw [s0, s8, BitVec.toNat_or]
    simp only [BitVec.shiftLeft_eq', BitVec.toNat_shiftLeft, a1, a2]
    show (c.toBitVec.toNat % 256) <<< 0 % 2 ^ 32 ||| (c.toBitVec.toNat / 256) <<< 8 % 2 ^ 32 = _
    rw [Nat.shiftLeft_zero, Nat.mod_eq_of_lt (show c.toBitVec.toNat % 256 < 2 ^ 32 by omega), Nat.mod_eq_of_lt (show (c.toBitVec.toNat / 256) <<< 8 < 2 ^ 32 by rw [Nat.shiftLeft_eq]; omega), Nat.or_comm, ← Nat.shiftLeft_add_eq_or_of_lt (by omega), Nat.shiftLeft_eq]
    omega
  show BitVec.toNat (((((lo8 c &&& 255) <<< (0 : Int32)) ||| ((hi8 c &&& 255) <<< (8 : Int32))).toBitVec.setWidth 16).setWidth 32) = _
  rw [BitVec.toNat_setWidth, BitVec.toNat_setWidth, g]
  omega
end StrChars
namespace StrChars
open Jvm Sem ClassFile Op Lib Jvm.Stand Jvm.Free.XT Jvm.Free.ALB Jvm.Free.JM Jvm.Free
open Jvm.Lib.Cold (StaticIs)
theorem shr1 {n : Nat} (h : 2 * n < 2 ^ 31) : Int32.ofNat (2 * n) >>> ((1 : Int32) &&& 31) = Int32.ofNat n := by
  have e : ((1 : Int32) &&& 31) = 1 := by decide
  rw [e]
  apply Int32.toBitVec_inj.mp
  rw [Int32.toBitVec_shiftRight]
  have e1 : ((1 : Int32).toBitVec.smod 32) = 1#32 := by decide
  have hm : (BitVec.ofNat 32 (2 * n)).toNat = 2 * n := by rw [BitVec.toNat_ofNat, Nat.mod_eq_of_lt (by omega)]
  rw [e1, BitVec.sshiftRight_eq']
  apply BitVec.eq_of_toNat_eq
  show ((BitVec.ofNat 32 (2 * n)).sshiftRight 1).toNat = (BitVec.ofNat 32 n).toNat
  rw [BitVec.toNat_sshiftRight_of_msb_false (by rw [BitVec.msb_eq_false_iff_two_mul_lt, hm]; omega), hm, BitVec.toNat_ofNat, Nat.shiftRight_eq_div_pow]
  omega
/-- charAt's cast of a byte read back -/
def chr8 (u : Int32) : Int32 := (u &&& 255).toUInt32.toUInt16.toUInt32.toInt32
theorem chr8_lo8 {c : Int32} (h0 : ¬ c < 0) (h1 : ¬ 255 < c) : chr8 (lo8 c) = c := by
  have t : ∀ k : Fin 256, (Int32.ofNat k.val).toUInt32.toUInt16.toUInt32.toInt32 = Int32.ofNat k.val := by decide +kernel
  unfold chr8
  rw [lo8_mask h0 h1]
  rw [Int32.lt_iff_toInt_lt] at h0 h1
  have e0 : (0 : Int32).toInt = 0 := rfl
  have e1 : (255 : Int32).toInt = 255 := rfl
  obtain ⟨k, hk⟩ : ∃ k : Nat, c.toInt = k := ⟨c.toInt.toNat, by omega⟩
  have hx : c = Int32.ofNat k := Int32.toInt_inj.mp (by rw [hk, Int32.toInt_ofNat_small (by omega)])
  rw [hx]
  exact t ⟨k, by omega⟩
theorem narrow_ch {c : Int32} (h0 : ¬ c < 0) (h1 : ¬ 65535 < c) : narrow .char (.int c) = .int c := by
  have q : narrow .char (.int (pairCh (lo8 c) (hi8 c))) = .int (pairCh (lo8 c) (hi8 c)) := narrow_c _
  rwa [pair_says h0 h1] at q
/-- the array's cell V codes the n chars f 0 .. f (n - 1) by the coder cd, as the JDK does: coder 1 just where some char is above 255 -/
def Cod (cd : Int32) (n : Nat) (f : Nat → Int32) (V : Cell) : Prop := (cd = 0 ∧ V.slots.size = n ∧ ∀ j, j < n → V.slots[j]? = some (.int (lo8 (f j))) ∧ ¬ 255 < f j) ∨ (cd = 1 ∧ V.slots.size = 2 * n ∧ (∀ j, j < n → V.slots[2 * j]? = some (.int (lo8 (f j))) ∧ V.slots[2 * j + 1]? = some (.int (hi8 (f j)))) ∧ ∃ j, j < n ∧ 255 < f j)
theorem Cod.cd {cd : Int32} {n : Nat} {f : Nat → Int32} {V : Cell} (h : Cod cd n f V) : cd = 0 ∨ cd = 1 := h.imp (fun q => q.1) fun q => q.1
theorem Cod.len {cd : Int32} {n : Nat} {f : Nat → Int32} {V : Cell} (h : Cod cd n f V) (hs : V.slots.size < 2 ^ 31) : Int32.ofNat V.slots.size >>> (cd &&& 31) = Int32.ofNat n := by
  rcases h with ⟨rfl, h, -⟩ | ⟨rfl, h, -⟩
  · rw [shr0, h]
  · rw [h, shr1 (by omega)]
/-- **x is a String of the n chars f 0 .. f (n - 1)**, Latin-1 or UTF-16; its array at t has the cell V -/
def Txt (x t : Addr) (V : Cell) (cd : Int32) (n : Nat) (f : Nat → Int32) (U : State) : Prop := Exact "java/lang/String" x U ∧ Has x "java/lang/String" "value" "[B" (.ref t) U ∧ Has x "java/lang/String" "coder" "B" (.int cd) U ∧ XT.Arr .byte t V U ∧ Cod cd n f V ∧ ∀ j, j < n → ¬ f j < 0 ∧ ¬ 65535 < f j
theorem Txt.mv {x t : Addr} {V : Cell} {cd : Int32} {n : Nat} {f : Nat → Int32} {U U' : State} (h : Txt x t V cd n f U) (hal : U.vm.Alike U'.vm) (hh : U'.heap = U.heap) : Txt x t V cd n f U' := ⟨h.1.mv hal hh, h.2.1.mv hal hh, h.2.2.1.mv hal hh, h.2.2.2.1.mv hal hh, h.2.2.2.2⟩
namespace Cdr
def yN : MethodName := ⟨"java/lang/String", "coder", "()B"⟩
abbrev yB : ByteArray := jdk_42_method_152_code
theorem d0 : decode yB 0 = .ok (.getstatic 38, 3) := by decide +kernel
theorem d3 : decode yB 3 = .ok (.ifCond (.eq) 10, 3) := by decide +kernel
theorem d6 : decode yB 6 = .ok (.aload_n 0, 1) := by decide +kernel
theorem d7 : decode yB 7 = .ok (.getfield 15, 3) := by decide +kernel
theorem d10 : decode yB 10 = .ok (.goto 4, 3) := by decide +kernel
theorem d14 : decode yB 14 = .ok (.ireturn, 1) := by decide +kernel
def site : List Cond := [.fieldLink "java/lang/String" 38 "java/lang/String" "COMPACT_STRINGS" "Z", .fieldLink "java/lang/String" 15 "java/lang/String" "coder" "B"]
def tab : Cond := tabOf yN yB 1 (some .byte) site
def P (x : Addr) (cd z : Int32) (args : Array Value) (s : State) : Prop := args = #[.ref x] ∧ Has x "java/lang/String" "coder" "B" (.int cd) s ∧ (cd = 0 ∨ cd = 1) ∧ StaticIs s "java/lang/String" "COMPACT_STRINGS" "Z" (.int z) ∧ ¬ z = 0
def E (cd : Int32) (r : Option Value) (s u : State) : Prop := XT.PureE (some (.int cd)) r s u
theorem law (l : Launch) (x : Addr) (cd z : Int32) : Law l yN 1 0 0 0 yB 1 (some .byte) site (P x cd z) (E cd) [] 0 0 := by
  refine Law.of_walk (plainFor_of_name (by decide +kernel)) (by decide +kernel) (by decide +kernel) (by decide) (fun _ _ h => by rw [h.1]; rfl) (fun _ U U' hal hh h => ⟨h.1, h.2.1.mv hal hh, h.2.2.1, h.2.2.2.1.there hal hh, h.2.2.2.2⟩) (fun r U U' V V' h1 hal h2 h => XT.PureE.mv r U U' V V' h1 hal h2 h) ?_
  intro p e s m args below meth c s₁ X0 hexec hbytes hml hret hlk hnm hown hh0 W hP
  obtain ⟨rfl, hx, hc, s1, hz⟩ := hP
  have c1 : Steps p.tables e below (s₁.setTop (entryFrame m #[.ref x] 1)) (s₁.setTop (mkF m 0 #[.val (.ref x)] [])) := entry rfl
  obtain ⟨T2, X2, q2, st2⟩ := X0.sget hexec hown (wk W (.fieldLink "java/lang/String" 38 "java/lang/String" "COMPACT_STRINGS" "Z")) s1 (fun _ _ h => by rw [hh0]; exact h) (g := (mkF m 0 #[.val (.ref x)] [])) rfl (hb hbytes d0)
  have hh2 := q2.trans hh0
  have c3 : Steps p.tables e below (s₁.setTop (entryFrame m #[.ref x] 1)) (T2.setTop (mkF m 7 #[.val (.ref x)] [.ref x])) := (c1.trans (st2 _ (Steps.refl _))).trans (by
    refine XS.ifNo X2.here hexec rfl (hb hbytes d3) rfl (i0_eq_f hz) ?_
    refine XS.aloadN X2.here hexec rfl (hb hbytes d6) rfl rfl ?_
    exact Steps.refl _)
  obtain ⟨T4, X4, q4, st4⟩ := X2.hget hexec hown (wk W (.fieldLink "java/lang/String" 15 "java/lang/String" "coder" "B")) (hx.mv X2.warmed.alike hh2) (g := (mkF m 7 #[.val (.ref x)] [.ref x])) rfl (rest := []) rfl (hb hbytes d7)
  have c5 : Steps p.tables e below (s₁.setTop (entryFrame m #[.ref x] 1)) (T4.setTop (mkF m 14 #[.val (.ref x)] [.int cd])) := (c3.trans (st4 _ (Steps.refl _))).trans (by
    refine XS.goto X4.here hexec rfl (pc0 := 10) rfl (hb hbytes d10) (by decide) rfl ?_
    exact Steps.refl _)
  exact ⟨T4, some (.int cd), _, _, _, X4, rfl, rfl, rfl, (fun h => by cases h), ⟨rfl, q4.trans hh2⟩, fun fs hl => c5.trans (X4.ireturnOut hexec hret (by rcases hc with rfl | rfl <;> rfl) (Or.inr (Or.inr (Or.inl rfl))) (hb hbytes d14) hl)⟩
end Cdr
namespace Len
def yN : MethodName := ⟨"java/lang/String", "length", "()I"⟩
abbrev yB : ByteArray := jdk_42_method_54_code
theorem d0 : decode yB 0 = .ok (.aload_n 0, 1) := by decide +kernel
theorem d1 : decode yB 1 = .ok (.getfield 9, 3) := by decide +kernel
theorem d4 : decode yB 4 = .ok (.arraylength, 1) := by decide +kernel
theorem d5 : decode yB 5 = .ok (.aload_n 0, 1) := by decide +kernel
theorem d6 : decode yB 6 = .ok (.invokevirtual 335, 3) := by decide +kernel
theorem d9 : decode yB 9 = .ok (.ishr, 1) := by decide +kernel
theorem d10 : decode yB 10 = .ok (.ireturn, 1) := by decide +kernel
def site : List Cond := [.fieldLink "java/lang/String" 9 "java/lang/String" "value" "[B", Cdr.tab] ++ virtW "java/lang/String" 335 "java/lang/String" Cdr.yN Cdr.yN
def tab : Cond := tabOf yN yB 1 (some .int) site
def P (x t : Addr) (V : Cell) (cd : Int32) (n : Nat) (f : Nat → Int32) (z : Int32) (args : Array Value) (s : State) : Prop := args = #[.ref x] ∧ Txt x t V cd n f s ∧ StaticIs s "java/lang/String" "COMPACT_STRINGS" "Z" (.int z) ∧ ¬ z = 0
def E (n : Nat) (r : Option Value) (s u : State) : Prop := XT.PureE (some (.int (Int32.ofNat n))) r s u
/-- length() of a String of n chars, in either coding -/
theorem law (l : Launch) (x t : Addr) (V : Cell) (cd : Int32) (n : Nat) (f : Nat → Int32) (z : Int32) : Law l yN 1 0 1 13 yB 1 (some .int) site (P x t V cd n f z) (E n) [] 0 0 := by
  refine Law.of_walk (plainFor_of_name (by decide +kernel)) (by decide +kernel) (by decide +kernel) (by decide) (fun _ _ h => by rw [h.1]; rfl) (fun _ U U' hal hh h => ⟨h.1, h.2.1.mv hal hh, h.2.2.1.there hal hh, h.2.2.2⟩) (fun r U U' V V' h1 hal h2 h => XT.PureE.mv r U U' V V' h1 hal h2 h) ?_
  intro p e s m args below meth c s₁ X0 hexec hbytes hml hret hlk hnm hown hh0 W hP
  obtain ⟨rfl, hx, s1, hz⟩ := hP
  have v31 := hx.2.2.2.1.2.2.2
  have c1 : Steps p.tables e below (s₁.setTop (entryFrame m #[.ref x] 1)) (s₁.setTop (mkF m 1 #[.val (.ref x)] [.ref x])) := Steps.trans (entry rfl) (by
    show Steps p.tables e below (s₁.setTop (mkF m 0 #[.val (.ref x)] [])) _
    refine XS.aloadN X0.here hexec rfl (hb hbytes d0) rfl rfl ?_
    exact Steps.refl _)
  obtain ⟨T2, X2, q2, st2⟩ := X0.hget hexec hown (wk W (.fieldLink "java/lang/String" 9 "java/lang/String" "value" "[B")) (hx.mv X0.warmed.alike hh0).2.1 (g := (mkF m 1 #[.val (.ref x)] [.ref x])) rfl (rest := []) rfl (hb hbytes d1)
  have hh2 := q2.trans hh0
  have hx2 := hx.mv X2.warmed.alike hh2
  have c3 : Steps p.tables e below (s₁.setTop (entryFrame m #[.ref x] 1)) (T2.setTop (mkF m 6 #[.val (.ref x)] [.ref x, .int (Int32.ofNat V.slots.size)])) := (c1.trans (st2 _ (Steps.refl _))).trans (by
    refine X2.alen hexec hx2.2.2.2.1 rfl rfl (hb hbytes d4) ?_
    refine XS.aloadN X2.here hexec rfl (hb hbytes d5) rfl rfl ?_
    exact Steps.refl _)
  obtain ⟨v4, T4, X4, E4, g4⟩ := X2.callV hexec (Cdr.law l x cd z) hown (wks W (virtW "java/lang/String" 335 "java/lang/String" Cdr.yN Cdr.yN)) rfl (by decide) (wk W Cdr.tab) (W := 1) (Nat.le_of_ble_eq_true rfl) (Nat.le_of_ble_eq_true rfl) (Nat.le_refl _) (Nat.le_refl _) (hx2.1.fc X2.warmed.alike) hx2.1.is (g := (mkF m 6 #[.val (.ref x)] [.ref x, .int (Int32.ofNat V.slots.size)])) rfl (by rw [hml]; rfl) c3 (argsL := []) (rest := [.int (Int32.ofNat V.slots.size)]) rfl rfl (by show 2 * 0 + (1 + 0) ≤ _; decide) (hb hbytes d6) (⟨rfl, hx2.2.2.1, hx.2.2.2.2.1.cd, s1.there X2.warmed.alike hh2, hz⟩)
  obtain ⟨rfl, q4⟩ := E4
  have c5 : Steps p.tables e below (s₁.setTop (entryFrame m #[.ref x] 1)) (T4.setTop (mkF m 10 #[.val (.ref x)] [.int (Int32.ofNat V.slots.size >>> (cd &&& 31))])) := Steps.trans g4 (by
    refine ishr X4.here hexec rfl (hb hbytes d9) rfl ?_
    exact Steps.refl _)
  rw [hx.2.2.2.2.1.len v31] at c5
  exact ⟨T4, some (.int (Int32.ofNat n)), _, _, _, X4, rfl, rfl, rfl, (fun h => by cases h), ⟨rfl, q4.trans hh2⟩, fun fs hl => c5.trans (X4.ireturnOut hexec hret rfl (Or.inl rfl) (hb hbytes d10) hl)⟩
theorem pays {l : Launch} {R : Room} {p : Program} {e : Env} {below : List Frame} {s : State} {sargs : Array Value} {len W : Nat} (x t : Addr) (V : Cell) (cd : Int32) (n : Nat) (f : Nat → Int32) (z : Int32) (htab : tab.before sargs s = true) (hfr : 2 ≤ R.frames) (hlo : W + 25 ≤ R.locals) :
    Back l R p e below s sargs yN len W (fun A₁ a₁ => A₁.cells + 0 ≤ R.cells ∧ A₁.slots + 0 ≤ R.slots ∧ P x t V cd n f z a₁ A₁.U) (fun A₁ _ v₁ B₁ => E n v₁ A₁.U B₁.U ∧ B₁.locs = A₁.locs ++ [] ∧ B₁.cells = A₁.cells + 0 ∧ B₁.slots = A₁.slots + 0) :=
  (law l x t V cd n f z).pays htab hfr (by omega)
end Len
namespace IsL
def yN : MethodName := ⟨"java/lang/String", "isLatin1", "()Z"⟩
abbrev yB : ByteArray := jdk_42_method_154_code
theorem d0 : decode yB 0 = .ok (.getstatic 38, 3) := by decide +kernel
theorem d3 : decode yB 3 = .ok (.ifCond (.eq) 14, 3) := by decide +kernel
theorem d6 : decode yB 6 = .ok (.aload_n 0, 1) := by decide +kernel
theorem d7 : decode yB 7 = .ok (.getfield 15, 3) := by decide +kernel
theorem d10 : decode yB 10 = .ok (.ifCond (.ne) 7, 3) := by decide +kernel
theorem d13 : decode yB 13 = .ok (.iconst 1, 1) := by decide +kernel
theorem d14 : decode yB 14 = .ok (.goto 4, 3) := by decide +kernel
theorem d17 : decode yB 17 = .ok (.iconst 0, 1) := by decide +kernel
theorem d18 : decode yB 18 = .ok (.ireturn, 1) := by decide +kernel
def site : List Cond := [.fieldLink "java/lang/String" 38 "java/lang/String" "COMPACT_STRINGS" "Z", .fieldLink "java/lang/String" 15 "java/lang/String" "coder" "B"]
def tab : Cond := tabOf yN yB 1 (some .boolean) site
def P (x : Addr) (cd z : Int32) (args : Array Value) (s : State) : Prop := args = #[.ref x] ∧ Has x "java/lang/String" "coder" "B" (.int cd) s ∧ (cd = 0 ∨ cd = 1) ∧ StaticIs s "java/lang/String" "COMPACT_STRINGS" "Z" (.int z) ∧ ¬ z = 0
def E (cd : Int32) (r : Option Value) (s u : State) : Prop := XT.PureE (some (.int (1 - cd))) r s u
theorem law (l : Launch) (x : Addr) (cd z : Int32) : Law l yN 1 0 0 0 yB 1 (some .boolean) site (P x cd z) (E cd) [] 0 0 := by
  refine Law.of_walk (plainFor_of_name (by decide +kernel)) (by decide +kernel) (by decide +kernel) (by decide) (fun _ _ h => by rw [h.1]; rfl) (fun _ U U' hal hh h => ⟨h.1, h.2.1.mv hal hh, h.2.2.1, h.2.2.2.1.there hal hh, h.2.2.2.2⟩) (fun r U U' V V' h1 hal h2 h => XT.PureE.mv r U U' V V' h1 hal h2 h) ?_
  intro p e s m args below meth c s₁ X0 hexec hbytes hml hret hlk hnm hown hh0 W hP
  obtain ⟨rfl, hx, hc, s1, hz⟩ := hP
  have c1 : Steps p.tables e below (s₁.setTop (entryFrame m #[.ref x] 1)) (s₁.setTop (mkF m 0 #[.val (.ref x)] [])) := entry rfl
  obtain ⟨T2, X2, q2, st2⟩ := X0.sget hexec hown (wk W (.fieldLink "java/lang/String" 38 "java/lang/String" "COMPACT_STRINGS" "Z")) s1 (fun _ _ h => by rw [hh0]; exact h) (g := (mkF m 0 #[.val (.ref x)] [])) rfl (hb hbytes d0)
  have hh2 := q2.trans hh0
  have c3 : Steps p.tables e below (s₁.setTop (entryFrame m #[.ref x] 1)) (T2.setTop (mkF m 7 #[.val (.ref x)] [.ref x])) := (c1.trans (st2 _ (Steps.refl _))).trans (by
    refine XS.ifNo X2.here hexec rfl (hb hbytes d3) rfl (i0_eq_f hz) ?_
    refine XS.aloadN X2.here hexec rfl (hb hbytes d6) rfl rfl ?_
    exact Steps.refl _)
  obtain ⟨T4, X4, q4, st4⟩ := X2.hget hexec hown (wk W (.fieldLink "java/lang/String" 15 "java/lang/String" "coder" "B")) (hx.mv X2.warmed.alike hh2) (g := (mkF m 7 #[.val (.ref x)] [.ref x])) rfl (rest := []) rfl (hb hbytes d7)
  have c5 : Steps p.tables e below (s₁.setTop (entryFrame m #[.ref x] 1)) (T4.setTop (mkF m 10 #[.val (.ref x)] [.int cd])) := c3.trans (st4 _ (Steps.refl _))
  have c6 : Steps p.tables e below (s₁.setTop (entryFrame m #[.ref x] 1)) (T4.setTop (mkF m 18 #[.val (.ref x)] [.int (1 - cd)])) := by
    rcases hc with rfl | rfl
    · exact c5.trans (by
        refine XS.ifNo X4.here hexec rfl (hb hbytes d10) rfl (i0_ne_f rfl) ?_
        refine iconstV X4.here hexec rfl 1 (hb hbytes d13) (by decide) ?_
        refine XS.goto X4.here hexec rfl (pc0 := 14) rfl (hb hbytes d14) (by decide) rfl ?_
        exact Steps.refl _)
    · exact c5.trans (by
        refine XS.ifYes X4.here hexec rfl (pc0 := 10) rfl (hb hbytes d10) rfl (i0_ne_t (by decide)) (by decide) rfl ?_
        refine iconstV X4.here hexec rfl 0 (hb hbytes d17) (by decide) ?_
        exact Steps.refl _)
  exact ⟨T4, some (.int (1 - cd)), _, _, _, X4, rfl, rfl, rfl, (fun h => by cases h), ⟨rfl, q4.trans hh2⟩, fun fs hl => c6.trans (X4.ireturnOut hexec hret (by rcases hc with rfl | rfl <;> rfl) (Or.inr (Or.inl rfl)) (hb hbytes d18) hl)⟩
end IsL
namespace LChA
def yN : MethodName := ⟨"java/lang/StringLatin1", "charAt", "([BI)C"⟩
abbrev yB : ByteArray := jdk_43_method_2_code
theorem d0 : decode yB 0 = .ok (.iload_n 1, 1) := by decide +kernel
theorem d1 : decode yB 1 = .ok (.aload_n 0, 1) := by decide +kernel
theorem d2 : decode yB 2 = .ok (.arraylength, 1) := by decide +kernel
theorem d3 : decode yB 3 = .ok (.invokestatic 9, 3) := by decide +kernel
theorem d6 : decode yB 6 = .ok (.aload_n 0, 1) := by decide +kernel
theorem d7 : decode yB 7 = .ok (.iload_n 1, 1) := by decide +kernel
theorem d8 : decode yB 8 = .ok (.baload, 1) := by decide +kernel
theorem d9 : decode yB 9 = .ok (.sipush 255, 3) := by decide +kernel
theorem d12 : decode yB 12 = .ok (.iand, 1) := by decide +kernel
theorem d13 : decode yB 13 = .ok (.i2c, 1) := by decide +kernel
theorem d14 : decode yB 14 = .ok (.ireturn, 1) := by decide +kernel
def site : List Cond := [JO.Str_checkIndex.tab] ++ staticW "java/lang/StringLatin1" 9 JO.Str_checkIndex.yN
def tab : Cond := tabOf yN yB 2 (some .char) site
def P (t : Addr) (V : Cell) (i : Nat) (u : Int32) (fm : Value) (args : Array Value) (s : State) : Prop := args = #[.ref t, .int (Int32.ofNat i)] ∧ XT.Arr .byte t V s ∧ V.slots[i]? = some (.int u) ∧ (StaticIs s "jdk/internal/util/Preconditions" "SIOOBE_FORMATTER" "Ljava/util/function/BiFunction;" fm ∧ fm.isRef = true)
def E (u : Int32) (r : Option Value) (s w : State) : Prop := XT.PureE (some (.int (chr8 u))) r s w
theorem law (l : Launch) (t : Addr) (V : Cell) (i : Nat) (u : Int32) (fm : Value) : Law l yN 2 2 2 27 yB 2 (some .char) site (P t V i u fm) (E u) [] 0 0 := by
  refine Law.of_walk (plainFor_of_name (by decide +kernel)) (by decide +kernel) (by decide +kernel) (by decide) (fun _ _ h => by rw [h.1]; rfl) (fun _ U U' hal hh h => ⟨h.1, h.2.1.mv hal hh, h.2.2.1, h.2.2.2.1.there hal hh, h.2.2.2.2⟩) (fun r U U' V V' h1 hal h2 h => XT.PureE.mv r U U' V V' h1 hal h2 h) ?_
  intro p e s m args below meth c s₁ X0 hexec hbytes hml hret hlk hnm hown hh0 W hP
  obtain ⟨rfl, hV, hu, s1, rf⟩ := hP
  have v31 := hV.2.2.2
  have hi : i < V.slots.size := (Array.getElem?_eq_some_iff.mp hu).1
  have c1 : Steps p.tables e below (s₁.setTop (entryFrame m #[.ref t, .int (Int32.ofNat i)] 2)) (s₁.setTop (mkF m 0 #[.val (.ref t), .val (.int (Int32.ofNat i))] [])) := entry rfl
  have c2 : Steps p.tables e below (s₁.setTop (entryFrame m #[.ref t, .int (Int32.ofNat i)] 2)) (s₁.setTop (mkF m 3 #[.val (.ref t), .val (.int (Int32.ofNat i))] [.int (Int32.ofNat V.slots.size), .int (Int32.ofNat i)])) := c1.trans (by
    refine XS.iloadN X0.here hexec rfl (hb hbytes d0) rfl ?_
    refine XS.aloadN X0.here hexec rfl (hb hbytes d1) rfl rfl ?_
    refine X0.alen hexec (hV.mv X0.warmed.alike hh0) rfl rfl (hb hbytes d2) ?_
    exact Steps.refl _)
  obtain ⟨v3, T3, X3, E3, g3⟩ := X0.callS hexec (JO.Str_checkIndex.law l (Int32.ofNat i) (Int32.ofNat V.slots.size) fm) hown (wks W (staticW "java/lang/StringLatin1" 9 JO.Str_checkIndex.yN)) (wk W JO.Str_checkIndex.tab) (W := 0) (Nat.le_of_ble_eq_true rfl) (Nat.le_of_ble_eq_true rfl) (Nat.le_refl _) (Nat.le_refl _) (g := (mkF m 3 #[.val (.ref t), .val (.int (Int32.ofNat i))] [.int (Int32.ofNat V.slots.size), .int (Int32.ofNat i)])) rfl (by rw [hml]; rfl) c2 (argsL := [.int (Int32.ofNat i), .int (Int32.ofNat V.slots.size)]) (rest := []) rfl rfl (by show 2 * 0 + 0 ≤ _; decide) (hb hbytes d3) (⟨rfl, rf, s1.there X0.warmed.alike hh0, Int32.ofNat_not_neg (by omega), lt32 v31 hi⟩)
  obtain ⟨rfl, q3⟩ := E3
  have hh3 := q3.trans hh0
  have c4 : Steps p.tables e below (s₁.setTop (entryFrame m #[.ref t, .int (Int32.ofNat i)] 2)) (T3.setTop (mkF m 14 #[.val (.ref t), .val (.int (Int32.ofNat i))] [.int (chr8 u)])) := Steps.trans g3 (by
    refine XS.aloadN X3.here hexec rfl (hb hbytes d6) rfl rfl ?_
    refine XS.iloadN X3.here hexec rfl (hb hbytes d7) rfl ?_
    refine X3.aget hexec (hV.mv X3.warmed.alike hh3) rfl hu rfl rfl (hb hbytes d8) ?_
    refine sipushV X3.here hexec rfl 255 (hb hbytes d9) (by decide) ?_
    refine XS.iand X3.here hexec rfl (hb hbytes d12) rfl ?_
    refine i2c X3.here hexec rfl (hb hbytes d13) rfl ?_
    exact Steps.refl _)
  exact ⟨T3, some (.int (chr8 u)), _, _, _, X3, rfl, rfl, rfl, (fun h => by cases h), ⟨rfl, hh3⟩, fun fs hl => c4.trans (X3.ireturnOut hexec hret (narrow_c _) (Or.inr (Or.inr (Or.inr (Or.inl rfl)))) (hb hbytes d14) hl)⟩
end LChA
end StrChars
namespace StrChars.Road
open Jvm Sem ClassFile Op Lib Jvm.Stand Jvm.Free Jvm.Free.XT
open Jvm.Lib.Cold (StaticIs)
theorem consq {a : Array Value} {s : State} {c : Jvm.Cond} {L : List Jvm.Cond} (h0 : c.before a s = true) (h : ∀ w ∈ L, w.before a s = true) : ∀ w ∈ c :: L, w.before a s = true := fun w hw => (List.mem_cons.mp hw).elim (fun e => e ▸ h0) (h w)
/-- the words of String.length(), either coding -/
abbrev wordsLen : List Jvm.Cond := [.code Len.yN Len.yB 1 (some .int), .initialized ST, .fieldLink ST 9 ST "value" "[B", .fieldLink ST 38 ST "COMPACT_STRINGS" "Z", .fieldLink ST 15 ST "coder" "B", .code Cdr.yN Cdr.yB 1 (some .byte), .methodLink ST 335 Cdr.yN, .declares Cdr.yN, .selects ST Cdr.yN Cdr.yN, .instanceMethod Cdr.yN]
theorem tabLen_of {a : Array Value} {s : State} (h : ∀ w ∈ wordsLen, w.before a s = true) : Len.tab.before a s = true := by
  have hc : Cdr.tab.before a s = true := unparts (wk h (.code Cdr.yN Cdr.yB 1 (some .byte))) (wks h (.initialized Cdr.yN.cls :: Cdr.site))
  have q := consq hc h
  exact unparts (wk q (.code Len.yN Len.yB 1 (some .int))) (wks q (.initialized Len.yN.cls :: Len.site))
theorem movedLen {Z s : State} {a0 args : Array Value} (hZ : Z.Warmed39 s.vm) (hw : ∀ d ∈ wordsLen, d.before a0 Z = true) : ∀ d ∈ wordsLen, d.before args s = true := fun d hd => by
  have q := hw d hd
  have t : ∀ d ∈ wordsLen, d = .arrayClass .byte ∨ (d.onTables && d.keepsFace) = true := by decide +kernel
  rcases t d hd with rfl | t
  · exact RoadKit.mvA hZ q
  · exact RoadKit.mv hZ q t
/-- the bytes of the chars cs, low before high -/
def wideBytes : List Int32 → List Value
  | [] => []
  | c :: cs => .int (lo8 c) :: .int (hi8 c) :: wideBytes cs
theorem wide_lo (d : Value) : ∀ (cs : List Int32) (j : Nat), j < cs.length → (wideBytes cs).getD (2 * j) d = .int (lo8 (cs.getD j 0))
  | [], j, h => absurd h (Nat.not_lt_zero j)
  | c :: cs, 0, _ => rfl
  | c :: cs, j + 1, h => by
    have q := wide_lo d cs j (by simpa using h)
    rw [show 2 * (j + 1) = 2 * j + 1 + 1 from by omega]
    simpa [wideBytes] using q
theorem wide_hi (d : Value) : ∀ (cs : List Int32) (j : Nat), j < cs.length → (wideBytes cs).getD (2 * j + 1) d = .int (hi8 (cs.getD j 0))
  | [], j, h => absurd h (Nat.not_lt_zero j)
  | c :: cs, 0, _ => rfl
  | c :: cs, j + 1, h => by
    have q := wide_hi d cs j (by simpa using h)
    rw [show 2 * (j + 1) + 1 = 2 * j + 1 + 1 + 1 from by omega]
    simpa [wideBytes] using q
theorem low_at (d : Value) (cs : List Int32) (j : Nat) (h : j < cs.length) : (cs.map fun c => Value.int (lo8 c)).getD j d = .int (lo8 (cs.getD j 0)) := by
  simp [List.getD_eq_getElem?_getD, h]
/-- an array of N2 bytes vs codes the chars cs by the coder cd -/
def CodA (cs : List Int32) (cd N2 : Int32) (vs : List Value) : Prop := (cd = 0 ∧ N2 = Int32.ofNat cs.length ∧ vs = (cs.map fun c => Value.int (lo8 c)) ∧ ∀ c ∈ cs, ¬ 255 < c) ∨ (cd = 1 ∧ N2 = Int32.ofNat (2 * cs.length) ∧ vs = wideBytes cs ∧ ∃ c ∈ cs, 255 < c)
theorem CodA.cod {cs : List Int32} {cd N2 : Int32} {vs : List Value} {V : Cell} (h : CodA cs cd N2 vs) (hn : 2 * cs.length < 2 ^ 31) (hs : V.slots.size = N2.toNatClampNeg) (hv : RoadKit.Has V vs (.int 0)) : Cod cd cs.length (fun j => cs.getD j 0) V := by
  rcases h with ⟨rfl, rfl, rfl, h⟩ | ⟨rfl, rfl, rfl, c, hc, hw⟩
  · rw [n32 (by omega)] at hs
    exact Or.inl ⟨rfl, hs, fun j hj => ⟨by rw [hv j (by omega), low_at _ _ _ hj], by
      have e : cs.getD j 0 = cs[j] := by simp [List.getD_eq_getElem?_getD, hj]
      show ¬ 255 < cs.getD j 0
      rw [e]; exact h _ (List.getElem_mem _)⟩⟩
  · rw [n32 (by omega)] at hs
    obtain ⟨j, hj, rfl⟩ := List.getElem_of_mem hc
    exact Or.inr ⟨rfl, hs, fun j hj => ⟨by rw [hv _ (by omega), wide_lo _ _ _ hj], by rw [hv _ (by omega), wide_hi _ _ _ hj]⟩, j, hj, by
      have e : cs.getD j 0 = cs[j] := by simp [List.getD_eq_getElem?_getD, hj]
      show 255 < cs.getD j 0
      rw [e]; exact hw⟩
/-- an object of exactly java/lang/String, its two fields found: as the laws ask it -/
theorem strObj {Z U : State} {a0 : Array Value} {kI : Nat} (wi : (Jvm.Cond.instantiable ST kI).before a0 Z = true) (al : Z.vm.Alike U.vm) {x : Addr} {v0 c0 : Value} (E : RoadKit.Exa Z U.heap x ST) (V : RoadKit.Fld Z U.heap x ST "value" "[B" v0) (C : RoadKit.Fld Z U.heap x ST "coder" "B" c0) :
    ∃ (D : Cell) (fV fC : Field), Blank ST x D U ∧ Found ST "value" "[B" fV U ∧ Found ST "coder" "B" fC U ∧ D.slots[fV.slot]? = some v0 ∧ D.slots[fC.slot]? = some c0 ∧ RoadKit.slotOf Z ST "value" "[B" = fV.slot ∧ RoadKit.slotOf Z ST "coder" "B" = fC.slot := by
  obtain ⟨D, cfV, kV, iV, fV, hD, gV, stV, knV, obV, asV, slV⟩ := V
  obtain ⟨D', cfC, kC, iC, fC, hD', gC, stC, -, -, asC, slC⟩ := C
  cases hD.symm.trans hD'
  obtain ⟨D2, kD, e1, e2, e3, e4, e5⟩ := E
  cases hD.symm.trans e1
  obtain ⟨c2, k2, i1, i2, i3, -⟩ := Cond.instantiable_spec wi
  cases e2.symm.trans i1
  cases e3.symm.trans i2
  obtain ⟨kU, u1, u2⟩ := al.2.2 _ _ e3
  exact ⟨D, fV, fC, ⟨hD, ⟨knV, fun q hq => by rw [hq] at obV; cases obV⟩, by rw [al.findClass]; exact e2, kU, u1, by rw [u2]; exact i3, by rw [u2]; exact e5 i3⟩, ⟨SBG.found_only al ⟨cfV, kV, iV, gV⟩, stV⟩, ⟨SBG.found_only al ⟨cfC, kC, iC, gC⟩, stC⟩, slV, slC, by simp [RoadKit.slotOf, gV], by simp [RoadKit.slotOf, gC]⟩
theorem sta_is {Z U : State} (al : Z.vm.Alike U.vm) {C n d : String} {v : Value} (S : RoadKit.Sta Z U.heap C n d v) : StaticIs U C n d v := by
  obtain ⟨cfS, iS, kS, fS, st, cS, t1, t2, t3, t4, t5, t6, t7⟩ := S
  exact StaticIs.there (s := { Z with heap := U.heap }) ⟨cfS, iS, kS, fS, st, cS, t1, t2, t3, t4, t5, (fun q => by rw [q] at t6; cases t6), t7⟩ al rfl
/-- **length() OF SUCH A STRING** -/
theorem lenW {p : Program} {l : Launch} {e : Env} {R : Room} {s : State} {args : Array Value} {below : List Frame} {len W : Nat} {Z : State} {a0 : Array Value} {h : Heap} (hZ : Z.Warmed39 s.vm) (hw : ∀ d ∈ wordsLen, d.before a0 Z = true) {kI : Nat} (wi : (Jvm.Cond.instantiable ST kI).before a0 Z = true)
    {x t : Addr} {kb : ClassId} {cs : List Int32} {cd N2 z : Int32} {vs : List Value} (E : RoadKit.Exa Z h x ST) (V : RoadKit.Fld Z h x ST "value" "[B" (.ref t)) (C : RoadKit.Fld Z h x ST "coder" "B" (.int cd)) (K : RoadKit.Arv Z h t kb .byte N2 vs (.int 0)) (hc : CodA cs cd N2 vs) (hb : ∀ c ∈ cs, ¬ c < 0 ∧ ¬ (65535 : Int32) < c)
    (S : RoadKit.Sta Z h ST "COMPACT_STRINGS" "Z" (.int z)) (hz : ¬ z = 0) (l2 : cs.length ≤ 4000) (hfr : 2 ≤ R.frames) (hlo : W + 25 ≤ R.locals) :
    Back l R p e below s args (⟨"java/lang/String", "length", "()I"⟩ : MethodName) len W (fun P a => a = #[.ref x] ∧ P.U.heap = h ∧ P.cells + 0 ≤ R.cells ∧ P.slots + 0 ≤ R.slots)
      (fun P _ v B => ∃ L, (v = some (.int (Int32.ofNat cs.length)) ∧ L = [] ∧ B.U.heap = h) ∧ B.locs = P.locs ++ L ∧ B.cells = P.cells + 0 ∧ B.slots = P.slots + 0) := by
  obtain ⟨A, K1, K2, K3, K4, K5, K6⟩ := K
  have hcod := hc.cod (by omega) K3 K5
  intro m meth c P g ig mk a X hg hsize hdg hW hn hp'
  obtain ⟨rfl, rfl, r1, r2⟩ := hp'
  have al : Z.vm.Alike P.U.vm := hZ.alike.trans X.warmed.alike
  obtain ⟨D, fV, fC, hB, F1, F2, g1, g2, -, -⟩ := strObj wi al E V C
  have hx : Txt x t A cd cs.length (fun j => cs.getD j 0) P.U := ⟨⟨_, hB.2.2.1, D, hB.1, rfl, by cases q : D.vm <;> first | rfl | exact absurd q (hB.2.1.2 _)⟩, Has.of hB F1 g1, Has.of hB F2 g2, ⟨K1.1, State.isArrayOf_alike al K1.2.1, K1.2.2, by rcases hcod with ⟨-, q, -⟩ | ⟨-, q, -⟩ <;> omega⟩, hcod, fun j hj => by
    have e : cs.getD j 0 = cs[j] := by simp [List.getD_eq_getElem?_getD, hj]
    show ¬ cs.getD j 0 < 0 ∧ ¬ 65535 < cs.getD j 0
    rw [e]; exact hb _ (List.getElem_mem _)⟩
  obtain ⟨v, B, X', ⟨⟨hv, hh⟩, hl, hk, hs⟩, st⟩ := Len.pays x t A cd cs.length (fun j => cs.getD j 0) z (tabLen_of (movedLen hZ hw)) hfr hlo m meth c P g ig mk _ X hg hsize hdg hW hn ⟨r1, r2, rfl, hx, sta_is al S, hz⟩
  exact ⟨v, B, X', ⟨[], ⟨hv, rfl, hh⟩, hl, hk, hs⟩, st⟩
end StrChars.Road
namespace StrChars
open Jvm Sem ClassFile Op Lib Jvm.Stand Jvm.Free.XT Jvm.Free.ALB Jvm.Free.JM Jvm.Free
open Jvm.Lib.Cold (StaticIs)
/-- what place i of a byte[]'s cell holds -/
def yv (A : Cell) (i : Nat) : Int32 := match A.slots[i]? with | some (.int x) => x | _ => 0
theorem yv_get {a : Addr} {A : Cell} {U : State} (h : XT.Arr .byte a A U) (ht : Typed .byte A) {i : Nat} (hi : i < A.slots.size) : A.slots[i]? = some (.int (yv A i)) := by
  have e := Array.getElem?_eq_getElem hi
  have f := ht i _ e
  unfold yv; rw [e]
  generalize A.slots[i] = v at f
  cases v <;> simp [fits] at f ⊢
/-- the two arrays are equal, place for place -/
def EqC (A B : Cell) : Prop := A.slots.size = B.slots.size ∧ ∀ i, i < A.slots.size → yv A i = yv B i
/-- a boolean that says whether p -/
def Says01 (q : Prop) (r : Option Value) (s u : State) : Prop := ∃ v : Int32, r = some (.int v) ∧ u.heap = s.heap ∧ ((v = 1 ∧ q) ∨ (v = 0 ∧ ¬ q))
theorem Says01.mv {q : Prop} : ∀ r (U U' V V' : State), U'.heap = U.heap → V.vm.Alike V'.vm → V'.heap = V.heap → Says01 q r U V → Says01 q r U' V' :=
  fun r U U' V V' h1 _ h2 ⟨v, a, b, c⟩ => ⟨v, a, by rw [h1, h2]; exact b, c⟩
namespace LEq
def yN : MethodName := ⟨"java/lang/StringLatin1", "equals", "([B[B)Z"⟩
abbrev yB : ByteArray := jdk_43_method_13_code
theorem d0 : decode yB 0 = .ok (.aload_n 0, 1) := by decide +kernel
theorem d1 : decode yB 1 = .ok (.arraylength, 1) := by decide +kernel
theorem d2 : decode yB 2 = .ok (.aload_n 1, 1) := by decide +kernel
theorem d3 : decode yB 3 = .ok (.arraylength, 1) := by decide +kernel
theorem d4 : decode yB 4 = .ok (.if_icmp (.ne) 30, 3) := by decide +kernel
theorem d7 : decode yB 7 = .ok (.iconst 0, 1) := by decide +kernel
theorem d8 : decode yB 8 = .ok (.istore_n 2, 1) := by decide +kernel
theorem d9 : decode yB 9 = .ok (.iload_n 2, 1) := by decide +kernel
theorem d10 : decode yB 10 = .ok (.aload_n 0, 1) := by decide +kernel
theorem d11 : decode yB 11 = .ok (.arraylength, 1) := by decide +kernel
theorem d12 : decode yB 12 = .ok (.if_icmp (.ge) 20, 3) := by decide +kernel
theorem d15 : decode yB 15 = .ok (.aload_n 0, 1) := by decide +kernel
theorem d16 : decode yB 16 = .ok (.iload_n 2, 1) := by decide +kernel
theorem d17 : decode yB 17 = .ok (.baload, 1) := by decide +kernel
theorem d18 : decode yB 18 = .ok (.aload_n 1, 1) := by decide +kernel
theorem d19 : decode yB 19 = .ok (.iload_n 2, 1) := by decide +kernel
theorem d20 : decode yB 20 = .ok (.baload, 1) := by decide +kernel
theorem d21 : decode yB 21 = .ok (.if_icmp (.eq) 5, 3) := by decide +kernel
theorem d24 : decode yB 24 = .ok (.iconst 0, 1) := by decide +kernel
theorem d25 : decode yB 25 = .ok (.ireturn, 1) := by decide +kernel
theorem d26 : decode yB 26 = .ok (.iinc 2 1, 3) := by decide +kernel
theorem d29 : decode yB 29 = .ok (.goto (-20), 3) := by decide +kernel
theorem d32 : decode yB 32 = .ok (.iconst 1, 1) := by decide +kernel
theorem d33 : decode yB 33 = .ok (.ireturn, 1) := by decide +kernel
theorem d34 : decode yB 34 = .ok (.iconst 0, 1) := by decide +kernel
theorem d35 : decode yB 35 = .ok (.ireturn, 1) := by decide +kernel
def site : List Cond := []
def tab : Cond := tabOf yN yB 3 (some .boolean) site
def P (a : Addr) (A : Cell) (b : Addr) (B : Cell) (args : Array Value) (s : State) : Prop := args = #[.ref a, .ref b] ∧ XT.Arr .byte a A s ∧ Typed .byte A ∧ XT.Arr .byte b B s ∧ Typed .byte B
/-- whether two byte[] are equal, place for place -/
theorem law (l : Launch) (a : Addr) (A : Cell) (b : Addr) (B : Cell) : Law l yN 2 2 0 0 yB 3 (some .boolean) site (P a A b B) (Says01 (EqC A B)) [] 0 0 := by
  refine Law.of_walk (plainFor_of_name (by decide +kernel)) (by decide +kernel) (by decide +kernel) (by decide) (fun _ _ h => by rw [h.1]; rfl) (fun _ U U' hal hh h => ⟨h.1, h.2.1.mv hal hh, h.2.2.1, h.2.2.2.1.mv hal hh, h.2.2.2.2⟩) (fun r U U' V V' h1 hal h2 h => Says01.mv r U U' V V' h1 hal h2 h) ?_
  intro p e s m args below meth c s₁ X0 hexec hbytes hml hret hlk hnm hown hh0 W hP
  obtain ⟨rfl, hA, tA, hB, tB⟩ := hP
  have a31 := hA.2.2.2
  have b31 := hB.2.2.2
  have hA0 := hA.mv X0.warmed.alike hh0
  have hB0 := hB.mv X0.warmed.alike hh0
  have c1 : Steps p.tables e below (s₁.setTop (entryFrame m #[.ref a, .ref b] 3)) (s₁.setTop (mkF m 0 #[.val (.ref a), .val (.ref b), .unset] [])) := entry rfl
  have c2 : Steps p.tables e below (s₁.setTop (entryFrame m #[.ref a, .ref b] 3)) (s₁.setTop (mkF m 4 #[.val (.ref a), .val (.ref b), .unset] [.int (Int32.ofNat B.slots.size), .int (Int32.ofNat A.slots.size)])) := c1.trans (by
    refine XS.aloadN X0.here hexec rfl (hb hbytes d0) rfl rfl ?_
    refine X0.alen hexec hA0 rfl rfl (hb hbytes d1) ?_
    refine XS.aloadN X0.here hexec rfl (hb hbytes d2) rfl rfl ?_
    refine X0.alen hexec hB0 rfl rfl (hb hbytes d3) ?_
    exact Steps.refl _)
  by_cases hs : A.slots.size = B.slots.size
  · have c3 : Steps p.tables e below (s₁.setTop (entryFrame m #[.ref a, .ref b] 3)) (s₁.setTop (mkF m 9 #[.val (.ref a), .val (.ref b), .val (.int 0)] [])) := c2.trans (by
      refine XS.icmpNo X0.here hexec rfl (hb hbytes d4) rfl (ii_ne_f (by rw [hs])) ?_
      refine iconstV X0.here hexec rfl 0 (hb hbytes d7) (by decide) ?_
      refine XS.istoreN X0.here hexec rfl (hb hbytes d8) rfl rfl ?_
      exact Steps.refl _)
    have loop : ∀ (r i : Nat), i + r = A.slots.size → (∀ j, j < i → yv A j = yv B j) → Steps p.tables e below (s₁.setTop (entryFrame m #[.ref a, .ref b] 3)) (s₁.setTop (mkF m 9 #[.val (.ref a), .val (.ref b), .val (.int (Int32.ofNat i))] [])) → ∃ (pc : Nat) (Ls : Array Slot) (v : Int32), (pc = 25 ∨ pc = 33) ∧ ((v = 1 ∧ EqC A B) ∨ (v = 0 ∧ ¬ EqC A B)) ∧ Steps p.tables e below (s₁.setTop (entryFrame m #[.ref a, .ref b] 3)) (s₁.setTop (mkF m pc Ls [.int v])) := by
      intro r
      induction r with
      | zero =>
        intro i hi he cl
        exact ⟨33, _, 1, Or.inr rfl, Or.inl ⟨rfl, hs, fun j hj => he j (by omega)⟩, cl.trans (by
          refine XS.iloadN X0.here hexec rfl (hb hbytes d9) rfl ?_
          refine XS.aloadN X0.here hexec rfl (hb hbytes d10) rfl rfl ?_
          refine X0.alen hexec hA0 rfl rfl (hb hbytes d11) ?_
          refine XS.icmpYes X0.here hexec rfl (pc0 := 12) rfl (hb hbytes d12) rfl (ii_ge_t (nlt32 (by omega) (by omega))) (by decide) rfl ?_
          refine iconstV X0.here hexec rfl 1 (hb hbytes d32) (by decide) ?_
          exact Steps.refl _)⟩
      | succ r ih =>
        intro i hi he cl
        have c4 : Steps p.tables e below (s₁.setTop (entryFrame m #[.ref a, .ref b] 3)) (s₁.setTop (mkF m 21 #[.val (.ref a), .val (.ref b), .val (.int (Int32.ofNat i))] [.int (yv B i), .int (yv A i)])) := cl.trans (by
          refine XS.iloadN X0.here hexec rfl (hb hbytes d9) rfl ?_
          refine XS.aloadN X0.here hexec rfl (hb hbytes d10) rfl rfl ?_
          refine X0.alen hexec hA0 rfl rfl (hb hbytes d11) ?_
          refine XS.icmpNo X0.here hexec rfl (hb hbytes d12) rfl (ii_ge_f (lt32 (by omega) (by omega))) ?_
          refine XS.aloadN X0.here hexec rfl (hb hbytes d15) rfl rfl ?_
          refine XS.iloadN X0.here hexec rfl (hb hbytes d16) rfl ?_
          refine X0.aget hexec hA0 rfl (yv_get hA tA (i := i) (by omega)) rfl rfl (hb hbytes d17) ?_
          refine XS.aloadN X0.here hexec rfl (hb hbytes d18) rfl rfl ?_
          refine XS.iloadN X0.here hexec rfl (hb hbytes d19) rfl ?_
          refine X0.aget hexec hB0 rfl (yv_get hB tB (i := i) (by omega)) rfl rfl (hb hbytes d20) ?_
          exact Steps.refl _)
        by_cases hv : yv A i = yv B i
        · have c5 : Steps p.tables e below (s₁.setTop (entryFrame m #[.ref a, .ref b] 3)) (s₁.setTop (mkF m 9 #[.val (.ref a), .val (.ref b), .val (.int (Int32.ofNat i + 1))] [])) := c4.trans (by
            refine XS.icmpYes X0.here hexec rfl (pc0 := 21) rfl (hb hbytes d21) rfl (ii_eq_t hv) (by decide) rfl ?_
            refine iincV X0.here hexec rfl 1 (hb hbytes d26) (by decide) rfl rfl ?_
            refine XS.goto X0.here hexec rfl (pc0 := 29) rfl (hb hbytes d29) (by decide) rfl ?_
            exact Steps.refl _)
          rw [succ32] at c5
          exact ih (i + 1) (by omega) (fun j hj => by
            by_cases e : j = i
            · rw [e]; exact hv
            · exact he j (by omega)) c5
        · exact ⟨25, _, 0, Or.inl rfl, Or.inr ⟨rfl, fun q => hv (q.2 i (by omega))⟩, c4.trans (by
            refine XS.icmpNo X0.here hexec rfl (hb hbytes d21) rfl (ii_eq_f hv) ?_
            refine iconstV X0.here hexec rfl 0 (hb hbytes d24) (by decide) ?_
            exact Steps.refl _)⟩
    obtain ⟨pc, Ls, v, hpc, hv, cz⟩ := loop A.slots.size 0 (by omega) (fun j hj => absurd hj (Nat.not_lt_zero j)) c3
    have nv : narrow .boolean (.int v) = .int v := by rcases hv with ⟨rfl, -⟩ | ⟨rfl, -⟩ <;> rfl
    rcases hpc with rfl | rfl
    · exact ⟨s₁, some (.int v), _, _, _, X0, rfl, rfl, rfl, (fun h => by cases h), ⟨v, rfl, hh0, hv⟩, fun fs hl => cz.trans (X0.ireturnOut hexec hret nv (Or.inr (Or.inl rfl)) (hb hbytes d25) hl)⟩
    · exact ⟨s₁, some (.int v), _, _, _, X0, rfl, rfl, rfl, (fun h => by cases h), ⟨v, rfl, hh0, hv⟩, fun fs hl => cz.trans (X0.ireturnOut hexec hret nv (Or.inr (Or.inl rfl)) (hb hbytes d33) hl)⟩
  · have c3 : Steps p.tables e below (s₁.setTop (entryFrame m #[.ref a, .ref b] 3)) (s₁.setTop (mkF m 35 #[.val (.ref a), .val (.ref b), .unset] [.int 0])) := c2.trans (by
      refine XS.icmpYes X0.here hexec rfl (pc0 := 4) rfl (hb hbytes d4) rfl (ii_ne_t (ne32 a31 b31 hs)) (by decide) rfl ?_
      refine iconstV X0.here hexec rfl 0 (hb hbytes d34) (by decide) ?_
      exact Steps.refl _)
    exact ⟨s₁, some (.int 0), _, _, _, X0, rfl, rfl, rfl, (fun h => by cases h), ⟨0, rfl, hh0, Or.inr ⟨rfl, fun q => hs q.1⟩⟩, fun fs hl => c3.trans (X0.ireturnOut hexec hret rfl (Or.inr (Or.inl rfl)) (hb hbytes d35) hl)⟩
end LEq
theorem Cod.ty {cd : Int32} {n : Nat} {f : Nat → Int32} {V : Cell} (h : Cod cd n f V) : Typed .byte V := fun i v hv => by
  have hi : i < V.slots.size := (Array.getElem?_eq_some_iff.mp hv).1
  rcases h with ⟨-, k1, k2⟩ | ⟨-, k1, k2, -⟩
  · rw [(k2 i (by omega)).1] at hv; cases hv; exact fits_lo8 _
  · rcases Nat.mod_two_eq_zero_or_one i with e | e
    · obtain ⟨j, rfl⟩ : ∃ j, i = 2 * j := ⟨i / 2, by omega⟩
      rw [(k2 j (by omega)).1] at hv; cases hv; exact fits_lo8 _
    · obtain ⟨j, rfl⟩ : ∃ j, i = 2 * j + 1 := ⟨i / 2, by omega⟩
      rw [(k2 j (by omega)).2] at hv; cases hv; exact fits_lo8 _
/-- the same text -/
def SameT (n : Nat) (f : Nat → Int32) (k : Nat) (g : Nat → Int32) : Prop := n = k ∧ ∀ j, j < n → f j = g j
theorem lo8_inj {x y : Int32} (h0 : ¬ x < 0) (h1 : ¬ 255 < x) (k0 : ¬ y < 0) (k1 : ¬ 255 < y) (h : lo8 x = lo8 y) : x = y := by
  rw [← lo8_mask h0 h1, ← lo8_mask k0 k1, h]
/-- arrays coded by one coder are equal just where the texts are -/
theorem Cod.eqv {cd : Int32} {n k : Nat} {f g : Nat → Int32} {V V' : Cell} (h : Cod cd n f V) (h' : Cod cd k g V') (hf : ∀ j, j < n → ¬ f j < 0 ∧ ¬ 65535 < f j) (hg : ∀ j, j < k → ¬ g j < 0 ∧ ¬ 65535 < g j) : EqC V V' ↔ SameT n f k g := by
  have yvv : ∀ {W : Cell} {i : Nat} {x : Int32}, W.slots[i]? = some (.int x) → yv W i = x := fun q => by unfold yv; rw [q]
  rcases h with ⟨rfl, k1, k2⟩ | ⟨rfl, k1, k2, -⟩
  · rcases h' with ⟨-, m1, m2⟩ | ⟨e, -⟩
    · constructor
      · rintro ⟨e1, e2⟩
        refine ⟨by omega, fun j hj => ?_⟩
        have q := e2 j (by omega)
        rw [yvv (k2 j hj).1, yvv (m2 j (by omega)).1] at q
        exact lo8_inj (hf j hj).1 (k2 j hj).2 (hg j (by omega)).1 (m2 j (by omega)).2 q
      · rintro ⟨rfl, e2⟩
        refine ⟨by omega, fun j hj => ?_⟩
        rw [yvv (k2 j (by omega)).1, yvv (m2 j (by omega)).1, e2 j (by omega)]
    · exact absurd e (by decide)
  · rcases h' with ⟨e, -⟩ | ⟨-, m1, m2, -⟩
    · exact absurd e (by decide)
    · constructor
      · rintro ⟨e1, e2⟩
        refine ⟨by omega, fun j hj => ?_⟩
        have q1 := e2 (2 * j) (by omega)
        have q2 := e2 (2 * j + 1) (by omega)
        rw [yvv (k2 j hj).1, yvv (m2 j (by omega)).1] at q1
        rw [yvv (k2 j hj).2, yvv (m2 j (by omega)).2] at q2
        rw [← pair_says (hf j hj).1 (hf j hj).2, ← pair_says (hg j (by omega)).1 (hg j (by omega)).2, q1, q2]
      · rintro ⟨rfl, e2⟩
        refine ⟨by omega, fun i hi => ?_⟩
        rcases Nat.mod_two_eq_zero_or_one i with e | e
        · obtain ⟨j, rfl⟩ : ∃ j, i = 2 * j := ⟨i / 2, by omega⟩
          rw [yvv (k2 j (by omega)).1, yvv (m2 j (by omega)).1, e2 j (by omega)]
        · obtain ⟨j, rfl⟩ : ∃ j, i = 2 * j + 1 := ⟨i / 2, by omega⟩
          rw [yvv (k2 j (by omega)).2, yvv (m2 j (by omega)).2, e2 j (by omega)]
/-- two codings differ: so do the texts -/
theorem Cod.dif {cd cd' : Int32} {n k : Nat} {f g : Nat → Int32} {V V' : Cell} (h : Cod cd n f V) (h' : Cod cd' k g V') (hne : ¬ cd = cd') : ¬ SameT n f k g := by
  rintro ⟨rfl, e⟩
  rcases h with ⟨rfl, -, k2⟩ | ⟨rfl, -, -, j, hj, hw⟩
  · rcases h' with ⟨rfl, -⟩ | ⟨-, -, -, j, hj, hw⟩
    · exact hne rfl
    · exact (k2 j hj).2 (by rw [e j hj]; exact hw)
  · rcases h' with ⟨-, -, m2⟩ | ⟨rfl, -⟩
    · exact (m2 j hj).2 (by rw [← e j hj]; exact hw)
    · exact hne rfl
/-- an object of exactly C is an instance of C -/
theorem cinst {p : Program} {l : Launch} {e : Env} {R : Room} {s : State} {m : MethodId} {args : Array Value} {below : List Frame} {meth : Method} {c : Code} {T : State} {locs : List Loc} {cells slots : Nat} (X : Stand p l e R s m args below meth c T locs cells slots) (hexec : p.tables.exec = Jvm.exec) {own C : String} {index : Nat} (hown : s.vm.findClass own = some m.cls) (hlink : (Cond.classLink own index C).before args s = true) {a : Addr} (hE : Exact C a T)
    {g : JFrame} (hg : g.method = m) {rest : List Value} (hstack : g.stack = .ref a :: rest) (hdg : decode c.code g.pc = .ok (.instanceof index, 3)) :
    ∃ T', Stand p l e R s m args below meth c T' locs cells slots ∧ T'.heap = T.heap ∧ ∀ target, Steps p.tables e below (T'.setTop { g with pc := g.pc + 3, stack := .int 1 :: rest }) target → Steps p.tables e below (T.setTop g) target := by
  obtain ⟨cB, h1, D, h2, h3, h4⟩ := hE
  have h1' : s.vm.findClass C = some cB := by rw [← X.warmed.alike.findClass]; exact h1
  obtain ⟨vm', X', st⟩ := X.instanceofYes hexec hown hlink h2 h4 h1' (by rw [h3]; exact Jvm.Free.SB.assignable_self _ _) hg hstack hdg
  exact ⟨_, X', rfl, st⟩
theorem cself {p : Program} {l : Launch} {e : Env} {R : Room} {s : State} {m : MethodId} {args : Array Value} {below : List Frame} {meth : Method} {c : Code} {T : State} {locs : List Loc} {cells slots : Nat} (X : Stand p l e R s m args below meth c T locs cells slots) (hexec : p.tables.exec = Jvm.exec) {own C : String} {index : Nat} (hown : s.vm.findClass own = some m.cls) (hlink : (Cond.classLink own index C).before args s = true) {a : Addr} (hE : Exact C a T)
    {g : JFrame} (hg : g.method = m) {rest : List Value} (hstack : g.stack = .ref a :: rest) (hdg : decode c.code g.pc = .ok (.checkcast index, 3)) :
    ∃ T', Stand p l e R s m args below meth c T' locs cells slots ∧ T'.heap = T.heap ∧ ∀ target, Steps p.tables e below (T'.setTop { g with pc := g.pc + 3, stack := .ref a :: rest }) target → Steps p.tables e below (T.setTop g) target := by
  obtain ⟨cB, h1, D, h2, h3, h4⟩ := hE
  have h1' : s.vm.findClass C = some cB := by rw [← X.warmed.alike.findClass]; exact h1
  obtain ⟨vm', X', st⟩ := X.checkcastYes hexec hown hlink h2 h4 h1' (by rw [h3]; exact Jvm.Free.SB.assignable_self _ _) hg hstack hdg
  exact ⟨_, X', rfl, fun t h => st t (by rw [← hstack] at h; exact h)⟩
namespace SEq
def yN : MethodName := ⟨"java/lang/String", "equals", "(Ljava/lang/Object;)Z"⟩
abbrev yB : ByteArray := jdk_42_method_66_code
theorem d0 : decode yB 0 = .ok (.aload_n 0, 1) := by decide +kernel
theorem d1 : decode yB 1 = .ok (.aload_n 1, 1) := by decide +kernel
theorem d2 : decode yB 2 = .ok (.if_acmp (.ne) 5, 3) := by decide +kernel
theorem d5 : decode yB 5 = .ok (.iconst 1, 1) := by decide +kernel
theorem d6 : decode yB 6 = .ok (.ireturn, 1) := by decide +kernel
theorem d7 : decode yB 7 = .ok (.aload_n 1, 1) := by decide +kernel
theorem d8 : decode yB 8 = .ok (.instanceof 10, 3) := by decide +kernel
theorem d11 : decode yB 11 = .ok (.ifCond (.eq) 43, 3) := by decide +kernel
theorem d14 : decode yB 14 = .ok (.aload_n 1, 1) := by decide +kernel
theorem d15 : decode yB 15 = .ok (.checkcast 10, 3) := by decide +kernel
theorem d18 : decode yB 18 = .ok (.astore_n 2, 1) := by decide +kernel
theorem d19 : decode yB 19 = .ok (.getstatic 38, 3) := by decide +kernel
theorem d22 : decode yB 22 = .ok (.ifCond (.eq) 14, 3) := by decide +kernel
theorem d25 : decode yB 25 = .ok (.aload_n 0, 1) := by decide +kernel
theorem d26 : decode yB 26 = .ok (.getfield 15, 3) := by decide +kernel
theorem d29 : decode yB 29 = .ok (.aload_n 2, 1) := by decide +kernel
theorem d30 : decode yB 30 = .ok (.getfield 15, 3) := by decide +kernel
theorem d33 : decode yB 33 = .ok (.if_icmp (.ne) 21, 3) := by decide +kernel
theorem d36 : decode yB 36 = .ok (.aload_n 0, 1) := by decide +kernel
theorem d37 : decode yB 37 = .ok (.getfield 9, 3) := by decide +kernel
theorem d40 : decode yB 40 = .ok (.aload_n 2, 1) := by decide +kernel
theorem d41 : decode yB 41 = .ok (.getfield 9, 3) := by decide +kernel
theorem d44 : decode yB 44 = .ok (.invokestatic 541, 3) := by decide +kernel
theorem d47 : decode yB 47 = .ok (.ifCond (.eq) 7, 3) := by decide +kernel
theorem d50 : decode yB 50 = .ok (.iconst 1, 1) := by decide +kernel
theorem d51 : decode yB 51 = .ok (.goto 4, 3) := by decide +kernel
theorem d54 : decode yB 54 = .ok (.iconst 0, 1) := by decide +kernel
theorem d55 : decode yB 55 = .ok (.ireturn, 1) := by decide +kernel
def site : List Cond := [.classLink "java/lang/String" 10 "java/lang/String", .fieldLink "java/lang/String" 38 "java/lang/String" "COMPACT_STRINGS" "Z", .fieldLink "java/lang/String" 15 "java/lang/String" "coder" "B", .fieldLink "java/lang/String" 9 "java/lang/String" "value" "[B", LEq.tab] ++ staticW "java/lang/String" 541 LEq.yN
def tab : Cond := tabOf yN yB 3 (some .boolean) site
def P (x t : Addr) (V : Cell) (cd : Int32) (n : Nat) (f : Nat → Int32) (y t' : Addr) (V' : Cell) (cd' : Int32) (k : Nat) (g : Nat → Int32) (z : Int32) (args : Array Value) (s : State) : Prop := args = #[.ref x, .ref y] ∧ Txt x t V cd n f s ∧ Txt y t' V' cd' k g s ∧ StaticIs s "java/lang/String" "COMPACT_STRINGS" "Z" (.int z) ∧ ¬ z = 0
/-- equals(Object) of two Strings: whether the texts are the same -/
theorem law (l : Launch) (x t : Addr) (V : Cell) (cd : Int32) (n : Nat) (f : Nat → Int32) (y t' : Addr) (V' : Cell) (cd' : Int32) (k : Nat) (g : Nat → Int32) (z : Int32) : Law l yN 2 1 1 14 yB 3 (some .boolean) site (P x t V cd n f y t' V' cd' k g z) (Says01 (SameT n f k g)) [] 0 0 := by
  refine Law.of_walk (plainFor_of_name (by decide +kernel)) (by decide +kernel) (by decide +kernel) (by decide) (fun _ _ h => by rw [h.1]; rfl) (fun _ U U' hal hh h => ⟨h.1, h.2.1.mv hal hh, h.2.2.1.mv hal hh, h.2.2.2.1.there hal hh, h.2.2.2.2⟩) (fun r U U' V V' h1 hal h2 h => Says01.mv r U U' V V' h1 hal h2 h) ?_
  intro p e s m args below meth c s₁ X0 hexec hbytes hml hret hlk hnm hown hh0 W hP
  obtain ⟨rfl, hx, hy, s1, hz⟩ := hP
  have c1 : Steps p.tables e below (s₁.setTop (entryFrame m #[.ref x, .ref y] 3)) (s₁.setTop (mkF m 2 #[.val (.ref x), .val (.ref y), .unset] [.ref y, .ref x])) := Steps.trans (entry rfl) (by
    show Steps p.tables e below (s₁.setTop (mkF m 0 #[.val (.ref x), .val (.ref y), .unset] [])) _
    refine XS.aloadN X0.here hexec rfl (hb hbytes d0) rfl rfl ?_
    refine XS.aloadN X0.here hexec rfl (hb hbytes d1) rfl rfl ?_
    exact Steps.refl _)
  by_cases hxy : x = y
  · have c2 : Steps p.tables e below (s₁.setTop (entryFrame m #[.ref x, .ref y] 3)) (s₁.setTop (mkF m 6 #[.val (.ref x), .val (.ref y), .unset] [.int 1])) := c1.trans (by
      refine acmpNo X0.here hexec rfl (hb hbytes d2) rfl rfl rfl (by simp [acmp, hxy]) ?_
      refine iconstV X0.here hexec rfl 1 (hb hbytes d5) (by decide) ?_
      exact Steps.refl _)
    subst hxy
    have ec : cd = cd' := by
      obtain ⟨D, fd, a1, a2, a3⟩ := hx.2.2.1
      obtain ⟨D', fd', b1, b2, b3⟩ := hy.2.2.1
      cases a1.symm.trans b1
      obtain ⟨q1, q2, q3, q4⟩ := a2.1
      obtain ⟨r1, r2, r3, r4⟩ := b2.1
      cases q4.symm.trans r4
      cases a3.symm.trans b3; rfl
    have et : t = t' := by
      obtain ⟨D, fd, a1, a2, a3⟩ := hx.2.1
      obtain ⟨D', fd', b1, b2, b3⟩ := hy.2.1
      cases a1.symm.trans b1
      obtain ⟨q1, q2, q3, q4⟩ := a2.1
      obtain ⟨r1, r2, r3, r4⟩ := b2.1
      cases q4.symm.trans r4
      cases a3.symm.trans b3; rfl
    subst ec et
    have ev : V = V' := by cases hx.2.2.2.1.1.symm.trans hy.2.2.2.1.1; rfl
    subst ev
    have hs : SameT n f k g := (Cod.eqv hx.2.2.2.2.1 hy.2.2.2.2.1 hx.2.2.2.2.2 hy.2.2.2.2.2).mp ⟨rfl, fun _ _ => rfl⟩
    exact ⟨s₁, some (.int 1), _, _, _, X0, rfl, rfl, rfl, (fun h => by cases h), ⟨1, rfl, hh0, Or.inl ⟨rfl, hs⟩⟩, fun fs hl => c2.trans (X0.ireturnOut hexec hret rfl (Or.inr (Or.inl rfl)) (hb hbytes d6) hl)⟩
  · have c2 : Steps p.tables e below (s₁.setTop (entryFrame m #[.ref x, .ref y] 3)) (s₁.setTop (mkF m 8 #[.val (.ref x), .val (.ref y), .unset] [.ref y])) := c1.trans (by
      refine acmpYes X0.here hexec rfl (pc0 := 2) rfl (hb hbytes d2) rfl rfl rfl (by simp [acmp, hxy]) (by decide) rfl ?_
      refine XS.aloadN X0.here hexec rfl (hb hbytes d7) rfl rfl ?_
      exact Steps.refl _)
    obtain ⟨T3, X3, q3, st3⟩ := cinst X0 hexec hown (wk W (.classLink "java/lang/String" 10 "java/lang/String")) (hy.mv X0.warmed.alike hh0).1 (g := (mkF m 8 #[.val (.ref x), .val (.ref y), .unset] [.ref y])) rfl (rest := []) rfl (hb hbytes d8)
    have hh3 := q3.trans hh0
    have c4 : Steps p.tables e below (s₁.setTop (entryFrame m #[.ref x, .ref y] 3)) (T3.setTop (mkF m 15 #[.val (.ref x), .val (.ref y), .unset] [.ref y])) := (c2.trans (st3 _ (Steps.refl _))).trans (by
      refine XS.ifNo X3.here hexec rfl (hb hbytes d11) rfl (i0_eq_f (by decide)) ?_
      refine XS.aloadN X3.here hexec rfl (hb hbytes d14) rfl rfl ?_
      exact Steps.refl _)
    obtain ⟨T5, X5, q5, st5⟩ := cself X3 hexec hown (wk W (.classLink "java/lang/String" 10 "java/lang/String")) (hy.mv X3.warmed.alike hh3).1 (g := (mkF m 15 #[.val (.ref x), .val (.ref y), .unset] [.ref y])) rfl (rest := []) rfl (hb hbytes d15)
    have hh5 := q5.trans hh3
    have c6 : Steps p.tables e below (s₁.setTop (entryFrame m #[.ref x, .ref y] 3)) (T5.setTop (mkF m 19 #[.val (.ref x), .val (.ref y), .val (.ref y)] [])) := (c4.trans (st5 _ (Steps.refl _))).trans (by
      refine XS.astoreN X5.here hexec rfl (hb hbytes d18) rfl rfl rfl ?_
      exact Steps.refl _)
    obtain ⟨T7, X7, q7, st7⟩ := X5.sget hexec hown (wk W (.fieldLink "java/lang/String" 38 "java/lang/String" "COMPACT_STRINGS" "Z")) s1 (fun _ _ h => by rw [hh5]; exact h) (g := (mkF m 19 #[.val (.ref x), .val (.ref y), .val (.ref y)] [])) rfl (hb hbytes d19)
    have hh7 := q7.trans hh5
    have c8 : Steps p.tables e below (s₁.setTop (entryFrame m #[.ref x, .ref y] 3)) (T7.setTop (mkF m 26 #[.val (.ref x), .val (.ref y), .val (.ref y)] [.ref x])) := (c6.trans (st7 _ (Steps.refl _))).trans (by
      refine XS.ifNo X7.here hexec rfl (hb hbytes d22) rfl (i0_eq_f hz) ?_
      refine XS.aloadN X7.here hexec rfl (hb hbytes d25) rfl rfl ?_
      exact Steps.refl _)
    obtain ⟨T9, X9, q9, st9⟩ := X7.hget hexec hown (wk W (.fieldLink "java/lang/String" 15 "java/lang/String" "coder" "B")) (hx.mv X7.warmed.alike hh7).2.2.1 (g := (mkF m 26 #[.val (.ref x), .val (.ref y), .val (.ref y)] [.ref x])) rfl (rest := []) rfl (hb hbytes d26)
    have hh9 := q9.trans hh7
    have c10 : Steps p.tables e below (s₁.setTop (entryFrame m #[.ref x, .ref y] 3)) (T9.setTop (mkF m 30 #[.val (.ref x), .val (.ref y), .val (.ref y)] [.ref y, .int cd])) := (c8.trans (st9 _ (Steps.refl _))).trans (by
      refine XS.aloadN X9.here hexec rfl (hb hbytes d29) rfl rfl ?_
      exact Steps.refl _)
    obtain ⟨T11, X11, q11, st11⟩ := X9.hget hexec hown (wk W (.fieldLink "java/lang/String" 15 "java/lang/String" "coder" "B")) (hy.mv X9.warmed.alike hh9).2.2.1 (g := (mkF m 30 #[.val (.ref x), .val (.ref y), .val (.ref y)] [.ref y, .int cd])) rfl (rest := [.int cd]) rfl (hb hbytes d30)
    have hh11 := q11.trans hh9
    have c12 : Steps p.tables e below (s₁.setTop (entryFrame m #[.ref x, .ref y] 3)) (T11.setTop (mkF m 33 #[.val (.ref x), .val (.ref y), .val (.ref y)] [.int cd', .int cd])) := c10.trans (st11 _ (Steps.refl _))
    by_cases hcd : cd = cd'
    · subst hcd
      have c13 : Steps p.tables e below (s₁.setTop (entryFrame m #[.ref x, .ref y] 3)) (T11.setTop (mkF m 37 #[.val (.ref x), .val (.ref y), .val (.ref y)] [.ref x])) := c12.trans (by
        refine XS.icmpNo X11.here hexec rfl (hb hbytes d33) rfl (ii_ne_f rfl) ?_
        refine XS.aloadN X11.here hexec rfl (hb hbytes d36) rfl rfl ?_
        exact Steps.refl _)
      obtain ⟨T14, X14, q14, st14⟩ := X11.hget hexec hown (wk W (.fieldLink "java/lang/String" 9 "java/lang/String" "value" "[B")) (hx.mv X11.warmed.alike hh11).2.1 (g := (mkF m 37 #[.val (.ref x), .val (.ref y), .val (.ref y)] [.ref x])) rfl (rest := []) rfl (hb hbytes d37)
      have hh14 := q14.trans hh11
      have c15 : Steps p.tables e below (s₁.setTop (entryFrame m #[.ref x, .ref y] 3)) (T14.setTop (mkF m 41 #[.val (.ref x), .val (.ref y), .val (.ref y)] [.ref y, .ref t])) := (c13.trans (st14 _ (Steps.refl _))).trans (by
        refine XS.aloadN X14.here hexec rfl (hb hbytes d40) rfl rfl ?_
        exact Steps.refl _)
      obtain ⟨T16, X16, q16, st16⟩ := X14.hget hexec hown (wk W (.fieldLink "java/lang/String" 9 "java/lang/String" "value" "[B")) (hy.mv X14.warmed.alike hh14).2.1 (g := (mkF m 41 #[.val (.ref x), .val (.ref y), .val (.ref y)] [.ref y, .ref t])) rfl (rest := [.ref t]) rfl (hb hbytes d41)
      have hh16 := q16.trans hh14
      have c17 : Steps p.tables e below (s₁.setTop (entryFrame m #[.ref x, .ref y] 3)) (T16.setTop (mkF m 44 #[.val (.ref x), .val (.ref y), .val (.ref y)] [.ref t', .ref t])) := c15.trans (st16 _ (Steps.refl _))
      obtain ⟨v18, T18, X18, E18, g18⟩ := X16.callS hexec (LEq.law l t V t' V') hown (wks W (staticW "java/lang/String" 541 LEq.yN)) (wk W LEq.tab) (W := 0) (Nat.le_of_ble_eq_true rfl) (Nat.le_of_ble_eq_true rfl) (Nat.le_refl _) (Nat.le_refl _) (g := (mkF m 44 #[.val (.ref x), .val (.ref y), .val (.ref y)] [.ref t', .ref t])) rfl (by rw [hml]; rfl) c17 (argsL := [.ref t, .ref t']) (rest := []) rfl rfl (by show 2 * 0 + 0 ≤ _; decide) (hb hbytes d44) (⟨rfl, hx.2.2.2.1.mv X16.warmed.alike hh16, hx.2.2.2.2.1.ty, hy.2.2.2.1.mv X16.warmed.alike hh16, hy.2.2.2.2.1.ty⟩)
      obtain ⟨v, rfl, q18, hv⟩ := E18
      have iff := Cod.eqv hx.2.2.2.2.1 hy.2.2.2.2.1 hx.2.2.2.2.2 hy.2.2.2.2.2
      rcases hv with ⟨rfl, he⟩ | ⟨rfl, he⟩
      · have c19 : Steps p.tables e below (s₁.setTop (entryFrame m #[.ref x, .ref y] 3)) (T18.setTop (mkF m 55 #[.val (.ref x), .val (.ref y), .val (.ref y)] [.int 1])) := Steps.trans g18 (by
          refine XS.ifNo X18.here hexec rfl (hb hbytes d47) rfl (i0_eq_f (by decide)) ?_
          refine iconstV X18.here hexec rfl 1 (hb hbytes d50) (by decide) ?_
          refine XS.goto X18.here hexec rfl (pc0 := 51) rfl (hb hbytes d51) (by decide) rfl ?_
          exact Steps.refl _)
        exact ⟨T18, some (.int 1), _, _, _, X18, rfl, rfl, rfl, (fun h => by cases h), ⟨1, rfl, q18.trans hh16, Or.inl ⟨rfl, iff.mp he⟩⟩, fun fs hl => c19.trans (X18.ireturnOut hexec hret rfl (Or.inr (Or.inl rfl)) (hb hbytes d55) hl)⟩
      · have c19 : Steps p.tables e below (s₁.setTop (entryFrame m #[.ref x, .ref y] 3)) (T18.setTop (mkF m 55 #[.val (.ref x), .val (.ref y), .val (.ref y)] [.int 0])) := Steps.trans g18 (by
          refine XS.ifYes X18.here hexec rfl (pc0 := 47) rfl (hb hbytes d47) rfl (i0_eq_t rfl) (by decide) rfl ?_
          refine iconstV X18.here hexec rfl 0 (hb hbytes d54) (by decide) ?_
          exact Steps.refl _)
        exact ⟨T18, some (.int 0), _, _, _, X18, rfl, rfl, rfl, (fun h => by cases h), ⟨0, rfl, q18.trans hh16, Or.inr ⟨rfl, fun q => he (iff.mpr q)⟩⟩, fun fs hl => c19.trans (X18.ireturnOut hexec hret rfl (Or.inr (Or.inl rfl)) (hb hbytes d55) hl)⟩
    · have c13 : Steps p.tables e below (s₁.setTop (entryFrame m #[.ref x, .ref y] 3)) (T11.setTop (mkF m 55 #[.val (.ref x), .val (.ref y), .val (.ref y)] [.int 0])) := c12.trans (by
        refine XS.icmpYes X11.here hexec rfl (pc0 := 33) rfl (hb hbytes d33) rfl (ii_ne_t hcd) (by decide) rfl ?_
        refine iconstV X11.here hexec rfl 0 (hb hbytes d54) (by decide) ?_
        exact Steps.refl _)
      exact ⟨T11, some (.int 0), _, _, _, X11, rfl, rfl, rfl, (fun h => by cases h), ⟨0, rfl, hh11, Or.inr ⟨rfl, Cod.dif hx.2.2.2.2.1 hy.2.2.2.2.1 hcd⟩⟩, fun fs hl => c13.trans (X11.ireturnOut hexec hret rfl (Or.inr (Or.inl rfl)) (hb hbytes d55) hl)⟩
theorem pays {l : Launch} {R : Room} {p : Program} {e : Env} {below : List Frame} {s : State} {sargs : Array Value} {len W : Nat} (x t : Addr) (V : Cell) (cd : Int32) (n : Nat) (f : Nat → Int32) (y t' : Addr) (V' : Cell) (cd' : Int32) (k : Nat) (g : Nat → Int32) (z : Int32) (htab : tab.before sargs s = true) (hfr : 2 ≤ R.frames) (hlo : W + 28 ≤ R.locals) :
    Back l R p e below s sargs yN len W (fun A₁ a₁ => A₁.cells + 0 ≤ R.cells ∧ A₁.slots + 0 ≤ R.slots ∧ P x t V cd n f y t' V' cd' k g z a₁ A₁.U) (fun A₁ _ v₁ B₁ => Says01 (SameT n f k g) v₁ A₁.U B₁.U ∧ B₁.locs = A₁.locs ++ [] ∧ B₁.cells = A₁.cells + 0 ∧ B₁.slots = A₁.slots + 0) :=
  (law l x t V cd n f y t' V' cd' k g z).pays htab hfr (by omega)
end SEq
end StrChars
namespace StrChars.Road
open Jvm Sem ClassFile Op Lib Jvm.Stand Jvm.Free Jvm.Free.XT
open Jvm.Lib.Cold (StaticIs)
/-- the words of String.equals(Object) -/
abbrev wordsEq : List Jvm.Cond := [.code SEq.yN SEq.yB 3 (some .boolean), .initialized ST, .classLink ST 10 ST, .fieldLink ST 38 ST "COMPACT_STRINGS" "Z", .fieldLink ST 15 ST "coder" "B", .fieldLink ST 9 ST "value" "[B", .methodLink ST 541 LEq.yN, .static LEq.yN, .code LEq.yN LEq.yB 3 (some .boolean), .initialized "java/lang/StringLatin1"]
theorem tabEq_of {a : Array Value} {s : State} (h : ∀ w ∈ wordsEq, w.before a s = true) : SEq.tab.before a s = true := by
  have hl : LEq.tab.before a s = true := unparts (wk h (.code LEq.yN LEq.yB 3 (some .boolean))) (wks h (.initialized LEq.yN.cls :: LEq.site))
  have q := consq hl h
  exact unparts (wk q (.code SEq.yN SEq.yB 3 (some .boolean))) (wks q (.initialized SEq.yN.cls :: SEq.site))
theorem movedEq {Z s : State} {a0 args : Array Value} (hZ : Z.Warmed39 s.vm) (hw : ∀ d ∈ wordsEq, d.before a0 Z = true) : ∀ d ∈ wordsEq, d.before args s = true := fun d hd => by
  have t : ∀ d ∈ wordsEq, (d.onTables && d.keepsFace) = true := by decide +kernel
  exact RoadKit.mv hZ (hw d hd) (t d hd)
/-- the road's facts of a String, as the laws ask it -/
theorem txt_of {Z U : State} {a0 : Array Value} {kI : Nat} (wi : (Jvm.Cond.instantiable ST kI).before a0 Z = true) (al : Z.vm.Alike U.vm) {x t : Addr} {kb : ClassId} {cs : List Int32} {cd N2 : Int32} {vs : List Value} (E : RoadKit.Exa Z U.heap x ST) (V : RoadKit.Fld Z U.heap x ST "value" "[B" (.ref t)) (C : RoadKit.Fld Z U.heap x ST "coder" "B" (.int cd)) (K : RoadKit.Arv Z U.heap t kb .byte N2 vs (.int 0)) (hc : CodA cs cd N2 vs) (hb : ∀ c ∈ cs, ¬ c < 0 ∧ ¬ (65535 : Int32) < c) (l2 : cs.length ≤ 4000) :
    ∃ A, Txt x t A cd cs.length (fun j => cs.getD j 0) U := by
  obtain ⟨A, K1, K2, K3, K4, K5, K6⟩ := K
  have hcod := hc.cod (by omega) K3 K5
  obtain ⟨D, fV, fC, hB, F1, F2, g1, g2, -, -⟩ := strObj wi al E V C
  exact ⟨A, ⟨_, hB.2.2.1, D, hB.1, rfl, by cases q : D.vm <;> first | rfl | exact absurd q (hB.2.1.2 _)⟩, Has.of hB F1 g1, Has.of hB F2 g2, ⟨K1.1, State.isArrayOf_alike al K1.2.1, K1.2.2, by rcases hcod with ⟨-, q, -⟩ | ⟨-, q, -⟩ <;> omega⟩, hcod, fun j hj => by
    have e : cs.getD j 0 = cs[j] := by simp [List.getD_eq_getElem?_getD, hj]
    show ¬ cs.getD j 0 < 0 ∧ ¬ 65535 < cs.getD j 0
    rw [e]; exact hb _ (List.getElem_mem _)⟩
theorem same_list (cs ds : List Int32) : SameT cs.length (fun j => cs.getD j 0) ds.length (fun j => ds.getD j 0) ↔ cs = ds := by
  constructor
  · rintro ⟨e, q⟩
    refine List.ext_getElem e fun j h1 h2 => ?_
    have := q j h1
    simpa [List.getD_eq_getElem?_getD, h1, h2] using this
  · rintro rfl
    exact ⟨rfl, fun _ _ => rfl⟩
/-- **equals(Object) OF TWO SUCH STRINGS**: 1 just where the chars are the same -/
theorem eqW {p : Program} {l : Launch} {e : Env} {R : Room} {s : State} {args : Array Value} {below : List Frame} {len W : Nat} {Z : State} {a0 : Array Value} {h : Heap} (hZ : Z.Warmed39 s.vm) (hw : ∀ d ∈ wordsEq, d.before a0 Z = true) {kI : Nat} (wi : (Jvm.Cond.instantiable ST kI).before a0 Z = true)
    {x t : Addr} {kb : ClassId} {cs : List Int32} {cd N2 : Int32} {vs : List Value} (E : RoadKit.Exa Z h x ST) (V : RoadKit.Fld Z h x ST "value" "[B" (.ref t)) (C : RoadKit.Fld Z h x ST "coder" "B" (.int cd)) (K : RoadKit.Arv Z h t kb .byte N2 vs (.int 0)) (hc : CodA cs cd N2 vs) (hb : ∀ c ∈ cs, ¬ c < 0 ∧ ¬ (65535 : Int32) < c) (l2 : cs.length ≤ 4000)
    {y t' : Addr} {kb' : ClassId} {ds : List Int32} {cd' N2' : Int32} {vs' : List Value} (E' : RoadKit.Exa Z h y ST) (V' : RoadKit.Fld Z h y ST "value" "[B" (.ref t')) (C' : RoadKit.Fld Z h y ST "coder" "B" (.int cd')) (K' : RoadKit.Arv Z h t' kb' .byte N2' vs' (.int 0)) (hc' : CodA ds cd' N2' vs') (hb' : ∀ c ∈ ds, ¬ c < 0 ∧ ¬ (65535 : Int32) < c) (l2' : ds.length ≤ 4000)
    {z : Int32} (S : RoadKit.Sta Z h ST "COMPACT_STRINGS" "Z" (.int z)) (hz : ¬ z = 0) (hfr : 2 ≤ R.frames) (hlo : W + 28 ≤ R.locals) :
    Back l R p e below s args (⟨"java/lang/String", "equals", "(Ljava/lang/Object;)Z"⟩ : MethodName) len W (fun P a => a = #[.ref x, .ref y] ∧ P.U.heap = h ∧ P.cells + 0 ≤ R.cells ∧ P.slots + 0 ≤ R.slots)
      (fun P _ v B => ∃ L, (((v = some (.int 1) ∧ cs = ds) ∨ (v = some (.int 0) ∧ ¬ cs = ds)) ∧ L = [] ∧ B.U.heap = h) ∧ B.locs = P.locs ++ L ∧ B.cells = P.cells + 0 ∧ B.slots = P.slots + 0) := by
  intro m meth c P g ig mk a X hg hsize hdg hW hn hp'
  obtain ⟨rfl, rfl, r1, r2⟩ := hp'
  have al : Z.vm.Alike P.U.vm := hZ.alike.trans X.warmed.alike
  obtain ⟨A, hx⟩ := txt_of wi al E V C K hc hb l2
  obtain ⟨A', hy⟩ := txt_of wi al E' V' C' K' hc' hb' l2'
  obtain ⟨v, B, X', ⟨⟨w, hv, hh, hq⟩, hl, hk, hs⟩, st⟩ := SEq.pays x t A cd cs.length (fun j => cs.getD j 0) y t' A' cd' ds.length (fun j => ds.getD j 0) z (tabEq_of (movedEq hZ hw)) hfr hlo m meth c P g ig mk _ X hg hsize hdg hW hn ⟨r1, r2, rfl, hx, hy, sta_is al S, hz⟩
  refine ⟨v, B, X', ⟨[], ⟨?_, rfl, hh⟩, hl, hk, hs⟩, st⟩
  rcases hq with ⟨rfl, q⟩ | ⟨rfl, q⟩
  · exact Or.inl ⟨hv, (same_list cs ds).mp q⟩
  · exact Or.inr ⟨hv, fun e => q ((same_list cs ds).mpr e)⟩
end StrChars.Road
namespace StrChars
open Jvm Sem ClassFile Op Lib Jvm.Stand Jvm.Free.XT Jvm.Free.ALB Jvm.Free.JM Jvm.Free
open Jvm.Lib.Cold (StaticIs)
namespace ChN
def yN : MethodName := ⟨"java/lang/String", "charAt", "(I)C"⟩
abbrev yB : ByteArray := jdk_42_method_56_code
theorem d0 : decode yB 0 = .ok (.aload_n 0, 1) := by decide +kernel
theorem d1 : decode yB 1 = .ok (.invokevirtual 492, 3) := by decide +kernel
theorem d4 : decode yB 4 = .ok (.ifCond (.eq) 12, 3) := by decide +kernel
theorem d7 : decode yB 7 = .ok (.aload_n 0, 1) := by decide +kernel
theorem d8 : decode yB 8 = .ok (.getfield 9, 3) := by decide +kernel
theorem d11 : decode yB 11 = .ok (.iload_n 1, 1) := by decide +kernel
theorem d12 : decode yB 12 = .ok (.invokestatic 495, 3) := by decide +kernel
theorem d15 : decode yB 15 = .ok (.ireturn, 1) := by decide +kernel
def site : List Cond := [.fieldLink "java/lang/String" 9 "java/lang/String" "value" "[B", IsL.tab, LChA.tab] ++ virtW "java/lang/String" 492 "java/lang/String" IsL.yN IsL.yN ++ staticW "java/lang/String" 495 LChA.yN
def tab : Cond := tabOf yN yB 2 (some .char) site
def P (x t : Addr) (V : Cell) (n : Nat) (f : Nat → Int32) (z : Int32) (fm : Value) (i : Nat) (args : Array Value) (s : State) : Prop := args = #[.ref x, .int (Int32.ofNat i)] ∧ Txt x t V 0 n f s ∧ i < n ∧ StaticIs s "java/lang/String" "COMPACT_STRINGS" "Z" (.int z) ∧ ¬ z = 0 ∧ StaticIs s "jdk/internal/util/Preconditions" "SIOOBE_FORMATTER" "Ljava/util/function/BiFunction;" fm ∧ fm.isRef = true
def E (f : Nat → Int32) (i : Nat) (r : Option Value) (s u : State) : Prop := XT.PureE (some (.int (f i))) r s u
/-- charAt(i) of a Latin-1 String of n chars, i < n: f i -/
theorem law (l : Launch) (x t : Addr) (V : Cell) (n : Nat) (f : Nat → Int32) (z : Int32) (fm : Value) (i : Nat) : Law l yN 2 1 3 40 yB 2 (some .char) site (P x t V n f z fm i) (E f i) [] 0 0 := by
  refine Law.of_walk (plainFor_of_name (by decide +kernel)) (by decide +kernel) (by decide +kernel) (by decide) (fun _ _ h => by rw [h.1]; rfl) (fun _ U U' hal hh h => ⟨h.1, h.2.1.mv hal hh, h.2.2.1, h.2.2.2.1.there hal hh, h.2.2.2.2.1, h.2.2.2.2.2.1.there hal hh, h.2.2.2.2.2.2⟩) (fun r U U' V V' h1 hal h2 h => XT.PureE.mv r U U' V V' h1 hal h2 h) ?_
  intro p e s m args below meth c s₁ X0 hexec hbytes hml hret hlk hnm hown hh0 W hP
  obtain ⟨rfl, hx, hi, s1, hz, s3, rf⟩ := hP
  have v31 := hx.2.2.2.1.2.2.2
  have hr := hx.2.2.2.2.2 i hi
  have hx0 := hx.mv X0.warmed.alike hh0
  have c1 : Steps p.tables e below (s₁.setTop (entryFrame m #[.ref x, .int (Int32.ofNat i)] 2)) (s₁.setTop (mkF m 1 #[.val (.ref x), .val (.int (Int32.ofNat i))] [.ref x])) := Steps.trans (entry rfl) (by
    show Steps p.tables e below (s₁.setTop (mkF m 0 #[.val (.ref x), .val (.int (Int32.ofNat i))] [])) _
    refine XS.aloadN X0.here hexec rfl (hb hbytes d0) rfl rfl ?_
    exact Steps.refl _)
  obtain ⟨v2, T2, X2, E2, g2⟩ := X0.callV hexec (IsL.law l x 0 z) hown (wks W (virtW "java/lang/String" 492 "java/lang/String" IsL.yN IsL.yN)) rfl (by decide) (wk W IsL.tab) (W := 0) (Nat.le_of_ble_eq_true rfl) (Nat.le_of_ble_eq_true rfl) (Nat.le_refl _) (Nat.le_refl _) (hx0.1.fc X0.warmed.alike) hx0.1.is (g := (mkF m 1 #[.val (.ref x), .val (.int (Int32.ofNat i))] [.ref x])) rfl (by rw [hml]; rfl) c1 (argsL := []) (rest := []) rfl rfl (by show 2 * 0 + 0 ≤ _; decide) (hb hbytes d1) (⟨rfl, hx0.2.2.1, hx.2.2.2.2.1.cd, s1.there X0.warmed.alike hh0, hz⟩)
  obtain ⟨rfl, q2⟩ := E2
  have hh2 := q2.trans hh0
  have hx2 := hx.mv X2.warmed.alike hh2
  obtain ⟨-, k1, k2⟩ | ⟨k0, -⟩ := hx.2.2.2.2.1
  · have c3 : Steps p.tables e below (s₁.setTop (entryFrame m #[.ref x, .int (Int32.ofNat i)] 2)) (T2.setTop (mkF m 8 #[.val (.ref x), .val (.int (Int32.ofNat i))] [.ref x])) := Steps.trans g2 (by
      refine XS.ifNo X2.here hexec rfl (hb hbytes d4) rfl (i0_eq_f (by decide)) ?_
      refine XS.aloadN X2.here hexec rfl (hb hbytes d7) rfl rfl ?_
      exact Steps.refl _)
    obtain ⟨T4, X4, q4, st4⟩ := X2.hget hexec hown (wk W (.fieldLink "java/lang/String" 9 "java/lang/String" "value" "[B")) hx2.2.1 (g := (mkF m 8 #[.val (.ref x), .val (.int (Int32.ofNat i))] [.ref x])) rfl (rest := []) rfl (hb hbytes d8)
    have hh4 := q4.trans hh2
    have c5 : Steps p.tables e below (s₁.setTop (entryFrame m #[.ref x, .int (Int32.ofNat i)] 2)) (T4.setTop (mkF m 12 #[.val (.ref x), .val (.int (Int32.ofNat i))] [.int (Int32.ofNat i), .ref t])) := (c3.trans (st4 _ (Steps.refl _))).trans (by
      refine XS.iloadN X4.here hexec rfl (hb hbytes d11) rfl ?_
      exact Steps.refl _)
    obtain ⟨v6, T6, X6, E6, g6⟩ := X4.callS hexec (LChA.law l t V i (lo8 (f i)) fm) hown (wks W (staticW "java/lang/String" 495 LChA.yN)) (wk W LChA.tab) (W := 0) (Nat.le_of_ble_eq_true rfl) (Nat.le_of_ble_eq_true rfl) (Nat.le_refl _) (Nat.le_refl _) (g := (mkF m 12 #[.val (.ref x), .val (.int (Int32.ofNat i))] [.int (Int32.ofNat i), .ref t])) rfl (by rw [hml]; rfl) c5 (argsL := [.ref t, .int (Int32.ofNat i)]) (rest := []) rfl rfl (by show 2 * 0 + 0 ≤ _; decide) (hb hbytes d12) (⟨rfl, hx.2.2.2.1.mv X4.warmed.alike hh4, (k2 i hi).1, s3.there X4.warmed.alike hh4, rf⟩)
    obtain ⟨rfl, q6⟩ := E6
    rw [chr8_lo8 hr.1 (k2 i hi).2] at g6
    exact ⟨T6, some (.int (f i)), _, _, _, X6, rfl, rfl, rfl, (fun h => by cases h), ⟨rfl, q6.trans hh4⟩, fun fs hl => Steps.trans g6 (X6.ireturnOut hexec hret (narrow_ch hr.1 hr.2) (Or.inr (Or.inr (Or.inr (Or.inl rfl)))) (hb hbytes d15) hl)⟩
  · exact absurd k0 (by decide)
theorem pays {l : Launch} {R : Room} {p : Program} {e : Env} {below : List Frame} {s : State} {sargs : Array Value} {len W : Nat} (x t : Addr) (V : Cell) (n : Nat) (f : Nat → Int32) (z : Int32) (fm : Value) (i : Nat) (htab : tab.before sargs s = true) (hfr : 4 ≤ R.frames) (hlo : W + 53 ≤ R.locals) :
    Back l R p e below s sargs yN len W (fun A₁ a₁ => A₁.cells + 0 ≤ R.cells ∧ A₁.slots + 0 ≤ R.slots ∧ P x t V n f z fm i a₁ A₁.U) (fun A₁ _ v₁ B₁ => E f i v₁ A₁.U B₁.U ∧ B₁.locs = A₁.locs ++ [] ∧ B₁.cells = A₁.cells + 0 ∧ B₁.slots = A₁.slots + 0) :=
  (law l x t V n f z fm i).pays htab hfr (by omega)
end ChN
end StrChars
namespace StrChars.Road
open Jvm Sem ClassFile Op Lib Jvm.Stand Jvm.Free Jvm.Free.XT
open Jvm.Lib.Cold (StaticIs)
/-- the words of String.charAt(int), the Latin-1 road alone -/
abbrev wordsChN : List Jvm.Cond := [.code ChN.yN ChN.yB 2 (some .char), .initialized ST, .fieldLink ST 9 ST "value" "[B", .fieldLink ST 38 ST "COMPACT_STRINGS" "Z", .fieldLink ST 15 ST "coder" "B", .code IsL.yN IsL.yB 1 (some .boolean), .methodLink ST 492 IsL.yN, .declares IsL.yN, .selects ST IsL.yN IsL.yN, .instanceMethod IsL.yN,
  .methodLink ST 495 LChA.yN, .static LChA.yN, .code LChA.yN LChA.yB 2 (some .char), .initialized "java/lang/StringLatin1", .methodLink "java/lang/StringLatin1" 9 JO.Str_checkIndex.yN, .static JO.Str_checkIndex.yN, .code JO.Str_checkIndex.yN JO.Str_checkIndex.yB 2 none,
  .fieldLink ST 1053 "jdk/internal/util/Preconditions" "SIOOBE_FORMATTER" "Ljava/util/function/BiFunction;", .methodLink ST 1059 JC.PreCheck.yN, .static JC.PreCheck.yN, .code JC.PreCheck.yN JC.PreCheck.yB 3 (some .int), .initialized "jdk/internal/util/Preconditions"]
theorem tabChN_of {a : Array Value} {s : State} (h : ∀ w ∈ wordsChN, w.before a s = true) : ChN.tab.before a s = true := by
  have hp : JC.PreCheck.tab.before a s = true := unparts (wk h (.code JC.PreCheck.yN JC.PreCheck.yB 3 (some .int))) (wks h (.initialized JC.PreCheck.yN.cls :: JC.PreCheck.site))
  have qk := consq hp h
  have hk : JO.Str_checkIndex.tab.before a s = true := unparts (wk qk (.code JO.Str_checkIndex.yN JO.Str_checkIndex.yB 2 none)) (wks qk (.initialized JO.Str_checkIndex.yN.cls :: JO.Str_checkIndex.site))
  have ql := consq hk h
  have hl : LChA.tab.before a s = true := unparts (wk ql (.code LChA.yN LChA.yB 2 (some .char))) (wks ql (.initialized LChA.yN.cls :: LChA.site))
  have hi : IsL.tab.before a s = true := unparts (wk h (.code IsL.yN IsL.yB 1 (some .boolean))) (wks h (.initialized IsL.yN.cls :: IsL.site))
  have q := consq hi (consq hl h)
  exact unparts (wk q (.code ChN.yN ChN.yB 2 (some .char))) (wks q (.initialized ChN.yN.cls :: ChN.site))
theorem movedChN {Z s : State} {a0 args : Array Value} (hZ : Z.Warmed39 s.vm) (hw : ∀ d ∈ wordsChN, d.before a0 Z = true) : ∀ d ∈ wordsChN, d.before args s = true := fun d hd => by
  have t : ∀ d ∈ wordsChN, (d.onTables && d.keepsFace) = true := by decide +kernel
  exact RoadKit.mv hZ (hw d hd) (t d hd)
/-- **charAt(i) OF A LATIN-1 STRING**, i < n: the char -/
theorem chN {p : Program} {l : Launch} {e : Env} {R : Room} {s : State} {args : Array Value} {below : List Frame} {len W : Nat} {Z : State} {a0 : Array Value} {h : Heap} (hZ : Z.Warmed39 s.vm) (hw : ∀ d ∈ wordsChN, d.before a0 Z = true) {kI : Nat} (wi : (Jvm.Cond.instantiable ST kI).before a0 Z = true)
    {x t : Addr} {kb : ClassId} {cs : List Int32} {N2 z : Int32} {vs : List Value} {fm : Value} {i : Nat} {j : Int32} (E : RoadKit.Exa Z h x ST) (V : RoadKit.Fld Z h x ST "value" "[B" (.ref t)) (C : RoadKit.Fld Z h x ST "coder" "B" (.int 0)) (K : RoadKit.Arv Z h t kb .byte N2 vs (.int 0)) (hc : CodA cs 0 N2 vs) (hb : ∀ c ∈ cs, ¬ c < 0 ∧ ¬ (65535 : Int32) < c)
    (S : RoadKit.Sta Z h ST "COMPACT_STRINGS" "Z" (.int z)) (hz : ¬ z = 0) (F : RoadKit.Sta Z h "jdk/internal/util/Preconditions" "SIOOBE_FORMATTER" "Ljava/util/function/BiFunction;" fm) (rf : fm.isRef = true) (l2 : cs.length ≤ 4000) (hi : i < cs.length) (hj : j = Int32.ofNat i) (hfr : 4 ≤ R.frames) (hlo : W + 53 ≤ R.locals) :
    Back l R p e below s args (⟨"java/lang/String", "charAt", "(I)C"⟩ : MethodName) len W (fun P a => a = #[.ref x, .int j] ∧ P.U.heap = h ∧ P.cells + 0 ≤ R.cells ∧ P.slots + 0 ≤ R.slots)
      (fun P _ v B => ∃ L, (v = some (.int (cs.getD i 0)) ∧ L = [] ∧ B.U.heap = h) ∧ B.locs = P.locs ++ L ∧ B.cells = P.cells + 0 ∧ B.slots = P.slots + 0) := by
  subst hj
  intro m meth c P g ig mk a X hg hsize hdg hW hn hp'
  obtain ⟨rfl, rfl, r1, r2⟩ := hp'
  have al : Z.vm.Alike P.U.vm := hZ.alike.trans X.warmed.alike
  obtain ⟨A, hx⟩ := txt_of wi al E V C K hc hb l2
  obtain ⟨v, B, X', ⟨⟨hv, hh⟩, hl, hk, hs⟩, st⟩ := ChN.pays x t A cs.length (fun j => cs.getD j 0) z fm i (tabChN_of (movedChN hZ hw)) hfr hlo m meth c P g ig mk _ X hg hsize hdg hW hn ⟨r1, r2, rfl, hx, hi, sta_is al S, hz, sta_is al F, rf⟩
  exact ⟨v, B, X', ⟨[], ⟨hv, rfl, hh⟩, hl, hk, hs⟩, st⟩
end StrChars.Road
end Jvm.Pilot.@@N@@
namespace Jvm.Pilot.@@N@@
namespace Own
open Jvm Jvm.ClassFile Sem Op Lib Jvm.Free Jvm.Stand Jvm.LawKit Jvm.RoadKit
/-- what stays through a whole case: the launch, the start, its arguments, the assumed constants, the start heap's size -/
def Gl : Type := Launch × State × Array Value × List (String × Nat) × Nat
def Gl.l (G : Gl) : Launch := G.1
def Gl.Z (G : Gl) : State := G.2.1
def Gl.a0 (G : Gl) : Array Value := G.2.2.1
def Gl.EL (G : Gl) : List (String × Nat) := G.2.2.2.1
def Gl.n0 (G : Gl) : Nat := G.2.2.2.2
/-- one run of one body -/
def Rn : Type := Program × Env × State × MethodId × Array Value × List Frame × Method × Code
def Rn.p (X : Rn) : Program := X.1
def Rn.e (X : Rn) : Env := X.2.1
def Rn.s (X : Rn) : State := X.2.2.1
def Rn.m (X : Rn) : MethodId := X.2.2.2.1
def Rn.args (X : Rn) : Array Value := X.2.2.2.2.1
def Rn.below (X : Rn) : List Frame := X.2.2.2.2.2.1
def Rn.meth (X : Rn) : Method := X.2.2.2.2.2.2.1
def Rn.c (X : Rn) : Code := X.2.2.2.2.2.2.2
/-- one body: its name, bytes, locals, what it returns, its room -/
def Bo : Type := MethodName × ByteArray × Nat × Option FieldType × Room
abbrev Bo.y (M : Bo) : MethodName := M.1
abbrev Bo.bytes (M : Bo) : ByteArray := M.2.1
abbrev Bo.maxL (M : Bo) : Nat := M.2.2.1
abbrev Bo.ret (M : Bo) : Option FieldType := M.2.2.2.1
abbrev Bo.R (M : Bo) : Room := M.2.2.2.2
/-- what is known of a run's body throughout -/
def Fixd (G : Gl) (X : Rn) (M : Bo) : Prop := X.p.tables.exec = Jvm.exec ∧ X.c.code = M.bytes ∧ X.c.maxLocals = M.maxL ∧ X.meth.sig.returnType = M.ret ∧ X.meth.locks = false ∧ X.meth.name = M.y.name ∧ EW G.Z G.a0 G.EL
/-- WHERE A WALK STANDS: the tables of its base vm, the state T, its heap h, at most C new cells of S slots -/
def Here (G : Gl) (X : Rn) (M : Bo) (vm : Vm) (T : State) (h : Heap) (C S : Nat) : Prop :=
  Fixd G X M ∧ ∃ (k0 : Nat) (locs : List Loc) (cells slots : Nat), Stand X.p G.l X.e M.R (X.s.setVm vm) X.m X.args X.below X.meth X.c T locs cells slots ∧ T.heap = h ∧ X.s.Since vm k0 ∧ k0 ≤ h.size ∧ G.Z.Warmed39 vm ∧ vm.findClass M.y.cls = some X.m.cls ∧
    CHr G.Z G.EL X.s.vm X.s.heap vm h ∧ Fr G.n0 locs ∧ Old G.Z G.n0 h ∧ cells ≤ C ∧ slots ≤ S
/-- THE GOAL: from this frame the body comes to its end, and there Q holds -/
def Go (G : Gl) (X : Rn) (M : Bo) (Q : Option Value → Heap → Prop) (T : State) (pc : Nat) (Ls : Array Slot) (st : List Value) : Prop :=
  ∃ s₂ o, Steps X.p.tables X.e X.below (T.setTop (mkF X.m pc Ls st)) s₂ ∧ s₂.status = .running ∧ Ended s₂ X.below o ∧ ∃ v L, o = .returned v ∧ (Q v s₂.heap ∧ Fr G.n0 L ∧ Old G.Z G.n0 s₂.heap) ∧ CHr G.Z G.EL X.s.vm X.s.heap s₂.vm s₂.heap ∧ ReturnedEndW X.s o s₂ L M.R.cells M.R.slots
/-- A BODY's CONTRACT: called with as' in the heap h (the places sf not booked by a constant), it returns and Q holds -/
def Con (G : Gl) (ws : List Jvm.Cond) (M : Bo) (as' : Array Value) (h : Heap) (sf : List Addr) (Q : Option Value → Heap → Prop) : Prop :=
  MetFree G.l M.y (head1 (Jvm.Cond.code M.y M.bytes M.maxL M.ret :: ws) M.R) (fun a U => a = as' ∧ G.Z.Warmed39 U.vm ∧ U.heap = h ∧ CHv G.Z G.EL U.vm h ∧ ∀ x ∈ sf, Safe G.Z G.EL U.vm h x) (fun _ _ _ _ _ => True)
    (fun _ U o U' => ∃ v L, o = .returned v ∧ (Q v U'.heap ∧ Fr G.n0 L ∧ Old G.Z G.n0 U'.heap) ∧ CHr G.Z G.EL U.vm U.heap U'.vm U'.heap ∧ ReturnedEndW U o U' L M.R.cells M.R.slots)
/-- A CALL THAT IS PAID -/
def Pay (G : Gl) (X : Rn) (M : Bo) (vm : Vm) (h : Heap) (y : MethodName) (len W : Nat) (as' : Array Value) (kc ks : Nat) (Q : Option Value → Heap → Prop) : Prop :=
  BackS G.l M.R X.p X.e X.below (X.s.setVm vm) X.args y len W (fun A a => a = as' ∧ A.U.heap = h ∧ A.cells + kc ≤ M.R.cells ∧ A.slots + ks ≤ M.R.slots)
    (fun A _ v B => ∃ L, (Q v B.U.heap ∧ Fr G.n0 L ∧ Old G.Z G.n0 B.U.heap) ∧ B.locs = A.locs ++ L ∧ B.cells ≤ A.cells + kc ∧ B.slots ≤ A.slots + ks ∧ CHr G.Z G.EL vm h B.U.vm B.U.heap)
section Kit
variable {G : Gl} {X : Rn} {M : Bo} {vm : Vm} {T : State} {h : Heap} {C S : Nat} {Q : Option Value → Heap → Prop} {pc pc' : Nat} {Ls Ls' : Array Slot} {st : List Value}
theorem Go.stp {T' : State} {st' : List Value} (hs : ∀ t, Steps X.p.tables X.e X.below (T'.setTop (mkF X.m pc' Ls' st')) t → Steps X.p.tables X.e X.below (T.setTop (mkF X.m pc Ls st)) t) (k : Go G X M Q T' pc' Ls' st') : Go G X M Q T pc Ls st := by
  obtain ⟨s₂, o, h1, r⟩ := k
  exact ⟨s₂, o, hs _ h1, r⟩
theorem Here.x (W : Here G X M vm T h C S) : X.p.tables.exec = Jvm.exec := W.1.1
theorem Here.d (W : Here G X M vm T h C S) {pc : Nat} {r : Except ClassFile.DecodeError (ClassFile.Instr × Nat)} (h2 : ClassFile.decode M.bytes pc = r) : ClassFile.decode X.c.code pc = r := hb W.1.2.1 h2
theorem Here.at (W : Here G X M vm T h C S) : Jvm.At T X.m X.c X.below := by obtain ⟨-, _, _, _, _, X1, -⟩ := W; exact X1.here
theorem Here.old (W : Here G X M vm T h C S) : Old G.Z G.n0 h := by obtain ⟨-, _, _, _, _, -, -, -, -, -, -, -, -, o, -⟩ := W; exact o
theorem Here.ch (W : Here G X M vm T h C S) : CHv G.Z G.EL vm h := by obtain ⟨-, _, _, _, _, -, -, -, -, -, -, q, -⟩ := W; exact q.1
theorem Here.wz (W : Here G X M vm T h C S) : G.Z.Warmed39 vm := by obtain ⟨-, _, _, _, _, -, -, -, -, q, -⟩ := W; exact q
theorem Here.le (W : Here G X M vm T h C S) {C' S' : Nat} (hc : C ≤ C') (hs : S ≤ S') : Here G X M vm T h C' S' := by
  obtain ⟨F, k0, L, c, s, h1, h2, h3, h4, h5, h6, h7, h8, h9, h10, h11⟩ := W
  exact ⟨F, k0, L, c, s, h1, h2, h3, h4, h5, h6, h7, h8, h9, Nat.le_trans h10 hc, Nat.le_trans h11 hs⟩
theorem Here.n0 (W : Here G X M vm T h C S) : G.n0 ≤ h.size := W.old.1 ▸ W.old.2.1
/-- the start heap's fact, now -/
theorem Here.sta (W : Here G X M vm T h C S) {c n d : String} {v : Value} (F : Sta G.Z G.Z.heap c n d v) : Sta G.Z h c n d v := F.ext W.old.2
/-! ### plain steps -/
theorem iconst (W : Here G X M vm T h C S) {i : Int} (hd : decode M.bytes pc = .ok (.iconst i, 1)) (pc' : Nat) (hp : pc + 1 = pc') (v : Int32) (hv : Int32.ofInt i = v) (k : Go G X M Q T pc' Ls (.int v :: st)) : Go G X M Q T pc Ls st := by
  subst hp hv; exact Go.stp (fun t r => XS.iconst W.at W.x rfl (W.d hd) r) k
theorem bipush (W : Here G X M vm T h C S) {i : Int} (hd : decode M.bytes pc = .ok (.bipush i, 2)) (pc' : Nat) (hp : pc + 2 = pc') (v : Int32) (hv : (Int8.ofInt i).toInt32 = v) (k : Go G X M Q T pc' Ls (.int v :: st)) : Go G X M Q T pc Ls st := by
  subst hp hv; exact Go.stp (fun t r => XS.bipush W.at W.x rfl (W.d hd) r) k
theorem sipush (W : Here G X M vm T h C S) {i : Int} (hd : decode M.bytes pc = .ok (.sipush i, 3)) (pc' : Nat) (hp : pc + 3 = pc') (v : Int32) (hv : (Int16.ofInt i).toInt32 = v) (k : Go G X M Q T pc' Ls (.int v :: st)) : Go G X M Q T pc Ls st := by
  subst hp hv; exact Go.stp (fun t r => XS.sipush W.at W.x rfl (W.d hd) r) k
theorem aconstNull (W : Here G X M vm T h C S) (hd : decode M.bytes pc = .ok (.aconst_null, 1)) (pc' : Nat) (hp : pc + 1 = pc') (k : Go G X M Q T pc' Ls (.null :: st)) : Go G X M Q T pc Ls st := by
  subst hp; exact Go.stp (fun t r => XS.aconstNull W.at W.x rfl (W.d hd) r) k
theorem iloadN (W : Here G X M vm T h C S) {j : Fin 4} (hd : decode M.bytes pc = .ok (.iload_n j, 1)) (pc' : Nat) (hp : pc + 1 = pc') (v : Int32) (hl : Ls[j.val]? = some (.val (.int v))) (k : Go G X M Q T pc' Ls (.int v :: st)) : Go G X M Q T pc Ls st := by
  subst hp; exact Go.stp (fun t r => XS.iloadN W.at W.x rfl (W.d hd) hl r) k
theorem iload (W : Here G X M vm T h C S) {j : Nat} (hd : decode M.bytes pc = .ok (.iload j, 2)) (pc' : Nat) (hp : pc + 2 = pc') (v : Int32) (hl : Ls[j]? = some (.val (.int v))) (k : Go G X M Q T pc' Ls (.int v :: st)) : Go G X M Q T pc Ls st := by
  subst hp; exact Go.stp (fun t r => XS.iload W.at W.x rfl (W.d hd) hl r) k
theorem aloadN (W : Here G X M vm T h C S) {j : Fin 4} (hd : decode M.bytes pc = .ok (.aload_n j, 1)) (pc' : Nat) (hp : pc + 1 = pc') (v : Value) (hl : Ls[j.val]? = some (.val v)) (hv : v.isRef = true) (k : Go G X M Q T pc' Ls (v :: st)) : Go G X M Q T pc Ls st := by
  subst hp; exact Go.stp (fun t r => XS.aloadN W.at W.x rfl (W.d hd) hl hv r) k
theorem aload (W : Here G X M vm T h C S) {j : Nat} (hd : decode M.bytes pc = .ok (.aload j, 2)) (pc' : Nat) (hp : pc + 2 = pc') (v : Value) (hl : Ls[j]? = some (.val v)) (hv : v.isRef = true) (k : Go G X M Q T pc' Ls (v :: st)) : Go G X M Q T pc Ls st := by
  subst hp; exact Go.stp (fun t r => XS.aload W.at W.x rfl (W.d hd) hl hv r) k
theorem istoreN (W : Here G X M vm T h C S) {j : Fin 4} {x : Int32} (hd : decode M.bytes pc = .ok (.istore_n j, 1)) (pc' : Nat) (hp : pc + 1 = pc') (Ls' : Array Slot) (hl : storeLocals Ls j.val (.int x) = some Ls') (k : Go G X M Q T pc' Ls' st) : Go G X M Q T pc Ls (.int x :: st) := by
  subst hp; exact Go.stp (fun t r => XS.istoreN W.at W.x rfl (W.d hd) rfl hl r) k
theorem istore (W : Here G X M vm T h C S) {j : Nat} {x : Int32} (hd : decode M.bytes pc = .ok (.istore j, 2)) (pc' : Nat) (hp : pc + 2 = pc') (Ls' : Array Slot) (hl : storeLocals Ls j (.int x) = some Ls') (k : Go G X M Q T pc' Ls' st) : Go G X M Q T pc Ls (.int x :: st) := by
  subst hp; exact Go.stp (fun t r => XS.istore W.at W.x rfl (W.d hd) rfl hl r) k
theorem astoreN (W : Here G X M vm T h C S) {j : Fin 4} {x : Value} (hd : decode M.bytes pc = .ok (.astore_n j, 1)) (pc' : Nat) (hp : pc + 1 = pc') (hv : x.isRef = true) (Ls' : Array Slot) (hl : storeLocals Ls j.val x = some Ls') (k : Go G X M Q T pc' Ls' st) : Go G X M Q T pc Ls (x :: st) := by
  subst hp; exact Go.stp (fun t r => XS.astoreN W.at W.x rfl (W.d hd) rfl hv hl r) k
theorem astore (W : Here G X M vm T h C S) {j : Nat} {x : Value} (hd : decode M.bytes pc = .ok (.astore j, 2)) (pc' : Nat) (hp : pc + 2 = pc') (hv : x.isRef = true) (Ls' : Array Slot) (hl : storeLocals Ls j x = some Ls') (k : Go G X M Q T pc' Ls' st) : Go G X M Q T pc Ls (x :: st) := by
  subst hp; exact Go.stp (fun t r => XS.astore W.at W.x rfl (W.d hd) rfl hv hl r) k
theorem iinc (W : Here G X M vm T h C S) {j : Nat} {cst : Int} {x : Int32} (hd : decode M.bytes pc = .ok (.iinc j cst, 3)) (pc' : Nat) (hp : pc + 3 = pc') (hl : Ls[j]? = some (.val (.int x))) (Ls' : Array Slot) (hl' : storeLocals Ls j (.int (x + Int32.ofInt cst)) = some Ls') (k : Go G X M Q T pc' Ls' st) : Go G X M Q T pc Ls st := by
  subst hp; exact Go.stp (fun t r => XS.iinc W.at W.x rfl (W.d hd) hl hl' r) k
theorem iadd (W : Here G X M vm T h C S) {x y : Int32} (hd : decode M.bytes pc = .ok (.iadd, 1)) (pc' : Nat) (hp : pc + 1 = pc') (k : Go G X M Q T pc' Ls (.int (x + y) :: st)) : Go G X M Q T pc Ls (.int y :: .int x :: st) := by
  subst hp; exact Go.stp (fun t r => XS.iadd W.at W.x rfl (W.d hd) rfl r) k
theorem isub (W : Here G X M vm T h C S) {x y : Int32} (hd : decode M.bytes pc = .ok (.isub, 1)) (pc' : Nat) (hp : pc + 1 = pc') (k : Go G X M Q T pc' Ls (.int (x - y) :: st)) : Go G X M Q T pc Ls (.int y :: .int x :: st) := by
  subst hp; exact Go.stp (fun t r => XS.isub W.at W.x rfl (W.d hd) rfl r) k
theorem iand (W : Here G X M vm T h C S) {x y : Int32} (hd : decode M.bytes pc = .ok (.iand, 1)) (pc' : Nat) (hp : pc + 1 = pc') (k : Go G X M Q T pc' Ls (.int (x &&& y) :: st)) : Go G X M Q T pc Ls (.int y :: .int x :: st) := by
  subst hp; exact Go.stp (fun t r => XS.iand W.at W.x rfl (W.d hd) rfl r) k
theorem ixor (W : Here G X M vm T h C S) {x y : Int32} (hd : decode M.bytes pc = .ok (.ixor, 1)) (pc' : Nat) (hp : pc + 1 = pc') (k : Go G X M Q T pc' Ls (.int (x ^^^ y) :: st)) : Go G X M Q T pc Ls (.int y :: .int x :: st) := by
  subst hp; exact Go.stp (fun t r => XS.ixor W.at W.x rfl (W.d hd) rfl r) k
theorem iushr (W : Here G X M vm T h C S) {x y : Int32} (hd : decode M.bytes pc = .ok (.iushr, 1)) (pc' : Nat) (hp : pc + 1 = pc') (k : Go G X M Q T pc' Ls (.int ((x.toUInt32 >>> (y &&& 31).toUInt32).toInt32) :: st)) : Go G X M Q T pc Ls (.int y :: .int x :: st) := by
  subst hp; exact Go.stp (fun t r => XS.iushr W.at W.x rfl (W.d hd) rfl r) k
theorem ineg (W : Here G X M vm T h C S) {x : Int32} (hd : decode M.bytes pc = .ok (.ineg, 1)) (pc' : Nat) (hp : pc + 1 = pc') (k : Go G X M Q T pc' Ls (.int (-x) :: st)) : Go G X M Q T pc Ls (.int x :: st) := by
  subst hp; exact Go.stp (fun t r => XS.ineg W.at W.x rfl (W.d hd) rfl r) k
theorem i2c (W : Here G X M vm T h C S) {x : Int32} (hd : decode M.bytes pc = .ok (.i2c, 1)) (pc' : Nat) (hp : pc + 1 = pc') (k : Go G X M Q T pc' Ls (.int x.toUInt32.toUInt16.toUInt32.toInt32 :: st)) : Go G X M Q T pc Ls (.int x :: st) := by
  subst hp; exact Go.stp (fun t r => XS.i2c W.at W.x rfl (W.d hd) rfl r) k
theorem i2b (W : Here G X M vm T h C S) {x : Int32} (hd : decode M.bytes pc = .ok (.i2b, 1)) (pc' : Nat) (hp : pc + 1 = pc') (k : Go G X M Q T pc' Ls (.int x.toInt8.toInt32 :: st)) : Go G X M Q T pc Ls (.int x :: st) := by
  subst hp; exact Go.stp (fun t r => XS.i2b W.at W.x rfl (W.d hd) rfl r) k
theorem irem (W : Here G X M vm T h C S) {x y : Int32} (hd : decode M.bytes pc = .ok (.irem, 1)) (pc' : Nat) (hp : pc + 1 = pc') (hy : y ≠ 0) (k : Go G X M Q T pc' Ls (.int (x % y) :: st)) : Go G X M Q T pc Ls (.int y :: .int x :: st) := by
  subst hp
  obtain ⟨F, k0, L, c, s, X1, -⟩ := id W
  exact Go.stp (fun t r => iremM X1 W.x rfl (W.d hd) rfl hy r) k
theorem dup (W : Here G X M vm T h C S) {x : Value} (hd : decode M.bytes pc = .ok (.dup, 1)) (pc' : Nat) (hp : pc + 1 = pc') (hc : x.category = 1) (k : Go G X M Q T pc' Ls (x :: x :: st)) : Go G X M Q T pc Ls (x :: st) := by
  subst hp; exact Go.stp (fun t r => XS.dup W.at W.x rfl (W.d hd) rfl hc r) k
theorem pop (W : Here G X M vm T h C S) {x : Value} (hd : decode M.bytes pc = .ok (.pop, 1)) (pc' : Nat) (hp : pc + 1 = pc') (hc : x.category = 1) (k : Go G X M Q T pc' Ls st) : Go G X M Q T pc Ls (x :: st) := by
  subst hp; exact Go.stp (fun t r => XS.pop W.at W.x rfl (W.d hd) rfl hc r) k
theorem goto (W : Here G X M vm T h C S) {o : Int} (hd : decode M.bytes pc = .ok (.goto o, 3)) (pc' : Nat) (ho : 0 ≤ (pc : Int) + o) (hp : ((pc : Int) + o).toNat = pc') (k : Go G X M Q T pc' Ls st) : Go G X M Q T pc Ls st :=
  Go.stp (fun t r => XS.goto W.at W.x rfl (pc0 := pc) (pc' := pc') rfl (W.d hd) ho hp r) k
theorem ifYes (W : Here G X M vm T h C S) {cd : ClassFile.Cond} {x : Int32} {o : Int} (hd : decode M.bytes pc = .ok (.ifCond cd o, 3)) (pc' : Nat) (hc : ifCond.holds cd x = true) (ho : 0 ≤ (pc : Int) + o) (hp : ((pc : Int) + o).toNat = pc') (k : Go G X M Q T pc' Ls st) : Go G X M Q T pc Ls (.int x :: st) :=
  Go.stp (fun t r => XS.ifYes W.at W.x rfl (pc0 := pc) (pc' := pc') rfl (W.d hd) rfl hc ho hp r) k
theorem ifNo (W : Here G X M vm T h C S) {cd : ClassFile.Cond} {x : Int32} {o : Int} (hd : decode M.bytes pc = .ok (.ifCond cd o, 3)) (pc' : Nat) (hc : ifCond.holds cd x = false) (hp : pc + 3 = pc') (k : Go G X M Q T pc' Ls st) : Go G X M Q T pc Ls (.int x :: st) := by
  subst hp; exact Go.stp (fun t r => XS.ifNo W.at W.x rfl (W.d hd) rfl hc r) k
theorem icmpYes (W : Here G X M vm T h C S) {cd : ClassFile.Cond} {x y : Int32} {o : Int} (hd : decode M.bytes pc = .ok (.if_icmp cd o, 3)) (pc' : Nat) (hc : if_icmp.holds cd x y = true) (ho : 0 ≤ (pc : Int) + o) (hp : ((pc : Int) + o).toNat = pc') (k : Go G X M Q T pc' Ls st) : Go G X M Q T pc Ls (.int y :: .int x :: st) :=
  Go.stp (fun t r => XS.icmpYes W.at W.x rfl (pc0 := pc) (pc' := pc') rfl (W.d hd) rfl hc ho hp r) k
theorem icmpNo (W : Here G X M vm T h C S) {cd : ClassFile.Cond} {x y : Int32} {o : Int} (hd : decode M.bytes pc = .ok (.if_icmp cd o, 3)) (pc' : Nat) (hc : if_icmp.holds cd x y = false) (hp : pc + 3 = pc') (k : Go G X M Q T pc' Ls st) : Go G X M Q T pc Ls (.int y :: .int x :: st) := by
  subst hp; exact Go.stp (fun t r => XS.icmpNo W.at W.x rfl (W.d hd) rfl hc r) k
theorem ifnullYes (W : Here G X M vm T h C S) {o : Int} (hd : decode M.bytes pc = .ok (.ifnull o, 3)) (pc' : Nat) (ho : 0 ≤ (pc : Int) + o) (hp : ((pc : Int) + o).toNat = pc') (k : Go G X M Q T pc' Ls st) : Go G X M Q T pc Ls (.null :: st) :=
  Go.stp (fun t r => XS.ifnullYes W.at W.x rfl (pc0 := pc) (pc' := pc') rfl (W.d hd) rfl ho hp r) k
theorem ifnullNo (W : Here G X M vm T h C S) {o : Int} {b : Addr} (hd : decode M.bytes pc = .ok (.ifnull o, 3)) (pc' : Nat) (hp : pc + 3 = pc') (k : Go G X M Q T pc' Ls st) : Go G X M Q T pc Ls (.ref b :: st) := by
  subst hp; exact Go.stp (fun t r => XS.ifnullNo W.at W.x rfl (W.d hd) rfl r) k
theorem ifnonnullYes (W : Here G X M vm T h C S) {o : Int} {b : Addr} (hd : decode M.bytes pc = .ok (.ifnonnull o, 3)) (pc' : Nat) (ho : 0 ≤ (pc : Int) + o) (hp : ((pc : Int) + o).toNat = pc') (k : Go G X M Q T pc' Ls st) : Go G X M Q T pc Ls (.ref b :: st) :=
  Go.stp (fun t r => XT.nonnullYes W.at W.x rfl (pc0 := pc) (pc' := pc') rfl (W.d hd) rfl rfl (fun q => nomatch q) ho hp r) k
theorem ifnonnullNo (W : Here G X M vm T h C S) {o : Int} (hd : decode M.bytes pc = .ok (.ifnonnull o, 3)) (pc' : Nat) (hp : pc + 3 = pc') (k : Go G X M Q T pc' Ls st) : Go G X M Q T pc Ls (.null :: st) := by
  subst hp; exact Go.stp (fun t r => XT.nonnullNo W.at W.x rfl (W.d hd) rfl rfl r) k
theorem acmp (W : Here G X M vm T h C S) {cd : ACond} {x y : Value} {o : Int} (hd : decode M.bytes pc = .ok (.if_acmp cd o, 3)) (pc' : Nat) (h1 : x.isRef = true) (h2 : y.isRef = true) (same : Bool) (hs : decide (x = y) = same) (ho : 0 ≤ (pc : Int) + o) (hp : pc' = if acV cd same = true then ((pc : Int) + o).toNat else pc + 3) (k : Go G X M Q T pc' Ls st) : Go G X M Q T pc Ls (y :: x :: st) := by
  obtain ⟨F, k0, L, c, s, X1, -⟩ := id W
  exact Go.stp (fun t r => Jvm.RoadKit.acmp (g := mkF X.m pc Ls (y :: x :: st)) X1 W.x rfl h1 h2 (pc0 := pc) (pc' := pc') (same := same) rfl (W.d hd) rfl hs ho hp r) k
end Kit
end Own
end Jvm.Pilot.@@N@@
namespace Jvm.Pilot.@@N@@
namespace Own
open Jvm Jvm.ClassFile Sem Op Lib Jvm.Free Jvm.Stand Jvm.LawKit Jvm.RoadKit
section Kit2
variable {G : Gl} {X : Rn} {M : Bo} {vm : Vm} {T : State} {h : Heap} {C S : Nat} {Q : Option Value → Heap → Prop} {pc pc' : Nat} {Ls Ls' : Array Slot} {st : List Value}
theorem Ext.rfl' (h : Heap) : Ext h h := ⟨Nat.le_refl _, fun _ _ q => q⟩
theorem Ext.tr {h1 h2 h3 : Heap} (a : Ext h1 h2) (b : Ext h2 h3) : Ext h1 h3 := ⟨Nat.le_trans a.1 b.1, fun x c q => b.2 x c (a.2 x c q)⟩
theorem Ext.wr' {h1 h2 h3 : Heap} {a : Addr} {sl : Nat} {v : Value} (e : Ext h1 h2) (w : Wr h2 h3 a sl v) (ha : h1.size ≤ a) : Ext h1 h3 := ⟨Nat.le_trans e.1 (Keep.of_wr w).1, fun x c q => (Keep.of_wr w).2.1 x c (e.2 x c q) fun z => by
  cases List.mem_singleton.mp z; exact absurd (Array.getElem?_eq_some_iff.mp q).1 (Nat.not_lt.mpr ha)⟩
theorem Ext.kp {h1 h2 h3 : Heap} {ws : List Addr} (e : Ext h1 h2) (k : Keep h2 h3 ws) (ha : ∀ x ∈ ws, h1.size ≤ x) : Ext h1 h3 := ⟨Nat.le_trans e.1 k.1, fun x c q => k.2.1 x c (e.2 x c q) fun z => absurd (Array.getElem?_eq_some_iff.mp q).1 (Nat.not_lt.mpr (ha x z))⟩
theorem Ext.keep {h1 h2 : Heap} (e : Ext h1 h2) : Keep h1 h2 [] := ⟨e.1, fun x c q _ => e.2 x c q, fun x c q => ⟨c, e.2 x c q, rfl, rfl, rfl⟩⟩
/-! ### the end -/
theorem Go.retW (W : Here G X M vm T h C S) (hC : C ≤ M.R.cells) (hS : S ≤ M.R.slots) {v : Option Value} (hv : M.ret = none → v = none)
    (hst : ∀ fs, (∀ (f : JFrame) (acts : List Action), f.method = X.m → f.locked = none → f.entered = [] → (doReturn X.e (T.setTop f) acts v).1 = T.setFrames fs) → Steps X.p.tables X.e X.below (T.setTop (mkF X.m pc Ls st)) (T.setFrames fs)) (hQ : Q v h) : Go G X M Q T pc Ls st := by
  obtain ⟨⟨hx, hby, hml, hret, hlk, hnm, hEL⟩, k0, L, c, s, X1, e1, S1, hk, hZ, hown, hCH, N, O, c1, s1⟩ := W
  obtain ⟨fs, hr, hrun, hended, h1, h2, h3, h4⟩ := X1.leaveW S1 (by rw [e1]; exact hk) (v := v) (fun q => hv (hret.symm.trans q)) hlk
  refine ⟨_, _, hst fs hr, hrun, hended, v, L, rfl, ⟨?_, N, ?_⟩, ?_, h1, h2, h3, h4.mono (Nat.le_trans c1 hC) (Nat.le_trans s1 hS)⟩
  · show Q v T.heap
    rw [e1]; exact hQ
  · show Old G.Z G.n0 T.heap
    rw [e1]; exact O
  · show CHr G.Z G.EL X.s.vm X.s.heap T.vm T.heap
    rw [e1]; exact hCH.trans (CHv.at X1 hZ hEL hCH.1)
theorem retI (W : Here G X M vm T h C S) (hC : C ≤ M.R.cells) (hS : S ≤ M.R.slots) (hr : M.ret = some .int) (hd : decode M.bytes pc = .ok (.ireturn, 1)) {z : Int32} (hQ : Q (some (.int z)) h) : Go G X M Q T pc Ls (.int z :: st) := by
  obtain ⟨F, k0, L, c, s, X1, -⟩ := id W
  exact Go.retW W hC hS (fun q => by rw [hr] at q; cases q) (fun fs q => retOut X1 W.x (F.2.2.2.1.trans hr) rfl (Or.inl ⟨rfl, Or.inl rfl, z, rfl⟩) (W.d hd) q) hQ
theorem retB (W : Here G X M vm T h C S) (hC : C ≤ M.R.cells) (hS : S ≤ M.R.slots) (hr : M.ret = some .boolean) (hd : decode M.bytes pc = .ok (.ireturn, 1)) {z : Int32} (hz : narrow .boolean (.int z) = .int z) (hQ : Q (some (.int z)) h) : Go G X M Q T pc Ls (.int z :: st) := by
  obtain ⟨F, k0, L, c, s, X1, -⟩ := id W
  exact Go.retW W hC hS (fun q => by rw [hr] at q; cases q) (fun fs q => retOut X1 W.x (F.2.2.2.1.trans hr) hz (Or.inl ⟨rfl, Or.inr (Or.inl rfl), z, rfl⟩) (W.d hd) q) hQ
theorem retC (W : Here G X M vm T h C S) (hC : C ≤ M.R.cells) (hS : S ≤ M.R.slots) (hr : M.ret = some .char) (hd : decode M.bytes pc = .ok (.ireturn, 1)) {z : Int32} (hz : narrow .char (.int z) = .int z) (hQ : Q (some (.int z)) h) : Go G X M Q T pc Ls (.int z :: st) := by
  obtain ⟨F, k0, L, c, s, X1, -⟩ := id W
  exact Go.retW W hC hS (fun q => by rw [hr] at q; cases q) (fun fs q => retOut X1 W.x (F.2.2.2.1.trans hr) hz (Or.inl ⟨rfl, Or.inr (Or.inr (Or.inr (Or.inl rfl))), z, rfl⟩) (W.d hd) q) hQ
theorem retY (W : Here G X M vm T h C S) (hC : C ≤ M.R.cells) (hS : S ≤ M.R.slots) (hr : M.ret = some .byte) (hd : decode M.bytes pc = .ok (.ireturn, 1)) {z : Int32} (hz : narrow .byte (.int z) = .int z) (hQ : Q (some (.int z)) h) : Go G X M Q T pc Ls (.int z :: st) := by
  obtain ⟨F, k0, L, c, s, X1, -⟩ := id W
  exact Go.retW W hC hS (fun q => by rw [hr] at q; cases q) (fun fs q => retOut X1 W.x (F.2.2.2.1.trans hr) hz (Or.inl ⟨rfl, Or.inr (Or.inr (Or.inl rfl)), z, rfl⟩) (W.d hd) q) hQ
theorem retA (W : Here G X M vm T h C S) (hC : C ≤ M.R.cells) (hS : S ≤ M.R.slots) {t : FieldType} (hr : M.ret = some t) (ht : t.isReference = true) {w : Value} (hw : w.isRef = true) (hd : decode M.bytes pc = .ok (.areturn, 1)) (hQ : Q (some w) h) : Go G X M Q T pc Ls (w :: st) := by
  obtain ⟨F, k0, L, c, s, X1, -⟩ := id W
  refine Go.retW W hC hS (fun q => by rw [hr] at q; cases q) (fun fs q => retOut X1 W.x (F.2.2.2.1.trans hr) ?_ (Or.inr (Or.inr (Or.inr (Or.inr ⟨rfl, ht, hw⟩)))) (W.d hd) q) hQ
  rcases ref_cases hw with rfl | ⟨b, rfl⟩ <;> cases t <;> first | rfl | cases ht
theorem retL (W : Here G X M vm T h C S) (hC : C ≤ M.R.cells) (hS : S ≤ M.R.slots) (hr : M.ret = some .long) (hd : decode M.bytes pc = .ok (.lreturn, 1)) {z : Int64} (hQ : Q (some (.long z)) h) : Go G X M Q T pc Ls (.long z :: st) := by
  obtain ⟨F, k0, L, c, s, X1, -⟩ := id W
  exact Go.retW W hC hS (fun q => by rw [hr] at q; cases q) (fun fs q => retOut X1 W.x (F.2.2.2.1.trans hr) rfl (Or.inr (Or.inl ⟨rfl, rfl, z, rfl⟩)) (W.d hd) q) hQ
theorem retV (W : Here G X M vm T h C S) (hC : C ≤ M.R.cells) (hS : S ≤ M.R.slots) (hr : M.ret = none) (hd : decode M.bytes pc = .ok (.return_, 1)) (hQ : Q none h) : Go G X M Q T pc Ls [] := by
  obtain ⟨F, k0, L, c, s, X1, -⟩ := id W
  exact Go.retW W hC hS (fun _ => rfl) (fun fs q => X1.returnOut W.x (F.2.2.2.1.trans hr) (W.d hd) q) hQ
/-! ### the entry -/
theorem Con.intro {ws : List Jvm.Cond} {as' : Array Value} {sf : List Addr} (hpn : plainFor M.y = true) (hO : Old G.Z G.n0 h) (hEL : EW G.Z G.a0 G.EL) (Ls0 : Array Slot) (hef : ∀ m, entryFrame m as' M.maxL = mkF m 0 Ls0 [])
    (body : ∀ (X : Rn) (T : State), Here G X M X.s.vm T h 0 0 → (∀ x ∈ sf, Safe G.Z G.EL X.s.vm h x) → Go G X M Q T 0 Ls0 []) : Con G ws M as' h sf Q := by
  refine MetFree.of_bodySF hpn hisR ?_
  intro p e s m args below meth c s₁ Bd hml0 hP hK
  obtain ⟨rfl, hZ, rfl, hCH, hsf⟩ := hP
  have hown : s.vm.findClass M.y.cls = some m.cls := findClass_of_methodNamed Bd.named
  have hnm := (name_of_methodNamed Bd.named Bd.method).1
  have X0 : Stand p G.l e M.R s m args below meth c s₁ [] 0 0 := Stand.of_body Bd
  have e0 : s₁.heap = s.heap := by rw [Bd.state]; rfl
  have q := body (p, e, s, m, args, below, meth, c) s₁ ⟨⟨Bd.exec, Bd.bytes, hml0, Bd.returns, Bd.notSynchronized, hnm, hEL⟩, s.heap.size, [], 0, 0, X0, e0, (State.WarmedH.refl s).since _, Nat.le_refl _, hZ, hown, CHr.refl hCH, Fr.nil _, hO, Nat.le_refl 0, Nat.le_refl 0⟩ hsf
  rw [hef m]
  exact q
/-! ### calls -/
theorem Con.pay {N : Bo} {as' : Array Value} {sf : List Addr} {Qy : Option Value → Heap → Prop} (K : Con G [] N as' h sf Qy) (W : Here G X M vm T h C S) (wc : (Jvm.Cond.code N.y N.bytes N.maxL N.ret).before G.a0 G.Z = true) (wz : (Jvm.Cond.initialized N.y.cls).before G.a0 G.Z = true) {len wd : Nat}
    (hf : N.R.frames + 1 ≤ M.R.frames) (hl : wd + (N.maxL + 11) + N.R.locals ≤ M.R.locals) (hsf : ∀ x ∈ sf, x < h.size ∧ Safe G.Z G.EL vm h x) : Pay G X M vm h N.y len wd as' N.R.cells N.R.slots Qy := by
  have hZ := W.wz
  have hEL := W.1.2.2.2.2.2.2
  have H := W.ch
  exact BackS.of_freeW (bytes := N.bytes) (maxL := N.maxL) (ret := N.ret) (E := fun _ first o t L k n => k = N.R.cells ∧ n = N.R.slots ∧ (∃ v, o = .returned v ∧ Qy v t.heap ∧ Fr G.n0 L ∧ Old G.Z G.n0 t.heap) ∧ CHr G.Z G.EL first.vm first.heap t.vm t.heap) K hf hl
    (fun m meth c A a Y hp => have hU : G.Z.Warmed39 A.U.vm := wtrans (s := X.s.setVm vm) hZ Y.warmed
      ⟨by show (Cond.and _ .tt).before a A.U = true; rw [Cond.before_and, mv hU wc]; rfl, mv hU wc, mv hU wz, hp.2.2.1, hp.2.2.2⟩)
    (fun m meth c A a g mk Y hp => ⟨hp.1, wtrans (s := X.s.setVm vm) hZ Y.warmed, hp.2.1, (CHv.at Y hZ hEL H).1, fun x hx => (CHv.at Y hZ hEL H).safe (hsf x hx).1 (hsf x hx).2⟩) (fun _ _ _ _ _ _ _ _ _ => trivial)
    (fun _ _ _ _ ⟨v, L, h1, h2, h3, h4⟩ => ⟨L, _, _, h4, rfl, rfl, ⟨v, h1, h2⟩, h3⟩)
    (fun m meth c A a g mk v t L k n Y hp _ _ ⟨e1, e2, ⟨v', e3, e4⟩, e5⟩ => by
      cases e3; subst e1 e2
      refine ⟨L, e4, rfl, Nat.le_refl _, Nat.le_refl _, (CHv.at Y hZ hEL H).trans ?_⟩
      rw [← hp.2.1]; exact e5)
/-- a law of the other shape pays too: its callee interns nothing -/
theorem payB {y : MethodName} {len wd kc ks : Nat} {as' : Array Value} {Qy : Option Value → Heap → List Loc → Prop} {Q' : Option Value → Heap → Prop}
    (B : Back G.l M.R X.p X.e X.below (X.s.setVm vm) X.args y len wd (fun P a => a = as' ∧ P.U.heap = h ∧ P.cells + kc ≤ M.R.cells ∧ P.slots + ks ≤ M.R.slots) (fun P _ v B => ∃ L, Qy v B.U.heap L ∧ B.locs = P.locs ++ L ∧ B.cells = P.cells + kc ∧ B.slots = P.slots + ks))
    (W : Here G X M vm T h C S) (hq : ∀ v h' L, Qy v h' L → Q' v h' ∧ Fr G.n0 L ∧ Old G.Z G.n0 h' ∧ CHr G.Z G.EL vm h vm h') : Pay G X M vm h y len wd as' kc ks Q' := by
  intro m meth c A g ig mk a X1 hg hsize hdg hW hn hp
  obtain ⟨v, B', X', ⟨L, q, e1, e2, e3⟩, st⟩ := B m meth c A g ig mk a X1 hg hsize hdg hW hn hp
  obtain ⟨q1, q2, q3, q4⟩ := hq _ _ _ q
  refine ⟨v, B', X'.retabled X'.warmed.wide, X'.warmed.since _, ?_, ⟨L, ⟨q1, q2, q3⟩, e1, Nat.le_of_eq e2, Nat.le_of_eq e3, q4.trans (CHv.at X' W.wz W.1.2.2.2.2.2.2 q4.1)⟩, st⟩
  rw [hp.2.1]; exact q4.2.1
theorem Here.call (W : Here G X M vm T h C S) {kc ks C' S' : Nat} {v : Option Value} {Qy : Option Value → Heap → Prop} (hc : C + kc ≤ C') (hs : S + ks ≤ S')
    {k0 : Nat} {locs : List Loc} {cells slots : Nat} (hS : X.s.Since vm k0) (hk : k0 ≤ h.size) (hown : vm.findClass M.y.cls = some X.m.cls) (hCH : CHr G.Z G.EL X.s.vm X.s.heap vm h) (hF : Fr G.n0 locs) (c1 : cells ≤ C) (s1 : slots ≤ S) {B : Pt}
    (X' : Stand X.p G.l X.e M.R ((X.s.setVm vm).setVm B.U.vm) X.m X.args X.below X.meth X.c B.U B.locs B.cells B.slots) (h2 : (X.s.setVm vm).Since B.U.vm B.U.heap.size) (hg : h.size ≤ B.U.heap.size) {L : List Loc}
    (hq : (Qy v B.U.heap ∧ Fr G.n0 L ∧ Old G.Z G.n0 B.U.heap) ∧ B.locs = locs ++ L ∧ B.cells ≤ cells + kc ∧ B.slots ≤ slots + ks ∧ CHr G.Z G.EL vm h B.U.vm B.U.heap) : Here G X M B.U.vm B.U B.U.heap C' S' := by
  obtain ⟨X2, S2, Z2, o2⟩ := rebS hS hk X' h2 hg W.wz hown
  obtain ⟨⟨-, q2, q3⟩, e1, e2, e3, q4⟩ := hq
  refine ⟨W.1, _, _, _, _, X2, rfl, S2, Nat.le_refl _, Z2, o2, hCH.trans q4, ?_, q3, ?_, ?_⟩
  · rw [e1]; exact hF.app q2
  · omega
  · omega
theorem callS (W : Here G X M vm T h C S) {y : MethodName} {idx : Nat} {bytes : ByteArray} {maxL : Nat} {ret : Option FieldType} (w1 : (Jvm.Cond.methodLink M.y.cls idx y).before G.a0 G.Z = true) (w2 : (Jvm.Cond.static y).before G.a0 G.Z = true) (w3 : (Jvm.Cond.initialized y.cls).before G.a0 G.Z = true) (w4 : (Jvm.Cond.code y bytes maxL ret).before G.a0 G.Z = true)
    (hy : y.cls ≠ "java/lang/invoke/MethodHandle" ∧ y.cls ≠ "java/lang/invoke/VarHandle") {wd kc ks : Nat} {argsL rest : List Value} {Qy : Option Value → Heap → Prop} (P : Pay G X M vm h y 3 wd argsL.toArray kc ks Qy) (hsz : Ls.size = M.maxL) (hlen : ∀ sig, parseMethodDescriptor y.desc = some sig → argsL.length = sig.parameters.length)
    (hstk : st = argsL.reverse ++ rest) (hwd : (rest.map fun v => v.category).sum ≤ wd) (hd : decode M.bytes pc = .ok (.invokestatic idx, 3)) (pc' : Nat) (hp : pc + 3 = pc') (C' S' : Nat) (hc : C + kc ≤ C') (hs : S + ks ≤ S') (hc' : C' ≤ M.R.cells) (hs' : S' ≤ M.R.slots)
    (k : ∀ (vm' : Vm) (T' : State) (h' : Heap) (v : Option Value), Here G X M vm' T' h' C' S' → CHr G.Z G.EL vm h vm' h' → Qy v h' → Go G X M Q T' pc' Ls (v.toList ++ rest)) : Go G X M Q T pc Ls st := by
  subst hp hstk
  obtain ⟨F, k0, locs, cells, slots, X1, e1, hS, hk, hZ, hown, hCH, hF, O, c1, s1⟩ := id W
  subst e1
  obtain ⟨v, vm₁, B, -, X', h2, hg, ⟨L, hq⟩, st'⟩ := callSS X1 W.x (y := y) hown (mv (s := X.s.setVm vm) hZ w1) (mv (s := X.s.setVm vm) hZ w2) (mv (s := X.s.setVm vm) hZ w3) (mv (s := X.s.setVm vm) hZ w4) hy P (g := mkF X.m pc Ls (argsL.reverse ++ rest)) rfl (hsz.trans F.2.2.1.symm) (argsL := argsL) (rest := rest) hlen rfl (by show 2 * 0 + _ ≤ _; omega) (W.d hd) (fun _ _ => ⟨rfl, rfl, by show cells + kc ≤ _; omega, by show slots + ks ≤ _; omega⟩)
  exact Go.stp (fun t r => st'.trans r) (k B.U.vm B.U B.U.heap v (Here.call W hc hs hS hk hown hCH hF c1 s1 X' h2 hg hq) hq.2.2.2.2 hq.1.1)
theorem callX (W : Here G X M vm T h C S) {y : MethodName} {idx : Nat} {bytes : ByteArray} {maxL : Nat} (hy1 : y.name = "<init>") (w1 : (Jvm.Cond.methodLink M.y.cls idx y).before G.a0 G.Z = true) (w2 : (Jvm.Cond.instanceMethod y).before G.a0 G.Z = true) (w4 : (Jvm.Cond.code y bytes maxL none).before G.a0 G.Z = true)
    (hy : y.cls ≠ "java/lang/invoke/MethodHandle" ∧ y.cls ≠ "java/lang/invoke/VarHandle") {wd kc ks : Nat} {a : Addr} {argsL rest : List Value} {Qy : Option Value → Heap → Prop} (P : Pay G X M vm h y 3 wd (.ref a :: argsL).toArray kc ks Qy) (hsz : Ls.size = M.maxL) (hlen : ∀ sig, parseMethodDescriptor y.desc = some sig → argsL.length = sig.parameters.length)
    (hstk : st = argsL.reverse ++ .ref a :: rest) (hwd : (rest.map fun v => v.category).sum ≤ wd) (hd : decode M.bytes pc = .ok (.invokespecial idx, 3)) (pc' : Nat) (hp : pc + 3 = pc') (C' S' : Nat) (hc : C + kc ≤ C') (hs : S + ks ≤ S') (hc' : C' ≤ M.R.cells) (hs' : S' ≤ M.R.slots)
    (k : ∀ (vm' : Vm) (T' : State) (h' : Heap) (v : Option Value), Here G X M vm' T' h' C' S' → CHr G.Z G.EL vm h vm' h' → Qy v h' → Go G X M Q T' pc' Ls (v.toList ++ rest)) : Go G X M Q T pc Ls st := by
  subst hp hstk
  obtain ⟨F, k0, locs, cells, slots, X1, e1, hS, hk, hZ, hown, hCH, hF, O, c1, s1⟩ := id W
  subst e1
  obtain ⟨v, vm₁, B, -, X', h2, hg, ⟨L, hq⟩, st'⟩ := X1.specialBackS W.x (y := y) hy1 hown (mv (s := X.s.setVm vm) hZ w1) (mv (s := X.s.setVm vm) hZ w2) (mv (s := X.s.setVm vm) hZ w4) hy P (g := mkF X.m pc Ls (argsL.reverse ++ .ref a :: rest)) rfl (hsz.trans F.2.2.1.symm) (Steps.refl _) (a := a) (argsL := argsL) (rest := rest) hlen rfl (by show 2 * 0 + _ ≤ _; omega) (W.d hd) (fun _ _ => ⟨rfl, rfl, by show cells + kc ≤ _; omega, by show slots + ks ≤ _; omega⟩)
  exact Go.stp (fun t r => st'.trans r) (k B.U.vm B.U B.U.heap v (Here.call W hc hs hS hk hown hCH hF c1 s1 X' h2 hg hq) hq.2.2.2.2 hq.1.1)
theorem callV (W : Here G X M vm T h C S) {y z : MethodName} {idx : Nat} {cl : String} (w1 : (Jvm.Cond.methodLink M.y.cls idx y).before G.a0 G.Z = true) (w2 : (Jvm.Cond.declares y).before G.a0 G.Z = true) (nf : ∀ s : State, G.Z.Warmed39 s.vm → NotFace s y) (w3 : (Jvm.Cond.selects cl y z).before G.a0 G.Z = true) (w4 : (Jvm.Cond.instanceMethod z).before G.a0 G.Z = true)
    (hy : y.cls ≠ "java/lang/invoke/MethodHandle" ∧ y.cls ≠ "java/lang/invoke/VarHandle") {wd kc ks : Nat} {a : Addr} {argsL rest : List Value} {Qy : Option Value → Heap → Prop} (P : Pay G X M vm h z 3 wd (.ref a :: argsL).toArray kc ks Qy) (E : Exa G.Z h a cl) (hsz : Ls.size = M.maxL) (hlen : ∀ sig, parseMethodDescriptor y.desc = some sig → argsL.length = sig.parameters.length)
    (hstk : st = argsL.reverse ++ .ref a :: rest) (hwd : (rest.map fun v => v.category).sum ≤ wd) (hd : decode M.bytes pc = .ok (.invokevirtual idx, 3)) (pc' : Nat) (hp : pc + 3 = pc') (C' S' : Nat) (hc : C + kc ≤ C') (hs : S + ks ≤ S') (hc' : C' ≤ M.R.cells) (hs' : S' ≤ M.R.slots)
    (k : ∀ (vm' : Vm) (T' : State) (h' : Heap) (v : Option Value), Here G X M vm' T' h' C' S' → CHr G.Z G.EL vm h vm' h' → Qy v h' → Go G X M Q T' pc' Ls (v.toList ++ rest)) : Go G X M Q T pc Ls st := by
  subst hp hstk
  obtain ⟨F, k0, locs, cells, slots, X1, e1, hS, hk, hZ, hown, hCH, hF, O, c1, s1⟩ := id W
  obtain ⟨cq, kq, qa, qb, qc⟩ := isOf (s := X.s.setVm vm) hZ e1 E
  subst e1
  obtain ⟨v, vm₁, B, -, X', h2, hg, ⟨L, hq⟩, st'⟩ := X1.virtualBackS W.x (y := y) (z := z) hown (mv (s := X.s.setVm vm) hZ w1) (mv (s := X.s.setVm vm) hZ w2) (nf _ hZ) (mv (s := X.s.setVm vm) hZ w3) (mv (s := X.s.setVm vm) hZ w4) hy P qa qc (g := mkF X.m pc Ls (argsL.reverse ++ .ref a :: rest)) rfl (hsz.trans F.2.2.1.symm) (Steps.refl _) (argsL := argsL) (rest := rest) hlen rfl (by show 2 * 0 + _ ≤ _; omega) (W.d hd) (fun _ _ => ⟨rfl, rfl, by show cells + kc ≤ _; omega, by show slots + ks ≤ _; omega⟩)
  exact Go.stp (fun t r => st'.trans r) (k B.U.vm B.U B.U.heap v (Here.call W hc hs hS hk hown hCH hF c1 s1 X' h2 hg hq) hq.2.2.2.2 hq.1.1)
theorem callI (W : Here G X M vm T h C S) {y z : MethodName} {idx count : Nat} {cl : String} (w1 : (Jvm.Cond.methodLink M.y.cls idx y).before G.a0 G.Z = true) (w2 : (Jvm.Cond.declares y).before G.a0 G.Z = true) (wf : (Jvm.Cond.interfaceMethod y.cls y.cls y.name y.desc).before G.a0 G.Z = true) (hfa : ((Jvm.Cond.interfaceMethod y.cls y.cls y.name y.desc).onTables && (Jvm.Cond.interfaceMethod y.cls y.cls y.name y.desc).keepsFace) = true) (w3 : (Jvm.Cond.selects cl y z).before G.a0 G.Z = true) (w4 : (Jvm.Cond.instanceMethod z).before G.a0 G.Z = true)
    (w5 : (Jvm.Cond.publicMethod z).before G.a0 G.Z = true) (w6 : (Jvm.Cond.unhidden cl y.name y.desc).before G.a0 G.Z = true) (w7 : (Jvm.Cond.castable cl y.cls).before G.a0 G.Z = true)
    (hy : y.cls ≠ "java/lang/invoke/MethodHandle" ∧ y.cls ≠ "java/lang/invoke/VarHandle") {wd kc ks : Nat} {a : Addr} {argsL rest : List Value} {Qy : Option Value → Heap → Prop} (P : Pay G X M vm h z 5 wd (.ref a :: argsL).toArray kc ks Qy) (E : Exa G.Z h a cl) (hsz : Ls.size = M.maxL) (hlen : ∀ sig, parseMethodDescriptor y.desc = some sig → argsL.length = sig.parameters.length)
    (hstk : st = argsL.reverse ++ .ref a :: rest) (hwd : (rest.map fun v => v.category).sum ≤ wd) (hd : decode M.bytes pc = .ok (.invokeinterface idx count, 5)) (pc' : Nat) (hp : pc + 5 = pc') (C' S' : Nat) (hc : C + kc ≤ C') (hs : S + ks ≤ S') (hc' : C' ≤ M.R.cells) (hs' : S' ≤ M.R.slots)
    (k : ∀ (vm' : Vm) (T' : State) (h' : Heap) (v : Option Value), Here G X M vm' T' h' C' S' → CHr G.Z G.EL vm h vm' h' → Qy v h' → Go G X M Q T' pc' Ls (v.toList ++ rest)) : Go G X M Q T pc Ls st := by
  subst hp hstk
  obtain ⟨F, k0, locs, cells, slots, X1, e1, hS, hk, hZ, hown, hCH, hF, O, c1, s1⟩ := id W
  obtain ⟨cq, kq, qa, qb, qc⟩ := isOf (s := X.s.setVm vm) hZ e1 E
  subst e1
  obtain ⟨v, vm₁, B, -, X', h2, hg, ⟨L, hq⟩, st'⟩ := X1.interfaceBackS W.x (xi := y) (y := z) hown (mv (s := X.s.setVm vm) hZ w1) (mv (s := X.s.setVm vm) hZ w2) (mv (s := X.s.setVm vm) hZ wf hfa) (mv (s := X.s.setVm vm) hZ w3) (mv (s := X.s.setVm vm) hZ w4) (mv (s := X.s.setVm vm) hZ w5) (mv (s := X.s.setVm vm) hZ w6) (mv (s := X.s.setVm vm) hZ w7) hy P qa qb qc (g := mkF X.m pc Ls (argsL.reverse ++ .ref a :: rest)) rfl (hsz.trans F.2.2.1.symm) (Steps.refl _) (argsL := argsL) (rest := rest) hlen rfl (by show 2 * 0 + _ ≤ _; omega) (W.d hd) (fun _ _ => ⟨rfl, rfl, by show cells + kc ≤ _; omega, by show slots + ks ≤ _; omega⟩)
  exact Go.stp (fun t r => st'.trans r) (k B.U.vm B.U B.U.heap v (Here.call W hc hs hS hk hown hCH hF c1 s1 X' h2 hg hq) hq.2.2.2.2 hq.1.1)
/-! ### steps on the heap -/
theorem Here.ext (W : Here G X M vm T h C S) {T' : State} {h' : Heap} {k0 : Nat} {locs : List Loc} {cells slots C' S' : Nat} (hS : X.s.Since vm k0) (hk : k0 ≤ h.size) (hown : vm.findClass M.y.cls = some X.m.cls) (hCH : CHr G.Z G.EL X.s.vm X.s.heap vm h) (hF : Fr G.n0 locs)
    (X' : Stand X.p G.l X.e M.R (X.s.setVm vm) X.m X.args X.below X.meth X.c T' locs cells slots) (e' : T'.heap = h') (E : Ext h h') (hc : cells ≤ C') (hs : slots ≤ S') : Here G X M vm T' h' C' S' :=
  ⟨W.1, k0, locs, cells, slots, X', e', hS, Nat.le_trans hk E.1, W.wz, hown, hCH.trans (CHr.ext E hCH.1), hF, W.old.ext E, hc, hs⟩
theorem newO (W : Here G X M vm T h C S) {cl : String} {idx n : Nat} (w : (Jvm.Cond.classLink M.y.cls idx cl).before G.a0 G.Z = true) (wi : (Jvm.Cond.instantiable cl n).before G.a0 G.Z = true) (wz : (Jvm.Cond.initialized cl).before G.a0 G.Z = true) (hd : decode M.bytes pc = .ok (.new idx, 3)) (pc' : Nat) (hp : pc + 3 = pc') (C' S' : Nat) (hc : C + 1 ≤ C') (hs : S + n ≤ S') (hc' : C' ≤ M.R.cells) (hs' : S' ≤ M.R.slots)
    (k : ∀ (T' : State) (h' : Heap) (a : Addr), a = h.size → Here G X M vm T' h' C' S' → Ext h h' → Exa G.Z h' a cl → (∀ {O nm d : String} {ty : FieldType}, Laid G.Z G.a0 cl O nm d → parseFieldDescriptor d = some ty → Fld G.Z h' a O nm d (defaultValue ty)) → Safe G.Z G.EL vm h' a → (∀ y, Safe G.Z G.EL vm h y → Safe G.Z G.EL vm h' y) → Go G X M Q T' pc' Ls (.ref a :: st)) : Go G X M Q T pc Ls st := by
  subst hp
  obtain ⟨F, k0, locs, cells, slots, X1, e1, hS, hk, hZ, hown, hCH, hF, O, c1, s1⟩ := id W
  obtain ⟨T', h', X', e', E, A, D, -, st'⟩ := RoadKit.newO X1 W.x hZ hown w wi wz e1 (g := mkF X.m pc Ls st) rfl (W.d hd) (by omega) (by omega)
  exact Go.stp (fun t r => st' t r) (k T' h' h.size rfl (Here.ext W hS hk hown hCH hF X' e' E (by omega) (by omega)) E A D (Safe.ext E hCH.1 (Safe.new (Nat.le_refl _))) (fun y q => Safe.ext E hCH.1 q))
theorem newA (W : Here G X M vm T h C S) {aty : ArrayType} {n : Int32} (w : (Jvm.Cond.arrayClass (newarray.typeOf aty)).before G.a0 G.Z = true) (hd : decode M.bytes pc = .ok (.newarray aty, 2)) (pc' : Nat) (hp : pc + 2 = pc') (hn : ¬ n < 0) (cap : Nat) (hcap : n.toNatClampNeg ≤ cap) (hb : cap * 8 ≤ 536870912) (C' S' : Nat) (hc : C + 1 ≤ C') (hs : S + cap ≤ S') (hc' : C' ≤ M.R.cells) (hs' : S' ≤ M.R.slots)
    (k : ∀ (T' : State) (h' : Heap) (a : Addr) (kA : ClassId), a = h.size → Here G X M vm T' h' C' S' → Ext h h' → Arv G.Z h' a kA (newarray.typeOf aty) n (List.replicate cap (defaultValue (newarray.typeOf aty))) (defaultValue (newarray.typeOf aty)) → Safe G.Z G.EL vm h' a → (∀ y, Safe G.Z G.EL vm h y → Safe G.Z G.EL vm h' y) → Go G X M Q T' pc' Ls (.ref a :: st)) : Go G X M Q T pc Ls (.int n :: st) := by
  subst hp
  obtain ⟨F, k0, locs, cells, slots, X1, e1, hS, hk, hZ, hown, hCH, hF, O, c1, s1⟩ := id W
  obtain ⟨T', h', kA, X', e', E, A, st'⟩ := RoadKit.newP X1 W.x hZ w e1 (g := mkF X.m pc Ls (.int n :: st)) rfl (W.d hd) rfl hn hcap hb (by omega) (by omega)
  exact Go.stp (fun t r => st' t r) (k T' h' h.size kA rfl (Here.ext W hS hk hown hCH hF X' e' E (by omega) (by omega)) E ((Arv.new A hn).pad (pad_rep [] _ cap)) (Safe.ext E hCH.1 (Safe.new (Nat.le_refl _))) (fun y q => Safe.ext E hCH.1 q))
theorem getF (W : Here G X M vm T h C S) {R0 O n d : String} {idx : Nat} {a : Addr} {v : Value} (w : (Jvm.Cond.fieldLink M.y.cls idx R0 n d).before G.a0 G.Z = true) (via : Via G.Z R0 O n d) (F : Fld G.Z h a O n d v) (hd : decode M.bytes pc = .ok (.getfield idx, 3)) (pc' : Nat) (hp : pc + 3 = pc')
    (k : ∀ T' : State, Here G X M vm T' h C S → Go G X M Q T' pc' Ls (v :: st)) : Go G X M Q T pc Ls (.ref a :: st) := by
  subst hp
  obtain ⟨F', k0, locs, cells, slots, X1, e1, hS, hk, hZ, hown, hCH, hF, O', c1, s1⟩ := id W
  obtain ⟨T', X', e', st'⟩ := RoadKit.getF X1 W.x hZ hown (host := "") (Or.inl w) via e1 F (g := mkF X.m pc Ls (.ref a :: st)) rfl rfl (W.d hd)
  exact Go.stp (fun t r => st' t r) (k T' (Here.ext W hS hk hown hCH hF X' e' (Ext.rfl' h) c1 s1))
theorem getS (W : Here G X M vm T h C S) {R0 O n d : String} {idx : Nat} {v : Value} (w : (Jvm.Cond.fieldLink M.y.cls idx R0 n d).before G.a0 G.Z = true) (via : Via G.Z R0 O n d) (F : Sta G.Z h O n d v) (hd : decode M.bytes pc = .ok (.getstatic idx, 3)) (pc' : Nat) (hp : pc + 3 = pc')
    (k : ∀ T' : State, Here G X M vm T' h C S → Go G X M Q T' pc' Ls (v :: st)) : Go G X M Q T pc Ls st := by
  subst hp
  obtain ⟨F', k0, locs, cells, slots, X1, e1, hS, hk, hZ, hown, hCH, hF, O', c1, s1⟩ := id W
  obtain ⟨T', X', e', st'⟩ := RoadKit.getS X1 W.x hZ (host := "") hown w via e1 F (g := mkF X.m pc Ls st) rfl (W.d hd)
  exact Go.stp (fun t r => st' t r) (k T' (Here.ext W hS hk hown hCH hF X' e' (Ext.rfl' h) c1 s1))
theorem castY (W : Here G X M vm T h C S) {K : String} {idx : Nat} {a : Addr} (w : (Jvm.Cond.classLink M.y.cls idx K).before G.a0 G.Z = true) (F : Ins G.Z h a K true) (hd : decode M.bytes pc = .ok (.checkcast idx, 3)) (pc' : Nat) (hp : pc + 3 = pc')
    (k : ∀ T' : State, Here G X M vm T' h C S → Go G X M Q T' pc' Ls (.ref a :: st)) : Go G X M Q T pc Ls (.ref a :: st) := by
  subst hp
  obtain ⟨F', k0, locs, cells, slots, X1, e1, hS, hk, hZ, hown, hCH, hF, O', c1, s1⟩ := id W
  obtain ⟨T', X', e', st'⟩ := RoadKit.castY X1 W.x hZ hown w e1 F (g := mkF X.m pc Ls (.ref a :: st)) rfl rfl (W.d hd)
  exact Go.stp (fun t r => st' t r) (k T' (Here.ext W hS hk hown hCH hF X' e' (Ext.rfl' h) c1 s1))
theorem instY (W : Here G X M vm T h C S) {K : String} {idx : Nat} {a : Addr} (w : (Jvm.Cond.classLink M.y.cls idx K).before G.a0 G.Z = true) (F : Ins G.Z h a K true) (hd : decode M.bytes pc = .ok (.instanceof idx, 3)) (pc' : Nat) (hp : pc + 3 = pc')
    (k : ∀ T' : State, Here G X M vm T' h C S → Go G X M Q T' pc' Ls (.int 1 :: st)) : Go G X M Q T pc Ls (.ref a :: st) := by
  subst hp
  obtain ⟨F', k0, locs, cells, slots, X1, e1, hS, hk, hZ, hown, hCH, hF, O', c1, s1⟩ := id W
  obtain ⟨T', X', e', st'⟩ := RoadKit.instY X1 W.x hZ hown w e1 F (g := mkF X.m pc Ls (.ref a :: st)) rfl rfl (W.d hd)
  exact Go.stp (fun t r => st' t r) (k T' (Here.ext W hS hk hown hCH hF X' e' (Ext.rfl' h) c1 s1))
theorem instNo (W : Here G X M vm T h C S) {K c0 : String} {idx : Nat} {a : Addr} (w : (Jvm.Cond.classLink M.y.cls idx K).before G.a0 G.Z = true) (E : Exa G.Z h a c0) (F : ∃ c t, G.Z.vm.findClass c0 = some c ∧ G.Z.vm.findClass K = some t ∧ G.Z.vm.assignable c t = false) (hd : decode M.bytes pc = .ok (.instanceof idx, 3)) (pc' : Nat) (hp : pc + 3 = pc')
    (k : ∀ T' : State, Here G X M vm T' h C S → Go G X M Q T' pc' Ls (.int 0 :: st)) : Go G X M Q T pc Ls (.ref a :: st) := by
  subst hp
  obtain ⟨F', k0, locs, cells, slots, X1, e1, hS, hk, hZ, hown, hCH, hF, O', c1, s1⟩ := id W
  obtain ⟨T', X', e', st'⟩ := RoadKit.instNo X1 W.x hZ hown w e1 E F (g := mkF X.m pc Ls (.ref a :: st)) rfl rfl (W.d hd)
  exact Go.stp (fun t r => st' t r) (k T' (Here.ext W hS hk hown hCH hF X' e' (Ext.rfl' h) c1 s1))
theorem instNull (W : Here G X M vm T h C S) {idx : Nat} (hd : decode M.bytes pc = .ok (.instanceof idx, 3)) (pc' : Nat) (hp : pc + 3 = pc') (k : Go G X M Q T pc' Ls (.int 0 :: st)) : Go G X M Q T pc Ls (.null :: st) := by
  subst hp
  obtain ⟨F', k0, locs, cells, slots, X1, -⟩ := id W
  exact Go.stp (fun t r => X1.instanceofNull W.x (g := mkF X.m pc Ls (.null :: st)) rfl rfl (W.d hd) t r) k
theorem castNull (W : Here G X M vm T h C S) {idx : Nat} (hd : decode M.bytes pc = .ok (.checkcast idx, 3)) (pc' : Nat) (hp : pc + 3 = pc') (k : Go G X M Q T pc' Ls (.null :: st)) : Go G X M Q T pc Ls (.null :: st) := by
  subst hp
  obtain ⟨F', k0, locs, cells, slots, X1, -⟩ := id W
  exact Go.stp (fun t r => X1.checkcastNull W.x (g := mkF X.m pc Ls (.null :: st)) rfl rfl (W.d hd) t r) k
theorem Here.wr (W : Here G X M vm T h C S) {T' : State} {h' : Heap} {k0 : Nat} {locs : List Loc} {cells slots : Nat} {a : Addr} {sl : Nat} {v : Value} (hS : X.s.Since vm k0) (hk : k0 ≤ h.size) (hown : vm.findClass M.y.cls = some X.m.cls) (hCH : CHr G.Z G.EL X.s.vm X.s.heap vm h) (hF : Fr G.n0 locs) (ha : G.n0 ≤ a) (sf : Safe G.Z G.EL vm h a)
    (X' : Stand X.p G.l X.e M.R (X.s.setVm vm) X.m X.args X.below X.meth X.c T' (locs ++ [⟨a, sl⟩]) cells slots) (e' : T'.heap = h') (E : Wr h h' a sl v) (hc : cells ≤ C) (hs : slots ≤ S) : Here G X M vm T' h' C S :=
  ⟨W.1, k0, _, cells, slots, X', e', hS, by rw [E.size]; exact hk, W.wz, hown, hCH.trans (CHr.wr E sf hCH.1), Fr.snoc X' hF ha, W.old.wr E ha, hc, hs⟩
theorem putF (W : Here G X M vm T h C S) {R0 O n d cl : String} {idx kk : Nat} {ty : FieldType} {a : Addr} {v v' old : Value} (w : (Jvm.Cond.fieldLink M.y.cls idx R0 n d).before G.a0 G.Z = true) (via : Via G.Z R0 O n d) (F : Fld G.Z h a O n d old) (E : Exa G.Z h a cl)
    (L : (Jvm.Cond.lays cl O n d).before G.a0 G.Z = true ∨ ((Jvm.Cond.laysFinal cl O n d).before G.a0 G.Z = true ∧ M.y.cls = O ∧ M.y.name = "<init>")) (wi : (Jvm.Cond.instantiable cl kk).before G.a0 G.Z = true) (hty : parseFieldDescriptor d = some ty) (hn : narrow ty v = v') (hf : fits ty v' = true) (ha : G.n0 ≤ a) (sf : Safe G.Z G.EL vm h a)
    (hd : decode M.bytes pc = .ok (.putfield idx, 3)) (pc' : Nat) (hp : pc + 3 = pc') (k : ∀ (T' : State) (h' : Heap), Here G X M vm T' h' C S → Wr h h' a (RoadKit.slotOf G.Z O n d) v' → (∀ y, Safe G.Z G.EL vm h y → Safe G.Z G.EL vm h' y) → Go G X M Q T' pc' Ls st) : Go G X M Q T pc Ls (v :: .ref a :: st) := by
  subst hp
  obtain ⟨F', k0, locs, cells, slots, X1, e1, hS, hk, hZ, hown, hCH, hF, O', c1, s1⟩ := id W
  obtain ⟨T', h', X', e', Wq, st'⟩ := RoadKit.putFN X1 W.x hZ hown w via e1 F E (L.imp id fun q => ⟨q.1, q.2.1, F'.2.2.2.2.2.1.trans q.2.2⟩) wi hty hn hf (g := mkF X.m pc Ls (v :: .ref a :: st)) rfl rfl (W.d hd)
  exact Go.stp (fun t r => st' t r) (k T' h' (Here.wr W hS hk hown hCH hF ha sf X' e' Wq c1 s1) Wq (fun y q => Safe.wr Wq sf hCH.1 q))
theorem castore (W : Here G X M vm T h C S) {a : Addr} {kA : ClassId} {z j x : Int32} {vs : List Value} {dv : Value} (A : Arv G.Z h a kA .char z vs dv) (i : Nat) (hj : j.toNatClampNeg = i) (hj0 : ¬ j < 0 ∧ j < z) (hi : i < vs.length) (ha : G.n0 ≤ a) {x' : Int32} (hx' : nar .char x = x') (hd : decode M.bytes pc = .ok (.castore, 1)) (pc' : Nat) (hp : pc + 1 = pc')
    (k : ∀ (T' : State) (h' : Heap), Here G X M vm T' h' C S → Wr h h' a i (.int x') → Arv G.Z h' a kA .char z (vs.set i (.int x')) dv → (∀ y, Safe G.Z G.EL vm h y → Safe G.Z G.EL vm h' y) → Go G X M Q T' pc' Ls st) : Go G X M Q T pc Ls (.int x :: .int j :: .ref a :: st) := by
  subst hp hj hx'
  obtain ⟨F', k0, locs, cells, slots, X1, e1, hS, hk, hZ, hown, hCH, hF, O', c1, s1⟩ := id W
  have sf : Safe G.Z G.EL vm h a := Safe.arv hZ.alike A (by decide)
  obtain ⟨cl, A1, q, Sz, Nz, H, Gz⟩ := A
  obtain ⟨T', h', X', e', Wq, st'⟩ := RoadKit.stC X1 W.x hZ e1 A1 (j := j) (inb_of Sz hj0) (g := mkF X.m pc Ls (.int x :: .int j :: .ref a :: st)) rfl rfl (W.d hd)
  exact Go.stp (fun t r => st' t r) (k T' h' (Here.wr W hS hk hown hCH hF ha sf X' e' Wq c1 s1) Wq (Arv.set A1 q Sz Nz H Gz (fits_nar_char _) Wq _ rfl hi) (fun y q => Safe.wr Wq sf hCH.1 q))
theorem arrlen (W : Here G X M vm T h C S) {a : Addr} {kA : ClassId} {ty : FieldType} {z : Int32} {vs : List Value} {dv : Value} (A : Arv G.Z h a kA ty z vs dv) (hd : decode M.bytes pc = .ok (.arraylength, 1)) (pc' : Nat) (hp : pc + 1 = pc') (k : Go G X M Q T pc' Ls (.int z :: st)) : Go G X M Q T pc Ls (.ref a :: st) := by
  subst hp
  obtain ⟨F', k0, locs, cells, slots, X1, e1, hS, hk, hZ, hown, hCH, hF, O', c1, s1⟩ := id W
  obtain ⟨cl, A1, q, Sz, Nz, H, Gz⟩ := A
  rw [← len_of Sz Nz] at k
  exact Go.stp (fun t r => X1.arraylength W.x (by rw [e1]; exact A1.1) (State.isArrayOf_alike (T := X.s.setVm vm) hZ.alike A1.2.1) (g := mkF X.m pc Ls (.ref a :: st)) rfl rfl (W.d hd) t r) k
theorem caload (W : Here G X M vm T h C S) {a : Addr} {kA : ClassId} {z j : Int32} {vs : List Value} {dv : Value} (A : Arv G.Z h a kA .char z vs dv) (hj0 : ¬ j < 0 ∧ j < z) (v : Value) (hv : vs.getD j.toNatClampNeg dv = v) (hd : decode M.bytes pc = .ok (.caload, 1)) (pc' : Nat) (hp : pc + 1 = pc') (k : Go G X M Q T pc' Ls (v :: st)) : Go G X M Q T pc Ls (.int j :: .ref a :: st) := by
  subst hp
  obtain ⟨F', k0, locs, cells, slots, X1, e1, hS, hk, hZ, hown, hCH, hF, O', c1, s1⟩ := id W
  obtain ⟨cl, A1, q, Sz, Nz, H, Gz⟩ := A
  exact Go.stp (fun t r => X1.caload W.x (by rw [e1]; exact A1.1) (State.isArrayOf_alike (T := X.s.setVm vm) hZ.alike A1.2.1) A1.2.2 (inb_of Sz hj0) (H.at (inb_of Sz hj0) hv) (g := mkF X.m pc Ls (.int j :: .ref a :: st)) rfl rfl (W.d hd) t r) k
theorem bastore (W : Here G X M vm T h C S) {a : Addr} {kA : ClassId} {z j x : Int32} {vs : List Value} {dv : Value} (A : Arv G.Z h a kA .byte z vs dv) (i : Nat) (hj : j.toNatClampNeg = i) (hj0 : ¬ j < 0 ∧ j < z) (hi : i < vs.length) (ha : G.n0 ≤ a) (sf : Safe G.Z G.EL vm h a) {x' : Int32} (hx' : nar .byte x = x') (hd : decode M.bytes pc = .ok (.bastore, 1)) (pc' : Nat) (hp : pc + 1 = pc')
    (k : ∀ (T' : State) (h' : Heap), Here G X M vm T' h' C S → Wr h h' a i (.int x') → Arv G.Z h' a kA .byte z (vs.set i (.int x')) dv → (∀ y, Safe G.Z G.EL vm h y → Safe G.Z G.EL vm h' y) → Go G X M Q T' pc' Ls st) : Go G X M Q T pc Ls (.int x :: .int j :: .ref a :: st) := by
  subst hp hj hx'
  obtain ⟨F', k0, locs, cells, slots, X1, e1, hS, hk, hZ, hown, hCH, hF, O', c1, s1⟩ := id W
  obtain ⟨cl, A1, q, Sz, Nz, H, Gz⟩ := A
  obtain ⟨T', h', X', e', Wq, st'⟩ := RoadKit.stB X1 W.x hZ e1 A1 (j := j) (inb_of Sz hj0) (g := mkF X.m pc Ls (.int x :: .int j :: .ref a :: st)) rfl rfl (W.d hd)
  exact Go.stp (fun t r => st' t r) (k T' h' (Here.wr W hS hk hown hCH hF ha sf X' e' Wq c1 s1) Wq (Arv.set A1 q Sz Nz H Gz (fits_nar_byte _) Wq _ rfl hi) (fun y q => Safe.wr Wq sf hCH.1 q))
theorem baload (W : Here G X M vm T h C S) {a : Addr} {kA : ClassId} {z j : Int32} {vs : List Value} {dv : Value} (A : Arv G.Z h a kA .byte z vs dv) (hj0 : ¬ j < 0 ∧ j < z) (v : Value) (hv : vs.getD j.toNatClampNeg dv = v) (hd : decode M.bytes pc = .ok (.baload, 1)) (pc' : Nat) (hp : pc + 1 = pc') (k : Go G X M Q T pc' Ls (v :: st)) : Go G X M Q T pc Ls (.int j :: .ref a :: st) := by
  subst hp
  obtain ⟨F', k0, locs, cells, slots, X1, e1, hS, hk, hZ, hown, hCH, hF, O', c1, s1⟩ := id W
  obtain ⟨cl, A1, q, Sz, Nz, H, Gz⟩ := A
  exact Go.stp (fun t r => X1.baloadBytes W.x (by rw [e1]; exact A1.1) (State.isArrayOf_alike (T := X.s.setVm vm) hZ.alike A1.2.1) A1.2.2 (inb_of Sz hj0) (H.at (inb_of Sz hj0) hv) (g := mkF X.m pc Ls (.int j :: .ref a :: st)) rfl rfl (W.d hd) t r) k
theorem initO (W : Here G X M vm T h C S) {idx : Nat} {a : Addr} (w1 : (Jvm.Cond.methodLink M.y.cls idx Lib.objectInit).before G.a0 G.Z = true) (w2 : (Jvm.Cond.instanceMethod Lib.objectInit).before G.a0 G.Z = true) (w3 : (Jvm.Cond.code Lib.objectInit ⟨#[0xb1]⟩ 1 none).before G.a0 G.Z = true) (hsz : Ls.size = M.maxL)
    (hd : decode M.bytes pc = .ok (.invokespecial idx, 3)) (pc' : Nat) (hp : pc + 3 = pc') (hf : 1 ≤ M.R.frames) (hl : (st.map fun v => v.category).sum + 12 ≤ M.R.locals) (k : ∀ T' : State, Here G X M vm T' h C S → Go G X M Q T' pc' Ls st) : Go G X M Q T pc Ls (.ref a :: st) := by
  subst hp
  obtain ⟨F', k0, locs, cells, slots, X1, e1, hS, hk, hZ, hown, hCH, hF, O', c1, s1⟩ := id W
  obtain ⟨T', X', e', st'⟩ := RoadKit.initO X1 W.x hZ hown w1 w2 w3 e1 (g := mkF X.m pc Ls (.ref a :: st)) rfl (hsz.trans F'.2.2.1.symm) rfl (W.d hd) hf (W := (st.map fun v => v.category).sum) (by show 2 * 0 + _ ≤ _; omega) hl
  exact Go.stp (fun t r => st' t r) (k T' (Here.ext W hS hk hown hCH hF X' e' (Ext.rfl' h) c1 s1))
/-! ### more plain steps -/
theorem imul (W : Here G X M vm T h C S) {x y : Int32} (hd : decode M.bytes pc = .ok (.imul, 1)) (pc' : Nat) (hp : pc + 1 = pc') (k : Go G X M Q T pc' Ls (.int (x * y) :: st)) : Go G X M Q T pc Ls (.int y :: .int x :: st) := by
  subst hp; exact Go.stp (fun t r => XS.imul W.at W.x rfl (W.d hd) rfl r) k
theorem ior (W : Here G X M vm T h C S) {x y : Int32} (hd : decode M.bytes pc = .ok (.ior, 1)) (pc' : Nat) (hp : pc + 1 = pc') (k : Go G X M Q T pc' Ls (.int (x ||| y) :: st)) : Go G X M Q T pc Ls (.int y :: .int x :: st) := by
  subst hp; exact Go.stp (fun t r => XS.ior W.at W.x rfl (W.d hd) rfl r) k
theorem ishr (W : Here G X M vm T h C S) {x y : Int32} (hd : decode M.bytes pc = .ok (.ishr, 1)) (pc' : Nat) (hp : pc + 1 = pc') (k : Go G X M Q T pc' Ls (.int (x >>> (y &&& 31)) :: st)) : Go G X M Q T pc Ls (.int y :: .int x :: st) := by
  subst hp; exact Go.stp (fun t r => XS.ishr W.at W.x rfl (W.d hd) rfl r) k
theorem ishl (W : Here G X M vm T h C S) {x y : Int32} (hd : decode M.bytes pc = .ok (.ishl, 1)) (pc' : Nat) (hp : pc + 1 = pc') (k : Go G X M Q T pc' Ls (.int (x <<< (y &&& 31)) :: st)) : Go G X M Q T pc Ls (.int y :: .int x :: st) := by
  subst hp; exact Go.stp (fun t r => XS.ishl W.at W.x rfl (W.d hd) rfl r) k
theorem ladd (W : Here G X M vm T h C S) {x y : Int64} (hd : decode M.bytes pc = .ok (.ladd, 1)) (pc' : Nat) (hp : pc + 1 = pc') (k : Go G X M Q T pc' Ls (.long (x + y) :: st)) : Go G X M Q T pc Ls (.long y :: .long x :: st) := by
  subst hp; exact Go.stp (fun t r => XS.ladd W.at W.x rfl (W.d hd) rfl r) k
theorem lsub (W : Here G X M vm T h C S) {x y : Int64} (hd : decode M.bytes pc = .ok (.lsub, 1)) (pc' : Nat) (hp : pc + 1 = pc') (k : Go G X M Q T pc' Ls (.long (x - y) :: st)) : Go G X M Q T pc Ls (.long y :: .long x :: st) := by
  subst hp; exact Go.stp (fun t r => XS.lsub W.at W.x rfl (W.d hd) rfl r) k
theorem lcmp (W : Here G X M vm T h C S) {x y : Int64} (hd : decode M.bytes pc = .ok (.lcmp, 1)) (pc' : Nat) (hp : pc + 1 = pc') (k : Go G X M Q T pc' Ls (.int (XT.cmpL x y) :: st)) : Go G X M Q T pc Ls (.long y :: .long x :: st) := by
  subst hp; exact Go.stp (fun t r => XS.lcmp W.at W.x rfl (W.d hd) rfl r) k
theorem lneg (W : Here G X M vm T h C S) {x : Int64} (hd : decode M.bytes pc = .ok (.lneg, 1)) (pc' : Nat) (hp : pc + 1 = pc') (k : Go G X M Q T pc' Ls (.long (-x) :: st)) : Go G X M Q T pc Ls (.long x :: st) := by
  subst hp; exact Go.stp (fun t r => XS.lneg W.at W.x rfl (W.d hd) rfl r) k
theorem i2l (W : Here G X M vm T h C S) {x : Int32} (hd : decode M.bytes pc = .ok (.i2l, 1)) (pc' : Nat) (hp : pc + 1 = pc') (k : Go G X M Q T pc' Ls (.long x.toInt64 :: st)) : Go G X M Q T pc Ls (.int x :: st) := by
  subst hp; exact Go.stp (fun t r => XS.i2l W.at W.x rfl (W.d hd) rfl r) k
theorem l2i (W : Here G X M vm T h C S) {x : Int64} (hd : decode M.bytes pc = .ok (.l2i, 1)) (pc' : Nat) (hp : pc + 1 = pc') (k : Go G X M Q T pc' Ls (.int x.toInt32 :: st)) : Go G X M Q T pc Ls (.long x :: st) := by
  subst hp; exact Go.stp (fun t r => XS.l2i W.at W.x rfl (W.d hd) rfl r) k
theorem lushr (W : Here G X M vm T h C S) {x : Int64} {y : Int32} (hd : decode M.bytes pc = .ok (.lushr, 1)) (pc' : Nat) (hp : pc + 1 = pc') (k : Go G X M Q T pc' Ls (.long ((x.toUInt64 >>> (y &&& 0x3f).toInt64.toUInt64).toInt64) :: st)) : Go G X M Q T pc Ls (.int y :: .long x :: st) := by
  subst hp; exact Go.stp (fun t r => XS.lushr W.at W.x rfl (W.d hd) rfl r) k
theorem idiv (W : Here G X M vm T h C S) {x y : Int32} (hd : decode M.bytes pc = .ok (.idiv, 1)) (pc' : Nat) (hp : pc + 1 = pc') (hy : y ≠ 0) (k : Go G X M Q T pc' Ls (.int (x / y) :: st)) : Go G X M Q T pc Ls (.int y :: .int x :: st) := by
  subst hp; exact Go.stp (fun t r => XS.idiv W.at W.x rfl (W.d hd) rfl hy r) k
theorem lconst (W : Here G X M vm T h C S) {j : Fin 2} (hd : decode M.bytes pc = .ok (.lconst j, 1)) (pc' : Nat) (hp : pc + 1 = pc') (v : Int64) (hv : Int64.ofNat j = v) (k : Go G X M Q T pc' Ls (.long v :: st)) : Go G X M Q T pc Ls st := by
  subst hp hv; exact Go.stp (fun t r => XS.lconst W.at W.x rfl (W.d hd) r) k
theorem lloadN (W : Here G X M vm T h C S) {j : Fin 4} (hd : decode M.bytes pc = .ok (.lload_n j, 1)) (pc' : Nat) (hp : pc + 1 = pc') (v : Int64) (hl : Ls[j.val]? = some (.val (.long v))) (k : Go G X M Q T pc' Ls (.long v :: st)) : Go G X M Q T pc Ls st := by
  subst hp; exact Go.stp (fun t r => XS.lloadN W.at W.x rfl (W.d hd) hl r) k
theorem lload (W : Here G X M vm T h C S) {j : Nat} (hd : decode M.bytes pc = .ok (.lload j, 2)) (pc' : Nat) (hp : pc + 2 = pc') (v : Int64) (hl : Ls[j]? = some (.val (.long v))) (k : Go G X M Q T pc' Ls (.long v :: st)) : Go G X M Q T pc Ls st := by
  subst hp; exact Go.stp (fun t r => XS.lload W.at W.x rfl (W.d hd) hl r) k
theorem lstoreN (W : Here G X M vm T h C S) {j : Fin 4} {x : Int64} (hd : decode M.bytes pc = .ok (.lstore_n j, 1)) (pc' : Nat) (hp : pc + 1 = pc') (Ls' : Array Slot) (hl : storeLocals Ls j.val (.long x) = some Ls') (k : Go G X M Q T pc' Ls' st) : Go G X M Q T pc Ls (.long x :: st) := by
  subst hp; exact Go.stp (fun t r => XS.lstoreN W.at W.x rfl (W.d hd) rfl hl r) k
theorem lstore (W : Here G X M vm T h C S) {j : Nat} {x : Int64} (hd : decode M.bytes pc = .ok (.lstore j, 2)) (pc' : Nat) (hp : pc + 2 = pc') (Ls' : Array Slot) (hl : storeLocals Ls j (.long x) = some Ls') (k : Go G X M Q T pc' Ls' st) : Go G X M Q T pc Ls (.long x :: st) := by
  subst hp; exact Go.stp (fun t r => XS.lstore W.at W.x rfl (W.d hd) rfl hl r) k
theorem ldcI (W : Here G X M vm T h C S) {idx : Nat} {v : Int32} (w : (Jvm.Cond.constant M.y.cls idx v).before G.a0 G.Z = true) (hd : decode M.bytes pc = .ok (.ldc idx, 2)) (pc' : Nat) (hp : pc + 2 = pc') (k : Go G X M Q T pc' Ls (.int v :: st)) : Go G X M Q T pc Ls st := by
  subst hp
  obtain ⟨F', k0, locs, cells, slots, X1, e1, hS, hk, hZ, hown, -⟩ := id W
  exact Go.stp (fun t r => X1.ldcInt W.x hown (mv (s := X.s.setVm vm) hZ w) (g := mkF X.m pc Ls st) rfl (W.d hd) t r) k
theorem ldc2 (W : Here G X M vm T h C S) {idx : Nat} {v : Int64} (w : (Jvm.Cond.constantLong M.y.cls idx v).before G.a0 G.Z = true) (hd : decode M.bytes pc = .ok (.ldc2_w idx, 3)) (pc' : Nat) (hp : pc + 3 = pc') (k : Go G X M Q T pc' Ls (.long v :: st)) : Go G X M Q T pc Ls st := by
  subst hp
  obtain ⟨F', k0, locs, cells, slots, X1, e1, hS, hk, hZ, hown, -⟩ := id W
  exact Go.stp (fun t r => X1.ldc2Long W.x hown (mv (s := X.s.setVm vm) hZ w) (g := mkF X.m pc Ls st) rfl (W.d hd) t r) k
/-! ### String constants -/
theorem ldcR (W : Here G X M vm T h C S) {idx : Nat} {text : String} (w : (Jvm.Cond.stringLink M.y.cls idx text).before G.a0 G.Z = true) (wS : ∀ a ∈ Bundle.stringAtoms, a.before G.a0 G.Z = true) (hmem : (M.y.cls, idx) ∈ G.EL) {vs : List Value} {z : Int32} (ht : (∀ c ∈ text.toList, c.toNat < 256) ∧ text.toList.map (fun c => Value.int (Jvm.Lit.byteI c.toNat.toUInt16)) = vs) (hz : ¬ z < 0) (hl : z.toNatClampNeg = vs.length)
    (hd : decode M.bytes pc = .ok (.ldc idx, 2)) (pc' : Nat) (hp : pc + 2 = pc') (n : Nat) (hn : 4 * text.toList.length ≤ n) (hbig : n ≤ 536870912) (C' S' : Nat) (hc : C + 2 ≤ C') (hs : S + (n + 4) ≤ S') (hc' : C' ≤ M.R.cells) (hs' : S' ≤ M.R.slots)
    (k : ∀ (vm' : Vm) (T' : State) (h' : Heap) (a b : Addr) (kb : ClassId), Here G X M vm' T' h' C' S' → CHr G.Z G.EL vm h vm' h' → Ext h h' → Exa G.Z h' a "java/lang/String" → Fld G.Z h' a "java/lang/String" "coder" "B" (.int 0) → Fld G.Z h' a "java/lang/String" "value" "[B" (.ref b) → Arv G.Z h' b kb .byte z vs (.int 0) → (∀ x, Safe G.Z G.EL vm' h' x → x ≠ a ∧ x ≠ b) → Go G X M Q T' pc' Ls (.ref a :: st)) : Go G X M Q T pc Ls st := by
  subst hp
  obtain ⟨F', k0, locs, cells, slots, X1, e1, hS, hk, hZ, hown, hCH, hF, O', c1, s1⟩ := id W
  obtain ⟨a, T', h', k1, b, kb, X', e', E, hS', hk', hZ', ho', f1, f2, f3, f4, -, -, r1, -, r2, st'⟩ := ldcCH X1 W.x hZ hown w wS e1 hS hk F'.2.2.2.2.2.2 hmem hCH.1 ht hz hl (g := mkF X.m pc Ls st) rfl (W.d hd) hn hbig (by omega) (by omega)
  exact Go.stp (fun t r => st' t r) (k T'.vm T' h' a b kb ⟨F', k1, locs, _, _, X', e', hS', hk', hZ', ho', hCH.trans r1, hF, O'.ext E, by omega, by omega⟩ r1 E f1 f2 f3 f4 r2)
theorem ldcO (W : Here G X M vm T h C S) {idx : Nat} {text : String} (w : (Jvm.Cond.stringLink M.y.cls idx text).before G.a0 G.Z = true) (wS : ∀ a ∈ Bundle.stringAtoms, a.before G.a0 G.Z = true)
    (hd : decode M.bytes pc = .ok (.ldc idx, 2)) (pc' : Nat) (hp : pc + 2 = pc') (n : Nat) (hn : 4 * text.toList.length ≤ n) (hbig : n ≤ 536870912) (C' S' : Nat) (hc : C + 2 ≤ C') (hs : S + (n + 4) ≤ S') (hc' : C' ≤ M.R.cells) (hs' : S' ≤ M.R.slots)
    (k : ∀ (vm' : Vm) (T' : State) (h' : Heap) (a : Addr), Here G X M vm' T' h' C' S' → CHr G.Z G.EL vm h vm' h' → Ext h h' → Go G X M Q T' pc' Ls (.ref a :: st)) : Go G X M Q T pc Ls st := by
  subst hp
  obtain ⟨F', k0, locs, cells, slots, X1, e1, hS, hk, hZ, hown, hCH, hF, O', c1, s1⟩ := id W
  obtain ⟨a, T', h', k1, X', e', E, hS', hk', hZ', ho', r1, -, st'⟩ := ldcOH X1 W.x hZ hown w wS e1 hS hk F'.2.2.2.2.2.2 hCH.1 (g := mkF X.m pc Ls st) rfl (W.d hd) hn hbig (by omega) (by omega)
  exact Go.stp (fun t r => st' t r) (k T'.vm T' h' a ⟨F', k1, locs, _, _, X', e', hS', hk', hZ', ho', hCH.trans r1, hF, O'.ext E, by omega, by omega⟩ r1 E)
end Kit2
end Own
end Jvm.Pilot.@@N@@
namespace Jvm.Pilot.@@N@@
namespace Own
open Jvm Jvm.ClassFile Sem Op Lib Jvm.Free Jvm.Stand Jvm.LawKit Jvm.RoadKit
abbrev ST : String := "java/lang/String"
/-- a String that spells the chars cs, each 0 to 255 -/
def Str (Z : State) (h : Heap) (a : Addr) (cs : List Int32) : Prop := Exa Z h a ST ∧ Fld Z h a ST "coder" "B" (.int 0) ∧ (∀ c ∈ cs, ¬ c < 0 ∧ ¬ (255 : Int32) < c) ∧ cs.length ≤ 4000 ∧
  ∃ (b : Addr) (kb : ClassId), Fld Z h a ST "value" "[B" (.ref b) ∧ Arv Z h b kb .byte (Int32.ofNat cs.length) ((cs.map fun c => c.toInt8.toInt32).map Value.int) (.int 0)
theorem Str.ext {Z : State} {h h' : Heap} {a : Addr} {cs : List Int32} (F : Str Z h a cs) (E : Ext h h') : Str Z h' a cs := by
  obtain ⟨h1, h2, h3, h4, b, kb, h5, h6⟩ := F
  exact ⟨h1.ext E, h2.ext E, h3, h4, b, kb, h5.ext E, h6.ext E⟩
theorem Str.lt {Z : State} {h : Heap} {a : Addr} {cs : List Int32} (F : Str Z h a cs) : a < h.size := F.1.lt
theorem Str.exa {Z : State} {h : Heap} {a : Addr} {cs : List Int32} (F : Str Z h a cs) : Exa Z h a ST := F.1
/-- over a change of other objects, none of them a String or a byte[] -/
theorem Str.keep {Z : State} {h h' : Heap} {a : Addr} {cs : List Int32} {ws : List Addr} (F : Str Z h a cs) (K : Keep h h' ws) (ha : a ∉ ws) (hb : ∀ x ∈ ws, ∀ (cl : Cell), ¬ Arr Z h x cl .byte) : Str Z h' a cs := by
  obtain ⟨h1, h2, h3, h4, b, kb, h5, h6⟩ := F
  refine ⟨h1.keep K, h2.keep K ha, h3, h4, b, kb, h5.keep K ha, h6.keep K fun q => ?_⟩
  obtain ⟨cl, A, -⟩ := h6
  exact hb b q cl A
theorem codS {cs : List Int32} (hb : ∀ c ∈ cs, ¬ c < 0 ∧ ¬ (255 : Int32) < c) : StrChars.Road.CodA cs 0 (Int32.ofNat cs.length) ((cs.map fun c => c.toInt8.toInt32).map Value.int) :=
  Or.inl ⟨rfl, rfl, by rw [List.map_map]; rfl, fun c hc => (hb c hc).2⟩
theorem wide16 {cs : List Int32} (hb : ∀ c ∈ cs, ¬ c < 0 ∧ ¬ (255 : Int32) < c) : ∀ c ∈ cs, ¬ c < 0 ∧ ¬ (65535 : Int32) < c := fun c hc => ⟨(hb c hc).1, fun q => (hb c hc).2 (Int32.lt_trans (by decide) q)⟩
/-- the words of a String constant's load, and of the empty road of new String(char[]) -/
abbrev wordsS : List Jvm.Cond := StrChars.Road.words ++ [.initialized ST, .instantiable ST 4, .soleField ST "value", .soleField ST "coder", .stringLink ST 7 ""]
section Kit3
variable {G : Gl} {X : Rn} {M : Bo} {vm : Vm} {T : State} {h : Heap} {C S : Nat} {Q : Option Value → Heap → Prop} {pc pc' : Nat} {Ls Ls' : Array Slot} {st : List Value}
theorem sAtoms (hw : ∀ d ∈ wordsS, d.before G.a0 G.Z = true) : ∀ a ∈ Bundle.stringAtoms, a.before G.a0 G.Z = true := fun d hd => hw d ((by decide +kernel : ∀ d ∈ Bundle.stringAtoms, d ∈ wordsS) d hd)
theorem w1 (hw : ∀ d ∈ wordsS, d.before G.a0 G.Z = true) (d : Jvm.Cond) (hd : d ∈ wordsS := by decide +kernel) : d.before G.a0 G.Z = true := hw d hd
abbrev bNew4 : Bo := (StrChars.New4.yN, StrChars.New4.yB, 6, none, ({ frames := 1, cells := 4, slots := 8, locals := 12 } : Room))
abbrev bNew1 : Bo := (StrChars.New1.yN, StrChars.New1.yB, 2, none, ({ frames := 2, cells := 4, slots := 8, locals := 29 } : Room))
theorem e4_8 : decode StrChars.New4.yB 8 = .ok (.aload_n 0, 1) := by decide +kernel
theorem e4_9 : decode StrChars.New4.yB 9 = .ok (.ldc 7, 2) := by decide +kernel
theorem e4_11 : decode StrChars.New4.yB 11 = .ok (.getfield 9, 3) := by decide +kernel
theorem e4_14 : decode StrChars.New4.yB 14 = .ok (.putfield 9, 3) := by decide +kernel
theorem e4_17 : decode StrChars.New4.yB 17 = .ok (.aload_n 0, 1) := by decide +kernel
theorem e4_18 : decode StrChars.New4.yB 18 = .ok (.ldc 7, 2) := by decide +kernel
theorem e4_20 : decode StrChars.New4.yB 20 = .ok (.getfield 15, 3) := by decide +kernel
theorem e4_23 : decode StrChars.New4.yB 23 = .ok (.putfield 15, 3) := by decide +kernel
theorem e4_26 : decode StrChars.New4.yB 26 = .ok (.return_, 1) := by decide +kernel
theorem pnST : plainName "java/lang/String" = true := by first | (simp [plainName, overriddenIn]; done) | decide +kernel
theorem pd4 : parseMethodDescriptor "([CIILjava/lang/Void;)V" = some ⟨[.array .char, .int, .int, .object "java/lang/Void"], none⟩ := by decide +kernel
theorem pd1 : parseMethodDescriptor "([C)V" = some ⟨[.array .char], none⟩ := by decide +kernel
theorem ef4 (m : MethodId) (x b : Addr) : entryFrame m #[.ref x, .ref b, .int 0, .int 0, .null] 6 = mkF m 0 #[.val (.ref x), .val (.ref b), .val (.int 0), .val (.int 0), .val .null, .unset] [] := by first | (simp [entryFrame, mkF, argsToLocals, Value.category]; done) | rfl
theorem ef1 (m : MethodId) (x b : Addr) : entryFrame m #[.ref x, .ref b] 2 = mkF m 0 #[.val (.ref x), .val (.ref b)] [] := by first | (simp [entryFrame, mkF, argsToLocals, Value.category]; done) | rfl
set_option maxRecDepth 65536 in
set_option maxHeartbeats 4000000 in
theorem con_new4e (hw : ∀ d ∈ wordsS, d.before G.a0 G.Z = true) (hEL : EW G.Z G.a0 G.EL) (hmem : (ST, 7) ∈ G.EL) {x b : Addr} {v0 c0 : Value} (hO : Old G.Z G.n0 h) (hx0 : G.n0 ≤ x) (E : Exa G.Z h x ST) (V : Fld G.Z h x ST "value" "[B" v0) (Cd : Fld G.Z h x ST "coder" "B" c0) :
    Con G [] bNew4 #[.ref x, .ref b, .int 0, .int 0, .null] h [x] (fun v h' => v = none ∧ Keep h h' [x] ∧ Str G.Z h' x []) := by
  refine Con.intro (plainFor_of_name pnST) hO hEL _ (fun m => ef4 m x b) ?_
  intro X T W sf
  have sx := sf x (List.mem_singleton.mpr rfl)
  have wS := sAtoms hw
  refine aloadN W StrChars.New4.d0 1 rfl _ rfl rfl ?_
  refine initO W (w1 hw (.methodLink ST 1 Lib.objectInit)) (w1 hw (.instanceMethod Lib.objectInit)) (w1 hw (.code Lib.objectInit ⟨#[0xb1]⟩ 1 none)) rfl StrChars.New4.d1 4 rfl (by decide) (by decide) ?_
  intro T1 W1
  refine iloadN W1 StrChars.New4.d4 5 rfl _ rfl ?_
  refine ifNo W1 StrChars.New4.d5 8 (by decide) rfl ?_
  refine aloadN W1 e4_8 9 rfl _ rfl rfl ?_
  refine ldcR W1 (w1 hw (.stringLink ST 7 "")) wS hmem (vs := []) (z := 0) ⟨by decide, by decide⟩ (by decide) (by decide) e4_9 11 rfl 0 (by decide) (by decide) 2 4 (by decide) (by decide) (by decide) (by decide) ?_
  intro vm2 T2 h2 a2 b2 kb2 W2 R2 E2 fa fc fv fb hne
  have sx2 : Safe G.Z G.EL vm2 h2 x := R2.safe E.lt sx
  have ne2 := hne x sx2
  refine getF W2 (w1 hw (.fieldLink ST 9 ST "value" "[B")) Via.refl fv e4_11 14 rfl ?_
  intro T3 W3
  refine putF W3 (w1 hw (.fieldLink ST 9 ST "value" "[B")) Via.refl (V.ext E2) (E.ext E2) (Or.inr ⟨w1 hw (.laysFinal ST ST "value" "[B"), rfl, rfl⟩) (w1 hw (.instantiable ST 4)) (ty := .array .byte) (by decide) rfl rfl hx0 sx2 e4_14 17 rfl ?_
  intro T4 h4 W4 Wr4 k4
  refine aloadN W4 e4_17 18 rfl _ rfl rfl ?_
  refine ldcR W4 (w1 hw (.stringLink ST 7 "")) wS hmem (vs := []) (z := 0) ⟨by decide, by decide⟩ (by decide) (by decide) e4_18 20 rfl 0 (by decide) (by decide) 4 8 (by decide) (by decide) (by decide) (by decide) ?_
  intro vm5 T5 h5 a5 b5 kb5 W5 R5 E5 ga gc gv gb hne5
  have x4 : x < h4.size := by rw [Wr4.size]; exact (E.ext E2).lt
  have sx4 : Safe G.Z G.EL vm2 h4 x := k4 x sx2
  have sx5 : Safe G.Z G.EL vm5 h5 x := R5.safe x4 sx4
  refine getF W5 (w1 hw (.fieldLink ST 15 ST "coder" "B")) Via.refl gc e4_20 23 rfl ?_
  intro T6 W6
  have Ex5 : Exa G.Z h5 x ST := ((E.ext E2).wr Wr4).ext E5
  have sne : RoadKit.slotOf G.Z ST "coder" "B" ≠ RoadKit.slotOf G.Z ST "value" "[B" := slot_ne (Or.inr (w1 hw (.laysFinal ST ST "coder" "B"))) (Or.inr (w1 hw (.laysFinal ST ST "value" "[B"))) (by decide) (t := .byte) (t' := .array .byte) (by decide) (by decide)
  have Cd5 : Fld G.Z h5 x ST "coder" "B" c0 := ((Cd.ext E2).other Wr4 (Or.inr sne)).ext E5
  have V5 : Fld G.Z h5 x ST "value" "[B" (.ref b2) := ((V.ext E2).same Wr4).ext E5
  have B5 : Arv G.Z h5 b2 kb2 .byte 0 [] (.int 0) := (fb.other Wr4 (Ne.symm ne2.2)).ext E5
  refine putF W6 (w1 hw (.fieldLink ST 15 ST "coder" "B")) Via.refl Cd5 Ex5 (Or.inr ⟨w1 hw (.laysFinal ST ST "coder" "B"), rfl, rfl⟩) (w1 hw (.instantiable ST 4)) (ty := .byte) (v' := .int 0) (by decide) rfl rfl hx0 sx5 e4_23 26 rfl ?_
  intro T7 h7 W7 Wr7 _
  refine retV W7 (by decide) (by decide) rfl e4_26 ⟨rfl, ?_, ?_⟩
  · exact ((((Keep.refl h [x]).ext E2).wr Wr4 (Or.inl (List.mem_singleton.mpr rfl))).ext E5).wr Wr7 (Or.inl (List.mem_singleton.mpr rfl))
  · have nb : b2 ≠ x := Ne.symm ne2.2
    exact ⟨Ex5.wr Wr7, Cd5.same Wr7, by simp, by simp, b2, kb2, V5.other Wr7 (Or.inr (Ne.symm sne)), B5.other Wr7 nb⟩
set_option maxRecDepth 65536 in
set_option maxHeartbeats 4000000 in
theorem con_new1e (hw : ∀ d ∈ wordsS, d.before G.a0 G.Z = true) (hEL : EW G.Z G.a0 G.EL) (hmem : (ST, 7) ∈ G.EL) {x b : Addr} {kC : ClassId} {v0 c0 dv : Value} {vs : List Value} (hO : Old G.Z G.n0 h) (hx0 : G.n0 ≤ x) (E : Exa G.Z h x ST) (V : Fld G.Z h x ST "value" "[B" v0) (Cd : Fld G.Z h x ST "coder" "B" c0) (A : Arv G.Z h b kC .char 0 vs dv) :
    Con G [] bNew1 #[.ref x, .ref b] h [x] (fun v h' => v = none ∧ Keep h h' [x] ∧ Str G.Z h' x []) := by
  refine Con.intro (plainFor_of_name pnST) hO hEL _ (fun m => ef1 m x b) ?_
  intro X T W sf
  have sx := sf x (List.mem_singleton.mpr rfl)
  refine aloadN W StrChars.New1.d0 1 rfl _ rfl rfl ?_
  refine aloadN W StrChars.New1.d1 2 rfl _ rfl rfl ?_
  refine iconst W StrChars.New1.d2 3 rfl 0 rfl ?_
  refine aloadN W StrChars.New1.d3 4 rfl _ rfl rfl ?_
  refine arrlen W A StrChars.New1.d4 5 rfl ?_
  refine aconstNull W StrChars.New1.d5 6 rfl ?_
  refine callX W (y := StrChars.New4.yN) rfl (w1 hw (.methodLink ST 27 StrChars.New4.yN)) (w1 hw (.instanceMethod StrChars.New4.yN)) (w1 hw (.code StrChars.New4.yN StrChars.New4.yB 6 none)) (by decide) (argsL := [.ref b, .int 0, .int 0, .null]) (rest := [])
    (Con.pay (con_new4e hw hEL hmem hO hx0 E V Cd) W (w1 hw (.code StrChars.New4.yN StrChars.New4.yB 6 none)) (w1 hw (.initialized ST)) (len := 3) (wd := 0) (by decide) (by decide) (fun y hy => by cases List.mem_singleton.mp hy; exact ⟨E.lt, sx⟩)) rfl (lenOf pd4 rfl) rfl (by decide) StrChars.New1.d6 9 rfl 4 8 (by decide) (by decide) (by decide) (by decide) ?_
  intro vm1 T1 h1 v W1 R1 hq
  obtain ⟨rfl, K, F⟩ := hq
  exact retV W1 (by decide) (by decide) rfl StrChars.New1.d9 ⟨rfl, K, F⟩
/-- **new String(char[]) AT ITS CALL**: x the fresh String, b the char[] that holds cs -/
theorem payStr (hw : ∀ d ∈ wordsS, d.before G.a0 G.Z = true) (hEL : EW G.Z G.a0 G.EL) (hmem : (ST, 7) ∈ G.EL) (W : Here G X M vm T h C S) {x b : Addr} {kC : ClassId} {v0 c0 dv : Value} {cs : List Int32} {z cz : Int32} (hx0 : G.n0 ≤ x) (sx : Safe G.Z G.EL vm h x) (E : Exa G.Z h x ST) (V : Fld G.Z h x ST "value" "[B" v0) (Cd : Fld G.Z h x ST "coder" "B" c0)
    (A : Arv G.Z h b kC .char z (cs.map Value.int) dv) (hz : z = Int32.ofNat cs.length) (hcs : ∀ c ∈ cs, ¬ c < 0 ∧ ¬ (255 : Int32) < c) (hl : cs.length ≤ 4000) (hS : Sta G.Z G.Z.heap ST "COMPACT_STRINGS" "Z" (.int cz)) (hcz : ¬ cz = 0) {len wd : Nat} (hf : 4 ≤ M.R.frames) (hlo : wd + 65 ≤ M.R.locals) :
    Pay G X M vm h StrChars.New1.yN len wd #[.ref x, .ref b] 4 (8 + cs.length) (fun v h' => v = none ∧ Keep h h' [x] ∧ Str G.Z h' x cs) := by
  have hO := W.old
  subst hz
  match cs, A, hcs, hl with
  | [], A, _, _ =>
    exact Con.pay (con_new1e hw hEL hmem hO hx0 E V Cd A) W (w1 hw (.code StrChars.New1.yN StrChars.New1.yB 2 none)) (w1 hw (.initialized ST)) (by show 2 + 1 ≤ _; omega) (by show wd + (2 + 11) + 29 ≤ _; omega) (fun y hy => by cases List.mem_singleton.mp hy; exact ⟨E.lt, sx⟩)
  | c :: cs, A, hcs, hl =>
    have B := StrChars.Road.backV (p := X.p) (l := G.l) (e := X.e) (R := M.R) (s := X.s.setVm vm) (args := X.args) (below := X.below) (len := len) (W := wd) (Z := G.Z) (a0 := G.a0) W.wz (fun d hd => hw d (List.mem_append_left _ hd)) (kI := 4) (w1 hw (.instantiable ST 4)) hx0 W.n0 E V Cd A (W.sta hS) hcz (n := (c :: cs).length) rfl rfl (by simp) hl hcs rfl hf hlo
    have P := payB (Q' := fun v h' => v = none ∧ Keep h h' [x] ∧ Str G.Z h' x (c :: cs)) B W (fun v h' L q => by
      obtain ⟨q1, q2, q3, q4, q5, t, kb, q6, q7, q8, q9, q10⟩ := q
      have ks : ∀ y ∈ [x], Safe G.Z G.EL vm h y := fun y hy => by cases List.mem_singleton.mp hy; exact sx
      exact ⟨⟨q1, q3, q4, q5, hcs, hl, t, kb, q9, q10⟩, q2, hO.keep q3 (fun y hy => by cases List.mem_singleton.mp hy; exact hx0), CHr.keep q3 ks W.ch⟩)
    intro m meth c' A' g ig mk a X1 hg hsize hdg hW hn hp
    obtain ⟨v, B', r1, r2, r3, ⟨L, r4, r5, r6, r7, r8⟩, r9⟩ := P m meth c' A' g ig mk a X1 hg hsize hdg hW hn ⟨hp.1, hp.2.1, by have := hp.2.2.1; omega, by have := hp.2.2.2; omega⟩
    exact ⟨v, B', r1, r2, r3, ⟨L, r4, r5, by omega, by omega, r8⟩, r9⟩
end Kit3
/-! ### chars -/
def chr (x : Int32) : Int32 := x.toUInt32.toUInt16.toUInt32.toInt32
def us (x k : Int32) : Int32 := (x.toUInt32 >>> (k &&& 31).toUInt32).toInt32
/-- the low eight bits, as a char -/
def lo (x : Int32) : Int32 := chr (x &&& 255)
theorem chr_id {x : Int32} (h0 : 0 ≤ x.toInt) (h1 : x.toInt < 65536) : chr x = x := Int32.toInt_inj.mp (by
  have q := c_i2c x
  unfold chr
  omega)
theorem and255 (x : Int32) : 0 ≤ (x &&& 255).toInt ∧ (x &&& 255).toInt ≤ 255 := c_and x 255 (by decide)
theorem lo_eq (x : Int32) : lo x = x &&& 255 := chr_id (and255 x).1 (by have := (and255 x).2; omega)
theorem lo_rng (x : Int32) : ¬ lo x < 0 ∧ ¬ (255 : Int32) < lo x := by
  rw [lo_eq, Int32.lt_iff_toInt_lt, Int32.lt_iff_toInt_lt]
  have q := and255 x
  have e1 : (0 : Int32).toInt = 0 := by decide
  have e2 : (255 : Int32).toInt = 255 := by decide
  rw [e1, e2]; omega
theorem nar_of {c : Int32} (q : ¬ c < 0 ∧ ¬ (255 : Int32) < c) : nar .char c = c := by
  rw [Int32.lt_iff_toInt_lt, Int32.lt_iff_toInt_lt] at q
  have e1 : (0 : Int32).toInt = 0 := by decide
  have e2 : (255 : Int32).toInt = 255 := by decide
  rw [e1, e2] at q
  show chr c = c
  exact chr_id (by omega) (by omega)
theorem nar_b8 (x : Int32) : nar .byte x.toInt8.toInt32 = x.toInt8.toInt32 := by
  show (x.toInt8.toInt32).toInt8.toInt32 = x.toInt8.toInt32
  simp
theorem nar_lo (x : Int32) : nar .char (lo x) = lo x := by
  show chr (lo x) = lo x
  rw [lo_eq]; exact chr_id (and255 x).1 (by have := (and255 x).2; omega)
end Own
end Jvm.Pilot.@@N@@
namespace Jvm.Pilot.@@N@@
namespace Own
open Jvm Jvm.ClassFile Sem Op Lib Jvm.Free Jvm.Stand Jvm.LawKit Jvm.RoadKit
theorem payEq {G : Gl} {X : Rn} {M : Bo} {vm : Vm} {T : State} {h : Heap} {C S : Nat} {cs ds : List Int32} {x y : Addr} {cz : Int32} (hwE : ∀ d ∈ StrChars.Road.wordsEq, d.before G.a0 G.Z = true) {kI : Nat} (wi : (Jvm.Cond.instantiable ST kI).before G.a0 G.Z = true) (W : Here G X M vm T h C S) (F : Str G.Z h x cs) (F' : Str G.Z h y ds)
    (hS : Sta G.Z G.Z.heap ST "COMPACT_STRINGS" "Z" (.int cz)) (hcz : ¬ cz = 0) {len wd : Nat} (hf : 2 ≤ M.R.frames) (hlo : wd + 28 ≤ M.R.locals) :
    Pay G X M vm h ⟨"java/lang/String", "equals", "(Ljava/lang/Object;)Z"⟩ len wd #[.ref x, .ref y] 0 0 (fun v h' => ((v = some (.int 1) ∧ cs = ds) ∨ (v = some (.int 0) ∧ ¬ cs = ds)) ∧ h' = h) := by
  obtain ⟨h1, h2, h3, h4, b, kb, h5, h6⟩ := F
  obtain ⟨g1, g2, g3, g4, b', kb', g5, g6⟩ := F'
  exact payB (Qy := fun v h' L => ((v = some (.int 1) ∧ cs = ds) ∨ (v = some (.int 0) ∧ ¬ cs = ds)) ∧ L = [] ∧ h' = h) (StrChars.Road.eqW (p := X.p) (l := G.l) (e := X.e) (R := M.R) (s := X.s.setVm vm) (args := X.args) (below := X.below) (len := len) (W := wd) W.wz hwE wi h1 h5 h2 h6 (codS h3) (wide16 h3) h4 g1 g5 g2 g6 (codS g3) (wide16 g3) g4 (W.sta hS) hcz hf hlo) W (fun v h' L q => by
    obtain ⟨q1, rfl, q3⟩ := q
    subst q3
    exact ⟨⟨q1, rfl⟩, Fr.nil _, W.old, CHr.refl W.ch⟩)
end Own
end Jvm.Pilot.@@N@@
namespace Jvm.Pilot.@@N@@
namespace Own
open Jvm Jvm.ClassFile Sem Op Lib Jvm.Free Jvm.Stand Jvm.LawKit Jvm.RoadKit
theorem payLen {G : Gl} {X : Rn} {M : Bo} {vm : Vm} {T : State} {h : Heap} {C S : Nat} {cs : List Int32} {x : Addr} {cz : Int32} (hwE : ∀ d ∈ StrChars.Road.wordsLen, d.before G.a0 G.Z = true) {kI : Nat} (wi : (Jvm.Cond.instantiable ST kI).before G.a0 G.Z = true) (W : Here G X M vm T h C S) (F : Str G.Z h x cs)
    (hS : Sta G.Z G.Z.heap ST "COMPACT_STRINGS" "Z" (.int cz)) (hcz : ¬ cz = 0) {len wd : Nat} (hf : 2 ≤ M.R.frames) (hlo : wd + 25 ≤ M.R.locals) :
    Pay G X M vm h ⟨"java/lang/String", "length", "()I"⟩ len wd #[.ref x] 0 0 (fun v h' => v = some (.int (Int32.ofNat cs.length)) ∧ h' = h) := by
  obtain ⟨h1, h2, h3, h4, b, kb, h5, h6⟩ := F
  exact payB (Qy := fun v h' L => v = some (.int (Int32.ofNat cs.length)) ∧ L = [] ∧ h' = h) (StrChars.Road.lenW (p := X.p) (l := G.l) (e := X.e) (R := M.R) (s := X.s.setVm vm) (args := X.args) (below := X.below) (len := len) (W := wd) W.wz hwE wi h1 h5 h2 h6 (codS h3) (wide16 h3) (W.sta hS) hcz h4 hf hlo) W (fun v h' L q => by
    obtain ⟨q1, rfl, q3⟩ := q
    subst q3
    exact ⟨⟨q1, rfl⟩, Fr.nil _, W.old, CHr.refl W.ch⟩)
end Own
end Jvm.Pilot.@@N@@
namespace Jvm.Pilot.@@N@@
namespace Own
open Jvm Jvm.ClassFile Sem Op Lib Jvm.Free Jvm.Stand Jvm.LawKit Jvm.RoadKit
theorem payChr {G : Gl} {X : Rn} {M : Bo} {vm : Vm} {T : State} {h : Heap} {C S : Nat} {cs : List Int32} {x : Addr} {cz j : Int32} {i : Nat} {fm : Value} (hwE : ∀ d ∈ StrChars.Road.wordsChN, d.before G.a0 G.Z = true) {kI : Nat} (wi : (Jvm.Cond.instantiable ST kI).before G.a0 G.Z = true) (W : Here G X M vm T h C S) (F : Str G.Z h x cs)
    (hS : Sta G.Z G.Z.heap ST "COMPACT_STRINGS" "Z" (.int cz)) (hcz : ¬ cz = 0) (hF : Sta G.Z G.Z.heap "jdk/internal/util/Preconditions" "SIOOBE_FORMATTER" "Ljava/util/function/BiFunction;" fm) (rf : fm.isRef = true) (hi : i < cs.length) (hj : j = Int32.ofNat i) {len wd : Nat} (hf : 4 ≤ M.R.frames) (hlo : wd + 53 ≤ M.R.locals) :
    Pay G X M vm h ⟨"java/lang/String", "charAt", "(I)C"⟩ len wd #[.ref x, .int j] 0 0 (fun v h' => v = some (.int (cs.getD i 0)) ∧ h' = h) := by
  obtain ⟨h1, h2, h3, h4, b, kb, h5, h6⟩ := F
  exact payB (Qy := fun v h' L => v = some (.int (cs.getD i 0)) ∧ L = [] ∧ h' = h) (StrChars.Road.chN (p := X.p) (l := G.l) (e := X.e) (R := M.R) (s := X.s.setVm vm) (args := X.args) (below := X.below) (len := len) (W := wd) W.wz hwE wi h1 h5 h2 h6 (codS h3) (wide16 h3) (W.sta hS) hcz (W.sta hF) rf h4 hi hj hf hlo) W (fun v h' L q => by
    obtain ⟨q1, rfl, q3⟩ := q
    subst q3
    exact ⟨⟨q1, rfl⟩, Fr.nil _, W.old, CHr.refl W.ch⟩)
end Own
end Jvm.Pilot.@@N@@
namespace Jvm.Pilot.@@N@@
namespace Own
open Jvm Jvm.ClassFile Sem Op Lib Jvm.Free Jvm.Stand Jvm.LawKit Jvm.RoadKit
/-- a case's word 'the field of that object is this int', as a fact on the start's heap -/
theorem fldOf {s : State} {args : Array Value} {t : Term} {r : Addr} {cl n d : String} {k : Int32} (ev : t.eval args s none [] s = some (.ref r)) (m : (Jvm.Cond.eq (.field t cl n d) (.int k)).value args s none s [] = some true) : Fld s s.heap r cl n d (.int k) := by
  have e := Cond.eq_int (Cond.before_iff.mpr m) rfl
  rw [fld_at ev] at e
  exact Fld.start e
end Own
end Jvm.Pilot.@@N@@
namespace Jvm.Pilot.@@N@@
namespace Own
open Jvm Jvm.ClassFile Sem Op Lib Jvm.Free Jvm.Stand Jvm.LawKit Jvm.RoadKit
section Enum
variable {G : Gl} {X : Rn} {M : Bo} {vm : Vm} {T : State} {h : Heap} {C S : Nat} {Q : Option Value → Heap → Prop} {pc pc' : Nat} {Ls Ls' : Array Slot} {st : List Value}
theorem aaload (W : Here G X M vm T h C S) {a : Addr} {kA : ClassId} {ty : FieldType} {z j : Int32} {vs : List Value} {dv : Value} (A : Arv G.Z h a kA ty z vs dv) (hty : ty.isReference = true) (hj0 : ¬ j < 0 ∧ j < z) (v : Value) (hv : vs.getD j.toNatClampNeg dv = v) (hd : decode M.bytes pc = .ok (.aaload, 1)) (pc' : Nat) (hp : pc + 1 = pc') (k : Go G X M Q T pc' Ls (v :: st)) : Go G X M Q T pc Ls (.int j :: .ref a :: st) := by
  subst hp
  obtain ⟨F', k0, locs, cells, slots, X1, e1, hS, hk, hZ, hown, hCH, hF, O', c1, s1⟩ := id W
  obtain ⟨cl, A1, q, Sz, Nz, H, Gz⟩ := A
  exact Go.stp (fun t r => X1.aaload W.x (by rw [e1]; exact A1.1) (State.isArrayOf_alike (T := X.s.setVm vm) hZ.alike A1.2.1) hty A1.2.2 (inb_of Sz hj0) (H.at (inb_of Sz hj0) hv) (g := mkF X.m pc Ls (.int j :: .ref a :: st)) rfl rfl (W.d hd) t r) k
theorem cloneV (W : Here G X M vm T h C S) {ad : String} {idx : Nat} {a : Addr} {kA : ClassId} {ty : FieldType} {z : Int32} {vs : List Value} {dv : Value} (w1 : (Jvm.Cond.methodLink M.y.cls idx ⟨ad, "clone", "()Ljava/lang/Object;"⟩).before G.a0 G.Z = true) (w2 : (Jvm.Cond.sameMethod ad "java/lang/Object" "clone" "()Ljava/lang/Object;").before G.a0 G.Z = true) (w3 : (Jvm.Cond.native ⟨"java/lang/Object", "clone", "()Ljava/lang/Object;"⟩).before G.a0 G.Z = true)
    (w4 : (Jvm.Cond.instanceMethod ⟨"java/lang/Object", "clone", "()Ljava/lang/Object;"⟩).before G.a0 G.Z = true) (w5 : (Jvm.Cond.selects ad ⟨ad, "clone", "()Ljava/lang/Object;"⟩ ⟨"java/lang/Object", "clone", "()Ljava/lang/Object;"⟩).before G.a0 G.Z = true) (w6 : (Jvm.Cond.castable ad "java/lang/Cloneable").before G.a0 G.Z = true)
    (A : Arv G.Z h a kA ty z vs dv) (E : Exa G.Z h a ad) (hsz : Ls.size = M.maxL) (hd : decode M.bytes pc = .ok (.invokevirtual idx, 3)) (pc' : Nat) (hp : pc + 3 = pc') (hf : 1 ≤ M.R.frames) (hl : (st.map fun v => v.category).sum + 14 ≤ M.R.locals) (cap : Nat) (hcap : z.toNatClampNeg ≤ cap) (C' S' : Nat) (hc : C + 1 ≤ C') (hs : S + cap ≤ S') (hc' : C' ≤ M.R.cells) (hs' : S' ≤ M.R.slots)
    (k : ∀ (T' : State) (h' : Heap) (b : Addr), b = h.size → Here G X M vm T' h' C' S' → Ext h h' → Arv G.Z h' b kA ty z vs dv → Exa G.Z h' b ad → Go G X M Q T' pc' Ls (.ref b :: st)) : Go G X M Q T pc Ls (.ref a :: st) := by
  subst hp
  obtain ⟨F', k0, locs, cells, slots, X1, e1, hS, hk, hZ, hown, hCH, hF, O', c1, s1⟩ := id W
  obtain ⟨T', h', X', e', E', A', Ex', st'⟩ := RoadKit.cloneH X1 W.x hZ hown w1 w2 w3 w4 w5 w6 e1 A.arh E (g := mkF X.m pc Ls (.ref a :: st)) rfl (hsz.trans F'.2.2.1.symm) rfl (W.d hd) hf (W := (st.map fun v => v.category).sum) (cap := cap) (by show 2 * 0 + _ ≤ _; omega) hl hcap (by omega) (by omega)
  exact Go.stp (fun t r => st' t r) (k T' h' h.size rfl (Here.ext W hS hk hown hCH hF X' e' E' (by omega) (by omega)) E' A' Ex')
end Enum
/-! ### a case's words on its start: arrays and Strings -/
section Start
variable {s : State} {args : Array Value} {t : Term} {r : Addr}
theorem eqRef {a b : Term} {r : Addr} (m : (Jvm.Cond.eq a b).value args s none s [] = some true) (ev : b.eval args s none [] s = some (.ref r)) : a.eval args s none [] s = some (.ref r) := by
  simp only [Cond.value, ev] at m
  cases ha : a.eval args s none [] s with
  | none => simp [ha] at m
  | some x => cases x <;> simp [ha] at m ⊢ <;> exact m
theorem eqI {a : Term} {k : Int32} (m : (Jvm.Cond.eq a (.int k)).value args s none s [] = some true) : a.eval args s none [] s = some (.int k) := Cond.eq_int (Cond.before_iff.mpr m) rfl
theorem hasL_of {cl : Cell} : ∀ (vs : List Value) (i : Nat), (∀ j (hj : j < vs.length), cl.slots[i + j]? = some vs[j]) → HasL cl i vs
  | [], _, _ => trivial
  | v :: vs, i, q => ⟨q 0 (by simp), hasL_of vs (i + 1) fun j hj => by
      have z := q (j + 1) (by simp; omega)
      rw [show i + 1 + j = i + (j + 1) from by omega]
      simpa using z⟩
theorem arvStart (hf : Fit s) {ty : FieldType} {z : Int32} {vs : List Value} {dv : Value} (ev : t.eval args s none [] s = some (.ref r)) (ha : (Jvm.Cond.arrayOf t ty).value args s none s [] = some true) (hl : (Jvm.Cond.eq (.length t) (.int z)).value args s none s [] = some true) (hz : ¬ z < 0) (hn : z.toNatClampNeg = vs.length)
    (hel : ∀ i (hi : i < vs.length), (Term.elem t (.int (Int32.ofNat i))).eval args s none [] s = some vs[i]) : ∃ k, Arv s s.heap r k ty z vs dv := by
  obtain ⟨cl, A⟩ := Arr.start ev ha
  have e := eqI hl
  obtain ⟨sd, SA, hev, harrAt, -⟩ := Term.length_spec e
  have h31 := SBG.length_lt hev harrAt e
  cases ev.symm.trans hev
  have hcl : SA = cl := by
    have q := Arr.fin (U := s) (Vm.Alike.refl _) A
    exact Option.some.inj (harrAt.symm.trans q)
  subst hcl
  have e2 := len_f (o := none) (idx := []) ev harrAt h31
  have ez : SA.slots.size.toInt32 = z := by
    have q := e2.symm.trans e
    simpa using q
  refine ⟨SA.cls, Arv.start hf A h31 ez hz hn (hasL_of vs 0 fun j hj => ?_)⟩
  have q := elem_in (hel j hj) ev rfl A.1
  have z2 := q.2
  rw [show (Int32.ofNat j).toNatClampNeg = j from by
    have := Int32.toInt_ofNat_small (n := j) (by have := back32 hz; omega)
    simp [Int32.toNatClampNeg, this]] at z2
  rw [Nat.zero_add]; exact z2
end Start
end Own
end Jvm.Pilot.@@N@@
namespace Jvm.Pilot.@@N@@
namespace Own
open Jvm Jvm.ClassFile Sem Op Lib Jvm.Free Jvm.Stand Jvm.LawKit Jvm.RoadKit
/-- 0 to 255 -/
def Rg (c : Int32) : Prop := ¬ c < 0 ∧ ¬ (255 : Int32) < c
/-- a char[] of n chars, each 0 to 255, whichever -/
def Chs (Z : State) (h : Heap) (a : Addr) (n : Int32) : Prop := ∃ (cs : List Int32) (kA : ClassId), cs.length = n.toNatClampNeg ∧ ¬ n < 0 ∧ (∀ c ∈ cs, Rg c) ∧ Arv Z h a kA .char n (cs.map Value.int) (.int 0)
theorem Chs.ext {Z : State} {h h' : Heap} {a : Addr} {n : Int32} (F : Chs Z h a n) (E : Ext h h') : Chs Z h' a n := by
  obtain ⟨cs, kA, q1, q2, q3, q4⟩ := F
  exact ⟨cs, kA, q1, q2, q3, q4.ext E⟩
theorem Chs.lt {Z : State} {h : Heap} {a : Addr} {n : Int32} (F : Chs Z h a n) : a < h.size := by obtain ⟨cs, kA, q1, q2, q3, q4⟩ := F; exact q4.lt
theorem Chs.other {Z : State} {h h' : Heap} {a b : Addr} {n : Int32} {sl : Nat} {v : Value} (F : Chs Z h b n) (W : Wr h h' a sl v) (q : b ≠ a) : Chs Z h' b n := by
  obtain ⟨cs, kA, q1, q2, q3, q4⟩ := F
  exact ⟨cs, kA, q1, q2, q3, q4.other W q⟩
theorem Chs.keep {Z : State} {h h' : Heap} {a : Addr} {n : Int32} {ws : List Addr} (F : Chs Z h a n) (K : Keep h h' ws) (q : a ∉ ws) : Chs Z h' a n := by
  obtain ⟨cs, kA, q1, q2, q3, q4⟩ := F
  exact ⟨cs, kA, q1, q2, q3, q4.keep K q⟩
theorem Chs.noByte {Z : State} {h : Heap} {a : Addr} {n : Int32} (F : Chs Z h a n) (cl : Cell) : ¬ Arr Z h a cl .byte := fun B => by
  obtain ⟨cs, kA, q1, q2, q3, c, A, -⟩ := F
  cases A.1.symm.trans B.1
  obtain ⟨-, k1, a1, c1, a2⟩ := A.2.1
  obtain ⟨-, k2, b1, c2, b2⟩ := B.2.1
  cases a1.symm.trans b1
  rw [a2] at b2; cases b2
theorem rg0 : Rg 0 := ⟨by decide, by decide⟩
theorem Chs.new {Z : State} {h : Heap} {a : Addr} {kA : ClassId} {n : Int32} {cap : Nat} (A : Arv Z h a kA .char n (List.replicate cap (.int 0)) (.int 0)) (hn : ¬ n < 0) (hc : n.toNatClampNeg = cap) : Chs Z h a n :=
  ⟨List.replicate cap 0, kA, by simp [hc], hn, fun c hc => by rw [(List.mem_replicate.mp hc).2]; exact rg0, by rw [List.map_replicate]; exact A⟩
section Kit
variable {G : Gl} {X : Rn} {M : Bo} {vm : Vm} {T : State} {h : Heap} {C S : Nat} {Q : Option Value → Heap → Prop} {pc pc' : Nat} {Ls Ls' : Array Slot} {st : List Value}
theorem castoreC (W : Here G X M vm T h C S) {a : Addr} {n j x : Int32} (A : Chs G.Z h a n) (hj0 : ¬ j < 0 ∧ j < n) (ha : G.n0 ≤ a) (hx : Rg x) (hd : decode M.bytes pc = .ok (.castore, 1)) (pc' : Nat) (hp : pc + 1 = pc')
    (k : ∀ (T' : State) (h' : Heap), Here G X M vm T' h' C S → Wr h h' a j.toNatClampNeg (.int x) → Chs G.Z h' a n → (∀ y, Safe G.Z G.EL vm h y → Safe G.Z G.EL vm h' y) → Go G X M Q T' pc' Ls st) : Go G X M Q T pc Ls (.int x :: .int j :: .ref a :: st) := by
  obtain ⟨cs, kA, q1, q2, q3, q4⟩ := A
  have hi : j.toNatClampNeg < (cs.map Value.int).length := by
    rw [List.length_map, q1]
    have b1 := nat_of hj0.1
    have b2 := nat_of q2
    have := hj0.2
    rw [Int32.lt_iff_toInt_lt] at this
    omega
  refine castore W q4 j.toNatClampNeg rfl hj0 hi ha (x' := x) (nar_of hx) hd pc' hp ?_
  intro T' h' W' Wq A' kk
  refine k T' h' W' Wq ⟨cs.set j.toNatClampNeg x, kA, by simp [q1], q2, fun c hc => ?_, by rw [List.map_set]; exact A'⟩ kk
  rcases List.mem_or_eq_of_mem_set hc with z | rfl
  · exact q3 c z
  · exact hx
theorem caloadC (W : Here G X M vm T h C S) {a : Addr} {n j : Int32} (A : Chs G.Z h a n) (hj0 : ¬ j < 0 ∧ j < n) (hd : decode M.bytes pc = .ok (.caload, 1)) (pc' : Nat) (hp : pc + 1 = pc') (k : ∀ c : Int32, Rg c → Go G X M Q T pc' Ls (.int c :: st)) : Go G X M Q T pc Ls (.int j :: .ref a :: st) := by
  obtain ⟨cs, kA, q1, q2, q3, q4⟩ := A
  have hi : j.toNatClampNeg < cs.length := by
    rw [q1]
    have b1 := nat_of hj0.1
    have b2 := nat_of q2
    have := hj0.2
    rw [Int32.lt_iff_toInt_lt] at this
    omega
  refine caload W q4 hj0 (.int (cs[j.toNatClampNeg])) ?_ hd pc' hp (k _ (q3 _ (List.getElem_mem _)))
  simp [List.getD_eq_getElem?_getD, hi]
theorem arrlenC (W : Here G X M vm T h C S) {a : Addr} {n : Int32} (A : Chs G.Z h a n) (hd : decode M.bytes pc = .ok (.arraylength, 1)) (pc' : Nat) (hp : pc + 1 = pc') (k : Go G X M Q T pc' Ls (.int n :: st)) : Go G X M Q T pc Ls (.ref a :: st) := by
  obtain ⟨cs, kA, q1, q2, q3, q4⟩ := A
  exact arrlen W q4 hd pc' hp k
/-- a String of chars 0 to 255, whichever -/
theorem payStrC (hw : ∀ d ∈ wordsS, d.before G.a0 G.Z = true) (hEL : EW G.Z G.a0 G.EL) (hmem : (ST, 7) ∈ G.EL) (W : Here G X M vm T h C S) {x b : Addr} {v0 c0 : Value} {n cz : Int32} (hx0 : G.n0 ≤ x) (sx : Safe G.Z G.EL vm h x) (E : Exa G.Z h x ST) (V : Fld G.Z h x ST "value" "[B" v0) (Cd : Fld G.Z h x ST "coder" "B" c0)
    (A : Chs G.Z h b n) (cap : Nat) (hcap : n.toNatClampNeg ≤ cap) (hcap4 : cap ≤ 4000) (hS : Sta G.Z G.Z.heap ST "COMPACT_STRINGS" "Z" (.int cz)) (hcz : ¬ cz = 0) {len wd : Nat} (hf : 4 ≤ M.R.frames) (hlo : wd + 65 ≤ M.R.locals) :
    Pay G X M vm h StrChars.New1.yN len wd #[.ref x, .ref b] 4 (8 + cap) (fun v h' => v = none ∧ Keep h h' [x] ∧ ∃ cs : List Int32, cs.length = n.toNatClampNeg ∧ Str G.Z h' x cs) := by
  obtain ⟨cs, kA, q1, q2, q3, q4⟩ := A
  have hn : n = Int32.ofNat cs.length := by rw [q1]; exact (back32 q2).1.symm
  have P := payStr hw hEL hmem W (len := len) (wd := wd) hx0 sx E V Cd q4 hn q3 (by omega) hS hcz hf hlo
  intro m meth c' A' g ig mk a X1 hg hsize hdg hW hn' hp
  obtain ⟨v, B', r1, r2, r3, ⟨L, r4, r5, r6, r7, r8⟩, r9⟩ := P m meth c' A' g ig mk a X1 hg hsize hdg hW hn' ⟨hp.1, hp.2.1, hp.2.2.1, by have := hp.2.2.2; omega⟩
  exact ⟨v, B', r1, r2, r3, ⟨L, ⟨⟨r4.1.1, r4.1.2.1, cs, q1, r4.1.2.2⟩, r4.2⟩, r5, by omega, by omega, r8⟩, r9⟩
end Kit
end Own
end Jvm.Pilot.@@N@@
namespace Jvm.Pilot.@@N@@
open Jvm Jvm.ClassFile Sem Op Lib Jvm.Free Jvm.Stand Jvm.LawKit Jvm.RoadKit Bundle Jvm.Pilot.@@N@@.Jvm.D
theorem tw {G : Own.Gl} (hw : ∀ d ∈ tables_1, d.before G.a0 G.Z = true) (i : Nat) {d : Jvm.Cond} (h : tables_1[i]? = some d) : d.before G.a0 G.Z = true := hw d (List.mem_of_getElem? h)
theorem wS_in : ∀ d ∈ Own.wordsS, d ∈ tables_1 := by decide +kernel
theorem wS {G : Own.Gl} (hw : ∀ d ∈ tables_1, d.before G.a0 G.Z = true) : ∀ d ∈ Own.wordsS, d.before G.a0 G.Z = true := fun d hd => hw d (wS_in d hd)
theorem wQ_in : ∀ d ∈ StrChars.Road.wordsEq, d ∈ tables_1 := by decide +kernel
theorem wQ {G : Own.Gl} (hw : ∀ d ∈ tables_1, d.before G.a0 G.Z = true) : ∀ d ∈ StrChars.Road.wordsEq, d.before G.a0 G.Z = true := fun d hd => hw d (wQ_in d hd)
theorem wL_in : ∀ d ∈ StrChars.Road.wordsLen, d ∈ tables_1 := by decide +kernel
theorem wL {G : Own.Gl} (hw : ∀ d ∈ tables_1, d.before G.a0 G.Z = true) : ∀ d ∈ StrChars.Road.wordsLen, d.before G.a0 G.Z = true := fun d hd => hw d (wL_in d hd)
theorem wC_in : ∀ d ∈ StrChars.Road.wordsChN, d ∈ tables_1 := by decide +kernel
theorem wC {G : Own.Gl} (hw : ∀ d ∈ tables_1, d.before G.a0 G.Z = true) : ∀ d ∈ StrChars.Road.wordsChN, d.before G.a0 G.Z = true := fun d hd => hw d (wC_in d hd)
theorem d1_0 : decode method_5_code 0 = .ok (.iload_n 0, 1) := by decide +kernel
theorem d1_1 : decode method_5_code 1 = .ok (.ifCond .ne 7, 3) := by decide +kernel
theorem d1_4 : decode method_5_code 4 = .ok (.iconst 0, 1) := by decide +kernel
theorem d1_5 : decode method_5_code 5 = .ok (.newarray .char, 2) := by decide +kernel
theorem d1_7 : decode method_5_code 7 = .ok (.areturn, 1) := by decide +kernel
theorem d1_8 : decode method_5_code 8 = .ok (.iload_n 0, 1) := by decide +kernel
theorem d1_9 : decode method_5_code 9 = .ok (.iconst 1, 1) := by decide +kernel
theorem d1_10 : decode method_5_code 10 = .ok (.if_icmp .ne 7, 3) := by decide +kernel
theorem d1_13 : decode method_5_code 13 = .ok (.iconst 1, 1) := by decide +kernel
theorem d1_14 : decode method_5_code 14 = .ok (.newarray .char, 2) := by decide +kernel
theorem d1_16 : decode method_5_code 16 = .ok (.areturn, 1) := by decide +kernel
theorem d1_17 : decode method_5_code 17 = .ok (.iload_n 0, 1) := by decide +kernel
theorem d1_18 : decode method_5_code 18 = .ok (.iconst 2, 1) := by decide +kernel
theorem d1_19 : decode method_5_code 19 = .ok (.if_icmp .ne 7, 3) := by decide +kernel
theorem d1_22 : decode method_5_code 22 = .ok (.iconst 2, 1) := by decide +kernel
theorem d1_23 : decode method_5_code 23 = .ok (.newarray .char, 2) := by decide +kernel
theorem d1_25 : decode method_5_code 25 = .ok (.areturn, 1) := by decide +kernel
theorem d1_26 : decode method_5_code 26 = .ok (.iload_n 0, 1) := by decide +kernel
theorem d1_27 : decode method_5_code 27 = .ok (.iconst 3, 1) := by decide +kernel
theorem d1_28 : decode method_5_code 28 = .ok (.if_icmp .ne 7, 3) := by decide +kernel
theorem d1_31 : decode method_5_code 31 = .ok (.iconst 3, 1) := by decide +kernel
theorem d1_32 : decode method_5_code 32 = .ok (.newarray .char, 2) := by decide +kernel
theorem d1_34 : decode method_5_code 34 = .ok (.areturn, 1) := by decide +kernel
theorem d1_35 : decode method_5_code 35 = .ok (.iload_n 0, 1) := by decide +kernel
theorem d1_36 : decode method_5_code 36 = .ok (.iconst 4, 1) := by decide +kernel
theorem d1_37 : decode method_5_code 37 = .ok (.if_icmp .ne 7, 3) := by decide +kernel
theorem d1_40 : decode method_5_code 40 = .ok (.iconst 4, 1) := by decide +kernel
theorem d1_41 : decode method_5_code 41 = .ok (.newarray .char, 2) := by decide +kernel
theorem d1_43 : decode method_5_code 43 = .ok (.areturn, 1) := by decide +kernel
theorem d1_44 : decode method_5_code 44 = .ok (.iload_n 0, 1) := by decide +kernel
theorem d1_45 : decode method_5_code 45 = .ok (.iconst 5, 1) := by decide +kernel
theorem d1_46 : decode method_5_code 46 = .ok (.if_icmp .ne 7, 3) := by decide +kernel
theorem d1_49 : decode method_5_code 49 = .ok (.iconst 5, 1) := by decide +kernel
theorem d1_50 : decode method_5_code 50 = .ok (.newarray .char, 2) := by decide +kernel
theorem d1_52 : decode method_5_code 52 = .ok (.areturn, 1) := by decide +kernel
theorem d1_53 : decode method_5_code 53 = .ok (.iload_n 0, 1) := by decide +kernel
theorem d1_54 : decode method_5_code 54 = .ok (.bipush 6, 2) := by decide +kernel
theorem d1_56 : decode method_5_code 56 = .ok (.if_icmp .ne 8, 3) := by decide +kernel
theorem d1_59 : decode method_5_code 59 = .ok (.bipush 6, 2) := by decide +kernel
theorem d1_61 : decode method_5_code 61 = .ok (.newarray .char, 2) := by decide +kernel
theorem d1_63 : decode method_5_code 63 = .ok (.areturn, 1) := by decide +kernel
theorem d1_64 : decode method_5_code 64 = .ok (.iload_n 0, 1) := by decide +kernel
theorem d1_65 : decode method_5_code 65 = .ok (.bipush 7, 2) := by decide +kernel
theorem d1_67 : decode method_5_code 67 = .ok (.if_icmp .ne 8, 3) := by decide +kernel
theorem d1_70 : decode method_5_code 70 = .ok (.bipush 7, 2) := by decide +kernel
theorem d1_72 : decode method_5_code 72 = .ok (.newarray .char, 2) := by decide +kernel
theorem d1_74 : decode method_5_code 74 = .ok (.areturn, 1) := by decide +kernel
theorem d1_75 : decode method_5_code 75 = .ok (.iload_n 0, 1) := by decide +kernel
theorem d1_76 : decode method_5_code 76 = .ok (.bipush 8, 2) := by decide +kernel
theorem d1_78 : decode method_5_code 78 = .ok (.if_icmp .ne 8, 3) := by decide +kernel
theorem d1_81 : decode method_5_code 81 = .ok (.bipush 8, 2) := by decide +kernel
theorem d1_83 : decode method_5_code 83 = .ok (.newarray .char, 2) := by decide +kernel
theorem d1_85 : decode method_5_code 85 = .ok (.areturn, 1) := by decide +kernel
theorem d1_86 : decode method_5_code 86 = .ok (.iload_n 0, 1) := by decide +kernel
theorem d1_87 : decode method_5_code 87 = .ok (.bipush 9, 2) := by decide +kernel
theorem d1_89 : decode method_5_code 89 = .ok (.if_icmp .ne 8, 3) := by decide +kernel
theorem d1_92 : decode method_5_code 92 = .ok (.bipush 9, 2) := by decide +kernel
theorem d1_94 : decode method_5_code 94 = .ok (.newarray .char, 2) := by decide +kernel
theorem d1_96 : decode method_5_code 96 = .ok (.areturn, 1) := by decide +kernel
theorem d1_97 : decode method_5_code 97 = .ok (.iload_n 0, 1) := by decide +kernel
theorem d1_98 : decode method_5_code 98 = .ok (.bipush 10, 2) := by decide +kernel
theorem d1_100 : decode method_5_code 100 = .ok (.if_icmp .ne 8, 3) := by decide +kernel
theorem d1_103 : decode method_5_code 103 = .ok (.bipush 10, 2) := by decide +kernel
theorem d1_105 : decode method_5_code 105 = .ok (.newarray .char, 2) := by decide +kernel
theorem d1_107 : decode method_5_code 107 = .ok (.areturn, 1) := by decide +kernel
theorem d1_108 : decode method_5_code 108 = .ok (.bipush 11, 2) := by decide +kernel
theorem d1_110 : decode method_5_code 110 = .ok (.newarray .char, 2) := by decide +kernel
theorem d1_112 : decode method_5_code 112 = .ok (.areturn, 1) := by decide +kernel
theorem d2_0 : decode method_4_code 0 = .ok (.iload_n 1, 1) := by decide +kernel
theorem d2_1 : decode method_4_code 1 = .ok (.aload_n 0, 1) := by decide +kernel
theorem d2_2 : decode method_4_code 2 = .ok (.arraylength, 1) := by decide +kernel
theorem d2_3 : decode method_4_code 3 = .ok (.if_icmp .ge 34, 3) := by decide +kernel
theorem d2_6 : decode method_4_code 6 = .ok (.aload_n 0, 1) := by decide +kernel
theorem d2_7 : decode method_4_code 7 = .ok (.iload_n 1, 1) := by decide +kernel
theorem d2_8 : decode method_4_code 8 = .ok (.iload_n 1, 1) := by decide +kernel
theorem d2_9 : decode method_4_code 9 = .ok (.aload_n 2, 1) := by decide +kernel
theorem d2_10 : decode method_4_code 10 = .ok (.invokevirtual 54, 3) := by decide +kernel
theorem d2_13 : decode method_4_code 13 = .ok (.if_icmp .ge 11, 3) := by decide +kernel
theorem d2_16 : decode method_4_code 16 = .ok (.aload_n 2, 1) := by decide +kernel
theorem d2_17 : decode method_4_code 17 = .ok (.iload_n 1, 1) := by decide +kernel
theorem d2_18 : decode method_4_code 18 = .ok (.invokevirtual 58, 3) := by decide +kernel
theorem d2_21 : decode method_4_code 21 = .ok (.goto 15, 3) := by decide +kernel
theorem d2_24 : decode method_4_code 24 = .ok (.iload_n 1, 1) := by decide +kernel
theorem d2_25 : decode method_4_code 25 = .ok (.iconst 1, 1) := by decide +kernel
theorem d2_26 : decode method_4_code 26 = .ok (.iand, 1) := by decide +kernel
theorem d2_27 : decode method_4_code 27 = .ok (.ifCond .ne 7, 3) := by decide +kernel
theorem d2_30 : decode method_4_code 30 = .ok (.iload_n 3, 1) := by decide +kernel
theorem d2_31 : decode method_4_code 31 = .ok (.goto 5, 3) := by decide +kernel
theorem d2_34 : decode method_4_code 34 = .ok (.iload 4, 2) := by decide +kernel
theorem d2_36 : decode method_4_code 36 = .ok (.castore, 1) := by decide +kernel
theorem d2_37 : decode method_4_code 37 = .ok (.return_, 1) := by decide +kernel
theorem d16_0 : decode prog_5_method_4_code 0 = .ok (.invokestatic 40, 3) := by decide +kernel
theorem d16_3 : decode prog_5_method_4_code 3 = .ok (.astore_n 1, 1) := by decide +kernel
theorem d16_4 : decode prog_5_method_4_code 4 = .ok (.aload_n 1, 1) := by decide +kernel
theorem d16_5 : decode prog_5_method_4_code 5 = .ok (.arraylength, 1) := by decide +kernel
theorem d16_6 : decode prog_5_method_4_code 6 = .ok (.istore_n 2, 1) := by decide +kernel
theorem d16_7 : decode prog_5_method_4_code 7 = .ok (.iconst 0, 1) := by decide +kernel
theorem d16_8 : decode prog_5_method_4_code 8 = .ok (.istore_n 3, 1) := by decide +kernel
theorem d16_9 : decode prog_5_method_4_code 9 = .ok (.iload_n 3, 1) := by decide +kernel
theorem d16_10 : decode prog_5_method_4_code 10 = .ok (.iload_n 2, 1) := by decide +kernel
theorem d16_11 : decode prog_5_method_4_code 11 = .ok (.if_icmp .ge 29, 3) := by decide +kernel
theorem d16_14 : decode prog_5_method_4_code 14 = .ok (.aload_n 1, 1) := by decide +kernel
theorem d16_15 : decode prog_5_method_4_code 15 = .ok (.iload_n 3, 1) := by decide +kernel
theorem d16_16 : decode prog_5_method_4_code 16 = .ok (.aaload, 1) := by decide +kernel
theorem d16_17 : decode prog_5_method_4_code 17 = .ok (.astore 4, 2) := by decide +kernel
theorem d16_19 : decode prog_5_method_4_code 19 = .ok (.aload 4, 2) := by decide +kernel
theorem d16_21 : decode prog_5_method_4_code 21 = .ok (.getfield 32, 3) := by decide +kernel
theorem d16_24 : decode prog_5_method_4_code 24 = .ok (.aload_n 0, 1) := by decide +kernel
theorem d16_25 : decode prog_5_method_4_code 25 = .ok (.invokevirtual 44, 3) := by decide +kernel
theorem d16_28 : decode prog_5_method_4_code 28 = .ok (.ifCond .eq 6, 3) := by decide +kernel
theorem d16_31 : decode prog_5_method_4_code 31 = .ok (.aload 4, 2) := by decide +kernel
theorem d16_33 : decode prog_5_method_4_code 33 = .ok (.areturn, 1) := by decide +kernel
theorem d16_34 : decode prog_5_method_4_code 34 = .ok (.iinc 3 1, 3) := by decide +kernel
theorem d16_37 : decode prog_5_method_4_code 37 = .ok (.goto (-28), 3) := by decide +kernel
theorem d16_40 : decode prog_5_method_4_code 40 = .ok (.aconst_null, 1) := by decide +kernel
theorem d16_41 : decode prog_5_method_4_code 41 = .ok (.areturn, 1) := by decide +kernel
theorem d17_0 : decode prog_5_method_1_code 0 = .ok (.getstatic 13, 3) := by decide +kernel
theorem d17_3 : decode prog_5_method_1_code 3 = .ok (.invokevirtual 17, 3) := by decide +kernel
theorem d17_6 : decode prog_5_method_1_code 6 = .ok (.checkcast 18, 3) := by decide +kernel
theorem d17_9 : decode prog_5_method_1_code 9 = .ok (.areturn, 1) := by decide +kernel
theorem d18_0 : decode jdk_42_method_66_code 0 = .ok (.aload_n 0, 1) := by decide +kernel
theorem d18_1 : decode jdk_42_method_66_code 1 = .ok (.aload_n 1, 1) := by decide +kernel
theorem d18_2 : decode jdk_42_method_66_code 2 = .ok (.if_acmp .ne 5, 3) := by decide +kernel
theorem d18_7 : decode jdk_42_method_66_code 7 = .ok (.aload_n 1, 1) := by decide +kernel
theorem d18_8 : decode jdk_42_method_66_code 8 = .ok (.instanceof 10, 3) := by decide +kernel
theorem d18_11 : decode jdk_42_method_66_code 11 = .ok (.ifCond .eq 43, 3) := by decide +kernel
theorem d18_54 : decode jdk_42_method_66_code 54 = .ok (.iconst 0, 1) := by decide +kernel
theorem d18_55 : decode jdk_42_method_66_code 55 = .ok (.ireturn, 1) := by decide +kernel
theorem d20_0 : decode method_3_code 0 = .ok (.aload_n 0, 1) := by decide +kernel
theorem d20_1 : decode method_3_code 1 = .ok (.ifnonnull 5, 3) := by decide +kernel
theorem d20_4 : decode method_3_code 4 = .ok (.aconst_null, 1) := by decide +kernel
theorem d20_5 : decode method_3_code 5 = .ok (.areturn, 1) := by decide +kernel
theorem d20_6 : decode method_3_code 6 = .ok (.aload_n 0, 1) := by decide +kernel
theorem d20_7 : decode method_3_code 7 = .ok (.ldc 8, 2) := by decide +kernel
theorem d20_9 : decode method_3_code 9 = .ok (.invokevirtual 40, 3) := by decide +kernel
theorem d20_12 : decode method_3_code 12 = .ok (.ifCond .eq 7, 3) := by decide +kernel
theorem d20_15 : decode method_3_code 15 = .ok (.getstatic 44, 3) := by decide +kernel
theorem d20_18 : decode method_3_code 18 = .ok (.areturn, 1) := by decide +kernel
theorem d20_19 : decode method_3_code 19 = .ok (.aload_n 0, 1) := by decide +kernel
theorem d20_20 : decode method_3_code 20 = .ok (.ldc 10, 2) := by decide +kernel
theorem d20_22 : decode method_3_code 22 = .ok (.invokevirtual 40, 3) := by decide +kernel
theorem d20_25 : decode method_3_code 25 = .ok (.ifCond .eq 7, 3) := by decide +kernel
theorem d20_28 : decode method_3_code 28 = .ok (.getstatic 48, 3) := by decide +kernel
theorem d20_31 : decode method_3_code 31 = .ok (.areturn, 1) := by decide +kernel
theorem d20_32 : decode method_3_code 32 = .ok (.aload_n 0, 1) := by decide +kernel
theorem d20_33 : decode method_3_code 33 = .ok (.ldc 12, 2) := by decide +kernel
theorem d20_35 : decode method_3_code 35 = .ok (.invokevirtual 40, 3) := by decide +kernel
theorem d20_38 : decode method_3_code 38 = .ok (.ifCond .eq 7, 3) := by decide +kernel
theorem d20_41 : decode method_3_code 41 = .ok (.getstatic 51, 3) := by decide +kernel
theorem d20_44 : decode method_3_code 44 = .ok (.areturn, 1) := by decide +kernel
theorem d20_45 : decode method_3_code 45 = .ok (.aconst_null, 1) := by decide +kernel
theorem d20_46 : decode method_3_code 46 = .ok (.areturn, 1) := by decide +kernel
theorem pd_0 : parseMethodDescriptor "()[Lcom/example/couplet/couplet/core/Envelope;" = some ⟨[], some (.array (.object "com/example/couplet/couplet/core/Envelope"))⟩ := by decide +kernel
theorem pd_1 : parseMethodDescriptor "(Ljava/lang/Object;)Z" = some ⟨[(.object "java/lang/Object")], some .boolean⟩ := by decide +kernel
theorem pd_2 : parseMethodDescriptor "()I" = some ⟨[], some .int⟩ := by decide +kernel
theorem pd_3 : parseMethodDescriptor "(I)C" = some ⟨[.int], some .char⟩ := by decide +kernel
theorem pd_4 : parseMethodDescriptor "(I)[C" = some ⟨[.int], some (.array .char)⟩ := by decide +kernel
theorem pd_5 : parseMethodDescriptor "([CILjava/lang/String;CC)V" = some ⟨[(.array .char), .int, (.object "java/lang/String"), .char, .char], none⟩ := by decide +kernel
theorem pd_6 : parseMethodDescriptor "(Ljava/lang/String;)Lcom/example/couplet/couplet/core/Envelope;" = some ⟨[(.object "java/lang/String")], some (.object "com/example/couplet/couplet/core/Envelope")⟩ := by decide +kernel
theorem pd_7 : parseMethodDescriptor "([C)V" = some ⟨[(.array .char)], none⟩ := by decide +kernel
theorem pn_0 : plainName "com/example/couplet/couplet/core/Envelope" = true := by first | (simp [plainName, overriddenIn]; done) | decide +kernel
theorem pn_1 : plainName "java/lang/String" = true := by first | (simp [plainName, overriddenIn]; done) | decide +kernel
theorem pn_2 : plainName "com/example/couplet/couplet/core/EnvelopeNamedPinLaw" = true := by first | (simp [plainName, overriddenIn]; done) | decide +kernel
theorem ef_bVals (m : MethodId)  : entryFrame m #[] 0 = mkF m 0 #[] [] := by first | (simp [entryFrame, mkF, argsToLocals, Value.category]; done) | rfl
theorem ef_bSEqN (m : MethodId) (x : Addr) : entryFrame m #[(.ref x), .null] 3 = mkF m 0 #[.val (.ref x), .val .null, .unset] [] := by first | (simp [entryFrame, mkF, argsToLocals, Value.category]; done) | rfl
theorem ef_named (m : MethodId) (x : Addr) : entryFrame m #[(.ref x)] 5 = mkF m 0 #[.val (.ref x), .unset, .unset, .unset, .unset] [] := by first | (simp [entryFrame, mkF, argsToLocals, Value.category]; done) | rfl
theorem ef_namedN (m : MethodId)  : entryFrame m #[.null] 5 = mkF m 0 #[.val .null, .unset, .unset, .unset, .unset] [] := by first | (simp [entryFrame, mkF, argsToLocals, Value.category]; done) | rfl
theorem ef_bAlc (m : MethodId) (k : Int32) : entryFrame m #[(.int k)] 1 = mkF m 0 #[.val (.int k)] [] := by first | (simp [entryFrame, mkF, argsToLocals, Value.category]; done) | rfl
theorem ef_bFil (m : MethodId) (a : Addr) (i : Int32) (bs : Addr) (t1 : Int32) (t2 : Int32) : entryFrame m #[(.ref a), (.int i), (.ref bs), (.int t1), (.int t2)] 5 = mkF m 0 #[.val (.ref a), .val (.int i), .val (.ref bs), .val (.int t1), .val (.int t2)] [] := by first | (simp [entryFrame, mkF, argsToLocals, Value.category]; done) | rfl
theorem ef_bExp (m : MethodId)  : entryFrame m #[.null] 1 = mkF m 0 #[.val .null] [] := by first | (simp [entryFrame, mkF, argsToLocals, Value.category]; done) | rfl
theorem ef_bExpR (m : MethodId) (x : Addr) : entryFrame m #[(.ref x)] 1 = mkF m 0 #[.val (.ref x)] [] := by first | (simp [entryFrame, mkF, argsToLocals, Value.category]; done) | rfl
theorem ef_law (m : MethodId) (p0 : Int32) (p1 : Int32) (p2 : Int32) (p3 : Int32) (p4 : Int32) (p5 : Int32) : entryFrame m #[(.int p0), (.int p1), (.int p2), (.int p3), (.int p4), (.int p5)] maxLocals = mkF m 0 #[.val (.int p0), .val (.int p1), .val (.int p2), .val (.int p3), .val (.int p4), .val (.int p5), .unset, .unset, .unset, .unset, .unset, .unset, .unset, .unset, .unset] [] := by first | (simp [entryFrame, mkF, argsToLocals, Value.category, maxLocals]; done) | rfl
def n12 (x : Int32) : Int32 := (x &&& 2147483647) % 12
theorem n12_r (x : Int32) : ¬ n12 x < 0 ∧ n12 x < 12 := by
  have h1 := c_and x 2147483647 (by decide)
  have h2 := (c_irem (x &&& 2147483647) 12 12 (by decide)).1 h1.1
  have e0 : (0 : Int32).toInt = 0 := by decide
  have e5 : (12 : Int32).toInt = 12 := by decide
  unfold n12
  rw [Int32.lt_iff_toInt_lt, Int32.lt_iff_toInt_lt, h2, e0, e5]
  omega
theorem n12_cap (x : Int32) : (n12 x).toNatClampNeg ≤ 11 := by
  have h := n12_r x
  rw [Int32.lt_iff_toInt_lt, Int32.lt_iff_toInt_lt] at h
  have e0 : (0 : Int32).toInt = 0 := by decide
  have e5 : (12 : Int32).toInt = 12 := by decide
  have e : (n12 x).toNatClampNeg = (n12 x).toInt.toNat := rfl
  omega
theorem last11 (k : Int32) (hk : ¬ k < 0 ∧ k < 12) (h0 : ¬ k = 0) (h1 : ¬ k = 1) (h2 : ¬ k = 2) (h3 : ¬ k = 3) (h4 : ¬ k = 4) (h5 : ¬ k = 5) (h6 : ¬ k = 6) (h7 : ¬ k = 7) (h8 : ¬ k = 8) (h9 : ¬ k = 9) (h10 : ¬ k = 10) : k = 11 := by
  rw [Int32.lt_iff_toInt_lt, Int32.lt_iff_toInt_lt] at hk
  have ne : ∀ {j : Int32}, ¬ k = j → k.toInt ≠ j.toInt := fun h z => h (Int32.toInt_inj.mp z)
  have q0 := ne h0; rw [show (0 : Int32).toInt = 0 by decide] at q0
  have q1 := ne h1; rw [show (1 : Int32).toInt = 1 by decide] at q1
  have q2 := ne h2; rw [show (2 : Int32).toInt = 2 by decide] at q2
  have q3 := ne h3; rw [show (3 : Int32).toInt = 3 by decide] at q3
  have q4 := ne h4; rw [show (4 : Int32).toInt = 4 by decide] at q4
  have q5 := ne h5; rw [show (5 : Int32).toInt = 5 by decide] at q5
  have q6 := ne h6; rw [show (6 : Int32).toInt = 6 by decide] at q6
  have q7 := ne h7; rw [show (7 : Int32).toInt = 7 by decide] at q7
  have q8 := ne h8; rw [show (8 : Int32).toInt = 8 by decide] at q8
  have q9 := ne h9; rw [show (9 : Int32).toInt = 9 by decide] at q9
  have q10 := ne h10; rw [show (10 : Int32).toInt = 10 by decide] at q10
  have e0 : (0 : Int32).toInt = 0 := by decide
  have e12 : (12 : Int32).toInt = 12 := by decide
  apply Int32.toInt_inj.mp
  rw [e0, e12] at hk
  rw [show (11 : Int32).toInt = 11 by decide]
  omega
theorem lt_len {i : Int32} {ii n : Nat} (hi : i = Int32.ofNat ii) (hn : n ≤ 4000) (h : i < Int32.ofNat n) (hb : ii ≤ 4000) : ii < n := by
  subst hi
  rw [Int32.lt_iff_toInt_lt, Int32.toInt_ofNat_of_lt (by omega), Int32.toInt_ofNat_of_lt (by omega)] at h
  omega
theorem getD_rg {cs : List Int32} {i : Nat} (h : ∀ c ∈ cs, ¬ c < 0 ∧ ¬ (255 : Int32) < c) (hi : i < cs.length) : Own.Rg (cs.getD i 0) := by
  rw [List.getD_eq_getElem?_getD, List.getElem?_eq_getElem hi]; exact h _ (List.getElem_mem hi)
theorem idx {m n : Int32} (hn : ¬ n < 0 ∧ n < 12) (h0 : (0 : Int32) < n) : ¬ (m.toUInt32 >>> ((1 : Int32) &&& 31).toUInt32).toInt32 % n < 0 ∧ (m.toUInt32 >>> ((1 : Int32) &&& 31).toUInt32).toInt32 % n < n := by
  have h1 := c_iushr m 1 1 (by decide) (by decide)
  rw [Int32.lt_iff_toInt_lt] at h0
  have e0 : (0 : Int32).toInt = 0 := by decide
  have h2 := (c_iremV (m.toUInt32 >>> ((1 : Int32) &&& 31).toUInt32).toInt32 n).1 (by rw [h1]; omega) (by omega)
  rw [Int32.lt_iff_toInt_lt, Int32.lt_iff_toInt_lt, e0]
  omega
theorem pos_ne {n : Int32} (h0 : (0 : Int32) < n) : n ≠ 0 := fun z => by subst z; exact absurd h0 (by decide)
abbrev bVals : Own.Bo := (⟨"com/example/couplet/couplet/core/Envelope", "values", "()[Lcom/example/couplet/couplet/core/Envelope;"⟩, prog_5_method_1_code, 0, (some (.array (.object "com/example/couplet/couplet/core/Envelope"))), ({ frames := 1, cells := 1, slots := 3, locals := 14 } : Room))
abbrev bSEq : Own.Bo := (⟨"java/lang/String", "equals", "(Ljava/lang/Object;)Z"⟩, jdk_42_method_66_code, 3, (some .boolean), ({ frames := 0, cells := 0, slots := 0, locals := 0 } : Room))
abbrev bNamed : Own.Bo := (⟨"com/example/couplet/couplet/core/Envelope", "named", "(Ljava/lang/String;)Lcom/example/couplet/couplet/core/Envelope;"⟩, prog_5_method_4_code, 5, (some (.object "com/example/couplet/couplet/core/Envelope")), ({ frames := 3, cells := 1, slots := 3, locals := 42 } : Room))
abbrev bAlc : Own.Bo := (⟨"com/example/couplet/couplet/core/EnvelopeNamedPinLaw", "alloc", "(I)[C"⟩, method_5_code, 1, (some (.array .char)), ({ frames := 0, cells := 1, slots := 11, locals := 0 } : Room))
abbrev bFil : Own.Bo := (⟨"com/example/couplet/couplet/core/EnvelopeNamedPinLaw", "fill", "([CILjava/lang/String;CC)V"⟩, method_4_code, 5, none, ({ frames := 5, cells := 0, slots := 0, locals := 64 } : Room))
abbrev bExp : Own.Bo := (⟨"com/example/couplet/couplet/core/EnvelopeNamedPinLaw", "expected", "(Ljava/lang/String;)Lcom/example/couplet/couplet/core/Envelope;"⟩, method_3_code, 1, (some (.object "com/example/couplet/couplet/core/Envelope")), ({ frames := 3, cells := 6, slots := 144, locals := 42 } : Room))
abbrev bLaw : Own.Bo := (x, code, maxLocals, ret, room_1)
set_option maxRecDepth 65536 in
set_option maxHeartbeats 40000000 in
theorem con_vals {G : Own.Gl} (hw : ∀ d ∈ tables_1, d.before G.a0 G.Z = true) (hEL : EW G.Z G.a0 G.EL) {rv r0 r1 r2 l0 l1 l2 : Addr} {kV : ClassId} (TV : Sta G.Z G.Z.heap "com/example/couplet/couplet/core/Envelope" "$VALUES" "[Lcom/example/couplet/couplet/core/Envelope;" (.ref rv)) (AV : Arv G.Z G.Z.heap rv kV (.object "com/example/couplet/couplet/core/Envelope") 3 [(.ref r0), (.ref r1), (.ref r2)] .null) (XV : Exa G.Z G.Z.heap rv "[Lcom/example/couplet/couplet/core/Envelope;") (TE0 : Sta G.Z G.Z.heap "com/example/couplet/couplet/core/Envelope" "OP_BEFORE_AFTER" "Lcom/example/couplet/couplet/core/Envelope;" (.ref r0)) (LE0 : Fld G.Z G.Z.heap r0 "com/example/couplet/couplet/core/Envelope" "label" "Ljava/lang/String;" (.ref l0)) (SE0 : Own.Str G.Z G.Z.heap l0 [(100 : Int32), (101 : Int32), (98 : Int32), (101 : Int32), (122 : Int32), (105 : Int32), (117 : Int32), (109 : Int32)]) (TE1 : Sta G.Z G.Z.heap "com/example/couplet/couplet/core/Envelope" "OP_TYPE_BEFORE_AFTER" "Lcom/example/couplet/couplet/core/Envelope;" (.ref r1)) (LE1 : Fld G.Z G.Z.heap r1 "com/example/couplet/couplet/core/Envelope" "label" "Ljava/lang/String;" (.ref l1)) (SE1 : Own.Str G.Z G.Z.heap l1 [(103 : Int32), (111 : Int32), (108 : Int32), (100 : Int32), (101 : Int32), (110 : Int32), (103 : Int32), (97 : Int32), (116 : Int32), (101 : Int32)]) (TE2 : Sta G.Z G.Z.heap "com/example/couplet/couplet/core/Envelope" "WHOLE_RECORD" "Lcom/example/couplet/couplet/core/Envelope;" (.ref r2)) (LE2 : Fld G.Z G.Z.heap r2 "com/example/couplet/couplet/core/Envelope" "label" "Ljava/lang/String;" (.ref l2)) (SE2 : Own.Str G.Z G.Z.heap l2 [(100 : Int32), (98 : Int32), (50 : Int32)]) {h : Heap} (hO : Old G.Z G.n0 h) :
    Own.Con G [] bVals #[] h [] (fun v h' => ∃ b : Addr, v = some (.ref b) ∧ Ext h h' ∧ h.size ≤ b ∧ Arv G.Z h' b kV (.object "com/example/couplet/couplet/core/Envelope") 3 [(.ref r0), (.ref r1), (.ref r2)] .null) := by
  refine Own.Con.intro (plainFor_of_name pn_0) hO hEL _ (fun m => ef_bVals m ) ?_
  intro X T0 W0 sf
  refine Own.getS W0 (tw hw 80 rfl) Via.refl (W0.sta TV) d17_0 3 rfl ?_
  intro T1 W1
  refine Own.cloneV W1 (tw hw 82 rfl) (tw hw 83 rfl) (tw hw 87 rfl) (tw hw 85 rfl) (tw hw 86 rfl) (tw hw 88 rfl) (AV.ext W1.old.2) (XV.ext W1.old.2) rfl d17_3 6 rfl (by decide) (by decide) 3 (by decide) 1 3 (Nat.le_of_ble_eq_true rfl) (Nat.le_of_ble_eq_true rfl) (Nat.le_of_ble_eq_true rfl) (Nat.le_of_ble_eq_true rfl) ?_
  intro T2 h2 o2 g2 W2 E2 A2 X2
  refine Own.castY W2 (tw hw 93 rfl) (Ins.self X2) d17_6 9 rfl ?_
  intro T3 W3
  exact Own.retA W3 (by decide) (by decide) rfl rfl rfl d17_9 ⟨o2, rfl, E2, (Nat.le_of_eq g2.symm), A2⟩
set_option maxRecDepth 65536 in
set_option maxHeartbeats 40000000 in
theorem con_seqn {G : Own.Gl} (hw : ∀ d ∈ tables_1, d.before G.a0 G.Z = true) (hEL : EW G.Z G.a0 G.EL) {x : Addr} {h : Heap} (hO : Old G.Z G.n0 h) :
    Own.Con G [] bSEq #[.ref x, .null] h [] (fun v h' => v = some (.int 0) ∧ h' = h) := by
  refine Own.Con.intro (plainFor_of_name pn_1) hO hEL _ (fun m => ef_bSEqN m x) ?_
  intro X T0 W0 sf
  refine Own.aloadN W0 d18_0 1 rfl (.ref x) rfl rfl ?_
  refine Own.aloadN W0 d18_1 2 rfl .null rfl rfl ?_
  refine Own.acmp W0 d18_2 7 rfl rfl false (decide_eq_false nofun) (by decide) rfl ?_
  refine Own.aloadN W0 d18_7 8 rfl .null rfl rfl ?_
  refine Own.instNull W0 d18_8 11 rfl ?_
  refine Own.ifYes W0 d18_11 54 (by decide) (by decide) (by decide) ?_
  refine Own.iconst W0 d18_54 55 rfl (0 : Int32) rfl ?_
  exact Own.retB W0 (by decide) (by decide) rfl d18_55 rfl ⟨rfl, rfl⟩
set_option maxRecDepth 65536 in
set_option maxHeartbeats 40000000 in
theorem con_named {G : Own.Gl} (hw : ∀ d ∈ tables_1, d.before G.a0 G.Z = true) (hEL : EW G.Z G.a0 G.EL) (hmem : (Own.ST, 7) ∈ G.EL) {cz : Int32} (hS : Sta G.Z G.Z.heap Own.ST "COMPACT_STRINGS" "Z" (.int cz)) (hcz : ¬ cz = 0) {rv r0 r1 r2 l0 l1 l2 : Addr} {kV : ClassId} (TV : Sta G.Z G.Z.heap "com/example/couplet/couplet/core/Envelope" "$VALUES" "[Lcom/example/couplet/couplet/core/Envelope;" (.ref rv)) (AV : Arv G.Z G.Z.heap rv kV (.object "com/example/couplet/couplet/core/Envelope") 3 [(.ref r0), (.ref r1), (.ref r2)] .null) (XV : Exa G.Z G.Z.heap rv "[Lcom/example/couplet/couplet/core/Envelope;") (TE0 : Sta G.Z G.Z.heap "com/example/couplet/couplet/core/Envelope" "OP_BEFORE_AFTER" "Lcom/example/couplet/couplet/core/Envelope;" (.ref r0)) (LE0 : Fld G.Z G.Z.heap r0 "com/example/couplet/couplet/core/Envelope" "label" "Ljava/lang/String;" (.ref l0)) (SE0 : Own.Str G.Z G.Z.heap l0 [(100 : Int32), (101 : Int32), (98 : Int32), (101 : Int32), (122 : Int32), (105 : Int32), (117 : Int32), (109 : Int32)]) (TE1 : Sta G.Z G.Z.heap "com/example/couplet/couplet/core/Envelope" "OP_TYPE_BEFORE_AFTER" "Lcom/example/couplet/couplet/core/Envelope;" (.ref r1)) (LE1 : Fld G.Z G.Z.heap r1 "com/example/couplet/couplet/core/Envelope" "label" "Ljava/lang/String;" (.ref l1)) (SE1 : Own.Str G.Z G.Z.heap l1 [(103 : Int32), (111 : Int32), (108 : Int32), (100 : Int32), (101 : Int32), (110 : Int32), (103 : Int32), (97 : Int32), (116 : Int32), (101 : Int32)]) (TE2 : Sta G.Z G.Z.heap "com/example/couplet/couplet/core/Envelope" "WHOLE_RECORD" "Lcom/example/couplet/couplet/core/Envelope;" (.ref r2)) (LE2 : Fld G.Z G.Z.heap r2 "com/example/couplet/couplet/core/Envelope" "label" "Ljava/lang/String;" (.ref l2)) (SE2 : Own.Str G.Z G.Z.heap l2 [(100 : Int32), (98 : Int32), (50 : Int32)]) {x : Addr} {cs : List Int32} {h : Heap} (hO : Old G.Z G.n0 h) (Sx : Own.Str G.Z h x cs) :
    Own.Con G [] bNamed #[.ref x] h [] (fun v h' => ((v = some (.ref r0) ∧ cs = [(100 : Int32), (101 : Int32), (98 : Int32), (101 : Int32), (122 : Int32), (105 : Int32), (117 : Int32), (109 : Int32)]) ∨ (v = some (.ref r1) ∧ ¬ cs = [(100 : Int32), (101 : Int32), (98 : Int32), (101 : Int32), (122 : Int32), (105 : Int32), (117 : Int32), (109 : Int32)] ∧ cs = [(103 : Int32), (111 : Int32), (108 : Int32), (100 : Int32), (101 : Int32), (110 : Int32), (103 : Int32), (97 : Int32), (116 : Int32), (101 : Int32)]) ∨ (v = some (.ref r2) ∧ ¬ cs = [(100 : Int32), (101 : Int32), (98 : Int32), (101 : Int32), (122 : Int32), (105 : Int32), (117 : Int32), (109 : Int32)] ∧ ¬ cs = [(103 : Int32), (111 : Int32), (108 : Int32), (100 : Int32), (101 : Int32), (110 : Int32), (103 : Int32), (97 : Int32), (116 : Int32), (101 : Int32)] ∧ cs = [(100 : Int32), (98 : Int32), (50 : Int32)]) ∨ (v = some .null ∧ ¬ cs = [(100 : Int32), (101 : Int32), (98 : Int32), (101 : Int32), (122 : Int32), (105 : Int32), (117 : Int32), (109 : Int32)] ∧ ¬ cs = [(103 : Int32), (111 : Int32), (108 : Int32), (100 : Int32), (101 : Int32), (110 : Int32), (103 : Int32), (97 : Int32), (116 : Int32), (101 : Int32)] ∧ ¬ cs = [(100 : Int32), (98 : Int32), (50 : Int32)])) ∧ Ext h h') := by
  refine Own.Con.intro (plainFor_of_name pn_0) hO hEL _ (fun m => ef_named m x) ?_
  intro X T0 W0 sf
  have lb0 := LE0.ext W0.old.2
  have sb0 := SE0.ext W0.old.2
  have xb0 := sb0.exa
  have lb1 := LE1.ext W0.old.2
  have sb1 := SE1.ext W0.old.2
  have xb1 := sb1.exa
  have lb2 := LE2.ext W0.old.2
  have sb2 := SE2.ext W0.old.2
  have xb2 := sb2.exa
  refine Own.callS W0 (tw hw 77 rfl) (tw hw 78 rfl) (tw hw 75 rfl) (tw hw 79 rfl) (by decide) (argsL := []) (rest := []) (Own.Con.pay (con_vals hw hEL TV AV XV TE0 LE0 SE0 TE1 LE1 SE1 TE2 LE2 SE2 W0.old) W0 (tw hw 79 rfl) (tw hw 75 rfl) (len := 3) (wd := 0) (by decide) (by decide) (fun _ q => nomatch q)) rfl (lenOf pd_0 rfl) rfl (Nat.le_of_ble_eq_true rfl) d16_0 3 rfl 1 3 (Nat.le_of_ble_eq_true rfl) (Nat.le_of_ble_eq_true rfl) (Nat.le_of_ble_eq_true rfl) (Nat.le_of_ble_eq_true rfl) ?_
  intro v1 T1 h1 u1 W1 R1 hq
  obtain ⟨o1, rfl, E1, g1, A1⟩ := hq
  show Own.Go _ _ _ _ _ 3 #[.val (.ref x), .unset, .unset, .unset, .unset] [(.ref o1)]
  refine Own.astoreN W1 d16_3 4 rfl rfl #[.val (.ref x), .val (.ref o1), .unset, .unset, .unset] rfl ?_
  refine Own.aloadN W1 d16_4 5 rfl (.ref o1) rfl rfl ?_
  refine Own.arrlen W1 A1 d16_5 6 rfl ?_
  refine Own.istoreN W1 d16_6 7 rfl #[.val (.ref x), .val (.ref o1), .val (.int (3 : Int32)), .unset, .unset] rfl ?_
  refine Own.iconst W1 d16_7 8 rfl (0 : Int32) rfl ?_
  refine Own.istoreN W1 d16_8 9 rfl #[.val (.ref x), .val (.ref o1), .val (.int (3 : Int32)), .val (.int (0 : Int32)), .unset] rfl ?_
  refine Own.iloadN W1 d16_9 10 rfl (0 : Int32) rfl ?_
  refine Own.iloadN W1 d16_10 11 rfl (3 : Int32) rfl ?_
  refine Own.icmpNo W1 d16_11 14 (by decide) rfl ?_
  refine Own.aloadN W1 d16_14 15 rfl (.ref o1) rfl rfl ?_
  refine Own.iloadN W1 d16_15 16 rfl (0 : Int32) rfl ?_
  refine Own.aaload W1 A1 rfl (by decide) (.ref r0) rfl d16_16 17 rfl ?_
  refine Own.astore W1 d16_17 19 rfl rfl #[.val (.ref x), .val (.ref o1), .val (.int (3 : Int32)), .val (.int (0 : Int32)), .val (.ref r0)] rfl ?_
  refine Own.aload W1 d16_19 21 rfl (.ref r0) rfl rfl ?_
  have X2 : Ext h h1 := E1
  refine Own.getF W1 (tw hw 95 rfl) Via.refl (lb0.ext X2) d16_21 24 rfl ?_
  intro T3 W3
  refine Own.aloadN W3 d16_24 25 rfl (.ref x) rfl rfl ?_
  refine Own.callV W3 (tw hw 97 rfl) (tw hw 98 rfl) (fun s q => notFace_of_selects (args := #[]) (mvT (s := s) q (tw hw 100 rfl))) (tw hw 100 rfl) (tw hw 99 rfl) (by decide) (argsL := [(.ref x)]) (rest := []) (Own.payEq (wQ hw) (kI := 4) (tw hw 3 rfl) W3 (sb0.ext X2) (Sx.ext X2) hS hcz (len := 3) (wd := 0) (by decide) (by decide)) (xb0.ext X2) rfl (lenOf pd_1 rfl) rfl (Nat.le_of_ble_eq_true rfl) d16_25 28 rfl 1 3 (Nat.le_of_ble_eq_true rfl) (Nat.le_of_ble_eq_true rfl) (Nat.le_of_ble_eq_true rfl) (Nat.le_of_ble_eq_true rfl) ?_
  intro v4 T4 h4 u4 W4 R4 hq
  obtain ⟨hv4, eh4⟩ := hq
  have ei4 := eh4.symm; subst ei4
  rcases hv4 with ⟨rfl, q0⟩ | ⟨rfl, q0⟩
  · skip
    show Own.Go _ _ _ _ _ 28 #[.val (.ref x), .val (.ref o1), .val (.int (3 : Int32)), .val (.int (0 : Int32)), .val (.ref r0)] [(.int (1 : Int32))]
    refine Own.ifNo W4 d16_28 31 (by decide) rfl ?_
    refine Own.aload W4 d16_31 33 rfl (.ref r0) rfl rfl ?_
    exact Own.retA W4 (by decide) (by decide) rfl rfl rfl d16_33 ⟨Or.inl ⟨rfl, q0.symm⟩, X2⟩
  · skip
    show Own.Go _ _ _ _ _ 28 #[.val (.ref x), .val (.ref o1), .val (.int (3 : Int32)), .val (.int (0 : Int32)), .val (.ref r0)] [(.int (0 : Int32))]
    refine Own.ifYes W4 d16_28 34 (by decide) (by decide) (by decide) ?_
    refine Own.iinc W4 d16_34 37 rfl rfl #[.val (.ref x), .val (.ref o1), .val (.int (3 : Int32)), .val (.int (1 : Int32)), .val (.ref r0)] rfl ?_
    refine Own.goto W4 d16_37 9 (by decide) (by decide) ?_
    refine Own.iloadN W4 d16_9 10 rfl (1 : Int32) rfl ?_
    refine Own.iloadN W4 d16_10 11 rfl (3 : Int32) rfl ?_
    refine Own.icmpNo W4 d16_11 14 (by decide) rfl ?_
    refine Own.aloadN W4 d16_14 15 rfl (.ref o1) rfl rfl ?_
    refine Own.iloadN W4 d16_15 16 rfl (1 : Int32) rfl ?_
    refine Own.aaload W4 A1 rfl (by decide) (.ref r1) rfl d16_16 17 rfl ?_
    refine Own.astore W4 d16_17 19 rfl rfl #[.val (.ref x), .val (.ref o1), .val (.int (3 : Int32)), .val (.int (1 : Int32)), .val (.ref r1)] rfl ?_
    refine Own.aload W4 d16_19 21 rfl (.ref r1) rfl rfl ?_
    refine Own.getF W4 (tw hw 95 rfl) Via.refl (lb1.ext X2) d16_21 24 rfl ?_
    intro T5 W5
    refine Own.aloadN W5 d16_24 25 rfl (.ref x) rfl rfl ?_
    refine Own.callV W5 (tw hw 97 rfl) (tw hw 98 rfl) (fun s q => notFace_of_selects (args := #[]) (mvT (s := s) q (tw hw 100 rfl))) (tw hw 100 rfl) (tw hw 99 rfl) (by decide) (argsL := [(.ref x)]) (rest := []) (Own.payEq (wQ hw) (kI := 4) (tw hw 3 rfl) W5 (sb1.ext X2) (Sx.ext X2) hS hcz (len := 3) (wd := 0) (by decide) (by decide)) (xb1.ext X2) rfl (lenOf pd_1 rfl) rfl (Nat.le_of_ble_eq_true rfl) d16_25 28 rfl 1 3 (Nat.le_of_ble_eq_true rfl) (Nat.le_of_ble_eq_true rfl) (Nat.le_of_ble_eq_true rfl) (Nat.le_of_ble_eq_true rfl) ?_
    intro v6 T6 h6 u6 W6 R6 hq
    obtain ⟨hv6, eh6⟩ := hq
    have ei6 := eh6.symm; subst ei6
    rcases hv6 with ⟨rfl, q1⟩ | ⟨rfl, q1⟩
    · skip
      show Own.Go _ _ _ _ _ 28 #[.val (.ref x), .val (.ref o1), .val (.int (3 : Int32)), .val (.int (1 : Int32)), .val (.ref r1)] [(.int (1 : Int32))]
      refine Own.ifNo W6 d16_28 31 (by decide) rfl ?_
      refine Own.aload W6 d16_31 33 rfl (.ref r1) rfl rfl ?_
      exact Own.retA W6 (by decide) (by decide) rfl rfl rfl d16_33 ⟨Or.inr (Or.inl ⟨rfl, fun z => q0 z.symm, q1.symm⟩), X2⟩
    · skip
      show Own.Go _ _ _ _ _ 28 #[.val (.ref x), .val (.ref o1), .val (.int (3 : Int32)), .val (.int (1 : Int32)), .val (.ref r1)] [(.int (0 : Int32))]
      refine Own.ifYes W6 d16_28 34 (by decide) (by decide) (by decide) ?_
      refine Own.iinc W6 d16_34 37 rfl rfl #[.val (.ref x), .val (.ref o1), .val (.int (3 : Int32)), .val (.int (2 : Int32)), .val (.ref r1)] rfl ?_
      refine Own.goto W6 d16_37 9 (by decide) (by decide) ?_
      refine Own.iloadN W6 d16_9 10 rfl (2 : Int32) rfl ?_
      refine Own.iloadN W6 d16_10 11 rfl (3 : Int32) rfl ?_
      refine Own.icmpNo W6 d16_11 14 (by decide) rfl ?_
      refine Own.aloadN W6 d16_14 15 rfl (.ref o1) rfl rfl ?_
      refine Own.iloadN W6 d16_15 16 rfl (2 : Int32) rfl ?_
      refine Own.aaload W6 A1 rfl (by decide) (.ref r2) rfl d16_16 17 rfl ?_
      refine Own.astore W6 d16_17 19 rfl rfl #[.val (.ref x), .val (.ref o1), .val (.int (3 : Int32)), .val (.int (2 : Int32)), .val (.ref r2)] rfl ?_
      refine Own.aload W6 d16_19 21 rfl (.ref r2) rfl rfl ?_
      refine Own.getF W6 (tw hw 95 rfl) Via.refl (lb2.ext X2) d16_21 24 rfl ?_
      intro T7 W7
      refine Own.aloadN W7 d16_24 25 rfl (.ref x) rfl rfl ?_
      refine Own.callV W7 (tw hw 97 rfl) (tw hw 98 rfl) (fun s q => notFace_of_selects (args := #[]) (mvT (s := s) q (tw hw 100 rfl))) (tw hw 100 rfl) (tw hw 99 rfl) (by decide) (argsL := [(.ref x)]) (rest := []) (Own.payEq (wQ hw) (kI := 4) (tw hw 3 rfl) W7 (sb2.ext X2) (Sx.ext X2) hS hcz (len := 3) (wd := 0) (by decide) (by decide)) (xb2.ext X2) rfl (lenOf pd_1 rfl) rfl (Nat.le_of_ble_eq_true rfl) d16_25 28 rfl 1 3 (Nat.le_of_ble_eq_true rfl) (Nat.le_of_ble_eq_true rfl) (Nat.le_of_ble_eq_true rfl) (Nat.le_of_ble_eq_true rfl) ?_
      intro v8 T8 h8 u8 W8 R8 hq
      obtain ⟨hv8, eh8⟩ := hq
      have ei8 := eh8.symm; subst ei8
      rcases hv8 with ⟨rfl, q2⟩ | ⟨rfl, q2⟩
      · skip
        show Own.Go _ _ _ _ _ 28 #[.val (.ref x), .val (.ref o1), .val (.int (3 : Int32)), .val (.int (2 : Int32)), .val (.ref r2)] [(.int (1 : Int32))]
        refine Own.ifNo W8 d16_28 31 (by decide) rfl ?_
        refine Own.aload W8 d16_31 33 rfl (.ref r2) rfl rfl ?_
        exact Own.retA W8 (by decide) (by decide) rfl rfl rfl d16_33 ⟨Or.inr (Or.inr (Or.inl ⟨rfl, fun z => q0 z.symm, fun z => q1 z.symm, q2.symm⟩)), X2⟩
      · skip
        show Own.Go _ _ _ _ _ 28 #[.val (.ref x), .val (.ref o1), .val (.int (3 : Int32)), .val (.int (2 : Int32)), .val (.ref r2)] [(.int (0 : Int32))]
        refine Own.ifYes W8 d16_28 34 (by decide) (by decide) (by decide) ?_
        refine Own.iinc W8 d16_34 37 rfl rfl #[.val (.ref x), .val (.ref o1), .val (.int (3 : Int32)), .val (.int (3 : Int32)), .val (.ref r2)] rfl ?_
        refine Own.goto W8 d16_37 9 (by decide) (by decide) ?_
        refine Own.iloadN W8 d16_9 10 rfl (3 : Int32) rfl ?_
        refine Own.iloadN W8 d16_10 11 rfl (3 : Int32) rfl ?_
        refine Own.icmpYes W8 d16_11 40 (by decide) (by decide) (by decide) ?_
        refine Own.aconstNull W8 d16_40 41 rfl ?_
        exact Own.retA W8 (by decide) (by decide) rfl rfl rfl d16_41 ⟨Or.inr (Or.inr (Or.inr (⟨rfl, fun z => q0 z.symm, fun z => q1 z.symm, fun z => q2 z.symm⟩))), X2⟩
set_option maxRecDepth 65536 in
set_option maxHeartbeats 40000000 in
theorem con_namedN {G : Own.Gl} (hw : ∀ d ∈ tables_1, d.before G.a0 G.Z = true) (hEL : EW G.Z G.a0 G.EL) (hmem : (Own.ST, 7) ∈ G.EL) {cz : Int32} (hS : Sta G.Z G.Z.heap Own.ST "COMPACT_STRINGS" "Z" (.int cz)) (hcz : ¬ cz = 0) {rv r0 r1 r2 l0 l1 l2 : Addr} {kV : ClassId} (TV : Sta G.Z G.Z.heap "com/example/couplet/couplet/core/Envelope" "$VALUES" "[Lcom/example/couplet/couplet/core/Envelope;" (.ref rv)) (AV : Arv G.Z G.Z.heap rv kV (.object "com/example/couplet/couplet/core/Envelope") 3 [(.ref r0), (.ref r1), (.ref r2)] .null) (XV : Exa G.Z G.Z.heap rv "[Lcom/example/couplet/couplet/core/Envelope;") (TE0 : Sta G.Z G.Z.heap "com/example/couplet/couplet/core/Envelope" "OP_BEFORE_AFTER" "Lcom/example/couplet/couplet/core/Envelope;" (.ref r0)) (LE0 : Fld G.Z G.Z.heap r0 "com/example/couplet/couplet/core/Envelope" "label" "Ljava/lang/String;" (.ref l0)) (SE0 : Own.Str G.Z G.Z.heap l0 [(100 : Int32), (101 : Int32), (98 : Int32), (101 : Int32), (122 : Int32), (105 : Int32), (117 : Int32), (109 : Int32)]) (TE1 : Sta G.Z G.Z.heap "com/example/couplet/couplet/core/Envelope" "OP_TYPE_BEFORE_AFTER" "Lcom/example/couplet/couplet/core/Envelope;" (.ref r1)) (LE1 : Fld G.Z G.Z.heap r1 "com/example/couplet/couplet/core/Envelope" "label" "Ljava/lang/String;" (.ref l1)) (SE1 : Own.Str G.Z G.Z.heap l1 [(103 : Int32), (111 : Int32), (108 : Int32), (100 : Int32), (101 : Int32), (110 : Int32), (103 : Int32), (97 : Int32), (116 : Int32), (101 : Int32)]) (TE2 : Sta G.Z G.Z.heap "com/example/couplet/couplet/core/Envelope" "WHOLE_RECORD" "Lcom/example/couplet/couplet/core/Envelope;" (.ref r2)) (LE2 : Fld G.Z G.Z.heap r2 "com/example/couplet/couplet/core/Envelope" "label" "Ljava/lang/String;" (.ref l2)) (SE2 : Own.Str G.Z G.Z.heap l2 [(100 : Int32), (98 : Int32), (50 : Int32)]) {h : Heap} (hO : Old G.Z G.n0 h) :
    Own.Con G [] bNamed #[.null] h [] (fun v h' => v = some .null ∧ Ext h h') := by
  refine Own.Con.intro (plainFor_of_name pn_0) hO hEL _ (fun m => ef_namedN m ) ?_
  intro X T0 W0 sf
  have lb0 := LE0.ext W0.old.2
  have sb0 := SE0.ext W0.old.2
  have xb0 := sb0.exa
  have lb1 := LE1.ext W0.old.2
  have sb1 := SE1.ext W0.old.2
  have xb1 := sb1.exa
  have lb2 := LE2.ext W0.old.2
  have sb2 := SE2.ext W0.old.2
  have xb2 := sb2.exa
  refine Own.callS W0 (tw hw 77 rfl) (tw hw 78 rfl) (tw hw 75 rfl) (tw hw 79 rfl) (by decide) (argsL := []) (rest := []) (Own.Con.pay (con_vals hw hEL TV AV XV TE0 LE0 SE0 TE1 LE1 SE1 TE2 LE2 SE2 W0.old) W0 (tw hw 79 rfl) (tw hw 75 rfl) (len := 3) (wd := 0) (by decide) (by decide) (fun _ q => nomatch q)) rfl (lenOf pd_0 rfl) rfl (Nat.le_of_ble_eq_true rfl) d16_0 3 rfl 1 3 (Nat.le_of_ble_eq_true rfl) (Nat.le_of_ble_eq_true rfl) (Nat.le_of_ble_eq_true rfl) (Nat.le_of_ble_eq_true rfl) ?_
  intro v1 T1 h1 u1 W1 R1 hq
  obtain ⟨o1, rfl, E1, g1, A1⟩ := hq
  show Own.Go _ _ _ _ _ 3 #[.val .null, .unset, .unset, .unset, .unset] [(.ref o1)]
  refine Own.astoreN W1 d16_3 4 rfl rfl #[.val .null, .val (.ref o1), .unset, .unset, .unset] rfl ?_
  refine Own.aloadN W1 d16_4 5 rfl (.ref o1) rfl rfl ?_
  refine Own.arrlen W1 A1 d16_5 6 rfl ?_
  refine Own.istoreN W1 d16_6 7 rfl #[.val .null, .val (.ref o1), .val (.int (3 : Int32)), .unset, .unset] rfl ?_
  refine Own.iconst W1 d16_7 8 rfl (0 : Int32) rfl ?_
  refine Own.istoreN W1 d16_8 9 rfl #[.val .null, .val (.ref o1), .val (.int (3 : Int32)), .val (.int (0 : Int32)), .unset] rfl ?_
  refine Own.iloadN W1 d16_9 10 rfl (0 : Int32) rfl ?_
  refine Own.iloadN W1 d16_10 11 rfl (3 : Int32) rfl ?_
  refine Own.icmpNo W1 d16_11 14 (by decide) rfl ?_
  refine Own.aloadN W1 d16_14 15 rfl (.ref o1) rfl rfl ?_
  refine Own.iloadN W1 d16_15 16 rfl (0 : Int32) rfl ?_
  refine Own.aaload W1 A1 rfl (by decide) (.ref r0) rfl d16_16 17 rfl ?_
  refine Own.astore W1 d16_17 19 rfl rfl #[.val .null, .val (.ref o1), .val (.int (3 : Int32)), .val (.int (0 : Int32)), .val (.ref r0)] rfl ?_
  refine Own.aload W1 d16_19 21 rfl (.ref r0) rfl rfl ?_
  have X2 : Ext h h1 := E1
  refine Own.getF W1 (tw hw 95 rfl) Via.refl (lb0.ext X2) d16_21 24 rfl ?_
  intro T3 W3
  refine Own.aloadN W3 d16_24 25 rfl .null rfl rfl ?_
  refine Own.callV W3 (tw hw 97 rfl) (tw hw 98 rfl) (fun s q => notFace_of_selects (args := #[]) (mvT (s := s) q (tw hw 100 rfl))) (tw hw 100 rfl) (tw hw 99 rfl) (by decide) (argsL := [.null]) (rest := []) (Own.Con.pay (con_seqn hw hEL W3.old) W3 (tw hw 101 rfl) (tw hw 2 rfl) (len := 3) (wd := 0) (by decide) (by decide) (fun _ q => nomatch q)) (xb0.ext X2) rfl (lenOf pd_1 rfl) rfl (Nat.le_of_ble_eq_true rfl) d16_25 28 rfl 1 3 (Nat.le_of_ble_eq_true rfl) (Nat.le_of_ble_eq_true rfl) (Nat.le_of_ble_eq_true rfl) (Nat.le_of_ble_eq_true rfl) ?_
  intro v4 T4 h4 u4 W4 R4 hq
  obtain ⟨rfl, eh4⟩ := hq
  have ei4 := eh4.symm; subst ei4
  show Own.Go _ _ _ _ _ 28 #[.val .null, .val (.ref o1), .val (.int (3 : Int32)), .val (.int (0 : Int32)), .val (.ref r0)] [(.int (0 : Int32))]
  refine Own.ifYes W4 d16_28 34 (by decide) (by decide) (by decide) ?_
  refine Own.iinc W4 d16_34 37 rfl rfl #[.val .null, .val (.ref o1), .val (.int (3 : Int32)), .val (.int (1 : Int32)), .val (.ref r0)] rfl ?_
  refine Own.goto W4 d16_37 9 (by decide) (by decide) ?_
  refine Own.iloadN W4 d16_9 10 rfl (1 : Int32) rfl ?_
  refine Own.iloadN W4 d16_10 11 rfl (3 : Int32) rfl ?_
  refine Own.icmpNo W4 d16_11 14 (by decide) rfl ?_
  refine Own.aloadN W4 d16_14 15 rfl (.ref o1) rfl rfl ?_
  refine Own.iloadN W4 d16_15 16 rfl (1 : Int32) rfl ?_
  refine Own.aaload W4 A1 rfl (by decide) (.ref r1) rfl d16_16 17 rfl ?_
  refine Own.astore W4 d16_17 19 rfl rfl #[.val .null, .val (.ref o1), .val (.int (3 : Int32)), .val (.int (1 : Int32)), .val (.ref r1)] rfl ?_
  refine Own.aload W4 d16_19 21 rfl (.ref r1) rfl rfl ?_
  refine Own.getF W4 (tw hw 95 rfl) Via.refl (lb1.ext X2) d16_21 24 rfl ?_
  intro T5 W5
  refine Own.aloadN W5 d16_24 25 rfl .null rfl rfl ?_
  refine Own.callV W5 (tw hw 97 rfl) (tw hw 98 rfl) (fun s q => notFace_of_selects (args := #[]) (mvT (s := s) q (tw hw 100 rfl))) (tw hw 100 rfl) (tw hw 99 rfl) (by decide) (argsL := [.null]) (rest := []) (Own.Con.pay (con_seqn hw hEL W5.old) W5 (tw hw 101 rfl) (tw hw 2 rfl) (len := 3) (wd := 0) (by decide) (by decide) (fun _ q => nomatch q)) (xb1.ext X2) rfl (lenOf pd_1 rfl) rfl (Nat.le_of_ble_eq_true rfl) d16_25 28 rfl 1 3 (Nat.le_of_ble_eq_true rfl) (Nat.le_of_ble_eq_true rfl) (Nat.le_of_ble_eq_true rfl) (Nat.le_of_ble_eq_true rfl) ?_
  intro v6 T6 h6 u6 W6 R6 hq
  obtain ⟨rfl, eh6⟩ := hq
  have ei6 := eh6.symm; subst ei6
  show Own.Go _ _ _ _ _ 28 #[.val .null, .val (.ref o1), .val (.int (3 : Int32)), .val (.int (1 : Int32)), .val (.ref r1)] [(.int (0 : Int32))]
  refine Own.ifYes W6 d16_28 34 (by decide) (by decide) (by decide) ?_
  refine Own.iinc W6 d16_34 37 rfl rfl #[.val .null, .val (.ref o1), .val (.int (3 : Int32)), .val (.int (2 : Int32)), .val (.ref r1)] rfl ?_
  refine Own.goto W6 d16_37 9 (by decide) (by decide) ?_
  refine Own.iloadN W6 d16_9 10 rfl (2 : Int32) rfl ?_
  refine Own.iloadN W6 d16_10 11 rfl (3 : Int32) rfl ?_
  refine Own.icmpNo W6 d16_11 14 (by decide) rfl ?_
  refine Own.aloadN W6 d16_14 15 rfl (.ref o1) rfl rfl ?_
  refine Own.iloadN W6 d16_15 16 rfl (2 : Int32) rfl ?_
  refine Own.aaload W6 A1 rfl (by decide) (.ref r2) rfl d16_16 17 rfl ?_
  refine Own.astore W6 d16_17 19 rfl rfl #[.val .null, .val (.ref o1), .val (.int (3 : Int32)), .val (.int (2 : Int32)), .val (.ref r2)] rfl ?_
  refine Own.aload W6 d16_19 21 rfl (.ref r2) rfl rfl ?_
  refine Own.getF W6 (tw hw 95 rfl) Via.refl (lb2.ext X2) d16_21 24 rfl ?_
  intro T7 W7
  refine Own.aloadN W7 d16_24 25 rfl .null rfl rfl ?_
  refine Own.callV W7 (tw hw 97 rfl) (tw hw 98 rfl) (fun s q => notFace_of_selects (args := #[]) (mvT (s := s) q (tw hw 100 rfl))) (tw hw 100 rfl) (tw hw 99 rfl) (by decide) (argsL := [.null]) (rest := []) (Own.Con.pay (con_seqn hw hEL W7.old) W7 (tw hw 101 rfl) (tw hw 2 rfl) (len := 3) (wd := 0) (by decide) (by decide) (fun _ q => nomatch q)) (xb2.ext X2) rfl (lenOf pd_1 rfl) rfl (Nat.le_of_ble_eq_true rfl) d16_25 28 rfl 1 3 (Nat.le_of_ble_eq_true rfl) (Nat.le_of_ble_eq_true rfl) (Nat.le_of_ble_eq_true rfl) (Nat.le_of_ble_eq_true rfl) ?_
  intro v8 T8 h8 u8 W8 R8 hq
  obtain ⟨rfl, eh8⟩ := hq
  have ei8 := eh8.symm; subst ei8
  show Own.Go _ _ _ _ _ 28 #[.val .null, .val (.ref o1), .val (.int (3 : Int32)), .val (.int (2 : Int32)), .val (.ref r2)] [(.int (0 : Int32))]
  refine Own.ifYes W8 d16_28 34 (by decide) (by decide) (by decide) ?_
  refine Own.iinc W8 d16_34 37 rfl rfl #[.val .null, .val (.ref o1), .val (.int (3 : Int32)), .val (.int (3 : Int32)), .val (.ref r2)] rfl ?_
  refine Own.goto W8 d16_37 9 (by decide) (by decide) ?_
  refine Own.iloadN W8 d16_9 10 rfl (3 : Int32) rfl ?_
  refine Own.iloadN W8 d16_10 11 rfl (3 : Int32) rfl ?_
  refine Own.icmpYes W8 d16_11 40 (by decide) (by decide) (by decide) ?_
  refine Own.aconstNull W8 d16_40 41 rfl ?_
  exact Own.retA W8 (by decide) (by decide) rfl rfl rfl d16_41 ⟨rfl, X2⟩
set_option maxRecDepth 65536 in
set_option maxHeartbeats 40000000 in
theorem con_alc {G : Own.Gl} (hw : ∀ d ∈ tables_1, d.before G.a0 G.Z = true) (hEL : EW G.Z G.a0 G.EL) (k : Int32) (hk : ¬ k < 0 ∧ k < 12) {h : Heap} (hO : Old G.Z G.n0 h) :
    Own.Con G [] bAlc #[.int k] h [] (fun v h' => ∃ o : Addr, v = some (.ref o) ∧ Ext h h' ∧ h.size ≤ o ∧ Own.Chs G.Z h' o k) := by
  refine Own.Con.intro (plainFor_of_name pn_2) hO hEL _ (fun m => ef_bAlc m k) ?_
  intro X T0 W0 sf
  refine Own.iloadN W0 d1_0 1 rfl k rfl ?_
  by_cases e0 : k = (0 : Int32)
  · skip
    refine Own.ifNo W0 d1_1 4 (XT.i0_ne_f e0) rfl ?_
    refine Own.iconst W0 d1_4 5 rfl (0 : Int32) rfl ?_
    refine Own.newA W0 (tw hw 13 rfl) d1_5 7 rfl (by decide) 0 (by decide) (by decide) 1 0 (by decide) (by decide) (by decide) (by decide) ?_
    intro T1 h1 o1 c1 g1 W1 E1 A1 s1 k1
    have V1 : Arv G.Z h1 o1 c1 .char (0 : Int32) [] (.int (0 : Int32)) := A1
    have V2 : Own.Chs G.Z h1 o1 (0 : Int32) := Own.Chs.new (cap := 0) V1 (by decide) (by decide)
    have X3 : Ext h h1 := E1
    exact Own.retA W1 (by decide) (by decide) rfl rfl rfl d1_7 ⟨o1, rfl, X3, (Nat.le_of_eq g1.symm), by rw [e0]; exact V2⟩
  · skip
    refine Own.ifYes W0 d1_1 8 (XT.i0_ne_t e0) (by decide) (by decide) ?_
    refine Own.iloadN W0 d1_8 9 rfl k rfl ?_
    refine Own.iconst W0 d1_9 10 rfl (1 : Int32) rfl ?_
    by_cases e1 : k = (1 : Int32)
    · skip
      refine Own.icmpNo W0 d1_10 13 (XT.ii_ne_f e1) rfl ?_
      refine Own.iconst W0 d1_13 14 rfl (1 : Int32) rfl ?_
      refine Own.newA W0 (tw hw 13 rfl) d1_14 16 rfl (by decide) 1 (by decide) (by decide) 1 1 (by decide) (by decide) (by decide) (by decide) ?_
      intro T4 h4 o4 c4 g4 W4 E4 A4 s4 k4
      have V4 : Arv G.Z h4 o4 c4 .char (1 : Int32) [(.int (0 : Int32))] (.int (0 : Int32)) := A4
      have V5 : Own.Chs G.Z h4 o4 (1 : Int32) := Own.Chs.new (cap := 1) V4 (by decide) (by decide)
      have X6 : Ext h h4 := E4
      exact Own.retA W4 (by decide) (by decide) rfl rfl rfl d1_16 ⟨o4, rfl, X6, (Nat.le_of_eq g4.symm), by rw [e1]; exact V5⟩
    · skip
      refine Own.icmpYes W0 d1_10 17 (XT.ii_ne_t e1) (by decide) (by decide) ?_
      refine Own.iloadN W0 d1_17 18 rfl k rfl ?_
      refine Own.iconst W0 d1_18 19 rfl (2 : Int32) rfl ?_
      by_cases e2 : k = (2 : Int32)
      · skip
        refine Own.icmpNo W0 d1_19 22 (XT.ii_ne_f e2) rfl ?_
        refine Own.iconst W0 d1_22 23 rfl (2 : Int32) rfl ?_
        refine Own.newA W0 (tw hw 13 rfl) d1_23 25 rfl (by decide) 2 (by decide) (by decide) 1 2 (by decide) (by decide) (by decide) (by decide) ?_
        intro T7 h7 o7 c7 g7 W7 E7 A7 s7 k7
        have V7 : Arv G.Z h7 o7 c7 .char (2 : Int32) [(.int (0 : Int32)), (.int (0 : Int32))] (.int (0 : Int32)) := A7
        have V8 : Own.Chs G.Z h7 o7 (2 : Int32) := Own.Chs.new (cap := 2) V7 (by decide) (by decide)
        have X9 : Ext h h7 := E7
        exact Own.retA W7 (by decide) (by decide) rfl rfl rfl d1_25 ⟨o7, rfl, X9, (Nat.le_of_eq g7.symm), by rw [e2]; exact V8⟩
      · skip
        refine Own.icmpYes W0 d1_19 26 (XT.ii_ne_t e2) (by decide) (by decide) ?_
        refine Own.iloadN W0 d1_26 27 rfl k rfl ?_
        refine Own.iconst W0 d1_27 28 rfl (3 : Int32) rfl ?_
        by_cases e3 : k = (3 : Int32)
        · skip
          refine Own.icmpNo W0 d1_28 31 (XT.ii_ne_f e3) rfl ?_
          refine Own.iconst W0 d1_31 32 rfl (3 : Int32) rfl ?_
          refine Own.newA W0 (tw hw 13 rfl) d1_32 34 rfl (by decide) 3 (by decide) (by decide) 1 3 (by decide) (by decide) (by decide) (by decide) ?_
          intro T10 h10 o10 c10 g10 W10 E10 A10 s10 k10
          have V10 : Arv G.Z h10 o10 c10 .char (3 : Int32) [(.int (0 : Int32)), (.int (0 : Int32)), (.int (0 : Int32))] (.int (0 : Int32)) := A10
          have V11 : Own.Chs G.Z h10 o10 (3 : Int32) := Own.Chs.new (cap := 3) V10 (by decide) (by decide)
          have X12 : Ext h h10 := E10
          exact Own.retA W10 (by decide) (by decide) rfl rfl rfl d1_34 ⟨o10, rfl, X12, (Nat.le_of_eq g10.symm), by rw [e3]; exact V11⟩
        · skip
          refine Own.icmpYes W0 d1_28 35 (XT.ii_ne_t e3) (by decide) (by decide) ?_
          refine Own.iloadN W0 d1_35 36 rfl k rfl ?_
          refine Own.iconst W0 d1_36 37 rfl (4 : Int32) rfl ?_
          by_cases e4 : k = (4 : Int32)
          · skip
            refine Own.icmpNo W0 d1_37 40 (XT.ii_ne_f e4) rfl ?_
            refine Own.iconst W0 d1_40 41 rfl (4 : Int32) rfl ?_
            refine Own.newA W0 (tw hw 13 rfl) d1_41 43 rfl (by decide) 4 (by decide) (by decide) 1 4 (by decide) (by decide) (by decide) (by decide) ?_
            intro T13 h13 o13 c13 g13 W13 E13 A13 s13 k13
            have V13 : Arv G.Z h13 o13 c13 .char (4 : Int32) [(.int (0 : Int32)), (.int (0 : Int32)), (.int (0 : Int32)), (.int (0 : Int32))] (.int (0 : Int32)) := A13
            have V14 : Own.Chs G.Z h13 o13 (4 : Int32) := Own.Chs.new (cap := 4) V13 (by decide) (by decide)
            have X15 : Ext h h13 := E13
            exact Own.retA W13 (by decide) (by decide) rfl rfl rfl d1_43 ⟨o13, rfl, X15, (Nat.le_of_eq g13.symm), by rw [e4]; exact V14⟩
          · skip
            refine Own.icmpYes W0 d1_37 44 (XT.ii_ne_t e4) (by decide) (by decide) ?_
            refine Own.iloadN W0 d1_44 45 rfl k rfl ?_
            refine Own.iconst W0 d1_45 46 rfl (5 : Int32) rfl ?_
            by_cases e5 : k = (5 : Int32)
            · skip
              refine Own.icmpNo W0 d1_46 49 (XT.ii_ne_f e5) rfl ?_
              refine Own.iconst W0 d1_49 50 rfl (5 : Int32) rfl ?_
              refine Own.newA W0 (tw hw 13 rfl) d1_50 52 rfl (by decide) 5 (by decide) (by decide) 1 5 (by decide) (by decide) (by decide) (by decide) ?_
              intro T16 h16 o16 c16 g16 W16 E16 A16 s16 k16
              have V16 : Arv G.Z h16 o16 c16 .char (5 : Int32) [(.int (0 : Int32)), (.int (0 : Int32)), (.int (0 : Int32)), (.int (0 : Int32)), (.int (0 : Int32))] (.int (0 : Int32)) := A16
              have V17 : Own.Chs G.Z h16 o16 (5 : Int32) := Own.Chs.new (cap := 5) V16 (by decide) (by decide)
              have X18 : Ext h h16 := E16
              exact Own.retA W16 (by decide) (by decide) rfl rfl rfl d1_52 ⟨o16, rfl, X18, (Nat.le_of_eq g16.symm), by rw [e5]; exact V17⟩
            · skip
              refine Own.icmpYes W0 d1_46 53 (XT.ii_ne_t e5) (by decide) (by decide) ?_
              refine Own.iloadN W0 d1_53 54 rfl k rfl ?_
              refine Own.bipush W0 d1_54 56 rfl (6 : Int32) rfl ?_
              by_cases e6 : k = (6 : Int32)
              · skip
                refine Own.icmpNo W0 d1_56 59 (XT.ii_ne_f e6) rfl ?_
                refine Own.bipush W0 d1_59 61 rfl (6 : Int32) rfl ?_
                refine Own.newA W0 (tw hw 13 rfl) d1_61 63 rfl (by decide) 6 (by decide) (by decide) 1 6 (by decide) (by decide) (by decide) (by decide) ?_
                intro T19 h19 o19 c19 g19 W19 E19 A19 s19 k19
                have V19 : Arv G.Z h19 o19 c19 .char (6 : Int32) [(.int (0 : Int32)), (.int (0 : Int32)), (.int (0 : Int32)), (.int (0 : Int32)), (.int (0 : Int32)), (.int (0 : Int32))] (.int (0 : Int32)) := A19
                have V20 : Own.Chs G.Z h19 o19 (6 : Int32) := Own.Chs.new (cap := 6) V19 (by decide) (by decide)
                have X21 : Ext h h19 := E19
                exact Own.retA W19 (by decide) (by decide) rfl rfl rfl d1_63 ⟨o19, rfl, X21, (Nat.le_of_eq g19.symm), by rw [e6]; exact V20⟩
              · skip
                refine Own.icmpYes W0 d1_56 64 (XT.ii_ne_t e6) (by decide) (by decide) ?_
                refine Own.iloadN W0 d1_64 65 rfl k rfl ?_
                refine Own.bipush W0 d1_65 67 rfl (7 : Int32) rfl ?_
                by_cases e7 : k = (7 : Int32)
                · skip
                  refine Own.icmpNo W0 d1_67 70 (XT.ii_ne_f e7) rfl ?_
                  refine Own.bipush W0 d1_70 72 rfl (7 : Int32) rfl ?_
                  refine Own.newA W0 (tw hw 13 rfl) d1_72 74 rfl (by decide) 7 (by decide) (by decide) 1 7 (by decide) (by decide) (by decide) (by decide) ?_
                  intro T22 h22 o22 c22 g22 W22 E22 A22 s22 k22
                  have V22 : Arv G.Z h22 o22 c22 .char (7 : Int32) [(.int (0 : Int32)), (.int (0 : Int32)), (.int (0 : Int32)), (.int (0 : Int32)), (.int (0 : Int32)), (.int (0 : Int32)), (.int (0 : Int32))] (.int (0 : Int32)) := A22
                  have V23 : Own.Chs G.Z h22 o22 (7 : Int32) := Own.Chs.new (cap := 7) V22 (by decide) (by decide)
                  have X24 : Ext h h22 := E22
                  exact Own.retA W22 (by decide) (by decide) rfl rfl rfl d1_74 ⟨o22, rfl, X24, (Nat.le_of_eq g22.symm), by rw [e7]; exact V23⟩
                · skip
                  refine Own.icmpYes W0 d1_67 75 (XT.ii_ne_t e7) (by decide) (by decide) ?_
                  refine Own.iloadN W0 d1_75 76 rfl k rfl ?_
                  refine Own.bipush W0 d1_76 78 rfl (8 : Int32) rfl ?_
                  by_cases e8 : k = (8 : Int32)
                  · skip
                    refine Own.icmpNo W0 d1_78 81 (XT.ii_ne_f e8) rfl ?_
                    refine Own.bipush W0 d1_81 83 rfl (8 : Int32) rfl ?_
                    refine Own.newA W0 (tw hw 13 rfl) d1_83 85 rfl (by decide) 8 (by decide) (by decide) 1 8 (by decide) (by decide) (by decide) (by decide) ?_
                    intro T25 h25 o25 c25 g25 W25 E25 A25 s25 k25
                    have V25 : Arv G.Z h25 o25 c25 .char (8 : Int32) [(.int (0 : Int32)), (.int (0 : Int32)), (.int (0 : Int32)), (.int (0 : Int32)), (.int (0 : Int32)), (.int (0 : Int32)), (.int (0 : Int32)), (.int (0 : Int32))] (.int (0 : Int32)) := A25
                    have V26 : Own.Chs G.Z h25 o25 (8 : Int32) := Own.Chs.new (cap := 8) V25 (by decide) (by decide)
                    have X27 : Ext h h25 := E25
                    exact Own.retA W25 (by decide) (by decide) rfl rfl rfl d1_85 ⟨o25, rfl, X27, (Nat.le_of_eq g25.symm), by rw [e8]; exact V26⟩
                  · skip
                    refine Own.icmpYes W0 d1_78 86 (XT.ii_ne_t e8) (by decide) (by decide) ?_
                    refine Own.iloadN W0 d1_86 87 rfl k rfl ?_
                    refine Own.bipush W0 d1_87 89 rfl (9 : Int32) rfl ?_
                    by_cases e9 : k = (9 : Int32)
                    · skip
                      refine Own.icmpNo W0 d1_89 92 (XT.ii_ne_f e9) rfl ?_
                      refine Own.bipush W0 d1_92 94 rfl (9 : Int32) rfl ?_
                      refine Own.newA W0 (tw hw 13 rfl) d1_94 96 rfl (by decide) 9 (by decide) (by decide) 1 9 (by decide) (by decide) (by decide) (by decide) ?_
                      intro T28 h28 o28 c28 g28 W28 E28 A28 s28 k28
                      have V28 : Arv G.Z h28 o28 c28 .char (9 : Int32) [(.int (0 : Int32)), (.int (0 : Int32)), (.int (0 : Int32)), (.int (0 : Int32)), (.int (0 : Int32)), (.int (0 : Int32)), (.int (0 : Int32)), (.int (0 : Int32)), (.int (0 : Int32))] (.int (0 : Int32)) := A28
                      have V29 : Own.Chs G.Z h28 o28 (9 : Int32) := Own.Chs.new (cap := 9) V28 (by decide) (by decide)
                      have X30 : Ext h h28 := E28
                      exact Own.retA W28 (by decide) (by decide) rfl rfl rfl d1_96 ⟨o28, rfl, X30, (Nat.le_of_eq g28.symm), by rw [e9]; exact V29⟩
                    · skip
                      refine Own.icmpYes W0 d1_89 97 (XT.ii_ne_t e9) (by decide) (by decide) ?_
                      refine Own.iloadN W0 d1_97 98 rfl k rfl ?_
                      refine Own.bipush W0 d1_98 100 rfl (10 : Int32) rfl ?_
                      by_cases e10 : k = (10 : Int32)
                      · skip
                        refine Own.icmpNo W0 d1_100 103 (XT.ii_ne_f e10) rfl ?_
                        refine Own.bipush W0 d1_103 105 rfl (10 : Int32) rfl ?_
                        refine Own.newA W0 (tw hw 13 rfl) d1_105 107 rfl (by decide) 10 (by decide) (by decide) 1 10 (by decide) (by decide) (by decide) (by decide) ?_
                        intro T31 h31 o31 c31 g31 W31 E31 A31 s31 k31
                        have V31 : Arv G.Z h31 o31 c31 .char (10 : Int32) [(.int (0 : Int32)), (.int (0 : Int32)), (.int (0 : Int32)), (.int (0 : Int32)), (.int (0 : Int32)), (.int (0 : Int32)), (.int (0 : Int32)), (.int (0 : Int32)), (.int (0 : Int32)), (.int (0 : Int32))] (.int (0 : Int32)) := A31
                        have V32 : Own.Chs G.Z h31 o31 (10 : Int32) := Own.Chs.new (cap := 10) V31 (by decide) (by decide)
                        have X33 : Ext h h31 := E31
                        exact Own.retA W31 (by decide) (by decide) rfl rfl rfl d1_107 ⟨o31, rfl, X33, (Nat.le_of_eq g31.symm), by rw [e10]; exact V32⟩
                      · skip
                        refine Own.icmpYes W0 d1_100 108 (XT.ii_ne_t e10) (by decide) (by decide) ?_
                        refine Own.bipush W0 d1_108 110 rfl (11 : Int32) rfl ?_
                        refine Own.newA W0 (tw hw 13 rfl) d1_110 112 rfl (by decide) 11 (by decide) (by decide) 1 11 (by decide) (by decide) (by decide) (by decide) ?_
                        intro T34 h34 o34 c34 g34 W34 E34 A34 s34 k34
                        have V34 : Arv G.Z h34 o34 c34 .char (11 : Int32) [(.int (0 : Int32)), (.int (0 : Int32)), (.int (0 : Int32)), (.int (0 : Int32)), (.int (0 : Int32)), (.int (0 : Int32)), (.int (0 : Int32)), (.int (0 : Int32)), (.int (0 : Int32)), (.int (0 : Int32)), (.int (0 : Int32))] (.int (0 : Int32)) := A34
                        have V35 : Own.Chs G.Z h34 o34 (11 : Int32) := Own.Chs.new (cap := 11) V34 (by decide) (by decide)
                        have X36 : Ext h h34 := E34
                        exact Own.retA W34 (by decide) (by decide) rfl rfl rfl d1_112 ⟨o34, rfl, X36, (Nat.le_of_eq g34.symm), by rw [last11 k hk e0 e1 e2 e3 e4 e5 e6 e7 e8 e9 e10]; exact V35⟩
set_option maxRecDepth 65536 in
set_option maxHeartbeats 40000000 in
theorem con_fil {G : Own.Gl} (hw : ∀ d ∈ tables_1, d.before G.a0 G.Z = true) (hEL : EW G.Z G.a0 G.EL) (hmem : (Own.ST, 7) ∈ G.EL) {cz : Int32} (hS : Sta G.Z G.Z.heap Own.ST "COMPACT_STRINGS" "Z" (.int cz)) (hcz : ¬ cz = 0) {fm : Value} (SF : Sta G.Z G.Z.heap "jdk/internal/util/Preconditions" "SIOOBE_FORMATTER" "Ljava/util/function/BiFunction;" fm) (rfm : fm.isRef = true) {a bs : Addr} {i n : Int32} (ii : Nat) (hi : i = Int32.ofNat ii) (hi0 : ¬ i < 0) (hb : ii ≤ 4000) (t1 t2 : Int32) (ht1 : Own.Rg t1) (ht2 : Own.Rg t2) {cs : List Int32} {h : Heap} (hO : Old G.Z G.n0 h) (hn_a : G.n0 ≤ a) (Ca : Own.Chs G.Z h a n) (Sb : Own.Str G.Z h bs cs) :
    Own.Con G [] bFil #[.ref a, .int i, .ref bs, .int t1, .int t2] h [] (fun v h' => v = none ∧ Keep h h' [a] ∧ Own.Chs G.Z h' a n) := by
  refine Own.Con.intro (plainFor_of_name pn_2) hO hEL _ (fun m => ef_bFil m a i bs t1 t2) ?_
  intro X T0 W0 sf
  have Xb := Sb.exa
  refine Own.iloadN W0 d2_0 1 rfl i rfl ?_
  refine Own.aloadN W0 d2_1 2 rfl (.ref a) rfl rfl ?_
  refine Own.arrlenC W0 Ca d2_2 3 rfl ?_
  by_cases e0 : i < n
  · skip
    refine Own.icmpNo W0 d2_3 6 (XT.ii_ge_f e0) rfl ?_
    refine Own.aloadN W0 d2_6 7 rfl (.ref a) rfl rfl ?_
    refine Own.iloadN W0 d2_7 8 rfl i rfl ?_
    refine Own.iloadN W0 d2_8 9 rfl i rfl ?_
    refine Own.aloadN W0 d2_9 10 rfl (.ref bs) rfl rfl ?_
    refine Own.callV W0 (tw hw 17 rfl) (tw hw 18 rfl) (fun s q => notFace_of_selects (args := #[]) (mvT (s := s) q (tw hw 20 rfl))) (tw hw 20 rfl) (tw hw 19 rfl) (by decide) (argsL := []) (rest := [(.int i), (.int i), (.ref a)]) (Own.payLen (wL hw) (kI := 4) (tw hw 3 rfl) W0 Sb hS hcz (len := 3) (wd := 3) (by decide) (by decide)) Xb rfl (lenOf pd_2 rfl) rfl (Nat.le_of_ble_eq_true rfl) d2_10 13 rfl 0 0 (Nat.le_of_ble_eq_true rfl) (Nat.le_of_ble_eq_true rfl) (Nat.le_of_ble_eq_true rfl) (Nat.le_of_ble_eq_true rfl) ?_
    intro v1 T1 h1 u1 W1 R1 hq
    obtain ⟨rfl, eh1⟩ := hq
    have ei1 := eh1.symm; subst ei1
    show Own.Go _ _ _ _ _ 13 #[.val (.ref a), .val (.int i), .val (.ref bs), .val (.int t1), .val (.int t2)] [(.int (Int32.ofNat cs.length)), (.int i), (.int i), (.ref a)]
    have J : ∀ (vJ : Vm) (TJ : State) (cc : Int32), Own.Here G X bFil vJ TJ h 0 0 → Own.Rg cc → Own.Go G X bFil (fun v h' => v = none ∧ Keep h h' [a] ∧ Own.Chs G.Z h' a n) TJ 36 #[.val (.ref a), .val (.int i), .val (.ref bs), .val (.int t1), .val (.int t2)] [(.int cc), (.int i), (.ref a)] := by
      intro vJ TJ cc WJ hcc
      refine Own.castoreC WJ Ca ⟨hi0, e0⟩ hn_a hcc d2_36 37 rfl ?_
      intro T2 h2 W2 Q2 V2 k2
      exact Own.retV W2 (by decide) (by decide) rfl d2_37 ⟨rfl, (Keep.wr (Keep.refl h [a]) Q2 (Or.inl (List.mem_singleton.mpr rfl))), V2⟩
    by_cases e1 : i < (Int32.ofNat cs.length)
    · skip
      refine Own.icmpNo W1 d2_13 16 (XT.ii_ge_f e1) rfl ?_
      refine Own.aloadN W1 d2_16 17 rfl (.ref bs) rfl rfl ?_
      refine Own.iloadN W1 d2_17 18 rfl i rfl ?_
      have hl := lt_len hi Sb.2.2.2.1 e1 hb
      refine Own.callV W1 (tw hw 30 rfl) (tw hw 31 rfl) (fun s q => notFace_of_selects (args := #[]) (mvT (s := s) q (tw hw 33 rfl))) (tw hw 33 rfl) (tw hw 32 rfl) (by decide) (argsL := [(.int i)]) (rest := [(.int i), (.ref a)]) (Own.payChr (wC hw) (kI := 4) (tw hw 3 rfl) W1 Sb hS hcz SF rfm (i := ii) hl hi (len := 3) (wd := 2) (by decide) (by decide)) Xb rfl (lenOf pd_3 rfl) rfl (Nat.le_of_ble_eq_true rfl) d2_18 21 rfl 0 0 (Nat.le_of_ble_eq_true rfl) (Nat.le_of_ble_eq_true rfl) (Nat.le_of_ble_eq_true rfl) (Nat.le_of_ble_eq_true rfl) ?_
      intro v3 T3 h3 u3 W3 R3 hq
      obtain ⟨rfl, eh3⟩ := hq
      have ei3 := eh3.symm; subst ei3
      show Own.Go _ _ _ _ _ 21 #[.val (.ref a), .val (.int i), .val (.ref bs), .val (.int t1), .val (.int t2)] [(.int (cs.getD ii 0)), (.int i), (.ref a)]
      refine Own.goto W3 d2_21 36 (by decide) (by decide) ?_
      exact J _ _ _ W3 (getD_rg Sb.2.2.1 hl)
    · skip
      refine Own.icmpYes W1 d2_13 24 (XT.ii_ge_t e1) (by decide) (by decide) ?_
      refine Own.iloadN W1 d2_24 25 rfl i rfl ?_
      refine Own.iconst W1 d2_25 26 rfl (1 : Int32) rfl ?_
      refine Own.iand W1 d2_26 27 rfl ?_
      by_cases e2 : (i &&& (1 : Int32)) = (0 : Int32)
      · skip
        refine Own.ifNo W1 d2_27 30 (XT.i0_ne_f e2) rfl ?_
        refine Own.iloadN W1 d2_30 31 rfl t1 rfl ?_
        refine Own.goto W1 d2_31 36 (by decide) (by decide) ?_
        exact J _ _ _ W1 ht1
      · skip
        refine Own.ifYes W1 d2_27 34 (XT.i0_ne_t e2) (by decide) (by decide) ?_
        refine Own.iload W1 d2_34 36 rfl t2 rfl ?_
        exact J _ _ _ W1 ht2
  · skip
    refine Own.icmpYes W0 d2_3 37 (XT.ii_ge_t e0) (by decide) (by decide) ?_
    exact Own.retV W0 (by decide) (by decide) rfl d2_37 ⟨rfl, Keep.refl h [a], Ca⟩
set_option maxRecDepth 65536 in
set_option maxHeartbeats 40000000 in
theorem con_expN {G : Own.Gl} (hw : ∀ d ∈ tables_1, d.before G.a0 G.Z = true) (hEL : EW G.Z G.a0 G.EL) {h : Heap} (hO : Old G.Z G.n0 h) :
    Own.Con G [] bExp #[.null] h [] (fun v h' => v = some .null ∧ h' = h) := by
  refine Own.Con.intro (plainFor_of_name pn_2) hO hEL _ (fun m => ef_bExp m ) ?_
  intro X T0 W0 sf
  refine Own.aloadN W0 d20_0 1 rfl .null rfl rfl ?_
  refine Own.ifnonnullNo W0 d20_1 4 rfl ?_
  refine Own.aconstNull W0 d20_4 5 rfl ?_
  exact Own.retA W0 (by decide) (by decide) rfl rfl rfl d20_5 ⟨rfl, rfl⟩
set_option maxRecDepth 65536 in
set_option maxHeartbeats 40000000 in
theorem con_exp {G : Own.Gl} (hw : ∀ d ∈ tables_1, d.before G.a0 G.Z = true) (hEL : EW G.Z G.a0 G.EL) (hmem : (Own.ST, 7) ∈ G.EL) {cz : Int32} (hS : Sta G.Z G.Z.heap Own.ST "COMPACT_STRINGS" "Z" (.int cz)) (hcz : ¬ cz = 0) (hE : G.EL = consts_1) {rv r0 r1 r2 l0 l1 l2 : Addr} {kV : ClassId} (TV : Sta G.Z G.Z.heap "com/example/couplet/couplet/core/Envelope" "$VALUES" "[Lcom/example/couplet/couplet/core/Envelope;" (.ref rv)) (AV : Arv G.Z G.Z.heap rv kV (.object "com/example/couplet/couplet/core/Envelope") 3 [(.ref r0), (.ref r1), (.ref r2)] .null) (XV : Exa G.Z G.Z.heap rv "[Lcom/example/couplet/couplet/core/Envelope;") (TE0 : Sta G.Z G.Z.heap "com/example/couplet/couplet/core/Envelope" "OP_BEFORE_AFTER" "Lcom/example/couplet/couplet/core/Envelope;" (.ref r0)) (LE0 : Fld G.Z G.Z.heap r0 "com/example/couplet/couplet/core/Envelope" "label" "Ljava/lang/String;" (.ref l0)) (SE0 : Own.Str G.Z G.Z.heap l0 [(100 : Int32), (101 : Int32), (98 : Int32), (101 : Int32), (122 : Int32), (105 : Int32), (117 : Int32), (109 : Int32)]) (TE1 : Sta G.Z G.Z.heap "com/example/couplet/couplet/core/Envelope" "OP_TYPE_BEFORE_AFTER" "Lcom/example/couplet/couplet/core/Envelope;" (.ref r1)) (LE1 : Fld G.Z G.Z.heap r1 "com/example/couplet/couplet/core/Envelope" "label" "Ljava/lang/String;" (.ref l1)) (SE1 : Own.Str G.Z G.Z.heap l1 [(103 : Int32), (111 : Int32), (108 : Int32), (100 : Int32), (101 : Int32), (110 : Int32), (103 : Int32), (97 : Int32), (116 : Int32), (101 : Int32)]) (TE2 : Sta G.Z G.Z.heap "com/example/couplet/couplet/core/Envelope" "WHOLE_RECORD" "Lcom/example/couplet/couplet/core/Envelope;" (.ref r2)) (LE2 : Fld G.Z G.Z.heap r2 "com/example/couplet/couplet/core/Envelope" "label" "Ljava/lang/String;" (.ref l2)) (SE2 : Own.Str G.Z G.Z.heap l2 [(100 : Int32), (98 : Int32), (50 : Int32)]) {x : Addr} {cs : List Int32} {h : Heap} (hO : Old G.Z G.n0 h) (Sx : Own.Str G.Z h x cs) :
    Own.Con G [] bExp #[.ref x] h [] (fun v h' => ((v = some (.ref r0) ∧ cs = [(100 : Int32), (101 : Int32), (98 : Int32), (101 : Int32), (122 : Int32), (105 : Int32), (117 : Int32), (109 : Int32)]) ∨ (v = some (.ref r1) ∧ ¬ cs = [(100 : Int32), (101 : Int32), (98 : Int32), (101 : Int32), (122 : Int32), (105 : Int32), (117 : Int32), (109 : Int32)] ∧ cs = [(103 : Int32), (111 : Int32), (108 : Int32), (100 : Int32), (101 : Int32), (110 : Int32), (103 : Int32), (97 : Int32), (116 : Int32), (101 : Int32)]) ∨ (v = some (.ref r2) ∧ ¬ cs = [(100 : Int32), (101 : Int32), (98 : Int32), (101 : Int32), (122 : Int32), (105 : Int32), (117 : Int32), (109 : Int32)] ∧ ¬ cs = [(103 : Int32), (111 : Int32), (108 : Int32), (100 : Int32), (101 : Int32), (110 : Int32), (103 : Int32), (97 : Int32), (116 : Int32), (101 : Int32)] ∧ cs = [(100 : Int32), (98 : Int32), (50 : Int32)]) ∨ (v = some .null ∧ ¬ cs = [(100 : Int32), (101 : Int32), (98 : Int32), (101 : Int32), (122 : Int32), (105 : Int32), (117 : Int32), (109 : Int32)] ∧ ¬ cs = [(103 : Int32), (111 : Int32), (108 : Int32), (100 : Int32), (101 : Int32), (110 : Int32), (103 : Int32), (97 : Int32), (116 : Int32), (101 : Int32)] ∧ ¬ cs = [(100 : Int32), (98 : Int32), (50 : Int32)])) ∧ Ext h h') := by
  refine Own.Con.intro (plainFor_of_name pn_2) hO hEL _ (fun m => ef_bExpR m x) ?_
  intro X T0 W0 sf
  have Ex := Sx.exa
  refine Own.aloadN W0 d20_0 1 rfl (.ref x) rfl rfl ?_
  refine Own.ifnonnullYes W0 d20_1 6 (by decide) (by decide) ?_
  refine Own.aloadN W0 d20_6 7 rfl (.ref x) rfl rfl ?_
  refine Own.ldcR W0 (tw hw 1 rfl) (Own.sAtoms (wS hw)) (by rw [hE]; decide) (vs := [(.int (100 : Int32)), (.int (101 : Int32)), (.int (98 : Int32)), (.int (101 : Int32)), (.int (122 : Int32)), (.int (105 : Int32)), (.int (117 : Int32)), (.int (109 : Int32))]) (z := (8 : Int32)) ⟨by decide, by decide⟩ (by decide) (by decide) d20_7 9 rfl 32 (by decide) (by decide) 2 36 (Nat.le_of_ble_eq_true rfl) (Nat.le_of_ble_eq_true rfl) (Nat.le_of_ble_eq_true rfl) (Nat.le_of_ble_eq_true rfl) ?_
  intro v1 T1 h1 o1 b1 q1 W1 R1 E1 fa1 fc1 fv1 fb1 ne1
  have F1 : Own.Str G.Z h1 o1 [(100 : Int32), (101 : Int32), (98 : Int32), (101 : Int32), (122 : Int32), (105 : Int32), (117 : Int32), (109 : Int32)] := ⟨fa1, fc1, by decide, by decide, b1, q1, fv1, fb1⟩
  have X2 : Ext h h1 := E1
  refine Own.callV W1 (tw hw 109 rfl) (tw hw 98 rfl) (fun s q => notFace_of_selects (args := #[]) (mvT (s := s) q (tw hw 100 rfl))) (tw hw 100 rfl) (tw hw 99 rfl) (by decide) (argsL := [(.ref o1)]) (rest := []) (Own.payEq (wQ hw) (kI := 4) (tw hw 3 rfl) W1 (Sx.ext X2) F1 hS hcz (len := 3) (wd := 0) (by decide) (by decide)) (Ex.ext X2) rfl (lenOf pd_1 rfl) rfl (Nat.le_of_ble_eq_true rfl) d20_9 12 rfl 2 36 (Nat.le_of_ble_eq_true rfl) (Nat.le_of_ble_eq_true rfl) (Nat.le_of_ble_eq_true rfl) (Nat.le_of_ble_eq_true rfl) ?_
  intro v3 T3 h3 u3 W3 R3 hq
  obtain ⟨hv3, eh3⟩ := hq
  have ei3 := eh3.symm; subst ei3
  rcases hv3 with ⟨rfl, x0⟩ | ⟨rfl, x0⟩
  · skip
    show Own.Go _ _ _ _ _ 12 #[.val (.ref x)] [(.int (1 : Int32))]
    refine Own.ifNo W3 d20_12 15 (by decide) rfl ?_
    refine Own.getS W3 (tw hw 115 rfl) Via.refl (W3.sta TE0) d20_15 18 rfl ?_
    intro T4 W4
    exact Own.retA W4 (by decide) (by decide) rfl rfl rfl d20_18 ⟨Or.inl ⟨rfl, x0⟩, X2⟩
  · skip
    show Own.Go _ _ _ _ _ 12 #[.val (.ref x)] [(.int (0 : Int32))]
    refine Own.ifYes W3 d20_12 19 (by decide) (by decide) (by decide) ?_
    refine Own.aloadN W3 d20_19 20 rfl (.ref x) rfl rfl ?_
    refine Own.ldcR W3 (tw hw 110 rfl) (Own.sAtoms (wS hw)) (by rw [hE]; decide) (vs := [(.int (103 : Int32)), (.int (111 : Int32)), (.int (108 : Int32)), (.int (100 : Int32)), (.int (101 : Int32)), (.int (110 : Int32)), (.int (103 : Int32)), (.int (97 : Int32)), (.int (116 : Int32)), (.int (101 : Int32))]) (z := (10 : Int32)) ⟨by decide, by decide⟩ (by decide) (by decide) d20_20 22 rfl 40 (by decide) (by decide) 4 80 (Nat.le_of_ble_eq_true rfl) (Nat.le_of_ble_eq_true rfl) (Nat.le_of_ble_eq_true rfl) (Nat.le_of_ble_eq_true rfl) ?_
    intro v5 T5 h5 o5 b5 q5 W5 R5 E5 fa5 fc5 fv5 fb5 ne5
    have F5 : Own.Str G.Z h5 o5 [(103 : Int32), (111 : Int32), (108 : Int32), (100 : Int32), (101 : Int32), (110 : Int32), (103 : Int32), (97 : Int32), (116 : Int32), (101 : Int32)] := ⟨fa5, fc5, by decide, by decide, b5, q5, fv5, fb5⟩
    have X6 : Ext h h5 := Own.Ext.tr X2 E5
    refine Own.callV W5 (tw hw 109 rfl) (tw hw 98 rfl) (fun s q => notFace_of_selects (args := #[]) (mvT (s := s) q (tw hw 100 rfl))) (tw hw 100 rfl) (tw hw 99 rfl) (by decide) (argsL := [(.ref o5)]) (rest := []) (Own.payEq (wQ hw) (kI := 4) (tw hw 3 rfl) W5 (Sx.ext X6) F5 hS hcz (len := 3) (wd := 0) (by decide) (by decide)) (Ex.ext X6) rfl (lenOf pd_1 rfl) rfl (Nat.le_of_ble_eq_true rfl) d20_22 25 rfl 4 80 (Nat.le_of_ble_eq_true rfl) (Nat.le_of_ble_eq_true rfl) (Nat.le_of_ble_eq_true rfl) (Nat.le_of_ble_eq_true rfl) ?_
    intro v7 T7 h7 u7 W7 R7 hq
    obtain ⟨hv7, eh7⟩ := hq
    have ei7 := eh7.symm; subst ei7
    rcases hv7 with ⟨rfl, x1⟩ | ⟨rfl, x1⟩
    · skip
      show Own.Go _ _ _ _ _ 25 #[.val (.ref x)] [(.int (1 : Int32))]
      refine Own.ifNo W7 d20_25 28 (by decide) rfl ?_
      refine Own.getS W7 (tw hw 116 rfl) Via.refl (W7.sta TE1) d20_28 31 rfl ?_
      intro T8 W8
      exact Own.retA W8 (by decide) (by decide) rfl rfl rfl d20_31 ⟨Or.inr (Or.inl ⟨rfl, x0, x1⟩), X6⟩
    · skip
      show Own.Go _ _ _ _ _ 25 #[.val (.ref x)] [(.int (0 : Int32))]
      refine Own.ifYes W7 d20_25 32 (by decide) (by decide) (by decide) ?_
      refine Own.aloadN W7 d20_32 33 rfl (.ref x) rfl rfl ?_
      refine Own.ldcR W7 (tw hw 111 rfl) (Own.sAtoms (wS hw)) (by rw [hE]; decide) (vs := [(.int (100 : Int32)), (.int (98 : Int32)), (.int (50 : Int32))]) (z := (3 : Int32)) ⟨by decide, by decide⟩ (by decide) (by decide) d20_33 35 rfl 12 (by decide) (by decide) 6 96 (Nat.le_of_ble_eq_true rfl) (Nat.le_of_ble_eq_true rfl) (Nat.le_of_ble_eq_true rfl) (Nat.le_of_ble_eq_true rfl) ?_
      intro v9 T9 h9 o9 b9 q9 W9 R9 E9 fa9 fc9 fv9 fb9 ne9
      have F9 : Own.Str G.Z h9 o9 [(100 : Int32), (98 : Int32), (50 : Int32)] := ⟨fa9, fc9, by decide, by decide, b9, q9, fv9, fb9⟩
      have X10 : Ext h h9 := Own.Ext.tr X6 E9
      refine Own.callV W9 (tw hw 109 rfl) (tw hw 98 rfl) (fun s q => notFace_of_selects (args := #[]) (mvT (s := s) q (tw hw 100 rfl))) (tw hw 100 rfl) (tw hw 99 rfl) (by decide) (argsL := [(.ref o9)]) (rest := []) (Own.payEq (wQ hw) (kI := 4) (tw hw 3 rfl) W9 (Sx.ext X10) F9 hS hcz (len := 3) (wd := 0) (by decide) (by decide)) (Ex.ext X10) rfl (lenOf pd_1 rfl) rfl (Nat.le_of_ble_eq_true rfl) d20_35 38 rfl 6 96 (Nat.le_of_ble_eq_true rfl) (Nat.le_of_ble_eq_true rfl) (Nat.le_of_ble_eq_true rfl) (Nat.le_of_ble_eq_true rfl) ?_
      intro v11 T11 h11 u11 W11 R11 hq
      obtain ⟨hv11, eh11⟩ := hq
      have ei11 := eh11.symm; subst ei11
      rcases hv11 with ⟨rfl, x2⟩ | ⟨rfl, x2⟩
      · skip
        show Own.Go _ _ _ _ _ 38 #[.val (.ref x)] [(.int (1 : Int32))]
        refine Own.ifNo W11 d20_38 41 (by decide) rfl ?_
        refine Own.getS W11 (tw hw 114 rfl) Via.refl (W11.sta TE2) d20_41 44 rfl ?_
        intro T12 W12
        exact Own.retA W12 (by decide) (by decide) rfl rfl rfl d20_44 ⟨Or.inr (Or.inr (Or.inl ⟨rfl, x0, x1, x2⟩)), X10⟩
      · skip
        show Own.Go _ _ _ _ _ 38 #[.val (.ref x)] [(.int (0 : Int32))]
        refine Own.ifYes W11 d20_38 45 (by decide) (by decide) (by decide) ?_
        refine Own.aconstNull W11 d20_45 46 rfl ?_
        exact Own.retA W11 (by decide) (by decide) rfl rfl rfl d20_46 ⟨Or.inr (Or.inr (Or.inr (⟨rfl, x0, x1, x2⟩))), X10⟩
set_option maxRecDepth 65536 in
set_option maxHeartbeats 40000000 in
theorem con_law {G : Own.Gl} (hw : ∀ d ∈ tables_1, d.before G.a0 G.Z = true) (hEL : EW G.Z G.a0 G.EL) (hmem : (Own.ST, 7) ∈ G.EL) {cz : Int32} (hS : Sta G.Z G.Z.heap Own.ST "COMPACT_STRINGS" "Z" (.int cz)) (hcz : ¬ cz = 0) (hE : G.EL = consts_1) {fm : Value} (SF : Sta G.Z G.Z.heap "jdk/internal/util/Preconditions" "SIOOBE_FORMATTER" "Ljava/util/function/BiFunction;" fm) (rfm : fm.isRef = true) {rv r0 r1 r2 l0 l1 l2 : Addr} {kV : ClassId} (TV : Sta G.Z G.Z.heap "com/example/couplet/couplet/core/Envelope" "$VALUES" "[Lcom/example/couplet/couplet/core/Envelope;" (.ref rv)) (AV : Arv G.Z G.Z.heap rv kV (.object "com/example/couplet/couplet/core/Envelope") 3 [(.ref r0), (.ref r1), (.ref r2)] .null) (XV : Exa G.Z G.Z.heap rv "[Lcom/example/couplet/couplet/core/Envelope;") (TE0 : Sta G.Z G.Z.heap "com/example/couplet/couplet/core/Envelope" "OP_BEFORE_AFTER" "Lcom/example/couplet/couplet/core/Envelope;" (.ref r0)) (LE0 : Fld G.Z G.Z.heap r0 "com/example/couplet/couplet/core/Envelope" "label" "Ljava/lang/String;" (.ref l0)) (SE0 : Own.Str G.Z G.Z.heap l0 [(100 : Int32), (101 : Int32), (98 : Int32), (101 : Int32), (122 : Int32), (105 : Int32), (117 : Int32), (109 : Int32)]) (TE1 : Sta G.Z G.Z.heap "com/example/couplet/couplet/core/Envelope" "OP_TYPE_BEFORE_AFTER" "Lcom/example/couplet/couplet/core/Envelope;" (.ref r1)) (LE1 : Fld G.Z G.Z.heap r1 "com/example/couplet/couplet/core/Envelope" "label" "Ljava/lang/String;" (.ref l1)) (SE1 : Own.Str G.Z G.Z.heap l1 [(103 : Int32), (111 : Int32), (108 : Int32), (100 : Int32), (101 : Int32), (110 : Int32), (103 : Int32), (97 : Int32), (116 : Int32), (101 : Int32)]) (TE2 : Sta G.Z G.Z.heap "com/example/couplet/couplet/core/Envelope" "WHOLE_RECORD" "Lcom/example/couplet/couplet/core/Envelope;" (.ref r2)) (LE2 : Fld G.Z G.Z.heap r2 "com/example/couplet/couplet/core/Envelope" "label" "Ljava/lang/String;" (.ref l2)) (SE2 : Own.Str G.Z G.Z.heap l2 [(100 : Int32), (98 : Int32), (50 : Int32)]) (p0 : Int32) (p1 : Int32) (p2 : Int32) (p3 : Int32) (p4 : Int32) (p5 : Int32) {h : Heap} (hO : Old G.Z G.n0 h) :
    Own.Con G tables_1 bLaw #[.int p0, .int p1, .int p2, .int p3, .int p4, .int p5] h [] (fun v h' => v = some (.int 1)) := by
  refine Own.Con.intro (plainFor_of_name pn_2) hO hEL _ (fun m => ef_law m p0 p1 p2 p3 p4 p5) ?_
  intro X T0 W0 sf
  refine Own.iloadN W0 at_0 1 rfl p0 rfl ?_
  refine Own.ldcI W0 (tw hw 0 rfl) at_1 3 rfl ?_
  refine Own.iand W0 at_3 4 rfl ?_
  refine Own.iconst W0 at_4 5 rfl (4 : Int32) rfl ?_
  refine Own.irem W0 at_5 6 rfl (by decide) ?_
  refine Own.istore W0 at_6 8 rfl #[.val (.int p0), .val (.int p1), .val (.int p2), .val (.int p3), .val (.int p4), .val (.int p5), .val (.int ((p0 &&& (2147483647 : Int32)) % (4 : Int32))), .unset, .unset, .unset, .unset, .unset, .unset, .unset, .unset] rfl ?_
  refine Own.iload W0 at_8 10 rfl ((p0 &&& (2147483647 : Int32)) % (4 : Int32)) rfl ?_
  have J : ∀ (vJ : Vm) (TJ : State) (hJ : Heap) (bs : Addr) (cs : List Int32), Own.Here G X bLaw vJ TJ hJ 2 44 → Ext h hJ → Own.Str G.Z hJ bs cs → Own.Go G X bLaw (fun v h' => v = some (.int 1)) TJ 42 #[.val (.int p0), .val (.int p1), .val (.int p2), .val (.int p3), .val (.int p4), .val (.int p5), .val (.int ((p0 &&& (2147483647 : Int32)) % (4 : Int32))), .unset, .unset, .unset, .unset, .unset, .unset, .unset, .unset] [(.ref bs)] := by
    intro vJ TJ hJ bs cs WJ EJ Sb
    refine Own.astore WJ at_42 44 rfl rfl #[.val (.int p0), .val (.int p1), .val (.int p2), .val (.int p3), .val (.int p4), .val (.int p5), .val (.int ((p0 &&& (2147483647 : Int32)) % (4 : Int32))), .val (.ref bs), .unset, .unset, .unset, .unset, .unset, .unset, .unset] rfl ?_
    refine Own.iloadN WJ at_44 45 rfl p1 rfl ?_
    refine Own.ldcI WJ (tw hw 0 rfl) at_45 47 rfl ?_
    refine Own.iand WJ at_47 48 rfl ?_
    refine Own.bipush WJ at_48 50 rfl (12 : Int32) rfl ?_
    refine Own.irem WJ at_50 51 rfl (by decide) ?_
    refine Own.istore WJ at_51 53 rfl #[.val (.int p0), .val (.int p1), .val (.int p2), .val (.int p3), .val (.int p4), .val (.int p5), .val (.int ((p0 &&& (2147483647 : Int32)) % (4 : Int32))), .val (.ref bs), .val (.int (n12 p1)), .unset, .unset, .unset, .unset, .unset, .unset] rfl ?_
    refine Own.iload WJ at_53 55 rfl (n12 p1) rfl ?_
    refine Own.callS WJ (tw hw 9 rfl) (tw hw 10 rfl) (tw hw 11 rfl) (tw hw 12 rfl) (by decide) (argsL := [(.int (n12 p1))]) (rest := []) (Own.Con.pay (con_alc hw hEL (n12 p1) (n12_r p1) WJ.old) WJ (tw hw 12 rfl) (tw hw 11 rfl) (len := 3) (wd := 0) (by decide) (by decide) (fun _ q => nomatch q)) rfl (lenOf pd_4 rfl) rfl (Nat.le_of_ble_eq_true rfl) at_55 58 rfl 3 55 (Nat.le_of_ble_eq_true rfl) (Nat.le_of_ble_eq_true rfl) (Nat.le_of_ble_eq_true rfl) (Nat.le_of_ble_eq_true rfl) ?_
    intro v1 T1 h1 u1 W1 R1 hq
    obtain ⟨o1, rfl, E1, g1, F1⟩ := hq
    show Own.Go _ _ _ _ _ 58 #[.val (.int p0), .val (.int p1), .val (.int p2), .val (.int p3), .val (.int p4), .val (.int p5), .val (.int ((p0 &&& (2147483647 : Int32)) % (4 : Int32))), .val (.ref bs), .val (.int (n12 p1)), .unset, .unset, .unset, .unset, .unset, .unset] [(.ref o1)]
    refine Own.astore W1 at_58 60 rfl rfl #[.val (.int p0), .val (.int p1), .val (.int p2), .val (.int p3), .val (.int p4), .val (.int p5), .val (.int ((p0 &&& (2147483647 : Int32)) % (4 : Int32))), .val (.ref bs), .val (.int (n12 p1)), .val (.ref o1), .unset, .unset, .unset, .unset, .unset] rfl ?_
    refine Own.iloadN W1 at_60 61 rfl p3 rfl ?_
    refine Own.sipush W1 at_61 64 rfl (255 : Int32) rfl ?_
    refine Own.iand W1 at_64 65 rfl ?_
    refine Own.i2c W1 at_65 66 rfl ?_
    refine Own.istore W1 at_66 68 rfl #[.val (.int p0), .val (.int p1), .val (.int p2), .val (.int p3), .val (.int p4), .val (.int p5), .val (.int ((p0 &&& (2147483647 : Int32)) % (4 : Int32))), .val (.ref bs), .val (.int (n12 p1)), .val (.ref o1), .val (.int ((p3 &&& (255 : Int32)).toUInt32.toUInt16.toUInt32.toInt32)), .unset, .unset, .unset, .unset] rfl ?_
    refine Own.iload W1 at_68 70 rfl p4 rfl ?_
    refine Own.sipush W1 at_70 73 rfl (255 : Int32) rfl ?_
    refine Own.iand W1 at_73 74 rfl ?_
    refine Own.i2c W1 at_74 75 rfl ?_
    refine Own.istore W1 at_75 77 rfl #[.val (.int p0), .val (.int p1), .val (.int p2), .val (.int p3), .val (.int p4), .val (.int p5), .val (.int ((p0 &&& (2147483647 : Int32)) % (4 : Int32))), .val (.ref bs), .val (.int (n12 p1)), .val (.ref o1), .val (.int ((p3 &&& (255 : Int32)).toUInt32.toUInt16.toUInt32.toInt32)), .val (.int ((p4 &&& (255 : Int32)).toUInt32.toUInt16.toUInt32.toInt32)), .unset, .unset, .unset] rfl ?_
    refine Own.aload W1 at_77 79 rfl (.ref o1) rfl rfl ?_
    refine Own.iconst W1 at_79 80 rfl (0 : Int32) rfl ?_
    refine Own.aload W1 at_80 82 rfl (.ref bs) rfl rfl ?_
    refine Own.iload W1 at_82 84 rfl ((p3 &&& (255 : Int32)).toUInt32.toUInt16.toUInt32.toInt32) rfl ?_
    refine Own.iload W1 at_84 86 rfl ((p4 &&& (255 : Int32)).toUInt32.toUInt16.toUInt32.toInt32) rfl ?_
    have X2 : Ext h hJ := EJ
    have X3 : Ext hJ h1 := E1
    refine Own.callS W1 (tw hw 14 rfl) (tw hw 15 rfl) (tw hw 11 rfl) (tw hw 16 rfl) (by decide) (argsL := [(.ref o1), (.int (0 : Int32)), (.ref bs), (.int ((p3 &&& (255 : Int32)).toUInt32.toUInt16.toUInt32.toInt32)), (.int ((p4 &&& (255 : Int32)).toUInt32.toUInt16.toUInt32.toInt32))]) (rest := []) (Own.Con.pay (con_fil hw hEL hmem hS hcz SF rfm (a := o1) (bs := bs) (i := (0 : Int32)) (n := (n12 p1)) 0 (by decide) (by decide) (by decide) _ _ (show Own.Rg _ from Own.lo_rng _) (show Own.Rg _ from Own.lo_rng _) W1.old (Nat.le_trans W0.n0 (Nat.le_trans X2.1 g1)) F1 (Sb.ext X3)) W1 (tw hw 16 rfl) (tw hw 11 rfl) (len := 3) (wd := 0) (by decide) (by decide) (fun _ q => nomatch q)) rfl (lenOf pd_5 rfl) rfl (Nat.le_of_ble_eq_true rfl) at_86 89 rfl 3 55 (Nat.le_of_ble_eq_true rfl) (Nat.le_of_ble_eq_true rfl) (Nat.le_of_ble_eq_true rfl) (Nat.le_of_ble_eq_true rfl) ?_
    intro v4 T4 h4 u4 W4 R4 hq
    obtain ⟨rfl, K4, F4⟩ := hq
    show Own.Go _ _ _ _ _ 89 #[.val (.int p0), .val (.int p1), .val (.int p2), .val (.int p3), .val (.int p4), .val (.int p5), .val (.int ((p0 &&& (2147483647 : Int32)) % (4 : Int32))), .val (.ref bs), .val (.int (n12 p1)), .val (.ref o1), .val (.int ((p3 &&& (255 : Int32)).toUInt32.toUInt16.toUInt32.toInt32)), .val (.int ((p4 &&& (255 : Int32)).toUInt32.toUInt16.toUInt32.toInt32)), .unset, .unset, .unset] []
    refine Own.aload W4 at_89 91 rfl (.ref o1) rfl rfl ?_
    refine Own.iconst W4 at_91 92 rfl (1 : Int32) rfl ?_
    refine Own.aload W4 at_92 94 rfl (.ref bs) rfl rfl ?_
    refine Own.iload W4 at_94 96 rfl ((p3 &&& (255 : Int32)).toUInt32.toUInt16.toUInt32.toInt32) rfl ?_
    refine Own.iload W4 at_96 98 rfl ((p4 &&& (255 : Int32)).toUInt32.toUInt16.toUInt32.toInt32) rfl ?_
    have X5 : Ext hJ h4 := Own.Ext.kp X3 K4 (allS g1 all0)
    refine Own.callS W4 (tw hw 14 rfl) (tw hw 15 rfl) (tw hw 11 rfl) (tw hw 16 rfl) (by decide) (argsL := [(.ref o1), (.int (1 : Int32)), (.ref bs), (.int ((p3 &&& (255 : Int32)).toUInt32.toUInt16.toUInt32.toInt32)), (.int ((p4 &&& (255 : Int32)).toUInt32.toUInt16.toUInt32.toInt32))]) (rest := []) (Own.Con.pay (con_fil hw hEL hmem hS hcz SF rfm (a := o1) (bs := bs) (i := (1 : Int32)) (n := (n12 p1)) 1 (by decide) (by decide) (by decide) _ _ (show Own.Rg _ from Own.lo_rng _) (show Own.Rg _ from Own.lo_rng _) W4.old (Nat.le_trans W0.n0 (Nat.le_trans X2.1 g1)) F4 (Sb.ext X5)) W4 (tw hw 16 rfl) (tw hw 11 rfl) (len := 3) (wd := 0) (by decide) (by decide) (fun _ q => nomatch q)) rfl (lenOf pd_5 rfl) rfl (Nat.le_of_ble_eq_true rfl) at_98 101 rfl 3 55 (Nat.le_of_ble_eq_true rfl) (Nat.le_of_ble_eq_true rfl) (Nat.le_of_ble_eq_true rfl) (Nat.le_of_ble_eq_true rfl) ?_
    intro v6 T6 h6 u6 W6 R6 hq
    obtain ⟨rfl, K6, F6⟩ := hq
    show Own.Go _ _ _ _ _ 101 #[.val (.int p0), .val (.int p1), .val (.int p2), .val (.int p3), .val (.int p4), .val (.int p5), .val (.int ((p0 &&& (2147483647 : Int32)) % (4 : Int32))), .val (.ref bs), .val (.int (n12 p1)), .val (.ref o1), .val (.int ((p3 &&& (255 : Int32)).toUInt32.toUInt16.toUInt32.toInt32)), .val (.int ((p4 &&& (255 : Int32)).toUInt32.toUInt16.toUInt32.toInt32)), .unset, .unset, .unset] []
    refine Own.aload W6 at_101 103 rfl (.ref o1) rfl rfl ?_
    refine Own.iconst W6 at_103 104 rfl (2 : Int32) rfl ?_
    refine Own.aload W6 at_104 106 rfl (.ref bs) rfl rfl ?_
    refine Own.iload W6 at_106 108 rfl ((p3 &&& (255 : Int32)).toUInt32.toUInt16.toUInt32.toInt32) rfl ?_
    refine Own.iload W6 at_108 110 rfl ((p4 &&& (255 : Int32)).toUInt32.toUInt16.toUInt32.toInt32) rfl ?_
    have X7 : Ext hJ h6 := Own.Ext.kp X5 K6 (allS g1 all0)
    refine Own.callS W6 (tw hw 14 rfl) (tw hw 15 rfl) (tw hw 11 rfl) (tw hw 16 rfl) (by decide) (argsL := [(.ref o1), (.int (2 : Int32)), (.ref bs), (.int ((p3 &&& (255 : Int32)).toUInt32.toUInt16.toUInt32.toInt32)), (.int ((p4 &&& (255 : Int32)).toUInt32.toUInt16.toUInt32.toInt32))]) (rest := []) (Own.Con.pay (con_fil hw hEL hmem hS hcz SF rfm (a := o1) (bs := bs) (i := (2 : Int32)) (n := (n12 p1)) 2 (by decide) (by decide) (by decide) _ _ (show Own.Rg _ from Own.lo_rng _) (show Own.Rg _ from Own.lo_rng _) W6.old (Nat.le_trans W0.n0 (Nat.le_trans X2.1 g1)) F6 (Sb.ext X7)) W6 (tw hw 16 rfl) (tw hw 11 rfl) (len := 3) (wd := 0) (by decide) (by decide) (fun _ q => nomatch q)) rfl (lenOf pd_5 rfl) rfl (Nat.le_of_ble_eq_true rfl) at_110 113 rfl 3 55 (Nat.le_of_ble_eq_true rfl) (Nat.le_of_ble_eq_true rfl) (Nat.le_of_ble_eq_true rfl) (Nat.le_of_ble_eq_true rfl) ?_
    intro v8 T8 h8 u8 W8 R8 hq
    obtain ⟨rfl, K8, F8⟩ := hq
    show Own.Go _ _ _ _ _ 113 #[.val (.int p0), .val (.int p1), .val (.int p2), .val (.int p3), .val (.int p4), .val (.int p5), .val (.int ((p0 &&& (2147483647 : Int32)) % (4 : Int32))), .val (.ref bs), .val (.int (n12 p1)), .val (.ref o1), .val (.int ((p3 &&& (255 : Int32)).toUInt32.toUInt16.toUInt32.toInt32)), .val (.int ((p4 &&& (255 : Int32)).toUInt32.toUInt16.toUInt32.toInt32)), .unset, .unset, .unset] []
    refine Own.aload W8 at_113 115 rfl (.ref o1) rfl rfl ?_
    refine Own.iconst W8 at_115 116 rfl (3 : Int32) rfl ?_
    refine Own.aload W8 at_116 118 rfl (.ref bs) rfl rfl ?_
    refine Own.iload W8 at_118 120 rfl ((p3 &&& (255 : Int32)).toUInt32.toUInt16.toUInt32.toInt32) rfl ?_
    refine Own.iload W8 at_120 122 rfl ((p4 &&& (255 : Int32)).toUInt32.toUInt16.toUInt32.toInt32) rfl ?_
    have X9 : Ext hJ h8 := Own.Ext.kp X7 K8 (allS g1 all0)
    refine Own.callS W8 (tw hw 14 rfl) (tw hw 15 rfl) (tw hw 11 rfl) (tw hw 16 rfl) (by decide) (argsL := [(.ref o1), (.int (3 : Int32)), (.ref bs), (.int ((p3 &&& (255 : Int32)).toUInt32.toUInt16.toUInt32.toInt32)), (.int ((p4 &&& (255 : Int32)).toUInt32.toUInt16.toUInt32.toInt32))]) (rest := []) (Own.Con.pay (con_fil hw hEL hmem hS hcz SF rfm (a := o1) (bs := bs) (i := (3 : Int32)) (n := (n12 p1)) 3 (by decide) (by decide) (by decide) _ _ (show Own.Rg _ from Own.lo_rng _) (show Own.Rg _ from Own.lo_rng _) W8.old (Nat.le_trans W0.n0 (Nat.le_trans X2.1 g1)) F8 (Sb.ext X9)) W8 (tw hw 16 rfl) (tw hw 11 rfl) (len := 3) (wd := 0) (by decide) (by decide) (fun _ q => nomatch q)) rfl (lenOf pd_5 rfl) rfl (Nat.le_of_ble_eq_true rfl) at_122 125 rfl 3 55 (Nat.le_of_ble_eq_true rfl) (Nat.le_of_ble_eq_true rfl) (Nat.le_of_ble_eq_true rfl) (Nat.le_of_ble_eq_true rfl) ?_
    intro v10 T10 h10 u10 W10 R10 hq
    obtain ⟨rfl, K10, F10⟩ := hq
    show Own.Go _ _ _ _ _ 125 #[.val (.int p0), .val (.int p1), .val (.int p2), .val (.int p3), .val (.int p4), .val (.int p5), .val (.int ((p0 &&& (2147483647 : Int32)) % (4 : Int32))), .val (.ref bs), .val (.int (n12 p1)), .val (.ref o1), .val (.int ((p3 &&& (255 : Int32)).toUInt32.toUInt16.toUInt32.toInt32)), .val (.int ((p4 &&& (255 : Int32)).toUInt32.toUInt16.toUInt32.toInt32)), .unset, .unset, .unset] []
    refine Own.aload W10 at_125 127 rfl (.ref o1) rfl rfl ?_
    refine Own.iconst W10 at_127 128 rfl (4 : Int32) rfl ?_
    refine Own.aload W10 at_128 130 rfl (.ref bs) rfl rfl ?_
    refine Own.iload W10 at_130 132 rfl ((p3 &&& (255 : Int32)).toUInt32.toUInt16.toUInt32.toInt32) rfl ?_
    refine Own.iload W10 at_132 134 rfl ((p4 &&& (255 : Int32)).toUInt32.toUInt16.toUInt32.toInt32) rfl ?_
    have X11 : Ext hJ h10 := Own.Ext.kp X9 K10 (allS g1 all0)
    refine Own.callS W10 (tw hw 14 rfl) (tw hw 15 rfl) (tw hw 11 rfl) (tw hw 16 rfl) (by decide) (argsL := [(.ref o1), (.int (4 : Int32)), (.ref bs), (.int ((p3 &&& (255 : Int32)).toUInt32.toUInt16.toUInt32.toInt32)), (.int ((p4 &&& (255 : Int32)).toUInt32.toUInt16.toUInt32.toInt32))]) (rest := []) (Own.Con.pay (con_fil hw hEL hmem hS hcz SF rfm (a := o1) (bs := bs) (i := (4 : Int32)) (n := (n12 p1)) 4 (by decide) (by decide) (by decide) _ _ (show Own.Rg _ from Own.lo_rng _) (show Own.Rg _ from Own.lo_rng _) W10.old (Nat.le_trans W0.n0 (Nat.le_trans X2.1 g1)) F10 (Sb.ext X11)) W10 (tw hw 16 rfl) (tw hw 11 rfl) (len := 3) (wd := 0) (by decide) (by decide) (fun _ q => nomatch q)) rfl (lenOf pd_5 rfl) rfl (Nat.le_of_ble_eq_true rfl) at_134 137 rfl 3 55 (Nat.le_of_ble_eq_true rfl) (Nat.le_of_ble_eq_true rfl) (Nat.le_of_ble_eq_true rfl) (Nat.le_of_ble_eq_true rfl) ?_
    intro v12 T12 h12 u12 W12 R12 hq
    obtain ⟨rfl, K12, F12⟩ := hq
    show Own.Go _ _ _ _ _ 137 #[.val (.int p0), .val (.int p1), .val (.int p2), .val (.int p3), .val (.int p4), .val (.int p5), .val (.int ((p0 &&& (2147483647 : Int32)) % (4 : Int32))), .val (.ref bs), .val (.int (n12 p1)), .val (.ref o1), .val (.int ((p3 &&& (255 : Int32)).toUInt32.toUInt16.toUInt32.toInt32)), .val (.int ((p4 &&& (255 : Int32)).toUInt32.toUInt16.toUInt32.toInt32)), .unset, .unset, .unset] []
    refine Own.aload W12 at_137 139 rfl (.ref o1) rfl rfl ?_
    refine Own.iconst W12 at_139 140 rfl (5 : Int32) rfl ?_
    refine Own.aload W12 at_140 142 rfl (.ref bs) rfl rfl ?_
    refine Own.iload W12 at_142 144 rfl ((p3 &&& (255 : Int32)).toUInt32.toUInt16.toUInt32.toInt32) rfl ?_
    refine Own.iload W12 at_144 146 rfl ((p4 &&& (255 : Int32)).toUInt32.toUInt16.toUInt32.toInt32) rfl ?_
    have X13 : Ext hJ h12 := Own.Ext.kp X11 K12 (allS g1 all0)
    refine Own.callS W12 (tw hw 14 rfl) (tw hw 15 rfl) (tw hw 11 rfl) (tw hw 16 rfl) (by decide) (argsL := [(.ref o1), (.int (5 : Int32)), (.ref bs), (.int ((p3 &&& (255 : Int32)).toUInt32.toUInt16.toUInt32.toInt32)), (.int ((p4 &&& (255 : Int32)).toUInt32.toUInt16.toUInt32.toInt32))]) (rest := []) (Own.Con.pay (con_fil hw hEL hmem hS hcz SF rfm (a := o1) (bs := bs) (i := (5 : Int32)) (n := (n12 p1)) 5 (by decide) (by decide) (by decide) _ _ (show Own.Rg _ from Own.lo_rng _) (show Own.Rg _ from Own.lo_rng _) W12.old (Nat.le_trans W0.n0 (Nat.le_trans X2.1 g1)) F12 (Sb.ext X13)) W12 (tw hw 16 rfl) (tw hw 11 rfl) (len := 3) (wd := 0) (by decide) (by decide) (fun _ q => nomatch q)) rfl (lenOf pd_5 rfl) rfl (Nat.le_of_ble_eq_true rfl) at_146 149 rfl 3 55 (Nat.le_of_ble_eq_true rfl) (Nat.le_of_ble_eq_true rfl) (Nat.le_of_ble_eq_true rfl) (Nat.le_of_ble_eq_true rfl) ?_
    intro v14 T14 h14 u14 W14 R14 hq
    obtain ⟨rfl, K14, F14⟩ := hq
    show Own.Go _ _ _ _ _ 149 #[.val (.int p0), .val (.int p1), .val (.int p2), .val (.int p3), .val (.int p4), .val (.int p5), .val (.int ((p0 &&& (2147483647 : Int32)) % (4 : Int32))), .val (.ref bs), .val (.int (n12 p1)), .val (.ref o1), .val (.int ((p3 &&& (255 : Int32)).toUInt32.toUInt16.toUInt32.toInt32)), .val (.int ((p4 &&& (255 : Int32)).toUInt32.toUInt16.toUInt32.toInt32)), .unset, .unset, .unset] []
    refine Own.aload W14 at_149 151 rfl (.ref o1) rfl rfl ?_
    refine Own.bipush W14 at_151 153 rfl (6 : Int32) rfl ?_
    refine Own.aload W14 at_153 155 rfl (.ref bs) rfl rfl ?_
    refine Own.iload W14 at_155 157 rfl ((p3 &&& (255 : Int32)).toUInt32.toUInt16.toUInt32.toInt32) rfl ?_
    refine Own.iload W14 at_157 159 rfl ((p4 &&& (255 : Int32)).toUInt32.toUInt16.toUInt32.toInt32) rfl ?_
    have X15 : Ext hJ h14 := Own.Ext.kp X13 K14 (allS g1 all0)
    refine Own.callS W14 (tw hw 14 rfl) (tw hw 15 rfl) (tw hw 11 rfl) (tw hw 16 rfl) (by decide) (argsL := [(.ref o1), (.int (6 : Int32)), (.ref bs), (.int ((p3 &&& (255 : Int32)).toUInt32.toUInt16.toUInt32.toInt32)), (.int ((p4 &&& (255 : Int32)).toUInt32.toUInt16.toUInt32.toInt32))]) (rest := []) (Own.Con.pay (con_fil hw hEL hmem hS hcz SF rfm (a := o1) (bs := bs) (i := (6 : Int32)) (n := (n12 p1)) 6 (by decide) (by decide) (by decide) _ _ (show Own.Rg _ from Own.lo_rng _) (show Own.Rg _ from Own.lo_rng _) W14.old (Nat.le_trans W0.n0 (Nat.le_trans X2.1 g1)) F14 (Sb.ext X15)) W14 (tw hw 16 rfl) (tw hw 11 rfl) (len := 3) (wd := 0) (by decide) (by decide) (fun _ q => nomatch q)) rfl (lenOf pd_5 rfl) rfl (Nat.le_of_ble_eq_true rfl) at_159 162 rfl 3 55 (Nat.le_of_ble_eq_true rfl) (Nat.le_of_ble_eq_true rfl) (Nat.le_of_ble_eq_true rfl) (Nat.le_of_ble_eq_true rfl) ?_
    intro v16 T16 h16 u16 W16 R16 hq
    obtain ⟨rfl, K16, F16⟩ := hq
    show Own.Go _ _ _ _ _ 162 #[.val (.int p0), .val (.int p1), .val (.int p2), .val (.int p3), .val (.int p4), .val (.int p5), .val (.int ((p0 &&& (2147483647 : Int32)) % (4 : Int32))), .val (.ref bs), .val (.int (n12 p1)), .val (.ref o1), .val (.int ((p3 &&& (255 : Int32)).toUInt32.toUInt16.toUInt32.toInt32)), .val (.int ((p4 &&& (255 : Int32)).toUInt32.toUInt16.toUInt32.toInt32)), .unset, .unset, .unset] []
    refine Own.aload W16 at_162 164 rfl (.ref o1) rfl rfl ?_
    refine Own.bipush W16 at_164 166 rfl (7 : Int32) rfl ?_
    refine Own.aload W16 at_166 168 rfl (.ref bs) rfl rfl ?_
    refine Own.iload W16 at_168 170 rfl ((p3 &&& (255 : Int32)).toUInt32.toUInt16.toUInt32.toInt32) rfl ?_
    refine Own.iload W16 at_170 172 rfl ((p4 &&& (255 : Int32)).toUInt32.toUInt16.toUInt32.toInt32) rfl ?_
    have X17 : Ext hJ h16 := Own.Ext.kp X15 K16 (allS g1 all0)
    refine Own.callS W16 (tw hw 14 rfl) (tw hw 15 rfl) (tw hw 11 rfl) (tw hw 16 rfl) (by decide) (argsL := [(.ref o1), (.int (7 : Int32)), (.ref bs), (.int ((p3 &&& (255 : Int32)).toUInt32.toUInt16.toUInt32.toInt32)), (.int ((p4 &&& (255 : Int32)).toUInt32.toUInt16.toUInt32.toInt32))]) (rest := []) (Own.Con.pay (con_fil hw hEL hmem hS hcz SF rfm (a := o1) (bs := bs) (i := (7 : Int32)) (n := (n12 p1)) 7 (by decide) (by decide) (by decide) _ _ (show Own.Rg _ from Own.lo_rng _) (show Own.Rg _ from Own.lo_rng _) W16.old (Nat.le_trans W0.n0 (Nat.le_trans X2.1 g1)) F16 (Sb.ext X17)) W16 (tw hw 16 rfl) (tw hw 11 rfl) (len := 3) (wd := 0) (by decide) (by decide) (fun _ q => nomatch q)) rfl (lenOf pd_5 rfl) rfl (Nat.le_of_ble_eq_true rfl) at_172 175 rfl 3 55 (Nat.le_of_ble_eq_true rfl) (Nat.le_of_ble_eq_true rfl) (Nat.le_of_ble_eq_true rfl) (Nat.le_of_ble_eq_true rfl) ?_
    intro v18 T18 h18 u18 W18 R18 hq
    obtain ⟨rfl, K18, F18⟩ := hq
    show Own.Go _ _ _ _ _ 175 #[.val (.int p0), .val (.int p1), .val (.int p2), .val (.int p3), .val (.int p4), .val (.int p5), .val (.int ((p0 &&& (2147483647 : Int32)) % (4 : Int32))), .val (.ref bs), .val (.int (n12 p1)), .val (.ref o1), .val (.int ((p3 &&& (255 : Int32)).toUInt32.toUInt16.toUInt32.toInt32)), .val (.int ((p4 &&& (255 : Int32)).toUInt32.toUInt16.toUInt32.toInt32)), .unset, .unset, .unset] []
    refine Own.aload W18 at_175 177 rfl (.ref o1) rfl rfl ?_
    refine Own.bipush W18 at_177 179 rfl (8 : Int32) rfl ?_
    refine Own.aload W18 at_179 181 rfl (.ref bs) rfl rfl ?_
    refine Own.iload W18 at_181 183 rfl ((p3 &&& (255 : Int32)).toUInt32.toUInt16.toUInt32.toInt32) rfl ?_
    refine Own.iload W18 at_183 185 rfl ((p4 &&& (255 : Int32)).toUInt32.toUInt16.toUInt32.toInt32) rfl ?_
    have X19 : Ext hJ h18 := Own.Ext.kp X17 K18 (allS g1 all0)
    refine Own.callS W18 (tw hw 14 rfl) (tw hw 15 rfl) (tw hw 11 rfl) (tw hw 16 rfl) (by decide) (argsL := [(.ref o1), (.int (8 : Int32)), (.ref bs), (.int ((p3 &&& (255 : Int32)).toUInt32.toUInt16.toUInt32.toInt32)), (.int ((p4 &&& (255 : Int32)).toUInt32.toUInt16.toUInt32.toInt32))]) (rest := []) (Own.Con.pay (con_fil hw hEL hmem hS hcz SF rfm (a := o1) (bs := bs) (i := (8 : Int32)) (n := (n12 p1)) 8 (by decide) (by decide) (by decide) _ _ (show Own.Rg _ from Own.lo_rng _) (show Own.Rg _ from Own.lo_rng _) W18.old (Nat.le_trans W0.n0 (Nat.le_trans X2.1 g1)) F18 (Sb.ext X19)) W18 (tw hw 16 rfl) (tw hw 11 rfl) (len := 3) (wd := 0) (by decide) (by decide) (fun _ q => nomatch q)) rfl (lenOf pd_5 rfl) rfl (Nat.le_of_ble_eq_true rfl) at_185 188 rfl 3 55 (Nat.le_of_ble_eq_true rfl) (Nat.le_of_ble_eq_true rfl) (Nat.le_of_ble_eq_true rfl) (Nat.le_of_ble_eq_true rfl) ?_
    intro v20 T20 h20 u20 W20 R20 hq
    obtain ⟨rfl, K20, F20⟩ := hq
    show Own.Go _ _ _ _ _ 188 #[.val (.int p0), .val (.int p1), .val (.int p2), .val (.int p3), .val (.int p4), .val (.int p5), .val (.int ((p0 &&& (2147483647 : Int32)) % (4 : Int32))), .val (.ref bs), .val (.int (n12 p1)), .val (.ref o1), .val (.int ((p3 &&& (255 : Int32)).toUInt32.toUInt16.toUInt32.toInt32)), .val (.int ((p4 &&& (255 : Int32)).toUInt32.toUInt16.toUInt32.toInt32)), .unset, .unset, .unset] []
    refine Own.aload W20 at_188 190 rfl (.ref o1) rfl rfl ?_
    refine Own.bipush W20 at_190 192 rfl (9 : Int32) rfl ?_
    refine Own.aload W20 at_192 194 rfl (.ref bs) rfl rfl ?_
    refine Own.iload W20 at_194 196 rfl ((p3 &&& (255 : Int32)).toUInt32.toUInt16.toUInt32.toInt32) rfl ?_
    refine Own.iload W20 at_196 198 rfl ((p4 &&& (255 : Int32)).toUInt32.toUInt16.toUInt32.toInt32) rfl ?_
    have X21 : Ext hJ h20 := Own.Ext.kp X19 K20 (allS g1 all0)
    refine Own.callS W20 (tw hw 14 rfl) (tw hw 15 rfl) (tw hw 11 rfl) (tw hw 16 rfl) (by decide) (argsL := [(.ref o1), (.int (9 : Int32)), (.ref bs), (.int ((p3 &&& (255 : Int32)).toUInt32.toUInt16.toUInt32.toInt32)), (.int ((p4 &&& (255 : Int32)).toUInt32.toUInt16.toUInt32.toInt32))]) (rest := []) (Own.Con.pay (con_fil hw hEL hmem hS hcz SF rfm (a := o1) (bs := bs) (i := (9 : Int32)) (n := (n12 p1)) 9 (by decide) (by decide) (by decide) _ _ (show Own.Rg _ from Own.lo_rng _) (show Own.Rg _ from Own.lo_rng _) W20.old (Nat.le_trans W0.n0 (Nat.le_trans X2.1 g1)) F20 (Sb.ext X21)) W20 (tw hw 16 rfl) (tw hw 11 rfl) (len := 3) (wd := 0) (by decide) (by decide) (fun _ q => nomatch q)) rfl (lenOf pd_5 rfl) rfl (Nat.le_of_ble_eq_true rfl) at_198 201 rfl 3 55 (Nat.le_of_ble_eq_true rfl) (Nat.le_of_ble_eq_true rfl) (Nat.le_of_ble_eq_true rfl) (Nat.le_of_ble_eq_true rfl) ?_
    intro v22 T22 h22 u22 W22 R22 hq
    obtain ⟨rfl, K22, F22⟩ := hq
    show Own.Go _ _ _ _ _ 201 #[.val (.int p0), .val (.int p1), .val (.int p2), .val (.int p3), .val (.int p4), .val (.int p5), .val (.int ((p0 &&& (2147483647 : Int32)) % (4 : Int32))), .val (.ref bs), .val (.int (n12 p1)), .val (.ref o1), .val (.int ((p3 &&& (255 : Int32)).toUInt32.toUInt16.toUInt32.toInt32)), .val (.int ((p4 &&& (255 : Int32)).toUInt32.toUInt16.toUInt32.toInt32)), .unset, .unset, .unset] []
    refine Own.aload W22 at_201 203 rfl (.ref o1) rfl rfl ?_
    refine Own.bipush W22 at_203 205 rfl (10 : Int32) rfl ?_
    refine Own.aload W22 at_205 207 rfl (.ref bs) rfl rfl ?_
    refine Own.iload W22 at_207 209 rfl ((p3 &&& (255 : Int32)).toUInt32.toUInt16.toUInt32.toInt32) rfl ?_
    refine Own.iload W22 at_209 211 rfl ((p4 &&& (255 : Int32)).toUInt32.toUInt16.toUInt32.toInt32) rfl ?_
    have X23 : Ext hJ h22 := Own.Ext.kp X21 K22 (allS g1 all0)
    refine Own.callS W22 (tw hw 14 rfl) (tw hw 15 rfl) (tw hw 11 rfl) (tw hw 16 rfl) (by decide) (argsL := [(.ref o1), (.int (10 : Int32)), (.ref bs), (.int ((p3 &&& (255 : Int32)).toUInt32.toUInt16.toUInt32.toInt32)), (.int ((p4 &&& (255 : Int32)).toUInt32.toUInt16.toUInt32.toInt32))]) (rest := []) (Own.Con.pay (con_fil hw hEL hmem hS hcz SF rfm (a := o1) (bs := bs) (i := (10 : Int32)) (n := (n12 p1)) 10 (by decide) (by decide) (by decide) _ _ (show Own.Rg _ from Own.lo_rng _) (show Own.Rg _ from Own.lo_rng _) W22.old (Nat.le_trans W0.n0 (Nat.le_trans X2.1 g1)) F22 (Sb.ext X23)) W22 (tw hw 16 rfl) (tw hw 11 rfl) (len := 3) (wd := 0) (by decide) (by decide) (fun _ q => nomatch q)) rfl (lenOf pd_5 rfl) rfl (Nat.le_of_ble_eq_true rfl) at_211 214 rfl 3 55 (Nat.le_of_ble_eq_true rfl) (Nat.le_of_ble_eq_true rfl) (Nat.le_of_ble_eq_true rfl) (Nat.le_of_ble_eq_true rfl) ?_
    intro v24 T24 h24 u24 W24 R24 hq
    obtain ⟨rfl, K24, F24⟩ := hq
    show Own.Go _ _ _ _ _ 214 #[.val (.int p0), .val (.int p1), .val (.int p2), .val (.int p3), .val (.int p4), .val (.int p5), .val (.int ((p0 &&& (2147483647 : Int32)) % (4 : Int32))), .val (.ref bs), .val (.int (n12 p1)), .val (.ref o1), .val (.int ((p3 &&& (255 : Int32)).toUInt32.toUInt16.toUInt32.toInt32)), .val (.int ((p4 &&& (255 : Int32)).toUInt32.toUInt16.toUInt32.toInt32)), .unset, .unset, .unset] []
    have K : ∀ (vK : Vm) (TK : State) (hK : Heap), Own.Here G X bLaw vK TK hK 3 55 → Own.Chs G.Z hK o1 (n12 p1) → Own.Go G X bLaw (fun v h' => v = some (.int 1)) TK 241 #[.val (.int p0), .val (.int p1), .val (.int p2), .val (.int p3), .val (.int p4), .val (.int p5), .val (.int ((p0 &&& (2147483647 : Int32)) % (4 : Int32))), .val (.ref bs), .val (.int (n12 p1)), .val (.ref o1), .val (.int ((p3 &&& (255 : Int32)).toUInt32.toUInt16.toUInt32.toInt32)), .val (.int ((p4 &&& (255 : Int32)).toUInt32.toUInt16.toUInt32.toInt32)), .unset, .unset, .unset] [] := by
      intro vK TK hK  WK  Ck
      refine Own.iloadN WK at_241 242 rfl p0 rfl ?_
      refine Own.iconst WK at_242 243 rfl (2 : Int32) rfl ?_
      refine Own.iushr WK at_243 244 rfl ?_
      refine Own.bipush WK at_244 246 rfl (15 : Int32) rfl ?_
      refine Own.iand WK at_246 247 rfl ?_
      refine Own.bipush WK at_247 249 rfl (15 : Int32) rfl ?_
      by_cases e9 : (((p0.toUInt32 >>> ((2 : Int32) &&& 31).toUInt32).toInt32) &&& (15 : Int32)) = (15 : Int32)
      · skip
        refine Own.icmpNo WK at_249 252 (XT.ii_ne_f e9) rfl ?_
        refine Own.aconstNull WK at_252 253 rfl ?_
        refine Own.goto WK at_253 265 (by decide) (by decide) ?_
        refine Own.astore WK at_265 267 rfl rfl #[.val (.int p0), .val (.int p1), .val (.int p2), .val (.int p3), .val (.int p4), .val (.int p5), .val (.int ((p0 &&& (2147483647 : Int32)) % (4 : Int32))), .val (.ref bs), .val (.int (n12 p1)), .val (.ref o1), .val (.int ((p3 &&& (255 : Int32)).toUInt32.toUInt16.toUInt32.toInt32)), .val (.int ((p4 &&& (255 : Int32)).toUInt32.toUInt16.toUInt32.toInt32)), .val .null, .unset, .unset] rfl ?_
        refine Own.aload WK at_267 269 rfl .null rfl rfl ?_
        refine Own.callS WK (tw hw 73 rfl) (tw hw 74 rfl) (tw hw 75 rfl) (tw hw 76 rfl) (by decide) (argsL := [.null]) (rest := []) (Own.Con.pay (con_namedN hw hEL hmem hS hcz TV AV XV TE0 LE0 SE0 TE1 LE1 SE1 TE2 LE2 SE2 WK.old) WK (tw hw 76 rfl) (tw hw 75 rfl) (len := 3) (wd := 0) (by decide) (by decide) (fun _ q => nomatch q)) rfl (lenOf pd_6 rfl) rfl (Nat.le_of_ble_eq_true rfl) at_269 272 rfl 4 58 (Nat.le_of_ble_eq_true rfl) (Nat.le_of_ble_eq_true rfl) (Nat.le_of_ble_eq_true rfl) (Nat.le_of_ble_eq_true rfl) ?_
        intro v25 T25 h25 u25 W25 R25 hq
        obtain ⟨rfl, E25⟩ := hq
        show Own.Go _ _ _ _ _ 272 #[.val (.int p0), .val (.int p1), .val (.int p2), .val (.int p3), .val (.int p4), .val (.int p5), .val (.int ((p0 &&& (2147483647 : Int32)) % (4 : Int32))), .val (.ref bs), .val (.int (n12 p1)), .val (.ref o1), .val (.int ((p3 &&& (255 : Int32)).toUInt32.toUInt16.toUInt32.toInt32)), .val (.int ((p4 &&& (255 : Int32)).toUInt32.toUInt16.toUInt32.toInt32)), .val .null, .unset, .unset] [.null]
        refine Own.astore W25 at_272 274 rfl rfl #[.val (.int p0), .val (.int p1), .val (.int p2), .val (.int p3), .val (.int p4), .val (.int p5), .val (.int ((p0 &&& (2147483647 : Int32)) % (4 : Int32))), .val (.ref bs), .val (.int (n12 p1)), .val (.ref o1), .val (.int ((p3 &&& (255 : Int32)).toUInt32.toUInt16.toUInt32.toInt32)), .val (.int ((p4 &&& (255 : Int32)).toUInt32.toUInt16.toUInt32.toInt32)), .val .null, .val .null, .unset] rfl ?_
        refine Own.aload W25 at_274 276 rfl .null rfl rfl ?_
        refine Own.callS W25 (tw hw 106 rfl) (tw hw 107 rfl) (tw hw 11 rfl) (tw hw 108 rfl) (by decide) (argsL := [.null]) (rest := []) (Own.Con.pay (con_expN hw hEL W25.old) W25 (tw hw 108 rfl) (tw hw 11 rfl) (len := 3) (wd := 0) (by decide) (by decide) (fun _ q => nomatch q)) rfl (lenOf pd_6 rfl) rfl (Nat.le_of_ble_eq_true rfl) at_276 279 rfl 10 202 (Nat.le_of_ble_eq_true rfl) (Nat.le_of_ble_eq_true rfl) (Nat.le_of_ble_eq_true rfl) (Nat.le_of_ble_eq_true rfl) ?_
        intro v26 T26 h26 u26 W26 R26 hq
        obtain ⟨rfl, eh26⟩ := hq
        have ei26 := eh26.symm; subst ei26
        show Own.Go _ _ _ _ _ 279 #[.val (.int p0), .val (.int p1), .val (.int p2), .val (.int p3), .val (.int p4), .val (.int p5), .val (.int ((p0 &&& (2147483647 : Int32)) % (4 : Int32))), .val (.ref bs), .val (.int (n12 p1)), .val (.ref o1), .val (.int ((p3 &&& (255 : Int32)).toUInt32.toUInt16.toUInt32.toInt32)), .val (.int ((p4 &&& (255 : Int32)).toUInt32.toUInt16.toUInt32.toInt32)), .val .null, .val .null, .unset] [.null]
        refine Own.astore W26 at_279 281 rfl rfl #[.val (.int p0), .val (.int p1), .val (.int p2), .val (.int p3), .val (.int p4), .val (.int p5), .val (.int ((p0 &&& (2147483647 : Int32)) % (4 : Int32))), .val (.ref bs), .val (.int (n12 p1)), .val (.ref o1), .val (.int ((p3 &&& (255 : Int32)).toUInt32.toUInt16.toUInt32.toInt32)), .val (.int ((p4 &&& (255 : Int32)).toUInt32.toUInt16.toUInt32.toInt32)), .val .null, .val .null, .val .null] rfl ?_
        refine Own.aload W26 at_281 283 rfl .null rfl rfl ?_
        refine Own.aload W26 at_283 285 rfl .null rfl rfl ?_
        refine Own.acmp W26 at_285 288 rfl rfl true (decide_eq_true rfl) (by decide) rfl ?_
        refine Own.iconst W26 at_288 289 rfl (1 : Int32) rfl ?_
        refine Own.goto W26 at_289 293 (by decide) (by decide) ?_
        exact Own.retB W26 (by decide) (by decide) rfl at_293 rfl rfl
      · skip
        refine Own.icmpYes WK at_249 256 (XT.ii_ne_t e9) (by decide) (by decide) ?_
        refine Own.newO WK (tw hw 52 rfl) (tw hw 3 rfl) (tw hw 2 rfl) at_256 259 rfl 4 59 (by decide) (by decide) (by decide) (by decide) ?_
        intro T27 h27 o27 g27 W27 E27 A27 D27 s27 k27
        have F27_value : Fld G.Z h27 o27 "java/lang/String" "value" "[B" .null := D27 (Or.inr (tw hw 5 rfl)) (ty := (.array .byte)) (by decide)
        have F27_coder : Fld G.Z h27 o27 "java/lang/String" "coder" "B" (.int (0 : Int32)) := D27 (Or.inr (tw hw 6 rfl)) (ty := .byte) (by decide)
        refine Own.dup W27 at_259 260 rfl rfl ?_
        refine Own.aload W27 at_260 262 rfl (.ref o1) rfl rfl ?_
        have X28 : Ext hK h27 := E27
        refine Own.callX W27 rfl (tw hw 53 rfl) (tw hw 54 rfl) (tw hw 55 rfl) (by decide) (argsL := [(.ref o1)]) (rest := [(.ref o27)]) (Own.payStrC (wS hw) hEL hmem W27 (cz := cz) (Nat.le_trans WK.n0 (Nat.le_of_eq g27.symm)) s27 A27 F27_value F27_coder (Ck.ext X28) 11 (n12_cap p1) (by decide) hS hcz (len := 3) (wd := 1) (by decide) (by decide)) rfl (lenOf pd_7 rfl) rfl (Nat.le_of_ble_eq_true rfl) at_262 265 rfl 8 78 (Nat.le_of_ble_eq_true rfl) (Nat.le_of_ble_eq_true rfl) (Nat.le_of_ble_eq_true rfl) (Nat.le_of_ble_eq_true rfl) ?_
        intro v29 T29 h29 u29 W29 R29 hq
        obtain ⟨rfl, K29, cs29, -, F29⟩ := hq
        show Own.Go _ _ _ _ _ 265 #[.val (.int p0), .val (.int p1), .val (.int p2), .val (.int p3), .val (.int p4), .val (.int p5), .val (.int ((p0 &&& (2147483647 : Int32)) % (4 : Int32))), .val (.ref bs), .val (.int (n12 p1)), .val (.ref o1), .val (.int ((p3 &&& (255 : Int32)).toUInt32.toUInt16.toUInt32.toInt32)), .val (.int ((p4 &&& (255 : Int32)).toUInt32.toUInt16.toUInt32.toInt32)), .unset, .unset, .unset] [(.ref o27)]
        refine Own.astore W29 at_265 267 rfl rfl #[.val (.int p0), .val (.int p1), .val (.int p2), .val (.int p3), .val (.int p4), .val (.int p5), .val (.int ((p0 &&& (2147483647 : Int32)) % (4 : Int32))), .val (.ref bs), .val (.int (n12 p1)), .val (.ref o1), .val (.int ((p3 &&& (255 : Int32)).toUInt32.toUInt16.toUInt32.toInt32)), .val (.int ((p4 &&& (255 : Int32)).toUInt32.toUInt16.toUInt32.toInt32)), .val (.ref o27), .unset, .unset] rfl ?_
        refine Own.aload W29 at_267 269 rfl (.ref o27) rfl rfl ?_
        refine Own.callS W29 (tw hw 73 rfl) (tw hw 74 rfl) (tw hw 75 rfl) (tw hw 76 rfl) (by decide) (argsL := [(.ref o27)]) (rest := []) (Own.Con.pay (con_named hw hEL hmem hS hcz TV AV XV TE0 LE0 SE0 TE1 LE1 SE1 TE2 LE2 SE2 W29.old F29) W29 (tw hw 76 rfl) (tw hw 75 rfl) (len := 3) (wd := 0) (by decide) (by decide) (fun _ q => nomatch q)) rfl (lenOf pd_6 rfl) rfl (Nat.le_of_ble_eq_true rfl) at_269 272 rfl 9 81 (Nat.le_of_ble_eq_true rfl) (Nat.le_of_ble_eq_true rfl) (Nat.le_of_ble_eq_true rfl) (Nat.le_of_ble_eq_true rfl) ?_
        intro v30 T30 h30 u30 W30 R30 hq
        obtain ⟨hv30, E30⟩ := hq
        rcases hv30 with ⟨rfl, y0⟩ | ⟨rfl, m1_0, y1⟩ | ⟨rfl, m2_0, m2_1, y2⟩ | ⟨rfl, m3_0, m3_1, m3_2⟩
        · skip
          show Own.Go _ _ _ _ _ 272 #[.val (.int p0), .val (.int p1), .val (.int p2), .val (.int p3), .val (.int p4), .val (.int p5), .val (.int ((p0 &&& (2147483647 : Int32)) % (4 : Int32))), .val (.ref bs), .val (.int (n12 p1)), .val (.ref o1), .val (.int ((p3 &&& (255 : Int32)).toUInt32.toUInt16.toUInt32.toInt32)), .val (.int ((p4 &&& (255 : Int32)).toUInt32.toUInt16.toUInt32.toInt32)), .val (.ref o27), .unset, .unset] [(.ref r0)]
          refine Own.astore W30 at_272 274 rfl rfl #[.val (.int p0), .val (.int p1), .val (.int p2), .val (.int p3), .val (.int p4), .val (.int p5), .val (.int ((p0 &&& (2147483647 : Int32)) % (4 : Int32))), .val (.ref bs), .val (.int (n12 p1)), .val (.ref o1), .val (.int ((p3 &&& (255 : Int32)).toUInt32.toUInt16.toUInt32.toInt32)), .val (.int ((p4 &&& (255 : Int32)).toUInt32.toUInt16.toUInt32.toInt32)), .val (.ref o27), .val (.ref r0), .unset] rfl ?_
          refine Own.aload W30 at_274 276 rfl (.ref o27) rfl rfl ?_
          have X31 : Ext h29 h30 := E30
          refine Own.callS W30 (tw hw 106 rfl) (tw hw 107 rfl) (tw hw 11 rfl) (tw hw 108 rfl) (by decide) (argsL := [(.ref o27)]) (rest := []) (Own.Con.pay (con_exp hw hEL hmem hS hcz hE TV AV XV TE0 LE0 SE0 TE1 LE1 SE1 TE2 LE2 SE2 W30.old (F29.ext X31)) W30 (tw hw 108 rfl) (tw hw 11 rfl) (len := 3) (wd := 0) (by decide) (by decide) (fun _ q => nomatch q)) rfl (lenOf pd_6 rfl) rfl (Nat.le_of_ble_eq_true rfl) at_276 279 rfl 15 225 (Nat.le_of_ble_eq_true rfl) (Nat.le_of_ble_eq_true rfl) (Nat.le_of_ble_eq_true rfl) (Nat.le_of_ble_eq_true rfl) ?_
          intro v32 T32 h32 u32 W32 R32 hq
          obtain ⟨hv32, E32⟩ := hq
          rcases hv32 with ⟨rfl, z0⟩ | ⟨rfl, l1_0, z1⟩ | ⟨rfl, l2_0, l2_1, z2⟩ | ⟨rfl, l3_0, l3_1, l3_2⟩
          · skip
            show Own.Go _ _ _ _ _ 279 #[.val (.int p0), .val (.int p1), .val (.int p2), .val (.int p3), .val (.int p4), .val (.int p5), .val (.int ((p0 &&& (2147483647 : Int32)) % (4 : Int32))), .val (.ref bs), .val (.int (n12 p1)), .val (.ref o1), .val (.int ((p3 &&& (255 : Int32)).toUInt32.toUInt16.toUInt32.toInt32)), .val (.int ((p4 &&& (255 : Int32)).toUInt32.toUInt16.toUInt32.toInt32)), .val (.ref o27), .val (.ref r0), .unset] [(.ref r0)]
            refine Own.astore W32 at_279 281 rfl rfl #[.val (.int p0), .val (.int p1), .val (.int p2), .val (.int p3), .val (.int p4), .val (.int p5), .val (.int ((p0 &&& (2147483647 : Int32)) % (4 : Int32))), .val (.ref bs), .val (.int (n12 p1)), .val (.ref o1), .val (.int ((p3 &&& (255 : Int32)).toUInt32.toUInt16.toUInt32.toInt32)), .val (.int ((p4 &&& (255 : Int32)).toUInt32.toUInt16.toUInt32.toInt32)), .val (.ref o27), .val (.ref r0), .val (.ref r0)] rfl ?_
            refine Own.aload W32 at_281 283 rfl (.ref r0) rfl rfl ?_
            refine Own.aload W32 at_283 285 rfl (.ref r0) rfl rfl ?_
            refine Own.acmp W32 at_285 288 rfl rfl true (decide_eq_true rfl) (by decide) rfl ?_
            refine Own.iconst W32 at_288 289 rfl (1 : Int32) rfl ?_
            refine Own.goto W32 at_289 293 (by decide) (by decide) ?_
            exact Own.retB W32 (by decide) (by decide) rfl at_293 rfl rfl
          · skip
            exact absurd y0 l1_0
          · skip
            exact absurd y0 l2_0
          · skip
            exact absurd y0 l3_0
        · skip
          show Own.Go _ _ _ _ _ 272 #[.val (.int p0), .val (.int p1), .val (.int p2), .val (.int p3), .val (.int p4), .val (.int p5), .val (.int ((p0 &&& (2147483647 : Int32)) % (4 : Int32))), .val (.ref bs), .val (.int (n12 p1)), .val (.ref o1), .val (.int ((p3 &&& (255 : Int32)).toUInt32.toUInt16.toUInt32.toInt32)), .val (.int ((p4 &&& (255 : Int32)).toUInt32.toUInt16.toUInt32.toInt32)), .val (.ref o27), .unset, .unset] [(.ref r1)]
          refine Own.astore W30 at_272 274 rfl rfl #[.val (.int p0), .val (.int p1), .val (.int p2), .val (.int p3), .val (.int p4), .val (.int p5), .val (.int ((p0 &&& (2147483647 : Int32)) % (4 : Int32))), .val (.ref bs), .val (.int (n12 p1)), .val (.ref o1), .val (.int ((p3 &&& (255 : Int32)).toUInt32.toUInt16.toUInt32.toInt32)), .val (.int ((p4 &&& (255 : Int32)).toUInt32.toUInt16.toUInt32.toInt32)), .val (.ref o27), .val (.ref r1), .unset] rfl ?_
          refine Own.aload W30 at_274 276 rfl (.ref o27) rfl rfl ?_
          have X33 : Ext h29 h30 := E30
          refine Own.callS W30 (tw hw 106 rfl) (tw hw 107 rfl) (tw hw 11 rfl) (tw hw 108 rfl) (by decide) (argsL := [(.ref o27)]) (rest := []) (Own.Con.pay (con_exp hw hEL hmem hS hcz hE TV AV XV TE0 LE0 SE0 TE1 LE1 SE1 TE2 LE2 SE2 W30.old (F29.ext X33)) W30 (tw hw 108 rfl) (tw hw 11 rfl) (len := 3) (wd := 0) (by decide) (by decide) (fun _ q => nomatch q)) rfl (lenOf pd_6 rfl) rfl (Nat.le_of_ble_eq_true rfl) at_276 279 rfl 15 225 (Nat.le_of_ble_eq_true rfl) (Nat.le_of_ble_eq_true rfl) (Nat.le_of_ble_eq_true rfl) (Nat.le_of_ble_eq_true rfl) ?_
          intro v34 T34 h34 u34 W34 R34 hq
          obtain ⟨hv34, E34⟩ := hq
          rcases hv34 with ⟨rfl, z0⟩ | ⟨rfl, l1_0, z1⟩ | ⟨rfl, l2_0, l2_1, z2⟩ | ⟨rfl, l3_0, l3_1, l3_2⟩
          · skip
            exact absurd z0 m1_0
          · skip
            show Own.Go _ _ _ _ _ 279 #[.val (.int p0), .val (.int p1), .val (.int p2), .val (.int p3), .val (.int p4), .val (.int p5), .val (.int ((p0 &&& (2147483647 : Int32)) % (4 : Int32))), .val (.ref bs), .val (.int (n12 p1)), .val (.ref o1), .val (.int ((p3 &&& (255 : Int32)).toUInt32.toUInt16.toUInt32.toInt32)), .val (.int ((p4 &&& (255 : Int32)).toUInt32.toUInt16.toUInt32.toInt32)), .val (.ref o27), .val (.ref r1), .unset] [(.ref r1)]
            refine Own.astore W34 at_279 281 rfl rfl #[.val (.int p0), .val (.int p1), .val (.int p2), .val (.int p3), .val (.int p4), .val (.int p5), .val (.int ((p0 &&& (2147483647 : Int32)) % (4 : Int32))), .val (.ref bs), .val (.int (n12 p1)), .val (.ref o1), .val (.int ((p3 &&& (255 : Int32)).toUInt32.toUInt16.toUInt32.toInt32)), .val (.int ((p4 &&& (255 : Int32)).toUInt32.toUInt16.toUInt32.toInt32)), .val (.ref o27), .val (.ref r1), .val (.ref r1)] rfl ?_
            refine Own.aload W34 at_281 283 rfl (.ref r1) rfl rfl ?_
            refine Own.aload W34 at_283 285 rfl (.ref r1) rfl rfl ?_
            refine Own.acmp W34 at_285 288 rfl rfl true (decide_eq_true rfl) (by decide) rfl ?_
            refine Own.iconst W34 at_288 289 rfl (1 : Int32) rfl ?_
            refine Own.goto W34 at_289 293 (by decide) (by decide) ?_
            exact Own.retB W34 (by decide) (by decide) rfl at_293 rfl rfl
          · skip
            exact absurd y1 l2_1
          · skip
            exact absurd y1 l3_1
        · skip
          show Own.Go _ _ _ _ _ 272 #[.val (.int p0), .val (.int p1), .val (.int p2), .val (.int p3), .val (.int p4), .val (.int p5), .val (.int ((p0 &&& (2147483647 : Int32)) % (4 : Int32))), .val (.ref bs), .val (.int (n12 p1)), .val (.ref o1), .val (.int ((p3 &&& (255 : Int32)).toUInt32.toUInt16.toUInt32.toInt32)), .val (.int ((p4 &&& (255 : Int32)).toUInt32.toUInt16.toUInt32.toInt32)), .val (.ref o27), .unset, .unset] [(.ref r2)]
          refine Own.astore W30 at_272 274 rfl rfl #[.val (.int p0), .val (.int p1), .val (.int p2), .val (.int p3), .val (.int p4), .val (.int p5), .val (.int ((p0 &&& (2147483647 : Int32)) % (4 : Int32))), .val (.ref bs), .val (.int (n12 p1)), .val (.ref o1), .val (.int ((p3 &&& (255 : Int32)).toUInt32.toUInt16.toUInt32.toInt32)), .val (.int ((p4 &&& (255 : Int32)).toUInt32.toUInt16.toUInt32.toInt32)), .val (.ref o27), .val (.ref r2), .unset] rfl ?_
          refine Own.aload W30 at_274 276 rfl (.ref o27) rfl rfl ?_
          have X35 : Ext h29 h30 := E30
          refine Own.callS W30 (tw hw 106 rfl) (tw hw 107 rfl) (tw hw 11 rfl) (tw hw 108 rfl) (by decide) (argsL := [(.ref o27)]) (rest := []) (Own.Con.pay (con_exp hw hEL hmem hS hcz hE TV AV XV TE0 LE0 SE0 TE1 LE1 SE1 TE2 LE2 SE2 W30.old (F29.ext X35)) W30 (tw hw 108 rfl) (tw hw 11 rfl) (len := 3) (wd := 0) (by decide) (by decide) (fun _ q => nomatch q)) rfl (lenOf pd_6 rfl) rfl (Nat.le_of_ble_eq_true rfl) at_276 279 rfl 15 225 (Nat.le_of_ble_eq_true rfl) (Nat.le_of_ble_eq_true rfl) (Nat.le_of_ble_eq_true rfl) (Nat.le_of_ble_eq_true rfl) ?_
          intro v36 T36 h36 u36 W36 R36 hq
          obtain ⟨hv36, E36⟩ := hq
          rcases hv36 with ⟨rfl, z0⟩ | ⟨rfl, l1_0, z1⟩ | ⟨rfl, l2_0, l2_1, z2⟩ | ⟨rfl, l3_0, l3_1, l3_2⟩
          · skip
            exact absurd z0 m2_0
          · skip
            exact absurd z1 m2_1
          · skip
            show Own.Go _ _ _ _ _ 279 #[.val (.int p0), .val (.int p1), .val (.int p2), .val (.int p3), .val (.int p4), .val (.int p5), .val (.int ((p0 &&& (2147483647 : Int32)) % (4 : Int32))), .val (.ref bs), .val (.int (n12 p1)), .val (.ref o1), .val (.int ((p3 &&& (255 : Int32)).toUInt32.toUInt16.toUInt32.toInt32)), .val (.int ((p4 &&& (255 : Int32)).toUInt32.toUInt16.toUInt32.toInt32)), .val (.ref o27), .val (.ref r2), .unset] [(.ref r2)]
            refine Own.astore W36 at_279 281 rfl rfl #[.val (.int p0), .val (.int p1), .val (.int p2), .val (.int p3), .val (.int p4), .val (.int p5), .val (.int ((p0 &&& (2147483647 : Int32)) % (4 : Int32))), .val (.ref bs), .val (.int (n12 p1)), .val (.ref o1), .val (.int ((p3 &&& (255 : Int32)).toUInt32.toUInt16.toUInt32.toInt32)), .val (.int ((p4 &&& (255 : Int32)).toUInt32.toUInt16.toUInt32.toInt32)), .val (.ref o27), .val (.ref r2), .val (.ref r2)] rfl ?_
            refine Own.aload W36 at_281 283 rfl (.ref r2) rfl rfl ?_
            refine Own.aload W36 at_283 285 rfl (.ref r2) rfl rfl ?_
            refine Own.acmp W36 at_285 288 rfl rfl true (decide_eq_true rfl) (by decide) rfl ?_
            refine Own.iconst W36 at_288 289 rfl (1 : Int32) rfl ?_
            refine Own.goto W36 at_289 293 (by decide) (by decide) ?_
            exact Own.retB W36 (by decide) (by decide) rfl at_293 rfl rfl
          · skip
            exact absurd y2 l3_2
        · skip
          show Own.Go _ _ _ _ _ 272 #[.val (.int p0), .val (.int p1), .val (.int p2), .val (.int p3), .val (.int p4), .val (.int p5), .val (.int ((p0 &&& (2147483647 : Int32)) % (4 : Int32))), .val (.ref bs), .val (.int (n12 p1)), .val (.ref o1), .val (.int ((p3 &&& (255 : Int32)).toUInt32.toUInt16.toUInt32.toInt32)), .val (.int ((p4 &&& (255 : Int32)).toUInt32.toUInt16.toUInt32.toInt32)), .val (.ref o27), .unset, .unset] [.null]
          refine Own.astore W30 at_272 274 rfl rfl #[.val (.int p0), .val (.int p1), .val (.int p2), .val (.int p3), .val (.int p4), .val (.int p5), .val (.int ((p0 &&& (2147483647 : Int32)) % (4 : Int32))), .val (.ref bs), .val (.int (n12 p1)), .val (.ref o1), .val (.int ((p3 &&& (255 : Int32)).toUInt32.toUInt16.toUInt32.toInt32)), .val (.int ((p4 &&& (255 : Int32)).toUInt32.toUInt16.toUInt32.toInt32)), .val (.ref o27), .val .null, .unset] rfl ?_
          refine Own.aload W30 at_274 276 rfl (.ref o27) rfl rfl ?_
          have X37 : Ext h29 h30 := E30
          refine Own.callS W30 (tw hw 106 rfl) (tw hw 107 rfl) (tw hw 11 rfl) (tw hw 108 rfl) (by decide) (argsL := [(.ref o27)]) (rest := []) (Own.Con.pay (con_exp hw hEL hmem hS hcz hE TV AV XV TE0 LE0 SE0 TE1 LE1 SE1 TE2 LE2 SE2 W30.old (F29.ext X37)) W30 (tw hw 108 rfl) (tw hw 11 rfl) (len := 3) (wd := 0) (by decide) (by decide) (fun _ q => nomatch q)) rfl (lenOf pd_6 rfl) rfl (Nat.le_of_ble_eq_true rfl) at_276 279 rfl 15 225 (Nat.le_of_ble_eq_true rfl) (Nat.le_of_ble_eq_true rfl) (Nat.le_of_ble_eq_true rfl) (Nat.le_of_ble_eq_true rfl) ?_
          intro v38 T38 h38 u38 W38 R38 hq
          obtain ⟨hv38, E38⟩ := hq
          rcases hv38 with ⟨rfl, z0⟩ | ⟨rfl, l1_0, z1⟩ | ⟨rfl, l2_0, l2_1, z2⟩ | ⟨rfl, l3_0, l3_1, l3_2⟩
          · skip
            exact absurd z0 m3_0
          · skip
            exact absurd z1 m3_1
          · skip
            exact absurd z2 m3_2
          · skip
            show Own.Go _ _ _ _ _ 279 #[.val (.int p0), .val (.int p1), .val (.int p2), .val (.int p3), .val (.int p4), .val (.int p5), .val (.int ((p0 &&& (2147483647 : Int32)) % (4 : Int32))), .val (.ref bs), .val (.int (n12 p1)), .val (.ref o1), .val (.int ((p3 &&& (255 : Int32)).toUInt32.toUInt16.toUInt32.toInt32)), .val (.int ((p4 &&& (255 : Int32)).toUInt32.toUInt16.toUInt32.toInt32)), .val (.ref o27), .val .null, .unset] [.null]
            refine Own.astore W38 at_279 281 rfl rfl #[.val (.int p0), .val (.int p1), .val (.int p2), .val (.int p3), .val (.int p4), .val (.int p5), .val (.int ((p0 &&& (2147483647 : Int32)) % (4 : Int32))), .val (.ref bs), .val (.int (n12 p1)), .val (.ref o1), .val (.int ((p3 &&& (255 : Int32)).toUInt32.toUInt16.toUInt32.toInt32)), .val (.int ((p4 &&& (255 : Int32)).toUInt32.toUInt16.toUInt32.toInt32)), .val (.ref o27), .val .null, .val .null] rfl ?_
            refine Own.aload W38 at_281 283 rfl .null rfl rfl ?_
            refine Own.aload W38 at_283 285 rfl .null rfl rfl ?_
            refine Own.acmp W38 at_285 288 rfl rfl true (decide_eq_true rfl) (by decide) rfl ?_
            refine Own.iconst W38 at_288 289 rfl (1 : Int32) rfl ?_
            refine Own.goto W38 at_289 293 (by decide) (by decide) ?_
            exact Own.retB W38 (by decide) (by decide) rfl at_293 rfl rfl
    refine Own.iloadN W24 at_214 215 rfl p2 rfl ?_
    refine Own.iconst W24 at_215 216 rfl (1 : Int32) rfl ?_
    refine Own.iand W24 at_216 217 rfl ?_
    by_cases e5 : (p2 &&& (1 : Int32)) = (0 : Int32)
    · skip
      refine Own.ifYes W24 at_217 241 (XT.i0_eq_t e5) (by decide) (by decide) ?_
      exact K _ _ _  (W24.le (by decide) (by decide))   F24 
    · skip
      refine Own.ifNo W24 at_217 220 (XT.i0_eq_f e5) rfl ?_
      refine Own.iload W24 at_220 222 rfl (n12 p1) rfl ?_
      by_cases e6 : (0 : Int32) < (n12 p1)
      · skip
        refine Own.ifNo W24 at_222 225 (XT.i0_le_f e6) rfl ?_
        refine Own.aload W24 at_225 227 rfl (.ref o1) rfl rfl ?_
        refine Own.iloadN W24 at_227 228 rfl p2 rfl ?_
        refine Own.iconst W24 at_228 229 rfl (1 : Int32) rfl ?_
        refine Own.iushr W24 at_229 230 rfl ?_
        refine Own.iload W24 at_230 232 rfl (n12 p1) rfl ?_
        refine Own.irem W24 at_232 233 rfl (pos_ne e6) ?_
        refine Own.iload W24 at_233 235 rfl p5 rfl ?_
        refine Own.sipush W24 at_235 238 rfl (255 : Int32) rfl ?_
        refine Own.iand W24 at_238 239 rfl ?_
        refine Own.i2c W24 at_239 240 rfl ?_
        refine Own.castoreC W24 F24 (idx (n12_r p1) e6) (Nat.le_trans W0.n0 (Nat.le_trans X2.1 g1)) (show Own.Rg _ from Own.lo_rng _) at_240 241 rfl ?_
        intro T39 h39 W39 Q39 V39 k39
        exact K _ _ _  (W39.le (by decide) (by decide))   V39 
      · skip
        refine Own.ifYes W24 at_222 241 (XT.i0_le_t e6) (by decide) (by decide) ?_
        exact K _ _ _  (W24.le (by decide) (by decide))   F24 
  by_cases e0 : ((p0 &&& (2147483647 : Int32)) % (4 : Int32)) = (0 : Int32)
  · skip
    refine Own.ifNo W0 at_10 13 (XT.i0_ne_f e0) rfl ?_
    refine Own.ldcR W0 (tw hw 1 rfl) (Own.sAtoms (wS hw)) (by rw [hE]; decide) (vs := [(.int (100 : Int32)), (.int (101 : Int32)), (.int (98 : Int32)), (.int (101 : Int32)), (.int (122 : Int32)), (.int (105 : Int32)), (.int (117 : Int32)), (.int (109 : Int32))]) (z := (8 : Int32)) ⟨by decide, by decide⟩ (by decide) (by decide) at_13 15 rfl 32 (by decide) (by decide) 2 36 (Nat.le_of_ble_eq_true rfl) (Nat.le_of_ble_eq_true rfl) (Nat.le_of_ble_eq_true rfl) (Nat.le_of_ble_eq_true rfl) ?_
    intro v40 T40 h40 o40 b40 q40 W40 R40 E40 fa40 fc40 fv40 fb40 ne40
    have F40 : Own.Str G.Z h40 o40 [(100 : Int32), (101 : Int32), (98 : Int32), (101 : Int32), (122 : Int32), (105 : Int32), (117 : Int32), (109 : Int32)] := ⟨fa40, fc40, by decide, by decide, b40, q40, fv40, fb40⟩
    refine Own.goto W40 at_15 42 (by decide) (by decide) ?_
    have X41 : Ext h h40 := E40
    exact J _ _ _ o40 _ (W40.le (by decide) (by decide)) X41  F40 
  · skip
    refine Own.ifYes W0 at_10 18 (XT.i0_ne_t e0) (by decide) (by decide) ?_
    refine Own.iload W0 at_18 20 rfl ((p0 &&& (2147483647 : Int32)) % (4 : Int32)) rfl ?_
    refine Own.iconst W0 at_20 21 rfl (1 : Int32) rfl ?_
    by_cases e1 : ((p0 &&& (2147483647 : Int32)) % (4 : Int32)) = (1 : Int32)
    · skip
      refine Own.icmpNo W0 at_21 24 (XT.ii_ne_f e1) rfl ?_
      refine Own.ldcR W0 (tw hw 110 rfl) (Own.sAtoms (wS hw)) (by rw [hE]; decide) (vs := [(.int (103 : Int32)), (.int (111 : Int32)), (.int (108 : Int32)), (.int (100 : Int32)), (.int (101 : Int32)), (.int (110 : Int32)), (.int (103 : Int32)), (.int (97 : Int32)), (.int (116 : Int32)), (.int (101 : Int32))]) (z := (10 : Int32)) ⟨by decide, by decide⟩ (by decide) (by decide) at_24 26 rfl 40 (by decide) (by decide) 2 44 (Nat.le_of_ble_eq_true rfl) (Nat.le_of_ble_eq_true rfl) (Nat.le_of_ble_eq_true rfl) (Nat.le_of_ble_eq_true rfl) ?_
      intro v42 T42 h42 o42 b42 q42 W42 R42 E42 fa42 fc42 fv42 fb42 ne42
      have F42 : Own.Str G.Z h42 o42 [(103 : Int32), (111 : Int32), (108 : Int32), (100 : Int32), (101 : Int32), (110 : Int32), (103 : Int32), (97 : Int32), (116 : Int32), (101 : Int32)] := ⟨fa42, fc42, by decide, by decide, b42, q42, fv42, fb42⟩
      refine Own.goto W42 at_26 42 (by decide) (by decide) ?_
      have X43 : Ext h h42 := E42
      exact J _ _ _ o42 _ (W42.le (by decide) (by decide)) X43  F42 
    · skip
      refine Own.icmpYes W0 at_21 29 (XT.ii_ne_t e1) (by decide) (by decide) ?_
      refine Own.iload W0 at_29 31 rfl ((p0 &&& (2147483647 : Int32)) % (4 : Int32)) rfl ?_
      refine Own.iconst W0 at_31 32 rfl (2 : Int32) rfl ?_
      by_cases e2 : ((p0 &&& (2147483647 : Int32)) % (4 : Int32)) = (2 : Int32)
      · skip
        refine Own.icmpNo W0 at_32 35 (XT.ii_ne_f e2) rfl ?_
        refine Own.ldcR W0 (tw hw 111 rfl) (Own.sAtoms (wS hw)) (by rw [hE]; decide) (vs := [(.int (100 : Int32)), (.int (98 : Int32)), (.int (50 : Int32))]) (z := (3 : Int32)) ⟨by decide, by decide⟩ (by decide) (by decide) at_35 37 rfl 12 (by decide) (by decide) 2 16 (Nat.le_of_ble_eq_true rfl) (Nat.le_of_ble_eq_true rfl) (Nat.le_of_ble_eq_true rfl) (Nat.le_of_ble_eq_true rfl) ?_
        intro v44 T44 h44 o44 b44 q44 W44 R44 E44 fa44 fc44 fv44 fb44 ne44
        have F44 : Own.Str G.Z h44 o44 [(100 : Int32), (98 : Int32), (50 : Int32)] := ⟨fa44, fc44, by decide, by decide, b44, q44, fv44, fb44⟩
        refine Own.goto W44 at_37 42 (by decide) (by decide) ?_
        have X45 : Ext h h44 := E44
        exact J _ _ _ o44 _ (W44.le (by decide) (by decide)) X45  F44 
      · skip
        refine Own.icmpYes W0 at_32 40 (XT.ii_ne_t e2) (by decide) (by decide) ?_
        refine Own.ldcR W0 (tw hw 112 rfl) (Own.sAtoms (wS hw)) (by rw [hE]; decide) (vs := []) (z := (0 : Int32)) ⟨by decide, by decide⟩ (by decide) (by decide) at_40 42 rfl 0 (by decide) (by decide) 2 4 (Nat.le_of_ble_eq_true rfl) (Nat.le_of_ble_eq_true rfl) (Nat.le_of_ble_eq_true rfl) (Nat.le_of_ble_eq_true rfl) ?_
        intro v46 T46 h46 o46 b46 q46 W46 R46 E46 fa46 fc46 fv46 fb46 ne46
        have F46 : Own.Str G.Z h46 o46 [] := ⟨fa46, fc46, by decide, by decide, b46, q46, fv46, fb46⟩
        have X47 : Ext h h46 := E46
        exact J _ _ _ o46 _ (W46.le (by decide) (by decide)) X47  F46 
theorem elW {G : Own.Gl} (hw : ∀ d ∈ tables_1, d.before G.a0 G.Z = true) : EW G.Z G.a0 consts_1 := (EW.cons (tw hw 1 rfl) (by decide) (EW.cons (tw hw 110 rfl) (by decide) (EW.cons (tw hw 111 rfl) (by decide) (EW.cons (tw hw 112 rfl) (by decide) (EW.cons (tw hw 113 rfl) (by decide) EW.nil)))))
set_option maxRecDepth 65536 in
set_option maxHeartbeats 40000000 in
theorem comes_1 {Post : Tables → Env → Array Value → State → Outcome → State → Prop} (hpost : ∀ tb e args s v u, (limb_1_1.after args s (.returned v) u = true ∧ limb_1_2.after args s (.returned v) u = true ∧ True) → ReturnedEndW s (.returned v) u (Jvm.fieldLocs frame_1_writes args s ++ Jvm.arrayLocs frame_1_arrays args s ++ Jvm.staticLocs frame_1_statics s) 32 5312 → Post tb e args s (.returned v) u) :
    ArmFor flags0 classFile x code maxLocals ret World_1 tables_1 room_1 Calls_1 rest_1 Pre_1 Post := by
  intro l hfl _ _ p e ha hc hk s m args below hf hA hF happ hP
  obtain ⟨hcalls, hrest, hpre⟩ := hP
  obtain ⟨-, -, -, hnamed, -, -, -, hat⟩ := (Spec.applies_iff hf).mp happ
  obtain ⟨hg, hn⟩ := and_e (Cond.before_iff.mp (show (Jvm.Cond.and given_1 narrow_1).before args s = true from hpre))
  obtain ⟨hcnt, g1⟩ := and_e hg
  obtain ⟨a0, g2⟩ := and_e g1
  obtain ⟨a1, g3⟩ := and_e g2
  obtain ⟨a2, g4⟩ := and_e g3
  obtain ⟨a3, g5⟩ := and_e g4
  obtain ⟨a4, g6⟩ := and_e g5
  have a5 := g6
  obtain ⟨w0, w1, w2, w3, w4, w5, rfl⟩ : ∃ w0 w1 w2 w3 w4 w5 : Value, args = #[w0, w1, w2, w3, w4, w5] := by
    have hs : args.size = 6 := by simpa [Cond.value, given_1] using hcnt
    obtain ⟨L⟩ := args
    match L, hs with
    | [w0, w1, w2, w3, w4, w5], _ => exact ⟨w0, w1, w2, w3, w4, w5, rfl⟩
  have hw := fun d (hd : d ∈ tables_1) => atoms_spec (ws := Jvm.Cond.code x code maxLocals ret :: tables_1) hat d (List.mem_cons_of_mem _ hd)
  have hfit : Fit s := fun {y c} hc i hi => by
    obtain ⟨ha, rfl⟩ := Array.getElem?_eq_some_iff.mp hc
    have q := List.all_eq_true.mp ((Array.all_eq_true_iff_forall_mem.mp hF) _ (Array.getElem_mem ha)) i (List.mem_range.mpr hi)
    simpa [Array.getElem?_eq_getElem hi] using q
  obtain ⟨hsets, hown0⟩ := atoms_of _ (rest_1_c_eq ▸ (show rest_1_c.before _ s = true from hrest))
  obtain ⟨i0, ei0⟩ := is_v a0
  obtain rfl : w0 = (.int i0) := Option.some.inj ei0
  obtain ⟨i1, ei1⟩ := is_v a1
  obtain rfl : w1 = (.int i1) := Option.some.inj ei1
  obtain ⟨i2, ei2⟩ := is_v a2
  obtain rfl : w2 = (.int i2) := Option.some.inj ei2
  obtain ⟨i3, ei3⟩ := is_v a3
  obtain rfl : w3 = (.int i3) := Option.some.inj ei3
  obtain ⟨i4, ei4⟩ := is_v a4
  obtain rfl : w4 = (.int i4) := Option.some.inj ei4
  obtain ⟨i5, ei5⟩ := is_v a5
  obtain rfl : w5 = (.int i5) := Option.some.inj ei5
  have n3 := not_v (Cond.before_iff.mp (hsets _ (List.mem_of_getElem? (i := 2) rfl)))
  obtain ⟨cz, ecz⟩ := is_v (Cond.before_iff.mp (hsets _ (List.mem_of_getElem? (i := 1) rfl)))
  have S8 : Sta s s.heap "java/lang/String" "COMPACT_STRINGS" "Z" (.int cz) := Sta.start ecz (Or.inl (hsets _ (List.mem_of_getElem? (i := 0) rfl)))
  have hcz : ¬ (cz = (0 : Int32)) := gotF (Cond.eq_ints ecz (Term.int_eval (0))) n3
  obtain ⟨fm, efm, rfm⟩ := isR_v (Cond.before_iff.mp (hsets _ (List.mem_of_getElem? (i := 8) rfl)))
  have SF : Sta s s.heap "jdk/internal/util/Preconditions" "SIOOBE_FORMATTER" "Ljava/util/function/BiFunction;" fm := Sta.start efm (Or.inl (hsets _ (List.mem_of_getElem? (i := 7) rfl)))
  let G : Own.Gl := (l, s, #[(.int i0), (.int i1), (.int i2), (.int i3), (.int i4), (.int i5)], consts_1, s.heap.size)
  have hw' : ∀ d ∈ tables_1, d.before G.a0 G.Z = true := hw
  have hEL : EW G.Z G.a0 G.EL := elW hw'
  have hcw : Jvm.Lit.compactW.before G.a0 G.Z = true := hsets _ (List.mem_of_getElem? (i := 2) rfl)
  have hCH : CHv G.Z G.EL G.Z.vm G.Z.heap := CHv.start hEL (fun q hq => hcalls.1 q hq) hcw (tw hw' 4 rfl) (tw hw' 3 rfl)
  have q0 := hn
  obtain ⟨m0, q1⟩ := and_e q0
  obtain ⟨m1, q2⟩ := and_e q1
  obtain ⟨m2, q3⟩ := and_e q2
  obtain ⟨m3, q4⟩ := and_e q3
  obtain ⟨m4, q5⟩ := and_e q4
  obtain ⟨m5, q6⟩ := and_e q5
  obtain ⟨m6, q7⟩ := and_e q6
  obtain ⟨m7, q8⟩ := and_e q7
  obtain ⟨m8, q9⟩ := and_e q8
  obtain ⟨m9, q10⟩ := and_e q9
  obtain ⟨m10, q11⟩ := and_e q10
  obtain ⟨m11, q12⟩ := and_e q11
  obtain ⟨m12, q13⟩ := and_e q12
  obtain ⟨m13, q14⟩ := and_e q13
  obtain ⟨m14, q15⟩ := and_e q14
  obtain ⟨m15, q16⟩ := and_e q15
  obtain ⟨m16, q17⟩ := and_e q16
  obtain ⟨m17, q18⟩ := and_e q17
  obtain ⟨m18, q19⟩ := and_e q18
  obtain ⟨m19, q20⟩ := and_e q19
  obtain ⟨m20, q21⟩ := and_e q20
  obtain ⟨m21, q22⟩ := and_e q21
  obtain ⟨m22, q23⟩ := and_e q22
  obtain ⟨m23, q24⟩ := and_e q23
  obtain ⟨m24, q25⟩ := and_e q24
  obtain ⟨m25, q26⟩ := and_e q25
  obtain ⟨m26, q27⟩ := and_e q26
  obtain ⟨m27, q28⟩ := and_e q27
  obtain ⟨m28, q29⟩ := and_e q28
  obtain ⟨m29, q30⟩ := and_e q29
  obtain ⟨m30, q31⟩ := and_e q30
  obtain ⟨m31, q32⟩ := and_e q31
  obtain ⟨m32, q33⟩ := and_e q32
  obtain ⟨m33, q34⟩ := and_e q33
  obtain ⟨m34, q35⟩ := and_e q34
  obtain ⟨m35, q36⟩ := and_e q35
  obtain ⟨m36, q37⟩ := and_e q36
  obtain ⟨m37, q38⟩ := and_e q37
  obtain ⟨m38, q39⟩ := and_e q38
  obtain ⟨m39, q40⟩ := and_e q39
  obtain ⟨m40, q41⟩ := and_e q40
  have m41 := q41
  obtain ⟨rv, evV⟩ := exa_v m1
  have XV := Exa.start evV m1
  have TV := Sta.start evV (Or.inl (hw _ (List.mem_of_getElem? (i := 92) rfl)))
  obtain ⟨r0, ev0⟩ := exa_v m3
  have TE0 := Sta.start ev0 (Or.inr ⟨hw _ (List.mem_of_getElem? (i := 75) rfl), hw _ (List.mem_of_getElem? (i := 89) rfl)⟩)
  obtain ⟨l0, el0⟩ := exa_v m9
  have XL0 := Exa.start el0 m9
  have LE0 := Fld.start (by have e := el0; rwa [fld_at ev0] at e)
  have CL0 := Own.fldOf el0 m10
  obtain ⟨b0, eb0⟩ := arr_v m11
  have FV0 := Fld.start (by have e := eb0; rwa [fld_at el0] at e)
  obtain ⟨k0, AB0⟩ := Own.arvStart hfit (dv := .int 0) (vs := [(.int (100 : Int32)), (.int (101 : Int32)), (.int (98 : Int32)), (.int (101 : Int32)), (.int (122 : Int32)), (.int (105 : Int32)), (.int (117 : Int32)), (.int (109 : Int32))]) eb0 m11 m12 (by decide) (by decide) (by
    intro i hi
    match i, hi with
    | 0, _ => exact Own.eqI m24
    | 1, _ => exact Own.eqI m25
    | 2, _ => exact Own.eqI m26
    | 3, _ => exact Own.eqI m27
    | 4, _ => exact Own.eqI m28
    | 5, _ => exact Own.eqI m29
    | 6, _ => exact Own.eqI m30
    | 7, _ => exact Own.eqI m31
    | (k + 8), hk => exact absurd hk (by simp <;> omega))
  have SE0 : Own.Str s s.heap l0 [(100 : Int32), (101 : Int32), (98 : Int32), (101 : Int32), (122 : Int32), (105 : Int32), (117 : Int32), (109 : Int32)] := ⟨XL0, CL0, by decide, by decide, b0, k0, FV0, AB0⟩
  obtain ⟨r1, ev1⟩ := exa_v m5
  have TE1 := Sta.start ev1 (Or.inr ⟨hw _ (List.mem_of_getElem? (i := 75) rfl), hw _ (List.mem_of_getElem? (i := 90) rfl)⟩)
  obtain ⟨l1, el1⟩ := exa_v m13
  have XL1 := Exa.start el1 m13
  have LE1 := Fld.start (by have e := el1; rwa [fld_at ev1] at e)
  have CL1 := Own.fldOf el1 m14
  obtain ⟨b1, eb1⟩ := arr_v m15
  have FV1 := Fld.start (by have e := eb1; rwa [fld_at el1] at e)
  obtain ⟨k1, AB1⟩ := Own.arvStart hfit (dv := .int 0) (vs := [(.int (103 : Int32)), (.int (111 : Int32)), (.int (108 : Int32)), (.int (100 : Int32)), (.int (101 : Int32)), (.int (110 : Int32)), (.int (103 : Int32)), (.int (97 : Int32)), (.int (116 : Int32)), (.int (101 : Int32))]) eb1 m15 m16 (by decide) (by decide) (by
    intro i hi
    match i, hi with
    | 0, _ => exact Own.eqI m32
    | 1, _ => exact Own.eqI m33
    | 2, _ => exact Own.eqI m34
    | 3, _ => exact Own.eqI m35
    | 4, _ => exact Own.eqI m36
    | 5, _ => exact Own.eqI m37
    | 6, _ => exact Own.eqI m38
    | 7, _ => exact Own.eqI m39
    | 8, _ => exact Own.eqI m40
    | 9, _ => exact Own.eqI m41
    | (k + 10), hk => exact absurd hk (by simp <;> omega))
  have SE1 : Own.Str s s.heap l1 [(103 : Int32), (111 : Int32), (108 : Int32), (100 : Int32), (101 : Int32), (110 : Int32), (103 : Int32), (97 : Int32), (116 : Int32), (101 : Int32)] := ⟨XL1, CL1, by decide, by decide, b1, k1, FV1, AB1⟩
  obtain ⟨r2, ev2⟩ := exa_v m7
  have TE2 := Sta.start ev2 (Or.inr ⟨hw _ (List.mem_of_getElem? (i := 75) rfl), hw _ (List.mem_of_getElem? (i := 91) rfl)⟩)
  obtain ⟨l2, el2⟩ := exa_v m17
  have XL2 := Exa.start el2 m17
  have LE2 := Fld.start (by have e := el2; rwa [fld_at ev2] at e)
  have CL2 := Own.fldOf el2 m18
  obtain ⟨b2, eb2⟩ := arr_v m19
  have FV2 := Fld.start (by have e := eb2; rwa [fld_at el2] at e)
  obtain ⟨k2, AB2⟩ := Own.arvStart hfit (dv := .int 0) (vs := [(.int (100 : Int32)), (.int (98 : Int32)), (.int (50 : Int32))]) eb2 m19 m20 (by decide) (by decide) (by
    intro i hi
    match i, hi with
    | 0, _ => exact Own.eqI m21
    | 1, _ => exact Own.eqI m22
    | 2, _ => exact Own.eqI m23
    | (k + 3), hk => exact absurd hk (by simp <;> omega))
  have SE2 : Own.Str s s.heap l2 [(100 : Int32), (98 : Int32), (50 : Int32)] := ⟨XL2, CL2, by decide, by decide, b2, k2, FV2, AB2⟩
  obtain ⟨kV, AV⟩ := Own.arvStart hfit (dv := .null) (vs := [(.ref r0), (.ref r1), (.ref r2)]) evV m0 m2 (by decide) rfl (by
    intro i hi
    match i, hi with
    | 0, _ => exact Own.eqRef m4 ev0
    | 1, _ => exact Own.eqRef m6 ev1
    | 2, _ => exact Own.eqRef m8 ev2
    | (k + 3), hk => exact absurd hk (by simp <;> omega))
  obtain ⟨n, o, h1, h2, h3, v, L, rfl, ⟨hv, N, -⟩, -, hq⟩ := con_law (G := G) hw' hEL (by show (Own.ST, 7) ∈ consts_1; decide) S8 hcz rfl SF rfm TV AV XV TE0 LE0 SE0 TE1 LE1 SE1 TE2 LE2 SE2 i0 i1 i2 i3 i4 i5 (Old.start s) p e ha hc hk s m _ below hf ((Spec.applies_iff_loose hf).mp happ).1 ⟨rfl, State.Warmed39.refl s, rfl, hCH, fun _ q => nomatch q⟩ trivial
  subst hv
  exact ⟨n, _, h1, h2, h3, hpost _ _ _ _ _ _ ⟨Cond.after_iff.mpr rfl, Cond.after_iff.mpr (eq_i res_at (Term.int_eval (1)) rfl), trivial⟩ ⟨hq.1, hq.2.1, hq.2.2.1, (hq.2.2.2.sift fun y hy => Or.inr (N y hy)).mono (by decide) (by decide)⟩⟩
theorem main_1_1 : Claimed_1_1 := comes_1 fun _ _ _ _ _ _ h hF => ⟨h.1, hF⟩
theorem main_1_2 : Claimed_1_2 := comes_1 fun _ _ _ _ _ _ h hF => ⟨h.2.1, hF⟩
end Jvm.Pilot.@@N@@
namespace Jvm.Pilot.@@N@@
open Jvm Jvm.ClassFile Sem Op Lib Jvm.Free Jvm.Stand Jvm.Pilot.@@N@@.Jvm.D
/-! MADE BY PROGRAM (witnessworld.py) out of the Statement's table words and the real class files: 22 classes; the members and pool entries that the words name. The judged class is class 1, her method 1. -/
namespace start1
open Jvm.ClassFile
def u (s : String) : CpInfo := .utf8 (stringToUtf16 s)
/-- a pool by its gaps: so many unusable entries, then the entry; so many at the end -/
def gap : Nat → List CpInfo → List CpInfo
  | 0, r => r
  | n + 1, r => .unusable :: gap n r
def poolList (es : List (Nat × CpInfo)) (last : Nat) : List CpInfo := es.foldr (fun e r => gap e.1 (e.2 :: r)) (gap last [])
def pool (es : List (Nat × CpInfo)) (last : Nat) : Array CpInfo := ⟨poolList es last⟩
def fileOf (pool : Array CpInfo) (this : Nat) (attrs : Array Attribute := #[]) (ms : Array MethodInfo := #[]) (fl : Nat := 33) (sup : Nat := 0) (ifs : Array Nat := #[]) (fds : Array FieldInfo := #[]) : ClassFile where
  minorVersion := 0
  majorVersion := 65
  constantPool := pool
  accessFlags := fl
  thisClass := this
  superClass := sup
  interfaces := ifs
  fields := fds
  methods := ms
  attributes := attrs
def plain (name : String) (sup : Option ClassId) : Class where
  name := name
  kind := .ordinary
  loader := none
  accessFlags := 33
  super := sup
  interfaces := #[]
  cf := none
  fields := #[]
  methods := #[]
  instanceTypes := #[]
  staticTypes := #[]
  resolved := #[]
  callSites := []
  init := .initialized
  statics := none
  mirror := none

def pool0 : Array CpInfo := pool [(5, u "<init>"), (0, u "()V"), (1, .class_ 10), (1, u "java/lang/Object"), (85, u "clone"), (0, u "()Ljava/lang/Object;")] 26

def k0c0 : Code := { maxStack := 0, maxLocals := 1, code := object_method_1_code, exceptionTable := #[], attributes := #[] }
def k0m0 : Method := { name := "<init>", desc := "()V", sig := { parameters := [], returnType := none }, accessFlags := 1, code := some k0c0 }
def k0m1 : Method := { name := "clone", desc := "()Ljava/lang/Object;", sig := { parameters := [], returnType := some (.object "java/lang/Object") }, accessFlags := 260, code := none }
/-- java/lang/Object -/
def k0 : Class := { plain "java/lang/Object" none with
  accessFlags := 33
  interfaces := #[]
  cf := some (fileOf pool0 8 #[] #[{ accessFlags := 1, nameIndex := 5, descriptorIndex := 6, attributes := #[] }, { accessFlags := 260, nameIndex := 96, descriptorIndex := 97, attributes := #[] }] 33 0 #[] #[])
  fields := #[]
  methods := #[k0m0, k0m1]
  instanceTypes := #[]
  staticTypes := #[]
  resolved := Array.replicate 124 none
  statics := none }

def pool1 : Array CpInfo := pool [(2, .class_ 4), (1, u "java/lang/Object"), (0, u "<init>"), (0, u "()V"), (0, .integer 2147483647), (0, .string 9), (0, u "debezium"), (0, .string 11), (0, u "goldengate"), (0, .string 13), (0, u "db2"), (0, .string 15), (0, u ""), (0, .methodref 17 18), (0, .class_ 19), (0, .nameAndType 20 21), (0, u "com/example/couplet/couplet/core/EnvelopeNamedPinLaw"), (0, u "alloc"), (0, u "(I)[C"), (0, .methodref 17 23), (0, .nameAndType 24 25), (0, u "fill"), (0, u "([CILjava/lang/String;CC)V"), (0, .class_ 27), (0, u "java/lang/String"), (0, .methodref 26 29), (0, .nameAndType 5 30), (0, u "([C)V"), (0, .methodref 32 33), (0, .class_ 34), (0, .nameAndType 35 36), (0, u "com/example/couplet/couplet/core/Envelope"), (0, u "named"), (0, u "(Ljava/lang/String;)Lcom/example/couplet/couplet/core/Envelope;"), (0, .methodref 17 38), (0, .nameAndType 39 36), (0, u "expected"), (0, .methodref 26 41), (0, .nameAndType 42 43), (0, u "equals"), (0, u "(Ljava/lang/Object;)Z"), (0, .fieldref 32 45), (0, .nameAndType 46 47), (0, u "OP_BEFORE_AFTER"), (0, u "Lcom/example/couplet/couplet/core/Envelope;"), (0, .fieldref 32 49), (0, .nameAndType 50 47), (0, u "OP_TYPE_BEFORE_AFTER"), (0, .fieldref 32 52), (0, .nameAndType 53 47), (0, u "WHOLE_RECORD"), (0, .methodref 26 55), (0, .nameAndType 56 57), (0, u "length"), (0, u "()I"), (0, .methodref 26 59), (0, .nameAndType 60 61), (0, u "charAt"), (0, u "(I)C"), (2, u "law"), (0, u "(IIIIII)Z")] 5

def k1m0 : Method := { name := "<init>", desc := "()V", sig := { parameters := [], returnType := none }, accessFlags := 1, code := none }
def k1c1 : Code := { maxStack := 5, maxLocals := 15, code := code, exceptionTable := #[], attributes := #[] }
def k1m1 : Method := { name := "law", desc := "(IIIIII)Z", sig := { parameters := [.int, .int, .int, .int, .int, .int], returnType := some .boolean }, accessFlags := 9, code := some k1c1 }
def k1c2 : Code := { maxStack := 2, maxLocals := 1, code := method_3_code, exceptionTable := #[], attributes := #[] }
def k1m2 : Method := { name := "expected", desc := "(Ljava/lang/String;)Lcom/example/couplet/couplet/core/Envelope;", sig := { parameters := [(.object "java/lang/String")], returnType := some (.object "com/example/couplet/couplet/core/Envelope") }, accessFlags := 10, code := some k1c2 }
def k1c3 : Code := { maxStack := 4, maxLocals := 5, code := method_4_code, exceptionTable := #[], attributes := #[] }
def k1m3 : Method := { name := "fill", desc := "([CILjava/lang/String;CC)V", sig := { parameters := [(.array .char), .int, (.object "java/lang/String"), .char, .char], returnType := none }, accessFlags := 10, code := some k1c3 }
def k1c4 : Code := { maxStack := 2, maxLocals := 1, code := method_5_code, exceptionTable := #[], attributes := #[] }
def k1m4 : Method := { name := "alloc", desc := "(I)[C", sig := { parameters := [.int], returnType := some (.array .char) }, accessFlags := 10, code := some k1c4 }
/-- com/example/couplet/couplet/core/EnvelopeNamedPinLaw -/
def k1 : Class := { plain "com/example/couplet/couplet/core/EnvelopeNamedPinLaw" (some 0) with
  accessFlags := 49
  interfaces := #[]
  cf := some (fileOf pool1 17 #[] #[{ accessFlags := 1, nameIndex := 5, descriptorIndex := 6, attributes := #[] }, { accessFlags := 9, nameIndex := 64, descriptorIndex := 65, attributes := #[] }, { accessFlags := 10, nameIndex := 39, descriptorIndex := 36, attributes := #[] }, { accessFlags := 10, nameIndex := 24, descriptorIndex := 25, attributes := #[] }, { accessFlags := 10, nameIndex := 20, descriptorIndex := 21, attributes := #[] }] 49 2 #[] #[])
  fields := #[]
  methods := #[k1m0, k1m1, k1m2, k1m3, k1m4]
  instanceTypes := #[]
  staticTypes := #[]
  resolved := Array.replicate 71 none
  statics := none }

def pool2 : Array CpInfo := pool [(1, .class_ 2), (0, u "java/io/Serializable"), (0, .class_ 4), (0, u "java/lang/Object")] 2

/-- java/io/Serializable -/
def k2 : Class := { plain "java/io/Serializable" (some 0) with
  accessFlags := 1537
  interfaces := #[]
  cf := some (fileOf pool2 1 #[] #[] 1537 3 #[] #[])
  fields := #[]
  methods := #[]
  instanceTypes := #[]
  staticTypes := #[]
  resolved := Array.replicate 7 none
  statics := none }

def pool3 : Array CpInfo := pool [(1, .class_ 2), (0, u "java/lang/Comparable"), (0, .class_ 4), (0, u "java/lang/Object")] 7

/-- java/lang/Comparable -/
def k3 : Class := { plain "java/lang/Comparable" (some 0) with
  accessFlags := 1537
  interfaces := #[]
  cf := some (fileOf pool3 1 #[] #[] 1537 3 #[] #[])
  fields := #[]
  methods := #[]
  instanceTypes := #[]
  staticTypes := #[]
  resolved := Array.replicate 12 none
  statics := none }

def pool4 : Array CpInfo := pool [(2, .class_ 4), (1, u "java/lang/CharSequence"), (42, .class_ 48), (0, u "java/lang/CharSequence$1CodePointIterator"), (10, .class_ 60), (0, u "java/lang/CharSequence$1CharIterator"), (5, .class_ 67), (0, u "java/lang/Object")] 63

/-- java/lang/CharSequence -/
def k4 : Class := { plain "java/lang/CharSequence" (some 0) with
  accessFlags := 1537
  interfaces := #[]
  cf := some (fileOf pool4 2 #[.nestMembers #[47, 59]] #[] 1537 66 #[] #[])
  fields := #[]
  methods := #[]
  instanceTypes := #[]
  staticTypes := #[]
  resolved := Array.replicate 131 none
  statics := none }

def pool5 : Array CpInfo := pool [(1, .class_ 2), (0, u "java/lang/constant/Constable"), (0, .class_ 4), (0, u "java/lang/Object")] 6

/-- java/lang/constant/Constable -/
def k5 : Class := { plain "java/lang/constant/Constable" (some 0) with
  accessFlags := 1537
  interfaces := #[]
  cf := some (fileOf pool5 1 #[] #[] 1537 3 #[] #[])
  fields := #[]
  methods := #[]
  instanceTypes := #[]
  staticTypes := #[]
  resolved := Array.replicate 11 none
  statics := none }

def pool6 : Array CpInfo := pool [(1, .class_ 2), (0, u "java/lang/constant/ConstantDesc"), (0, .class_ 4), (0, u "java/lang/Object")] 32

/-- java/lang/constant/ConstantDesc -/
def k6 : Class := { plain "java/lang/constant/ConstantDesc" (some 0) with
  accessFlags := 1537
  interfaces := #[]
  cf := some (fileOf pool6 1 #[] #[] 1537 3 #[] #[])
  fields := #[]
  methods := #[]
  instanceTypes := #[]
  staticTypes := #[]
  resolved := Array.replicate 37 none
  statics := none }

def pool7 : Array CpInfo := pool [(1, .methodref 2 3), (0, .class_ 4), (0, .nameAndType 5 6), (0, u "java/lang/Object"), (0, u "<init>"), (0, u "()V"), (0, .string 8), (0, u ""), (0, .fieldref 10 11), (0, .class_ 12), (0, .nameAndType 13 14), (0, u "java/lang/String"), (0, u "value"), (0, u "[B"), (0, .fieldref 10 16), (0, .nameAndType 17 18), (0, u "coder"), (0, u "B"), (2, u "hash"), (0, u "I"), (2, u "hashIsZero"), (0, u "Z"), (0, .methodref 10 28), (0, .nameAndType 5 29), (0, u "([CIILjava/lang/Void;)V"), (8, .fieldref 10 39), (0, .nameAndType 40 26), (0, u "COMPACT_STRINGS"), (1, .class_ 44), (1, u "java/lang/StringUTF16"), (0, u "compress"), (1, .methodref 42 48), (0, .nameAndType 49 50), (0, u "coderFromArrayLen"), (0, u "([BI)B"), (56, .class_ 109), (1, u "java/lang/StringLatin1"), (32, u "()Z"), (34, .methodref 42 178), (0, .nameAndType 45 179), (0, u "([CII)[B"), (154, u "()I"), (0, .methodref 10 336), (0, .nameAndType 17 337), (0, u "()B"), (25, u "([BI)C"), (27, u "(II)V"), (35, u "(I)C"), (64, .methodref 10 493), (0, .nameAndType 494 142), (0, u "isLatin1"), (0, .methodref 107 496), (0, .nameAndType 497 363), (0, u "charAt"), (3, u "checkIndex"), (5, u "length"), (33, .methodref 107 542), (0, .nameAndType 543 544), (0, u "equals"), (0, u "([B[B)Z"), (28, u "(Ljava/lang/Object;)Z"), (1, .class_ 576), (0, u "java/lang/CharSequence"), (22, u "CASE_INSENSITIVE_ORDER"), (0, u "Ljava/util/Comparator;"), (409, u "([C)V"), (42, .fieldref 1054 1055), (0, .class_ 1056), (0, .nameAndType 1057 1058), (0, u "jdk/internal/util/Preconditions"), (0, u "SIOOBE_FORMATTER"), (0, u "Ljava/util/function/BiFunction;"), (0, .methodref 1054 1060), (0, .nameAndType 501 1061), (0, u "(IILjava/util/function/BiFunction;)I"), (39, u "serialPersistentFields"), (0, u "[Ljava/io/ObjectStreamField;"), (0, .class_ 1104), (0, u "java/lang/String$CaseInsensitiveComparator"), (1, .class_ 1107), (0, u "java/io/Serializable"), (0, .class_ 1109), (0, u "java/lang/Comparable"), (0, .class_ 1111), (0, u "java/lang/constant/Constable"), (0, .class_ 1113), (0, u "java/lang/constant/ConstantDesc"), (2, u "serialVersionUID"), (0, u "J"), (3, u "REPL"), (0, u "C"), (2, u "LATIN1"), (1, u "UTF16")] 323

def k7m0 : Method := { name := "<init>", desc := "()V", sig := { parameters := [], returnType := none }, accessFlags := 1, code := none }
def k7c1 : Code := { maxStack := 5, maxLocals := 2, code := jdk_42_method_3_code, exceptionTable := #[], attributes := #[] }
def k7m1 : Method := { name := "<init>", desc := "([C)V", sig := { parameters := [(.array .char)], returnType := none }, accessFlags := 1, code := some k7c1 }
def k7c2 : Code := { maxStack := 2, maxLocals := 1, code := jdk_42_method_54_code, exceptionTable := #[], attributes := #[] }
def k7m2 : Method := { name := "length", desc := "()I", sig := { parameters := [], returnType := some .int }, accessFlags := 1, code := some k7c2 }
def k7c3 : Code := { maxStack := 2, maxLocals := 2, code := jdk_42_method_56_code, exceptionTable := #[], attributes := #[] }
def k7m3 : Method := { name := "charAt", desc := "(I)C", sig := { parameters := [.int], returnType := some .char }, accessFlags := 1, code := some k7c3 }
def k7c4 : Code := { maxStack := 2, maxLocals := 3, code := jdk_42_method_66_code, exceptionTable := #[], attributes := #[] }
def k7m4 : Method := { name := "equals", desc := "(Ljava/lang/Object;)Z", sig := { parameters := [(.object "java/lang/Object")], returnType := some .boolean }, accessFlags := 1, code := some k7c4 }
def k7c5 : Code := { maxStack := 4, maxLocals := 6, code := jdk_42_method_149_code, exceptionTable := #[], attributes := #[] }
def k7m5 : Method := { name := "<init>", desc := "([CIILjava/lang/Void;)V", sig := { parameters := [(.array .char), .int, .int, (.object "java/lang/Void")], returnType := none }, accessFlags := 2, code := some k7c5 }
def k7c6 : Code := { maxStack := 1, maxLocals := 1, code := jdk_42_method_152_code, exceptionTable := #[], attributes := #[] }
def k7m6 : Method := { name := "coder", desc := "()B", sig := { parameters := [], returnType := some .byte }, accessFlags := 0, code := some k7c6 }
def k7c7 : Code := { maxStack := 1, maxLocals := 1, code := jdk_42_method_154_code, exceptionTable := #[], attributes := #[] }
def k7m7 : Method := { name := "isLatin1", desc := "()Z", sig := { parameters := [], returnType := some .boolean }, accessFlags := 0, code := some k7c7 }
def k7c8 : Code := { maxStack := 3, maxLocals := 2, code := jdk_42_method_155_code, exceptionTable := #[], attributes := #[] }
def k7m8 : Method := { name := "checkIndex", desc := "(II)V", sig := { parameters := [.int, .int], returnType := none }, accessFlags := 8, code := some k7c8 }
/-- java/lang/String -/
def k7 : Class := { plain "java/lang/String" (some 0) with
  accessFlags := 49
  interfaces := #[2, 3, 4, 5, 6]
  cf := some (fileOf pool7 10 #[.nestMembers #[1103]] #[{ accessFlags := 1, nameIndex := 5, descriptorIndex := 6, attributes := #[] }, { accessFlags := 1, nameIndex := 5, descriptorIndex := 1010, attributes := #[] }, { accessFlags := 1, nameIndex := 507, descriptorIndex := 334, attributes := #[] }, { accessFlags := 1, nameIndex := 497, descriptorIndex := 427, attributes := #[] }, { accessFlags := 1, nameIndex := 543, descriptorIndex := 573, attributes := #[] }, { accessFlags := 2, nameIndex := 5, descriptorIndex := 29, attributes := #[] }, { accessFlags := 0, nameIndex := 17, descriptorIndex := 337, attributes := #[] }, { accessFlags := 0, nameIndex := 494, descriptorIndex := 142, attributes := #[] }, { accessFlags := 8, nameIndex := 501, descriptorIndex := 391, attributes := #[] }] 49 2 #[1106, 1108, 575, 1110, 1112] #[{ accessFlags := 18, nameIndex := 13, descriptorIndex := 14, attributes := #[] }, { accessFlags := 18, nameIndex := 17, descriptorIndex := 18, attributes := #[] }, { accessFlags := 2, nameIndex := 21, descriptorIndex := 22, attributes := #[] }, { accessFlags := 2, nameIndex := 25, descriptorIndex := 26, attributes := #[] }, { accessFlags := 26, nameIndex := 1116, descriptorIndex := 1117, attributes := #[] }, { accessFlags := 24, nameIndex := 40, descriptorIndex := 26, attributes := #[] }, { accessFlags := 26, nameIndex := 1101, descriptorIndex := 1102, attributes := #[] }, { accessFlags := 26, nameIndex := 1121, descriptorIndex := 1122, attributes := #[] }, { accessFlags := 25, nameIndex := 599, descriptorIndex := 600, attributes := #[] }, { accessFlags := 24, nameIndex := 1125, descriptorIndex := 18, attributes := #[] }, { accessFlags := 24, nameIndex := 1127, descriptorIndex := 18, attributes := #[] }])
  fields := #[{ name := "value", type := (.array .byte), accessFlags := 18, slot := 0, constantValue := 0 }, { name := "coder", type := .byte, accessFlags := 18, slot := 1, constantValue := 0 }, { name := "hash", type := .int, accessFlags := 2, slot := 2, constantValue := 0 }, { name := "hashIsZero", type := .boolean, accessFlags := 2, slot := 3, constantValue := 0 }, { name := "serialVersionUID", type := .long, accessFlags := 26, slot := 0, constantValue := 0 }, { name := "COMPACT_STRINGS", type := .boolean, accessFlags := 24, slot := 1, constantValue := 0 }, { name := "serialPersistentFields", type := (.array (.object "java/io/ObjectStreamField")), accessFlags := 26, slot := 2, constantValue := 0 }, { name := "REPL", type := .char, accessFlags := 26, slot := 3, constantValue := 0 }, { name := "CASE_INSENSITIVE_ORDER", type := (.object "java/util/Comparator"), accessFlags := 25, slot := 4, constantValue := 0 }, { name := "LATIN1", type := .byte, accessFlags := 24, slot := 5, constantValue := 0 }, { name := "UTF16", type := .byte, accessFlags := 24, slot := 6, constantValue := 0 }]
  methods := #[k7m0, k7m1, k7m2, k7m3, k7m4, k7m5, k7m6, k7m7, k7m8]
  instanceTypes := #[(.array .byte), .byte, .int, .boolean]
  staticTypes := #[.long, .boolean, (.array (.object "java/io/ObjectStreamField")), .char, (.object "java/util/Comparator"), .byte, .byte]
  resolved := Array.replicate 1451 none
  statics := some 0 }

def pool8 : Array CpInfo := pool [(1, .class_ 2), (0, u "java/lang/String"), (1, .class_ 6), (1, u "java/lang/Object"), (0, u "<init>"), (0, u "()V"), (0, .methodref 1 10), (0, .nameAndType 11 12), (0, u "checkIndex"), (0, u "(II)V"), (1, .class_ 16), (1, u "java/lang/StringLatin1"), (36, u "([BI)C"), (67, u "$assertionsDisabled"), (0, u "Z"), (98, .class_ 223), (1, u "java/lang/StringLatin1$LinesSpliterator"), (28, u "charAt"), (28, u "equals"), (0, u "([B[B)Z"), (107, .class_ 391), (0, u "java/lang/StringLatin1$CharsSpliterator")] 3

def k8m0 : Method := { name := "<init>", desc := "()V", sig := { parameters := [], returnType := none }, accessFlags := 0, code := none }
def k8c1 : Code := { maxStack := 2, maxLocals := 2, code := jdk_43_method_2_code, exceptionTable := #[], attributes := #[] }
def k8m1 : Method := { name := "charAt", desc := "([BI)C", sig := { parameters := [(.array .byte), .int], returnType := some .char }, accessFlags := 9, code := some k8c1 }
def k8c2 : Code := { maxStack := 3, maxLocals := 3, code := jdk_43_method_13_code, exceptionTable := #[], attributes := #[] }
def k8m2 : Method := { name := "equals", desc := "([B[B)Z", sig := { parameters := [(.array .byte), (.array .byte)], returnType := some .boolean }, accessFlags := 9, code := some k8c2 }
/-- java/lang/StringLatin1 -/
def k8 : Class := { plain "java/lang/StringLatin1" (some 0) with
  accessFlags := 48
  interfaces := #[]
  cf := some (fileOf pool8 14 #[.nestMembers #[390, 221]] #[{ accessFlags := 0, nameIndex := 7, descriptorIndex := 8, attributes := #[] }, { accessFlags := 9, nameIndex := 252, descriptorIndex := 53, attributes := #[] }, { accessFlags := 9, nameIndex := 281, descriptorIndex := 282, attributes := #[] }] 48 4 #[] #[{ accessFlags := 4120, nameIndex := 121, descriptorIndex := 122, attributes := #[] }])
  fields := #[{ name := "$assertionsDisabled", type := .boolean, accessFlags := 4120, slot := 0, constantValue := 0 }]
  methods := #[k8m0, k8m1, k8m2]
  instanceTypes := #[]
  staticTypes := #[.boolean]
  resolved := Array.replicate 395 none
  statics := none }

def pool9 : Array CpInfo := pool [(2, .class_ 4), (1, u "java/lang/Object"), (0, u "<init>"), (0, u "()V"), (17, .class_ 26), (1, u "jdk/internal/util/Preconditions"), (6, u "checkIndex"), (21, .class_ 56), (0, u "jdk/internal/util/Preconditions$4"), (57, .class_ 115), (0, u "jdk/internal/util/Preconditions$1"), (7, u "SIOOBE_FORMATTER"), (0, u "Ljava/util/function/BiFunction;"), (0, .class_ 126), (0, u "jdk/internal/util/Preconditions$2"), (3, u "AIOOBE_FORMATTER"), (0, .class_ 132), (0, u "jdk/internal/util/Preconditions$3"), (3, u "IOOBE_FORMATTER"), (41, u "(IILjava/util/function/BiFunction;)I")] 15

def k9m0 : Method := { name := "<init>", desc := "()V", sig := { parameters := [], returnType := none }, accessFlags := 1, code := none }
def k9c1 : Code := { maxStack := 3, maxLocals := 3, code := jdk_41_method_11_code, exceptionTable := #[], attributes := #[] }
def k9m1 : Method := { name := "checkIndex", desc := "(IILjava/util/function/BiFunction;)I", sig := { parameters := [.int, .int, (.object "java/util/function/BiFunction")], returnType := some .int }, accessFlags := 9, code := some k9c1 }
/-- jdk/internal/util/Preconditions -/
def k9 : Class := { plain "jdk/internal/util/Preconditions" (some 0) with
  accessFlags := 33
  interfaces := #[]
  cf := some (fileOf pool9 24 #[.nestMembers #[55, 131, 125, 114]] #[{ accessFlags := 1, nameIndex := 5, descriptorIndex := 6, attributes := #[] }, { accessFlags := 9, nameIndex := 33, descriptorIndex := 178, attributes := #[] }] 33 2 #[] #[{ accessFlags := 25, nameIndex := 123, descriptorIndex := 124, attributes := #[] }, { accessFlags := 25, nameIndex := 130, descriptorIndex := 124, attributes := #[] }, { accessFlags := 25, nameIndex := 136, descriptorIndex := 124, attributes := #[] }])
  fields := #[{ name := "SIOOBE_FORMATTER", type := (.object "java/util/function/BiFunction"), accessFlags := 25, slot := 0, constantValue := 0 }, { name := "AIOOBE_FORMATTER", type := (.object "java/util/function/BiFunction"), accessFlags := 25, slot := 1, constantValue := 0 }, { name := "IOOBE_FORMATTER", type := (.object "java/util/function/BiFunction"), accessFlags := 25, slot := 2, constantValue := 0 }]
  methods := #[k9m0, k9m1]
  instanceTypes := #[]
  staticTypes := #[(.object "java/util/function/BiFunction"), (.object "java/util/function/BiFunction"), (.object "java/util/function/BiFunction")]
  resolved := Array.replicate 194 none
  statics := some 1 }

def pool10 : Array CpInfo := pool [(6, .class_ 8), (1, u "java/lang/Object"), (0, u "<init>"), (0, u "()V"), (1, .class_ 14), (1, u "java/lang/StringUTF16"), (31, u "$assertionsDisabled"), (0, u "Z"), (13, u "HI_BYTE_SHIFT"), (0, u "I"), (2, u "LO_BYTE_SHIFT"), (49, .methodref 12 116), (0, .nameAndType 117 118), (0, u "compress"), (0, u "([CI[BII)I"), (3, u "([CII)[B"), (138, u "coderFromArrayLen"), (0, u "([BI)B"), (106, .class_ 371), (1, u "java/lang/StringUTF16$LinesSpliterator"), (58, u "MAX_LENGTH"), (196, .class_ 628), (0, u "java/lang/StringUTF16$CodePointsSpliterator"), (0, .class_ 630), (0, u "java/lang/StringUTF16$CharsSpliterator")] 4

def k10m0 : Method := { name := "<init>", desc := "()V", sig := { parameters := [], returnType := none }, accessFlags := 0, code := none }
def k10c1 : Code := { maxStack := 2, maxLocals := 2, code := jdk_52_method_15_code, exceptionTable := #[], attributes := #[] }
def k10m1 : Method := { name := "coderFromArrayLen", desc := "([BI)B", sig := { parameters := [(.array .byte), .int], returnType := some .byte }, accessFlags := 8, code := some k10c1 }
def k10c2 : Code := { maxStack := 5, maxLocals := 6, code := jdk_52_method_16_code, exceptionTable := #[], attributes := #[] }
def k10m2 : Method := { name := "compress", desc := "([CII)[B", sig := { parameters := [(.array .char), .int, .int], returnType := some (.array .byte) }, accessFlags := 9, code := some k10c2 }
def k10c3 : Code := { maxStack := 3, maxLocals := 7, code := jdk_52_method_21_code, exceptionTable := #[], attributes := #[] }
def k10m3 : Method := { name := "compress", desc := "([CI[BII)I", sig := { parameters := [(.array .char), .int, (.array .byte), .int, .int], returnType := some .int }, accessFlags := 9, code := some k10c3 }
/-- java/lang/StringUTF16 -/
def k10 : Class := { plain "java/lang/StringUTF16" (some 0) with
  accessFlags := 48
  interfaces := #[]
  cf := some (fileOf pool10 12 #[.nestMembers #[627, 629, 369]] #[{ accessFlags := 0, nameIndex := 9, descriptorIndex := 10, attributes := #[] }, { accessFlags := 8, nameIndex := 261, descriptorIndex := 262, attributes := #[] }, { accessFlags := 9, nameIndex := 117, descriptorIndex := 122, attributes := #[] }, { accessFlags := 9, nameIndex := 117, descriptorIndex := 118, attributes := #[] }] 48 6 #[] #[{ accessFlags := 26, nameIndex := 61, descriptorIndex := 62, attributes := #[] }, { accessFlags := 26, nameIndex := 65, descriptorIndex := 62, attributes := #[] }, { accessFlags := 24, nameIndex := 430, descriptorIndex := 62, attributes := #[] }, { accessFlags := 4120, nameIndex := 46, descriptorIndex := 47, attributes := #[] }])
  fields := #[{ name := "HI_BYTE_SHIFT", type := .int, accessFlags := 26, slot := 0, constantValue := 0 }, { name := "LO_BYTE_SHIFT", type := .int, accessFlags := 26, slot := 1, constantValue := 0 }, { name := "MAX_LENGTH", type := .int, accessFlags := 24, slot := 2, constantValue := 0 }, { name := "$assertionsDisabled", type := .boolean, accessFlags := 4120, slot := 3, constantValue := 0 }]
  methods := #[k10m0, k10m1, k10m2, k10m3]
  instanceTypes := #[]
  staticTypes := #[.int, .int, .int, .boolean]
  resolved := Array.replicate 635 none
  statics := none }

def pool11 : Array CpInfo := pool [(2, .class_ 4), (1, u "java/lang/Enum"), (0, u "name"), (0, u "Ljava/lang/String;"), (2, u "ordinal"), (0, u "I"), (1, .class_ 14), (1, u "java/lang/Object"), (4, u "hash"), (86, .class_ 108), (1, u "java/lang/Enum$EnumDesc"), (2, .class_ 112), (0, u "java/lang/constant/Constable"), (0, .class_ 114), (0, u "java/lang/Comparable"), (0, .class_ 116), (0, u "java/io/Serializable")] 87

/-- java/lang/Enum -/
def k11 : Class := { plain "java/lang/Enum" (some 0) with
  accessFlags := 1057
  interfaces := #[5, 3, 2]
  cf := some (fileOf pool11 2 #[.nestMembers #[106]] #[] 1057 12 #[111, 113, 115] #[{ accessFlags := 18, nameIndex := 5, descriptorIndex := 6, attributes := #[] }, { accessFlags := 18, nameIndex := 9, descriptorIndex := 10, attributes := #[] }, { accessFlags := 2, nameIndex := 19, descriptorIndex := 10, attributes := #[] }])
  fields := #[{ name := "name", type := (.object "java/lang/String"), accessFlags := 18, slot := 0, constantValue := 0 }, { name := "ordinal", type := .int, accessFlags := 18, slot := 1, constantValue := 0 }, { name := "hash", type := .int, accessFlags := 2, slot := 2, constantValue := 0 }]
  methods := #[]
  instanceTypes := #[(.object "java/lang/String"), .int, .int]
  staticTypes := #[]
  resolved := Array.replicate 204 none
  statics := none }

def pool12 : Array CpInfo := pool [(1, .class_ 2), (0, u "com/example/couplet/couplet/core/Envelope"), (2, u "OP_BEFORE_AFTER"), (0, u "Lcom/example/couplet/couplet/core/Envelope;"), (2, u "OP_TYPE_BEFORE_AFTER"), (2, u "WHOLE_RECORD"), (0, .fieldref 1 14), (0, .nameAndType 15 16), (0, u "$VALUES"), (0, u "[Lcom/example/couplet/couplet/core/Envelope;"), (0, .methodref 18 19), (0, .class_ 16), (0, .nameAndType 20 21), (0, u "clone"), (0, u "()Ljava/lang/Object;"), (1, .class_ 25), (1, u "java/lang/Enum"), (6, .fieldref 1 33), (0, .nameAndType 34 35), (0, u "label"), (0, u "Ljava/lang/String;"), (2, u "ordered"), (0, u "Z"), (0, .methodref 1 41), (0, .nameAndType 42 43), (0, u "values"), (0, u "()[Lcom/example/couplet/couplet/core/Envelope;"), (0, .methodref 45 46), (0, .class_ 47), (0, .nameAndType 48 49), (0, u "java/lang/String"), (0, u "equals"), (0, u "(Ljava/lang/Object;)Z"), (17, u "(Ljava/lang/String;)Lcom/example/couplet/couplet/core/Envelope;"), (3, u "named")] 8

def k12c0 : Code := { maxStack := 1, maxLocals := 0, code := prog_5_method_1_code, exceptionTable := #[], attributes := #[] }
def k12m0 : Method := { name := "values", desc := "()[Lcom/example/couplet/couplet/core/Envelope;", sig := { parameters := [], returnType := some (.array (.object "com/example/couplet/couplet/core/Envelope")) }, accessFlags := 9, code := some k12c0 }
def k12c1 : Code := { maxStack := 2, maxLocals := 5, code := prog_5_method_4_code, exceptionTable := #[], attributes := #[] }
def k12m1 : Method := { name := "named", desc := "(Ljava/lang/String;)Lcom/example/couplet/couplet/core/Envelope;", sig := { parameters := [(.object "java/lang/String")], returnType := some (.object "com/example/couplet/couplet/core/Envelope") }, accessFlags := 9, code := some k12c1 }
/-- com/example/couplet/couplet/core/Envelope -/
def k12 : Class := { plain "com/example/couplet/couplet/core/Envelope" (some 11) with
  accessFlags := 16433
  interfaces := #[]
  cf := some (fileOf pool12 1 #[] #[{ accessFlags := 9, nameIndex := 42, descriptorIndex := 43, attributes := #[] }, { accessFlags := 9, nameIndex := 71, descriptorIndex := 67, attributes := #[] }] 16433 23 #[] #[{ accessFlags := 16409, nameIndex := 5, descriptorIndex := 6, attributes := #[] }, { accessFlags := 16409, nameIndex := 9, descriptorIndex := 6, attributes := #[] }, { accessFlags := 16409, nameIndex := 12, descriptorIndex := 6, attributes := #[] }, { accessFlags := 18, nameIndex := 34, descriptorIndex := 35, attributes := #[] }, { accessFlags := 18, nameIndex := 38, descriptorIndex := 39, attributes := #[] }, { accessFlags := 4122, nameIndex := 15, descriptorIndex := 16, attributes := #[] }])
  fields := #[{ name := "OP_BEFORE_AFTER", type := (.object "com/example/couplet/couplet/core/Envelope"), accessFlags := 16409, slot := 0, constantValue := 0 }, { name := "OP_TYPE_BEFORE_AFTER", type := (.object "com/example/couplet/couplet/core/Envelope"), accessFlags := 16409, slot := 1, constantValue := 0 }, { name := "WHOLE_RECORD", type := (.object "com/example/couplet/couplet/core/Envelope"), accessFlags := 16409, slot := 2, constantValue := 0 }, { name := "label", type := (.object "java/lang/String"), accessFlags := 18, slot := 3, constantValue := 0 }, { name := "ordered", type := .boolean, accessFlags := 18, slot := 4, constantValue := 0 }, { name := "$VALUES", type := (.array (.object "com/example/couplet/couplet/core/Envelope")), accessFlags := 4122, slot := 3, constantValue := 0 }]
  methods := #[k12m0, k12m1]
  instanceTypes := #[(.object "java/lang/String"), .int, .int, (.object "java/lang/String"), .boolean]
  staticTypes := #[(.object "com/example/couplet/couplet/core/Envelope"), (.object "com/example/couplet/couplet/core/Envelope"), (.object "com/example/couplet/couplet/core/Envelope"), (.array (.object "com/example/couplet/couplet/core/Envelope"))]
  resolved := Array.replicate 80 none
  statics := some 2 }

def pool13 : Array CpInfo := pool [(1, .class_ 2), (0, u "java/lang/Cloneable"), (0, .class_ 4), (0, u "java/lang/Object")] 2

/-- java/lang/Cloneable -/
def k13 : Class := { plain "java/lang/Cloneable" (some 0) with
  accessFlags := 1537
  interfaces := #[]
  cf := some (fileOf pool13 1 #[] #[] 1537 3 #[] #[])
  fields := #[]
  methods := #[]
  instanceTypes := #[]
  staticTypes := #[]
  resolved := Array.replicate 7 none
  statics := none }

def pool14 : Array CpInfo := pool [(9, u "<init>"), (6, .class_ 18), (1, u "java/lang/Object"), (0, u "()V"), (1, .class_ 23), (1, u "jdk/internal/util/ArraysSupport"), (0, u "LOG2_ARRAY_LONG_INDEX_SCALE"), (0, u "I"), (2, u "U"), (0, u "Ljdk/internal/misc/Unsafe;"), (8, u "BIG_ENDIAN"), (0, u "Z"), (8, u "LOG2_BYTE_BIT_SIZE"), (4, u "LOG2_ARRAY_INT_INDEX_SCALE"), (54, u "JLA"), (0, u "Ljdk/internal/access/JavaLangAccess;"), (11, u "LOG2_ARRAY_BOOLEAN_INDEX_SCALE"), (9, u "LOG2_ARRAY_BYTE_INDEX_SCALE"), (5, u "LOG2_ARRAY_CHAR_INDEX_SCALE"), (5, u "LOG2_ARRAY_SHORT_INDEX_SCALE"), (18, u "LOG2_ARRAY_FLOAT_INDEX_SCALE"), (24, u "LOG2_ARRAY_DOUBLE_INDEX_SCALE"), (89, u "T_BOOLEAN"), (2, u "T_CHAR"), (1, u "T_FLOAT"), (1, u "T_DOUBLE"), (1, u "T_BYTE"), (1, u "T_SHORT"), (1, u "T_INT"), (1, u "T_LONG"), (1, u "SOFT_MAX_ARRAY_LENGTH")] 83

def k14m0 : Method := { name := "<init>", desc := "()V", sig := { parameters := [], returnType := none }, accessFlags := 2, code := none }
/-- jdk/internal/util/ArraysSupport -/
def k14 : Class := { plain "jdk/internal/util/ArraysSupport" (some 0) with
  accessFlags := 33
  interfaces := #[]
  cf := some (fileOf pool14 21 #[] #[{ accessFlags := 2, nameIndex := 9, descriptorIndex := 19, attributes := #[] }] 33 16 #[] #[{ accessFlags := 24, nameIndex := 28, descriptorIndex := 29, attributes := #[] }, { accessFlags := 26, nameIndex := 38, descriptorIndex := 39, attributes := #[] }, { accessFlags := 25, nameIndex := 121, descriptorIndex := 25, attributes := #[] }, { accessFlags := 25, nameIndex := 131, descriptorIndex := 25, attributes := #[] }, { accessFlags := 25, nameIndex := 137, descriptorIndex := 25, attributes := #[] }, { accessFlags := 25, nameIndex := 143, descriptorIndex := 25, attributes := #[] }, { accessFlags := 25, nameIndex := 53, descriptorIndex := 25, attributes := #[] }, { accessFlags := 25, nameIndex := 24, descriptorIndex := 25, attributes := #[] }, { accessFlags := 25, nameIndex := 162, descriptorIndex := 25, attributes := #[] }, { accessFlags := 25, nameIndex := 187, descriptorIndex := 25, attributes := #[] }, { accessFlags := 26, nameIndex := 48, descriptorIndex := 25, attributes := #[] }, { accessFlags := 25, nameIndex := 277, descriptorIndex := 25, attributes := #[] }, { accessFlags := 25, nameIndex := 280, descriptorIndex := 25, attributes := #[] }, { accessFlags := 25, nameIndex := 282, descriptorIndex := 25, attributes := #[] }, { accessFlags := 25, nameIndex := 284, descriptorIndex := 25, attributes := #[] }, { accessFlags := 25, nameIndex := 286, descriptorIndex := 25, attributes := #[] }, { accessFlags := 25, nameIndex := 288, descriptorIndex := 25, attributes := #[] }, { accessFlags := 25, nameIndex := 290, descriptorIndex := 25, attributes := #[] }, { accessFlags := 25, nameIndex := 292, descriptorIndex := 25, attributes := #[] }, { accessFlags := 26, nameIndex := 108, descriptorIndex := 109, attributes := #[] }, { accessFlags := 25, nameIndex := 294, descriptorIndex := 25, attributes := #[] }])
  fields := #[{ name := "U", type := (.object "jdk/internal/misc/Unsafe"), accessFlags := 24, slot := 0, constantValue := 0 }, { name := "BIG_ENDIAN", type := .boolean, accessFlags := 26, slot := 1, constantValue := 0 }, { name := "LOG2_ARRAY_BOOLEAN_INDEX_SCALE", type := .int, accessFlags := 25, slot := 2, constantValue := 0 }, { name := "LOG2_ARRAY_BYTE_INDEX_SCALE", type := .int, accessFlags := 25, slot := 3, constantValue := 0 }, { name := "LOG2_ARRAY_CHAR_INDEX_SCALE", type := .int, accessFlags := 25, slot := 4, constantValue := 0 }, { name := "LOG2_ARRAY_SHORT_INDEX_SCALE", type := .int, accessFlags := 25, slot := 5, constantValue := 0 }, { name := "LOG2_ARRAY_INT_INDEX_SCALE", type := .int, accessFlags := 25, slot := 6, constantValue := 0 }, { name := "LOG2_ARRAY_LONG_INDEX_SCALE", type := .int, accessFlags := 25, slot := 7, constantValue := 0 }, { name := "LOG2_ARRAY_FLOAT_INDEX_SCALE", type := .int, accessFlags := 25, slot := 8, constantValue := 0 }, { name := "LOG2_ARRAY_DOUBLE_INDEX_SCALE", type := .int, accessFlags := 25, slot := 9, constantValue := 0 }, { name := "LOG2_BYTE_BIT_SIZE", type := .int, accessFlags := 26, slot := 10, constantValue := 0 }, { name := "T_BOOLEAN", type := .int, accessFlags := 25, slot := 11, constantValue := 0 }, { name := "T_CHAR", type := .int, accessFlags := 25, slot := 12, constantValue := 0 }, { name := "T_FLOAT", type := .int, accessFlags := 25, slot := 13, constantValue := 0 }, { name := "T_DOUBLE", type := .int, accessFlags := 25, slot := 14, constantValue := 0 }, { name := "T_BYTE", type := .int, accessFlags := 25, slot := 15, constantValue := 0 }, { name := "T_SHORT", type := .int, accessFlags := 25, slot := 16, constantValue := 0 }, { name := "T_INT", type := .int, accessFlags := 25, slot := 17, constantValue := 0 }, { name := "T_LONG", type := .int, accessFlags := 25, slot := 18, constantValue := 0 }, { name := "JLA", type := (.object "jdk/internal/access/JavaLangAccess"), accessFlags := 26, slot := 19, constantValue := 0 }, { name := "SOFT_MAX_ARRAY_LENGTH", type := .int, accessFlags := 25, slot := 20, constantValue := 0 }]
  methods := #[k14m0]
  instanceTypes := #[]
  staticTypes := #[(.object "jdk/internal/misc/Unsafe"), .boolean, .int, .int, .int, .int, .int, .int, .int, .int, .int, .int, .int, .int, .int, .int, .int, .int, .int, (.object "jdk/internal/access/JavaLangAccess"), .int]
  resolved := Array.replicate 378 none
  statics := none }

/-- the primitive byte -/
def k15 : Class := { plain "byte" none with kind := .primitive 'B', accessFlags := 0x411 }
/-- [B -/
def k16 : Class := { plain "[B" (some 0) with kind := .array 15 .byte, interfaces := #[13, 2], accessFlags := 1041 }

/-- the primitive char -/
def k17 : Class := { plain "char" none with kind := .primitive 'C', accessFlags := 0x411 }
/-- [C -/
def k18 : Class := { plain "[C" (some 0) with kind := .array 17 .char, interfaces := #[13, 2], accessFlags := 1041 }

/-- the primitive int -/
def k19 : Class := { plain "int" none with kind := .primitive 'I', accessFlags := 0x411 }
/-- [I -/
def k20 : Class := { plain "[I" (some 0) with kind := .array 19 .int, interfaces := #[13, 2], accessFlags := 1041 }

/-- [Lcom/example/couplet/couplet/core/Envelope; -/
def k21 : Class := { plain "[Lcom/example/couplet/couplet/core/Envelope;" (some 0) with kind := .array 12 (.object "com/example/couplet/couplet/core/Envelope"), interfaces := #[13, 2], accessFlags := 1041 }

def heap : Heap := #[{ cls := 7, slots := #[.long 0, .int 1, .null, .int 0, .null, .int 0, .int 0], vm := .statics 7 },
  { cls := 9, slots := #[.null, .null, .null], vm := .statics 9 },
  { cls := 12, slots := #[.ref 4, .ref 5, .ref 6, .ref 3], vm := .statics 12 },
  { cls := 21, slots := #[.ref 4, .ref 5, .ref 6], vm := .none },
  { cls := 12, slots := #[.null, .int 0, .int 0, .ref 7, .int 1], vm := .none },
  { cls := 12, slots := #[.null, .int 1, .int 0, .ref 8, .int 1], vm := .none },
  { cls := 12, slots := #[.null, .int 2, .int 0, .ref 9, .int 1], vm := .none },
  { cls := 7, slots := #[.ref 10, .int 0, .int 0, .int 0], vm := .none },
  { cls := 7, slots := #[.ref 11, .int 0, .int 0, .int 0], vm := .none },
  { cls := 7, slots := #[.ref 12, .int 0, .int 0, .int 0], vm := .none },
  { cls := 16, slots := #[.int 100, .int 101, .int 98, .int 101, .int 122, .int 105, .int 117, .int 109], vm := .none },
  { cls := 16, slots := #[.int 103, .int 111, .int 108, .int 100, .int 101, .int 110, .int 103, .int 97, .int 116, .int 101], vm := .none },
  { cls := 16, slots := #[.int 100, .int 98, .int 50], vm := .none }]
def classes : Array Class := #[k0, k1, k2, k3, k4, k5, k6, k7, k8, k9, k10, k11, k12, k13, k14, k15, k16, k17, k18, k19, k20, k21]
def interned : List (Array UInt16 × Addr) := []
def slotsUsed : Nat := 65
def theMethod : MethodId := ⟨1, 1⟩
def args0 : Array Value := #[.int 5, .int 5, .int 5, .int 5, .int 5, .int 5]
def aboutOver (below : List Frame) : State where
  vm := { classes := classes, interned := interned.toArray }
  heap := heap
  slotsUsed := slotsUsed
  threads := #[{ frames := .invoking theMethod args0 :: below }]
def below0 : List Frame := [.native { method := ⟨0, 0⟩, args := #[] }]
def about1 : State := aboutOver below0
def p0 : Program := .bare "" "" ""
def e0 : Env := launch0.env 0 0 0
theorem w_frames : about1.frames = Frame.invoking theMethod args0 :: below0 := rfl
set_option maxRecDepth 65536 in
theorem w_args : argsFit about1.vm theMethod args0 = true := by decide +kernel
set_option maxRecDepth 65536 in
theorem w_heap : heapFits about1 = true := by decide +kernel
set_option maxRecDepth 65536 in
theorem w_runnable : about1.curStatus? = some .runnable := by decide +kernel
set_option maxRecDepth 65536 in
theorem w_alone : about1.alone = true := by decide +kernel
set_option maxRecDepth 65536 in
theorem w_named : about1.methodNamed? x = some theMethod := by decide +kernel
set_option maxRecDepth 65536 in
theorem w_hears : about1.hears theMethod below0 = true := by decide +kernel
set_option maxRecDepth 65536 in
theorem w_ripe : about1.ripe theMethod args0 below0 = true := by decide +kernel
theorem w_running : about1.status = .running := rfl
set_option maxRecDepth 65536 in
theorem w_room : about1.hasRoom e0.platform room_1 = true :=
  launch0.hasRoom_least _ room_1 (by decide +kernel) (by decide +kernel) (by decide +kernel) (by decide +kernel) (by decide +kernel) (by decide +kernel)
theorem allAtoms_all (ts : List Jvm.Cond) (a : Array Jvm.Value) (st : Jvm.State) : (allAtoms ts).before a st = ts.all (fun c => c.before a st) := by
  induction ts with
  | nil => rfl
  | cons c t ih =>
    show (Jvm.Cond.and c (allAtoms t)).before a st = _
    rw [Jvm.Cond.before_and, ih, List.all_cons]
def words1 : List Jvm.Cond := Jvm.Cond.code x code maxLocals ret :: tables_1
/-- a 'code' word, met by the world's own term for the bytes: nothing is compared byte by byte -/
theorem code_word {y : MethodName} {bytes : ByteArray} {mx : Nat} {rt : Option FieldType} {a : Array Value} {s : State} {m : MethodId} {meth : Method} {c : Code} (h1 : s.methodNamed? y = some m) (h2 : s.vm.method? m = some meth) (h3 : meth.code = some c) (h4 : c.code = bytes)
    (h5 : (c.maxLocals == mx && c.exceptionTable.isEmpty && decide (c.maxStack ≤ mostOperands) && decide (meth.sig.returnType = rt) && !meth.locks && decide (parseMethodDescriptor y.desc = some meth.sig)) = true) : (Jvm.Cond.code y bytes mx rt).before a s = true := by
  simp only [Bool.and_eq_true, beq_iff_eq, Bool.not_eq_true', decide_eq_true_eq] at h5
  obtain ⟨⟨⟨⟨⟨g1, g2⟩, g3⟩, g4⟩, g5⟩, g6⟩ := h5
  simp [Cond.before, Cond.holds, Cond.value, h1, h2, h3, h4, g1, g2, g3, g4, g5, g6]
def isCode : Jvm.Cond → Bool
  | .code _ _ _ _ => true
  | _ => false
theorem all_split {L : List Jvm.Cond} {P : Jvm.Cond → Bool} (h1 : L.all (fun c => isCode c || P c) = true) (h2 : ∀ c ∈ L.filter isCode, P c = true) : L.all P = true := by
  refine List.all_eq_true.mpr fun c hc => ?_
  have h := List.all_eq_true.mp h1 c hc
  rcases Bool.eq_false_or_eq_true (isCode c) with hi | hi
  · exact h2 c (List.mem_filter.mpr ⟨hc, hi⟩)
  · simpa [hi] using h
set_option maxRecDepth 65536 in
theorem w_c0 : (Jvm.Cond.code x code maxLocals ret).before args0 about1 = true := code_word (m := ⟨1, 1⟩) (meth := k1m1) (c := k1c1) (by decide +kernel) rfl rfl rfl (by decide +kernel)
set_option maxRecDepth 65536 in
theorem w_c1 : (Jvm.Cond.code ({ cls := "com/example/couplet/couplet/core/EnvelopeNamedPinLaw", name := "alloc", desc := "(I)[C" } : Jvm.MethodName) method_5_code (1 : Nat) (Option.some (Jvm.ClassFile.FieldType.array Jvm.ClassFile.FieldType.char))).before args0 about1 = true := code_word (m := ⟨1, 4⟩) (meth := k1m4) (c := k1c4) (by decide +kernel) rfl rfl rfl (by decide +kernel)
set_option maxRecDepth 65536 in
theorem w_c2 : (Jvm.Cond.code ({ cls := "com/example/couplet/couplet/core/EnvelopeNamedPinLaw", name := "fill", desc := "([CILjava/lang/String;CC)V" } : Jvm.MethodName) method_4_code (5 : Nat) (Option.none : Option Jvm.ClassFile.FieldType)).before args0 about1 = true := code_word (m := ⟨1, 3⟩) (meth := k1m3) (c := k1c3) (by decide +kernel) rfl rfl rfl (by decide +kernel)
set_option maxRecDepth 65536 in
theorem w_c3 : (Jvm.Cond.code ({ cls := "java/lang/String", name := "length", desc := "()I" } : Jvm.MethodName) jdk_42_method_54_code (1 : Nat) (Option.some Jvm.ClassFile.FieldType.int)).before args0 about1 = true := code_word (m := ⟨7, 2⟩) (meth := k7m2) (c := k7c2) (by decide +kernel) rfl rfl rfl (by decide +kernel)
set_option maxRecDepth 65536 in
theorem w_c4 : (Jvm.Cond.code ({ cls := "java/lang/String", name := "coder", desc := "()B" } : Jvm.MethodName) jdk_42_method_152_code (1 : Nat) (Option.some Jvm.ClassFile.FieldType.byte)).before args0 about1 = true := code_word (m := ⟨7, 6⟩) (meth := k7m6) (c := k7c6) (by decide +kernel) rfl rfl rfl (by decide +kernel)
set_option maxRecDepth 65536 in
theorem w_c5 : (Jvm.Cond.code ({ cls := "java/lang/String", name := "charAt", desc := "(I)C" } : Jvm.MethodName) jdk_42_method_56_code (2 : Nat) (Option.some Jvm.ClassFile.FieldType.char)).before args0 about1 = true := code_word (m := ⟨7, 3⟩) (meth := k7m3) (c := k7c3) (by decide +kernel) rfl rfl rfl (by decide +kernel)
set_option maxRecDepth 65536 in
theorem w_c6 : (Jvm.Cond.code ({ cls := "java/lang/String", name := "isLatin1", desc := "()Z" } : Jvm.MethodName) jdk_42_method_154_code (1 : Nat) (Option.some Jvm.ClassFile.FieldType.boolean)).before args0 about1 = true := code_word (m := ⟨7, 7⟩) (meth := k7m7) (c := k7c7) (by decide +kernel) rfl rfl rfl (by decide +kernel)
set_option maxRecDepth 65536 in
theorem w_c7 : (Jvm.Cond.code ({ cls := "java/lang/StringLatin1", name := "charAt", desc := "([BI)C" } : Jvm.MethodName) jdk_43_method_2_code (2 : Nat) (Option.some Jvm.ClassFile.FieldType.char)).before args0 about1 = true := code_word (m := ⟨8, 1⟩) (meth := k8m1) (c := k8c1) (by decide +kernel) rfl rfl rfl (by decide +kernel)
set_option maxRecDepth 65536 in
theorem w_c8 : (Jvm.Cond.code ({ cls := "java/lang/String", name := "checkIndex", desc := "(II)V" } : Jvm.MethodName) jdk_42_method_155_code (2 : Nat) (Option.none : Option Jvm.ClassFile.FieldType)).before args0 about1 = true := code_word (m := ⟨7, 8⟩) (meth := k7m8) (c := k7c8) (by decide +kernel) rfl rfl rfl (by decide +kernel)
set_option maxRecDepth 65536 in
theorem w_c9 : (Jvm.Cond.code ({ cls := "jdk/internal/util/Preconditions", name := "checkIndex", desc := "(IILjava/util/function/BiFunction;)I" } : Jvm.MethodName) jdk_41_method_11_code (3 : Nat) (Option.some Jvm.ClassFile.FieldType.int)).before args0 about1 = true := code_word (m := ⟨9, 1⟩) (meth := k9m1) (c := k9c1) (by decide +kernel) rfl rfl rfl (by decide +kernel)
set_option maxRecDepth 65536 in
theorem w_c10 : (Jvm.Cond.code ({ cls := "java/lang/String", name := "<init>", desc := "([C)V" } : Jvm.MethodName) jdk_42_method_3_code (2 : Nat) (Option.none : Option Jvm.ClassFile.FieldType)).before args0 about1 = true := code_word (m := ⟨7, 1⟩) (meth := k7m1) (c := k7c1) (by decide +kernel) rfl rfl rfl (by decide +kernel)
set_option maxRecDepth 65536 in
theorem w_c11 : (Jvm.Cond.code ({ cls := "java/lang/String", name := "<init>", desc := "([CIILjava/lang/Void;)V" } : Jvm.MethodName) jdk_42_method_149_code (6 : Nat) (Option.none : Option Jvm.ClassFile.FieldType)).before args0 about1 = true := code_word (m := ⟨7, 5⟩) (meth := k7m5) (c := k7c5) (by decide +kernel) rfl rfl rfl (by decide +kernel)
set_option maxRecDepth 65536 in
theorem w_c12 : (Jvm.Cond.code ({ cls := "java/lang/Object", name := "<init>", desc := "()V" } : Jvm.MethodName) object_method_1_code (1 : Nat) (Option.none : Option Jvm.ClassFile.FieldType)).before args0 about1 = true := code_word (m := ⟨0, 0⟩) (meth := k0m0) (c := k0c0) (by decide +kernel) rfl rfl rfl (by decide +kernel)
set_option maxRecDepth 65536 in
theorem w_c13 : (Jvm.Cond.code ({ cls := "java/lang/StringUTF16", name := "compress", desc := "([CII)[B" } : Jvm.MethodName) jdk_52_method_16_code (6 : Nat) (Option.some (Jvm.ClassFile.FieldType.array Jvm.ClassFile.FieldType.byte))).before args0 about1 = true := code_word (m := ⟨10, 2⟩) (meth := k10m2) (c := k10c2) (by decide +kernel) rfl rfl rfl (by decide +kernel)
set_option maxRecDepth 65536 in
theorem w_c14 : (Jvm.Cond.code ({ cls := "java/lang/StringUTF16", name := "compress", desc := "([CI[BII)I" } : Jvm.MethodName) jdk_52_method_21_code (7 : Nat) (Option.some Jvm.ClassFile.FieldType.int)).before args0 about1 = true := code_word (m := ⟨10, 3⟩) (meth := k10m3) (c := k10c3) (by decide +kernel) rfl rfl rfl (by decide +kernel)
set_option maxRecDepth 65536 in
theorem w_c15 : (Jvm.Cond.code ({ cls := "java/lang/StringUTF16", name := "coderFromArrayLen", desc := "([BI)B" } : Jvm.MethodName) jdk_52_method_15_code (2 : Nat) (Option.some Jvm.ClassFile.FieldType.byte)).before args0 about1 = true := code_word (m := ⟨10, 1⟩) (meth := k10m1) (c := k10c1) (by decide +kernel) rfl rfl rfl (by decide +kernel)
set_option maxRecDepth 65536 in
theorem w_c16 : (Jvm.Cond.code ({ cls := "com/example/couplet/couplet/core/Envelope", name := "named", desc := "(Ljava/lang/String;)Lcom/example/couplet/couplet/core/Envelope;" } : Jvm.MethodName) prog_5_method_4_code (5 : Nat) (Option.some (Jvm.ClassFile.FieldType.object "com/example/couplet/couplet/core/Envelope"))).before args0 about1 = true := code_word (m := ⟨12, 1⟩) (meth := k12m1) (c := k12c1) (by decide +kernel) rfl rfl rfl (by decide +kernel)
set_option maxRecDepth 65536 in
theorem w_c17 : (Jvm.Cond.code ({ cls := "com/example/couplet/couplet/core/Envelope", name := "values", desc := "()[Lcom/example/couplet/couplet/core/Envelope;" } : Jvm.MethodName) prog_5_method_1_code (0 : Nat) (Option.some (Jvm.ClassFile.FieldType.array (Jvm.ClassFile.FieldType.object "com/example/couplet/couplet/core/Envelope")))).before args0 about1 = true := code_word (m := ⟨12, 0⟩) (meth := k12m0) (c := k12c0) (by decide +kernel) rfl rfl rfl (by decide +kernel)
set_option maxRecDepth 65536 in
theorem w_c18 : (Jvm.Cond.code ({ cls := "java/lang/String", name := "equals", desc := "(Ljava/lang/Object;)Z" } : Jvm.MethodName) jdk_42_method_66_code (3 : Nat) (Option.some Jvm.ClassFile.FieldType.boolean)).before args0 about1 = true := code_word (m := ⟨7, 4⟩) (meth := k7m4) (c := k7c4) (by decide +kernel) rfl rfl rfl (by decide +kernel)
set_option maxRecDepth 65536 in
theorem w_c19 : (Jvm.Cond.code ({ cls := "java/lang/StringLatin1", name := "equals", desc := "([B[B)Z" } : Jvm.MethodName) jdk_43_method_13_code (3 : Nat) (Option.some Jvm.ClassFile.FieldType.boolean)).before args0 about1 = true := code_word (m := ⟨8, 2⟩) (meth := k8m2) (c := k8c2) (by decide +kernel) rfl rfl rfl (by decide +kernel)
set_option maxRecDepth 65536 in
theorem w_c20 : (Jvm.Cond.code ({ cls := "com/example/couplet/couplet/core/EnvelopeNamedPinLaw", name := "expected", desc := "(Ljava/lang/String;)Lcom/example/couplet/couplet/core/Envelope;" } : Jvm.MethodName) method_3_code (1 : Nat) (Option.some (Jvm.ClassFile.FieldType.object "com/example/couplet/couplet/core/Envelope"))).before args0 about1 = true := code_word (m := ⟨1, 2⟩) (meth := k1m2) (c := k1c2) (by decide +kernel) rfl rfl rfl (by decide +kernel)
def codes1 : List Jvm.Cond := [Jvm.Cond.code x code maxLocals ret, Jvm.Cond.code ({ cls := "com/example/couplet/couplet/core/EnvelopeNamedPinLaw", name := "alloc", desc := "(I)[C" } : Jvm.MethodName) method_5_code (1 : Nat) (Option.some (Jvm.ClassFile.FieldType.array Jvm.ClassFile.FieldType.char)), Jvm.Cond.code ({ cls := "com/example/couplet/couplet/core/EnvelopeNamedPinLaw", name := "fill", desc := "([CILjava/lang/String;CC)V" } : Jvm.MethodName) method_4_code (5 : Nat) (Option.none : Option Jvm.ClassFile.FieldType), Jvm.Cond.code ({ cls := "java/lang/String", name := "length", desc := "()I" } : Jvm.MethodName) jdk_42_method_54_code (1 : Nat) (Option.some Jvm.ClassFile.FieldType.int), Jvm.Cond.code ({ cls := "java/lang/String", name := "coder", desc := "()B" } : Jvm.MethodName) jdk_42_method_152_code (1 : Nat) (Option.some Jvm.ClassFile.FieldType.byte), Jvm.Cond.code ({ cls := "java/lang/String", name := "charAt", desc := "(I)C" } : Jvm.MethodName) jdk_42_method_56_code (2 : Nat) (Option.some Jvm.ClassFile.FieldType.char), Jvm.Cond.code ({ cls := "java/lang/String", name := "isLatin1", desc := "()Z" } : Jvm.MethodName) jdk_42_method_154_code (1 : Nat) (Option.some Jvm.ClassFile.FieldType.boolean), Jvm.Cond.code ({ cls := "java/lang/StringLatin1", name := "charAt", desc := "([BI)C" } : Jvm.MethodName) jdk_43_method_2_code (2 : Nat) (Option.some Jvm.ClassFile.FieldType.char), Jvm.Cond.code ({ cls := "java/lang/String", name := "checkIndex", desc := "(II)V" } : Jvm.MethodName) jdk_42_method_155_code (2 : Nat) (Option.none : Option Jvm.ClassFile.FieldType), Jvm.Cond.code ({ cls := "jdk/internal/util/Preconditions", name := "checkIndex", desc := "(IILjava/util/function/BiFunction;)I" } : Jvm.MethodName) jdk_41_method_11_code (3 : Nat) (Option.some Jvm.ClassFile.FieldType.int), Jvm.Cond.code ({ cls := "java/lang/String", name := "<init>", desc := "([C)V" } : Jvm.MethodName) jdk_42_method_3_code (2 : Nat) (Option.none : Option Jvm.ClassFile.FieldType), Jvm.Cond.code ({ cls := "java/lang/String", name := "<init>", desc := "([CIILjava/lang/Void;)V" } : Jvm.MethodName) jdk_42_method_149_code (6 : Nat) (Option.none : Option Jvm.ClassFile.FieldType), Jvm.Cond.code ({ cls := "java/lang/Object", name := "<init>", desc := "()V" } : Jvm.MethodName) object_method_1_code (1 : Nat) (Option.none : Option Jvm.ClassFile.FieldType), Jvm.Cond.code ({ cls := "java/lang/StringUTF16", name := "compress", desc := "([CII)[B" } : Jvm.MethodName) jdk_52_method_16_code (6 : Nat) (Option.some (Jvm.ClassFile.FieldType.array Jvm.ClassFile.FieldType.byte)), Jvm.Cond.code ({ cls := "java/lang/StringUTF16", name := "compress", desc := "([CI[BII)I" } : Jvm.MethodName) jdk_52_method_21_code (7 : Nat) (Option.some Jvm.ClassFile.FieldType.int), Jvm.Cond.code ({ cls := "java/lang/StringUTF16", name := "coderFromArrayLen", desc := "([BI)B" } : Jvm.MethodName) jdk_52_method_15_code (2 : Nat) (Option.some Jvm.ClassFile.FieldType.byte), Jvm.Cond.code ({ cls := "com/example/couplet/couplet/core/Envelope", name := "named", desc := "(Ljava/lang/String;)Lcom/example/couplet/couplet/core/Envelope;" } : Jvm.MethodName) prog_5_method_4_code (5 : Nat) (Option.some (Jvm.ClassFile.FieldType.object "com/example/couplet/couplet/core/Envelope")), Jvm.Cond.code ({ cls := "com/example/couplet/couplet/core/Envelope", name := "values", desc := "()[Lcom/example/couplet/couplet/core/Envelope;" } : Jvm.MethodName) prog_5_method_1_code (0 : Nat) (Option.some (Jvm.ClassFile.FieldType.array (Jvm.ClassFile.FieldType.object "com/example/couplet/couplet/core/Envelope"))), Jvm.Cond.code ({ cls := "java/lang/String", name := "equals", desc := "(Ljava/lang/Object;)Z" } : Jvm.MethodName) jdk_42_method_66_code (3 : Nat) (Option.some Jvm.ClassFile.FieldType.boolean), Jvm.Cond.code ({ cls := "java/lang/StringLatin1", name := "equals", desc := "([B[B)Z" } : Jvm.MethodName) jdk_43_method_13_code (3 : Nat) (Option.some Jvm.ClassFile.FieldType.boolean), Jvm.Cond.code ({ cls := "com/example/couplet/couplet/core/EnvelopeNamedPinLaw", name := "expected", desc := "(Ljava/lang/String;)Lcom/example/couplet/couplet/core/Envelope;" } : Jvm.MethodName) method_3_code (1 : Nat) (Option.some (Jvm.ClassFile.FieldType.object "com/example/couplet/couplet/core/Envelope"))]
set_option maxRecDepth 65536 in
theorem codes_eq : words1.filter isCode = codes1 := rfl
theorem w_codes : ∀ c ∈ words1.filter isCode, c.before args0 about1 = true := by
  rw [codes_eq]
  intro c hc
  simp only [codes1, List.mem_cons, List.not_mem_nil, or_false] at hc
  rcases hc with rfl | rfl | rfl | rfl | rfl | rfl | rfl | rfl | rfl | rfl | rfl | rfl | rfl | rfl | rfl | rfl | rfl | rfl | rfl | rfl | rfl
  · exact w_c0
  · exact w_c1
  · exact w_c2
  · exact w_c3
  · exact w_c4
  · exact w_c5
  · exact w_c6
  · exact w_c7
  · exact w_c8
  · exact w_c9
  · exact w_c10
  · exact w_c11
  · exact w_c12
  · exact w_c13
  · exact w_c14
  · exact w_c15
  · exact w_c16
  · exact w_c17
  · exact w_c18
  · exact w_c19
  · exact w_c20
set_option maxRecDepth 65536 in
theorem w_t1 : (words1.take 24).all (fun c => isCode c || c.before args0 about1) = true := by decide +kernel
set_option maxRecDepth 65536 in
theorem w_t2 : ((words1.drop 24).take 24).all (fun c => isCode c || c.before args0 about1) = true := by decide +kernel
set_option maxRecDepth 65536 in
theorem w_t3 : (((words1.drop 24).drop 24).take 24).all (fun c => isCode c || c.before args0 about1) = true := by decide +kernel
set_option maxRecDepth 65536 in
theorem w_t4 : ((((words1.drop 24).drop 24).drop 24).take 24).all (fun c => isCode c || c.before args0 about1) = true := by decide +kernel
set_option maxRecDepth 65536 in
theorem w_t5 : ((((words1.drop 24).drop 24).drop 24).drop 24).all (fun c => isCode c || c.before args0 about1) = true := by decide +kernel
theorem w_tables : (allAtoms (Jvm.Cond.code x code maxLocals ret :: tables_1)).before args0 about1 = true := by
  rw [allAtoms_all]
  show words1.all (fun c => c.before args0 about1) = true
  refine all_split ?_ w_codes
  rw [← List.take_append_drop 24 words1, List.all_append, w_t1, ← List.take_append_drop 24 (words1.drop 24), List.all_append, w_t2, ← List.take_append_drop 24 ((words1.drop 24).drop 24), List.all_append, w_t3, ← List.take_append_drop 24 (((words1.drop 24).drop 24).drop 24), List.all_append, w_t4, w_t5]
  rfl
set_option maxRecDepth 65536 in
theorem w_rest : rest_1_c.before args0 about1 = true := by decide +kernel
set_option maxRecDepth 65536 in
theorem w_case : (Jvm.Cond.and given_1 narrow_1).before args0 about1 = true := by decide +kernel
set_option maxRecDepth 65536 in
theorem w_consts : constsHeld consts_1 about1 := Jvm.Lit.constsHeldB_iff.mp (by decide +kernel)
theorem w_applies : (headSpec (Jvm.Cond.code x code maxLocals ret :: tables_1) room_1).applies x e0.platform about1 = true :=
  (Spec.applies_iff w_frames).mpr ⟨w_running, w_runnable, w_alone, w_named, w_hears, w_ripe, w_room, w_tables⟩
theorem atStart : AtStart classFile x code maxLocals ret World_1 tables_1 room_1 Calls_1 rest_1 Pre_1 launch0 p0 e0 about1 theMethod args0 below0 :=
  ⟨lists_1, trivial, launch0.admits_env _ _ _, launch0.least_env, fairChoices_fair.cas, fairChoices_fair.clock, w_frames, w_args, w_heap, w_applies, ⟨w_consts, trivial⟩, w_rest, w_case⟩
end start1
theorem witness_1 : WitnessClaimed_1 := ⟨start1.p0, start1.e0, start1.about1, start1.theMethod, start1.args0, start1.below0, start1.atStart⟩
end Jvm.Pilot.@@N@@
