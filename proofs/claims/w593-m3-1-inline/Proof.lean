import JvmDerived
import JvmDerived.Pilot.@@N@@Statement
import JvmDerived.Pilot.@@N@@Code
set_option linter.unusedVariables false
set_option linter.unusedSimpArgs false
/- laws to paste: Road.backV, Road.eqW, Road.lenW (cut by pick.py; bodies as the Statement names them) -/
namespace Jvm.Pilot.@@N@@
namespace StrChars
open Jvm Sem ClassFile Op Lib Jvm.Stand Jvm.Free.XT Jvm.Free.ALB Jvm.Free.JM Jvm.Free
open Jvm.Lib.Cold (StaticIs)
/-- a char array whose places are chars -/
def Ch (a : Addr) (A : Cell) (U : State) : Prop := Arr .char a A U ∧ Typed .char A
theorem Ch.mv {a : Addr} {A : Cell} {U U' : State} (h : Ch a A U) (hal : U.vm.Alike U'.vm) (hh : U'.heap = U.heap) : Ch a A U' := ⟨h.1.mv hal hh, h.2⟩
theorem Ch.keep {a : Addr} {A : Cell} {U U' : State} (h : Ch a A U) (hal : U.vm.Alike U'.vm) (hk : U'.heap[a]? = some A) : Ch a A U' := ⟨h.1.keep hal hk, h.2⟩
/-- what place i of a char[]'s cell holds -/
def cv (A : Cell) (i : Nat) : Int32 := match A.slots[i]? with | some (.int x) => x | _ => 0
theorem Ch.get {a : Addr} {A : Cell} {U : State} (h : Ch a A U) {i : Nat} (hi : i < A.slots.size) : A.slots[i]? = some (.int (cv A i)) := by
  have e := Array.getElem?_eq_getElem hi
  have f := h.2 i _ e
  unfold cv; rw [e]
  generalize A.slots[i] = v at f
  cases v <;> simp [fits] at f ⊢
/-- the byte that i2b leaves of a char -/
def lo8 (x : Int32) : Int32 := x.toInt8.toInt32
theorem fits_lo8 (y : Int32) : fits .byte (.int (lo8 y)) = true := by
  have h1 := y.toInt8.le_toInt
  have h2 := y.toInt8.toInt_lt
  simp only [lo8, fits, Bool.and_eq_true, decide_eq_true_eq, Int32.le_iff_toInt_le, Int8.toInt_toInt32, show (-128 : Int32).toInt = -128 from by decide, show (127 : Int32).toInt = 127 from by decide]
  omega
/-- A' is A but that each place j of lo .. hi - 1 holds f j -/
def Laid (A A' : Cell) (lo hi : Nat) (f : Nat → Value) : Prop := A'.cls = A.cls ∧ A'.vm = A.vm ∧ A'.slots.size = A.slots.size ∧ ∀ i, A'.slots[i]? = if lo ≤ i ∧ i < hi then some (f i) else A.slots[i]?
theorem Laid.zero (A : Cell) (lo : Nat) (f : Nat → Value) : Laid A A lo (lo + 0) f := ⟨rfl, rfl, rfl, fun i => by rw [if_neg (by omega)]⟩
theorem Laid.step {A Ak : Cell} {lo k : Nat} {f : Nat → Value} {v : Value} (h : Laid A Ak lo k f) (hlo : lo ≤ k) (hk : k < Ak.slots.size) (hv : v = f k) : Laid A (Ak.setSlot k v) lo (k + 1) f := by
  refine ⟨h.1, h.2.1, by simpa [Cell.setSlot] using h.2.2.1, fun i => ?_⟩
  by_cases e : k = i
  · subst e; rw [Cell.slots_setSlot_self v hk, if_pos (by omega), hv]
  · rw [Cell.slots_setSlot_ne v e, h.2.2.2 i]
    by_cases q : lo ≤ i ∧ i < k
    · rw [if_pos q, if_pos (by omega)]
    · rw [if_neg q, if_neg (by omega)]
def U16 : String := "java/lang/StringUTF16"
namespace Cmp5
def yN : MethodName := ⟨"java/lang/StringUTF16", "compress", "([CI[BII)I"⟩
abbrev yB : ByteArray := jdk_52_method_21_code
theorem d0 : decode yB 0 = .ok (.iconst 0, 1) := by decide +kernel
theorem d1 : decode yB 1 = .ok (.istore 5, 2) := by decide +kernel
theorem d3 : decode yB 3 = .ok (.iload 5, 2) := by decide +kernel
theorem d5 : decode yB 5 = .ok (.iload 4, 2) := by decide +kernel
theorem d7 : decode yB 7 = .ok (.if_icmp (.ge) 37, 3) := by decide +kernel
theorem d10 : decode yB 10 = .ok (.aload_n 0, 1) := by decide +kernel
theorem d11 : decode yB 11 = .ok (.iload_n 1, 1) := by decide +kernel
theorem d12 : decode yB 12 = .ok (.caload, 1) := by decide +kernel
theorem d13 : decode yB 13 = .ok (.istore 6, 2) := by decide +kernel
theorem d15 : decode yB 15 = .ok (.iload 6, 2) := by decide +kernel
theorem d17 : decode yB 17 = .ok (.sipush 255, 3) := by decide +kernel
theorem d20 : decode yB 20 = .ok (.if_icmp (.le) 6, 3) := by decide +kernel
theorem d26 : decode yB 26 = .ok (.aload_n 2, 1) := by decide +kernel
theorem d27 : decode yB 27 = .ok (.iload_n 3, 1) := by decide +kernel
theorem d28 : decode yB 28 = .ok (.iload 6, 2) := by decide +kernel
theorem d30 : decode yB 30 = .ok (.i2b, 1) := by decide +kernel
theorem d31 : decode yB 31 = .ok (.bastore, 1) := by decide +kernel
theorem d32 : decode yB 32 = .ok (.iinc 1 1, 3) := by decide +kernel
theorem d35 : decode yB 35 = .ok (.iinc 3 1, 3) := by decide +kernel
theorem d38 : decode yB 38 = .ok (.iinc 5 1, 3) := by decide +kernel
theorem d41 : decode yB 41 = .ok (.goto (-38), 3) := by decide +kernel
theorem d44 : decode yB 44 = .ok (.iload 4, 2) := by decide +kernel
theorem d46 : decode yB 46 = .ok (.ireturn, 1) := by decide +kernel
def site : List Cond := []
def tab : Cond := tabOf yN yB 7 (some .int) site
def P (b : Addr) (A : Cell) (d : Addr) (B : Cell) (o q len : Nat) (args : Array Value) (s : State) : Prop := args = #[.ref b, .int (Int32.ofNat o), .ref d, .int (Int32.ofNat q), .int (Int32.ofNat len)] ∧ Ch b A s ∧ Arr .byte d B s ∧ b ≠ d ∧ o + len ≤ A.slots.size ∧ q + len ≤ B.slots.size ∧ ∀ i, i < len → ¬ 255 < cv A (o + i)
def E (b : Addr) (A : Cell) (d : Addr) (B : Cell) (o q len : Nat) (r : Option Value) (s u : State) : Prop := r = some (.int (Int32.ofNat len)) ∧ ∃ B', Put d B' s u ∧ Laid B B' q (q + len) (fun j => Value.int (lo8 (cv A (o + (j - q)))))
/-- no char of the range above 255: len; the places written hold each char's low byte -/
theorem law (l : Launch) (b : Addr) (A : Cell) (d : Addr) (B : Cell) (o q len : Nat) : Law l yN 5 5 0 0 yB 7 (some .int) site (P b A d B o q len) (E b A d B o q len) (copyLocs d q len) 0 0 := by
  refine Law.of_walk (plainFor_of_name (by decide +kernel)) (by decide +kernel) (by decide +kernel) (by decide) (fun _ _ h => by rw [h.1]; rfl) (fun _ U U' hal hh h => ⟨h.1, h.2.1.mv hal hh, h.2.2.1.mv hal hh, h.2.2.2⟩) (fun r U U' V V' h1 hal h2 h => ⟨h.1, h.2.elim fun B' q => ⟨B', q.1.mv h1 h2, q.2⟩⟩) ?_
  intro p e s m args below meth c s₁ X0 hexec hbytes hml hret hlk hnm hown hh0 W hP
  obtain ⟨rfl, hA, hB, hne, l1, l2, hp⟩ := hP
  have c1 : Steps p.tables e below (s₁.setTop (entryFrame m #[.ref b, .int (Int32.ofNat o), .ref d, .int (Int32.ofNat q), .int (Int32.ofNat len)] 7)) (s₁.setTop (mkF m 0 #[.val (.ref b), .val (.int (Int32.ofNat o)), .val (.ref d), .val (.int (Int32.ofNat q)), .val (.int (Int32.ofNat len)), .unset, .unset] [])) := entry rfl
  have hA0 := hA.1.mv X0.warmed.alike hh0
  have hB0 := hB.mv X0.warmed.alike hh0
  have a31 := hA.1.2.2.2
  have c2 : Steps p.tables e below (s₁.setTop (entryFrame m #[.ref b, .int (Int32.ofNat o), .ref d, .int (Int32.ofNat q), .int (Int32.ofNat len)] 7)) (s₁.setTop (mkF m 3 #[.val (.ref b), .val (.int (Int32.ofNat o)), .val (.ref d), .val (.int (Int32.ofNat q)), .val (.int (Int32.ofNat len)), .val (.int 0), .unset] [])) := c1.trans (by
    refine iconstV X0.here hexec rfl 0 (hb hbytes d0) (by decide) ?_
    refine XS.istore X0.here hexec rfl (hb hbytes d1) rfl rfl ?_
    exact Steps.refl _)
  have loop : ∀ (r i : Nat), i + r = len → ∀ (z : Slot), (z = .unset ∨ ∃ w, z = .val w ∧ w.category = 1) → ∀ (Tl : State) (Bk : Cell), Stand p l e { frames := 0, locals := 0, cells := 0, slots := 0 } s m #[.ref b, .int (Int32.ofNat o), .ref d, .int (Int32.ofNat q), .int (Int32.ofNat len)] below meth c Tl ([] ++ copyLocs d q i) 0 0 → Put d Bk s₁ Tl → Laid B Bk q (q + i) (fun j => Value.int (lo8 (cv A (o + (j - q))))) →
      Steps p.tables e below (s₁.setTop (entryFrame m #[.ref b, .int (Int32.ofNat o), .ref d, .int (Int32.ofNat q), .int (Int32.ofNat len)] 7)) (Tl.setTop (mkF m 3 #[.val (.ref b), .val (.int (Int32.ofNat (o + i))), .val (.ref d), .val (.int (Int32.ofNat (q + i))), .val (.int (Int32.ofNat len)), .val (.int (Int32.ofNat i)), z] [])) → ∃ (T' : State) (B' : Cell) (z' : Slot), Stand p l e { frames := 0, locals := 0, cells := 0, slots := 0 } s m #[.ref b, .int (Int32.ofNat o), .ref d, .int (Int32.ofNat q), .int (Int32.ofNat len)] below meth c T' ([] ++ copyLocs d q len) 0 0 ∧ Put d B' s₁ T' ∧ Laid B B' q (q + len) (fun j => Value.int (lo8 (cv A (o + (j - q))))) ∧
      Steps p.tables e below (s₁.setTop (entryFrame m #[.ref b, .int (Int32.ofNat o), .ref d, .int (Int32.ofNat q), .int (Int32.ofNat len)] 7)) (T'.setTop (mkF m 3 #[.val (.ref b), .val (.int (Int32.ofNat (o + len))), .val (.ref d), .val (.int (Int32.ofNat (q + len))), .val (.int (Int32.ofNat len)), .val (.int (Int32.ofNat len)), z'] [])) := by
    intro r
    induction r with
    | zero =>
      intro i hi z hz Tl Bk Xl pl fl cl
      have hil : i = len := by omega
      rw [hil] at Xl fl cl
      exact ⟨Tl, Bk, z, Xl, pl, fl, cl⟩
    | succ r ih =>
      intro i hi z hz Tl Bk Xl pl fl cl
      have all := X0.warmed.alike.symm.trans Xl.warmed.alike
      have hAl := hA0.keep all (pl.other hne hA0.1)
      have hBk := hB0.like all pl.1 fl.1 fl.2.1 fl.2.2.1
      have hlt : q + i < Bk.slots.size := by rw [fl.2.2.1]; omega
      have c3 : Steps p.tables e below (s₁.setTop (entryFrame m #[.ref b, .int (Int32.ofNat o), .ref d, .int (Int32.ofNat q), .int (Int32.ofNat len)] 7)) (Tl.setTop (mkF m 12 #[.val (.ref b), .val (.int (Int32.ofNat (o + i))), .val (.ref d), .val (.int (Int32.ofNat (q + i))), .val (.int (Int32.ofNat len)), .val (.int (Int32.ofNat i)), z] [.int (Int32.ofNat (o + i)), .ref b])) := cl.trans (by
        refine XS.iload Xl.here hexec rfl (hb hbytes d3) rfl ?_
        refine XS.iload Xl.here hexec rfl (hb hbytes d5) rfl ?_
        refine XS.icmpNo Xl.here hexec rfl (hb hbytes d7) rfl (ii_ge_f (lt32 (by omega) (by omega))) ?_
        refine XS.aloadN Xl.here hexec rfl (hb hbytes d10) rfl rfl ?_
        refine XS.iloadN Xl.here hexec rfl (hb hbytes d11) rfl ?_
        exact Steps.refl _)
      have c4 : Steps p.tables e below (s₁.setTop (entryFrame m #[.ref b, .int (Int32.ofNat o), .ref d, .int (Int32.ofNat q), .int (Int32.ofNat len)] 7)) (Tl.setTop (mkF m 13 #[.val (.ref b), .val (.int (Int32.ofNat (o + i))), .val (.ref d), .val (.int (Int32.ofNat (q + i))), .val (.int (Int32.ofNat len)), .val (.int (Int32.ofNat i)), z] [.int (cv A (o + i))])) := c3.trans (by
        refine Xl.aget hexec hAl rfl (hA.get (i := o + i) (by omega)) rfl rfl (hb hbytes d12) ?_
        exact Steps.refl _)
      have c5 : Steps p.tables e below (s₁.setTop (entryFrame m #[.ref b, .int (Int32.ofNat o), .ref d, .int (Int32.ofNat q), .int (Int32.ofNat len)] 7)) (Tl.setTop (mkF m 15 #[.val (.ref b), .val (.int (Int32.ofNat (o + i))), .val (.ref d), .val (.int (Int32.ofNat (q + i))), .val (.int (Int32.ofNat len)), .val (.int (Int32.ofNat i)), .val (.int (cv A (o + i)))] [])) := c4.trans (by
        refine XS.istoreS Xl.here hexec rfl (hb hbytes d13) rfl rfl hz ?_
        exact Steps.refl _)
      have c6 : Steps p.tables e below (s₁.setTop (entryFrame m #[.ref b, .int (Int32.ofNat o), .ref d, .int (Int32.ofNat q), .int (Int32.ofNat len)] 7)) (Tl.setTop (mkF m 31 #[.val (.ref b), .val (.int (Int32.ofNat (o + i))), .val (.ref d), .val (.int (Int32.ofNat (q + i))), .val (.int (Int32.ofNat len)), .val (.int (Int32.ofNat i)), .val (.int (cv A (o + i)))] [.int (lo8 (cv A (o + i))), .int (Int32.ofNat (q + i)), .ref d])) := c5.trans (by
        refine XS.iload Xl.here hexec rfl (hb hbytes d15) rfl ?_
        refine sipushV Xl.here hexec rfl 255 (hb hbytes d17) (by decide) ?_
        refine XS.icmpYes Xl.here hexec rfl (pc0 := 20) rfl (hb hbytes d20) rfl (ii_le_t (hp i (by omega))) (by decide) rfl ?_
        refine XS.aloadN Xl.here hexec rfl (hb hbytes d26) rfl rfl ?_
        refine XS.iloadN Xl.here hexec rfl (hb hbytes d27) rfl ?_
        refine XS.iload Xl.here hexec rfl (hb hbytes d28) rfl ?_
        refine i2b Xl.here hexec rfl (hb hbytes d30) rfl ?_
        exact Steps.refl _)
      obtain ⟨T7, X7, p7, st7⟩ := Xl.aput hexec hBk rfl hlt rfl (fits_lo8 (cv A (o + i))) (g := (mkF m 31 #[.val (.ref b), .val (.int (Int32.ofNat (o + i))), .val (.ref d), .val (.int (Int32.ofNat (q + i))), .val (.int (Int32.ofNat len)), .val (.int (Int32.ofNat i)), .val (.int (cv A (o + i)))] [.int (lo8 (cv A (o + i))), .int (Int32.ofNat (q + i)), .ref d])) rfl (rest := []) rfl (hb hbytes d31)
      have c8 : Steps p.tables e below (s₁.setTop (entryFrame m #[.ref b, .int (Int32.ofNat o), .ref d, .int (Int32.ofNat q), .int (Int32.ofNat len)] 7)) (T7.setTop (mkF m 32 #[.val (.ref b), .val (.int (Int32.ofNat (o + i))), .val (.ref d), .val (.int (Int32.ofNat (q + i))), .val (.int (Int32.ofNat len)), .val (.int (Int32.ofNat i)), .val (.int (cv A (o + i)))] [])) := c6.trans (st7 _ (Steps.refl _))
      have c9 : Steps p.tables e below (s₁.setTop (entryFrame m #[.ref b, .int (Int32.ofNat o), .ref d, .int (Int32.ofNat q), .int (Int32.ofNat len)] 7)) (T7.setTop (mkF m 3 #[.val (.ref b), .val (.int (Int32.ofNat (o + i) + 1)), .val (.ref d), .val (.int (Int32.ofNat (q + i) + 1)), .val (.int (Int32.ofNat len)), .val (.int (Int32.ofNat i + 1)), .val (.int (cv A (o + i)))] [])) := c8.trans (by
        refine iincV X7.here hexec rfl 1 (hb hbytes d32) (by decide) rfl rfl ?_
        refine iincV X7.here hexec rfl 1 (hb hbytes d35) (by decide) rfl rfl ?_
        refine iincV X7.here hexec rfl 1 (hb hbytes d38) (by decide) rfl rfl ?_
        refine XS.goto X7.here hexec rfl (pc0 := 41) rfl (hb hbytes d41) (by decide) rfl ?_
        exact Steps.refl _)
      have c10 : Steps p.tables e below (s₁.setTop (entryFrame m #[.ref b, .int (Int32.ofNat o), .ref d, .int (Int32.ofNat q), .int (Int32.ofNat len)] 7)) (T7.setTop (mkF m 3 #[.val (.ref b), .val (.int (Int32.ofNat (o + (i + 1)))), .val (.ref d), .val (.int (Int32.ofNat (q + (i + 1)))), .val (.int (Int32.ofNat len)), .val (.int (Int32.ofNat (i + 1))), .val (.int (cv A (o + i)))] [])) := by
        have := c9
        rw [succ32, succ32, succ32] at this
        exact this
      exact ih (i + 1) (by omega) _ (Or.inr ⟨_, rfl, rfl⟩) T7 _ (by rw [copyLocs_step, ← List.append_assoc]; exact X7) (pl.trans p7) (fl.step (by omega) hlt (by simp)) c10
  obtain ⟨T9, B9, z9, X9, p9, f9, g9⟩ := loop len 0 (by omega) .unset (Or.inl rfl) s₁ B (by simpa [copyLocs] using X0) ⟨hB0.1, fun _ _ => rfl, rfl⟩ (Laid.zero _ _ _) c2
  have c11 : Steps p.tables e below (s₁.setTop (entryFrame m #[.ref b, .int (Int32.ofNat o), .ref d, .int (Int32.ofNat q), .int (Int32.ofNat len)] 7)) (T9.setTop (mkF m 46 #[.val (.ref b), .val (.int (Int32.ofNat (o + len))), .val (.ref d), .val (.int (Int32.ofNat (q + len))), .val (.int (Int32.ofNat len)), .val (.int (Int32.ofNat len)), z9] [.int (Int32.ofNat len)])) := g9.trans (by
    refine XS.iload X9.here hexec rfl (hb hbytes d3) rfl ?_
    refine XS.iload X9.here hexec rfl (hb hbytes d5) rfl ?_
    refine XS.icmpYes X9.here hexec rfl (pc0 := 7) rfl (hb hbytes d7) rfl (ii_ge_t (nlt32 (by omega) (Nat.le_refl _))) (by decide) rfl ?_
    refine XS.iload X9.here hexec rfl (hb hbytes d44) rfl ?_
    exact Steps.refl _)
  exact ⟨T9, some (.int (Int32.ofNat len)), _, _, _, X9, by simp, rfl, rfl, (fun h => by cases h), ⟨rfl, B9, p9.from hh0, f9⟩, fun fs hl => c11.trans (X9.ireturnOut hexec hret rfl (Or.inl rfl) (hb hbytes d46) hl)⟩
end Cmp5
namespace Cmp3
def yN : MethodName := ⟨"java/lang/StringUTF16", "compress", "([CII)[B"⟩
abbrev yB : ByteArray := jdk_52_method_16_code
theorem d0 : decode yB 0 = .ok (.iload_n 2, 1) := by decide +kernel
theorem d1 : decode yB 1 = .ok (.newarray .byte, 2) := by decide +kernel
theorem d3 : decode yB 3 = .ok (.astore_n 3, 1) := by decide +kernel
theorem d4 : decode yB 4 = .ok (.aload_n 0, 1) := by decide +kernel
theorem d5 : decode yB 5 = .ok (.iload_n 1, 1) := by decide +kernel
theorem d6 : decode yB 6 = .ok (.aload_n 3, 1) := by decide +kernel
theorem d7 : decode yB 7 = .ok (.iconst 0, 1) := by decide +kernel
theorem d8 : decode yB 8 = .ok (.iload_n 2, 1) := by decide +kernel
theorem d9 : decode yB 9 = .ok (.invokestatic 115, 3) := by decide +kernel
theorem d12 : decode yB 12 = .ok (.istore 4, 2) := by decide +kernel
theorem d14 : decode yB 14 = .ok (.iload 4, 2) := by decide +kernel
theorem d16 : decode yB 16 = .ok (.iload_n 2, 1) := by decide +kernel
theorem d17 : decode yB 17 = .ok (.if_icmp (.eq) 40, 3) := by decide +kernel
theorem d57 : decode yB 57 = .ok (.aload_n 3, 1) := by decide +kernel
theorem d58 : decode yB 58 = .ok (.areturn, 1) := by decide +kernel
def site : List Cond := [.arrayClass .byte, Cmp5.tab] ++ staticW U16 115 Cmp5.yN
def tab : Cond := tabOf yN yB 6 (some (.array .byte)) site
def P (b : Addr) (A : Cell) (o len : Nat) (args : Array Value) (s : State) : Prop := args = #[.ref b, .int (Int32.ofNat o), .int (Int32.ofNat len)] ∧ Ch b A s ∧ o + len ≤ A.slots.size ∧ len ≤ 536870912 ∧ ∀ i, i < len → ¬ 255 < cv A (o + i)
def E (b : Addr) (A : Cell) (o len : Nat) (r : Option Value) (s u : State) : Prop := NewArr .byte "[B" len (fun j => .int (lo8 (cv A (o + j)))) r s u ∧ u.heap.size = s.heap.size + 1
/-- no char of the range above 255: a new byte[] of their low bytes -/
theorem law (l : Launch) (b : Addr) (A : Cell) (o len : Nat) : Law l yN 3 3 1 18 yB 6 (some (.array .byte)) site (P b A o len) (E b A o len) [] 1 len := by
  refine Law.of_walk (plainFor_of_name (by decide +kernel)) (by decide +kernel) (by decide +kernel) (by decide) (fun _ _ h => by rw [h.1]; rfl) (fun _ U U' hal hh h => ⟨h.1, h.2.1.mv hal hh, h.2.2⟩) (fun r U U' V V' h1 hal h2 h => ⟨NewArr.mv r U U' V V' h1 hal h2 h.1, by rw [h1, h2]; exact h.2⟩) ?_
  intro p e s m args below meth c s₁ X0 hexec hbytes hml hret hlk hnm hown hh0 W hP
  obtain ⟨rfl, hA, l1, l2, hp⟩ := hP
  have a31 := hA.1.2.2.2
  have c1 : Steps p.tables e below (s₁.setTop (entryFrame m #[.ref b, .int (Int32.ofNat o), .int (Int32.ofNat len)] 6)) (s₁.setTop (mkF m 0 #[.val (.ref b), .val (.int (Int32.ofNat o)), .val (.int (Int32.ofNat len)), .unset, .unset, .unset] [])) := entry rfl
  have c2 : Steps p.tables e below (s₁.setTop (entryFrame m #[.ref b, .int (Int32.ofNat o), .int (Int32.ofNat len)] 6)) (s₁.setTop (mkF m 1 #[.val (.ref b), .val (.int (Int32.ofNat o)), .val (.int (Int32.ofNat len)), .unset, .unset, .unset] [.int (Int32.ofNat len)])) := c1.trans (by
    refine XS.iloadN X0.here hexec rfl (hb hbytes d0) rfl ?_
    exact Steps.refl _)
  obtain ⟨T3, B3, X3, ba3, bs3, bv3, bh3, bf3, st3⟩ := X0.anew hexec (atype := .byte) (wk W (.arrayClass .byte)) rfl (by show len * 1 ≤ _; omega) (by omega) (g := (mkF m 1 #[.val (.ref b), .val (.int (Int32.ofNat o)), .val (.int (Int32.ofNat len)), .unset, .unset, .unset] [.int (Int32.ofNat len)])) rfl (hb hbytes d1) (rest := []) rfl (Nat.le_refl _) (by show 0 + len ≤ len; omega)
  rw [hh0] at ba3 st3
  have kp3 : XT.Kept s T3 := (XT.Kept.of_eq hh0).push bh3
  have hA3 := hA.keep X3.warmed.alike (kp3 _ _ hA.1.1)
  have hne : b ≠ s.heap.size := hA.1.ne
  have c4 : Steps p.tables e below (s₁.setTop (entryFrame m #[.ref b, .int (Int32.ofNat o), .int (Int32.ofNat len)] 6)) (T3.setTop (mkF m 3 #[.val (.ref b), .val (.int (Int32.ofNat o)), .val (.int (Int32.ofNat len)), .unset, .unset, .unset] [.ref s.heap.size])) := c2.trans (st3 _ (Steps.refl _))
  have c5 : Steps p.tables e below (s₁.setTop (entryFrame m #[.ref b, .int (Int32.ofNat o), .int (Int32.ofNat len)] 6)) (T3.setTop (mkF m 9 #[.val (.ref b), .val (.int (Int32.ofNat o)), .val (.int (Int32.ofNat len)), .val (.ref s.heap.size), .unset, .unset] [.int (Int32.ofNat len), .int 0, .ref s.heap.size, .int (Int32.ofNat o), .ref b])) := c4.trans (by
    refine XS.astoreN X3.here hexec rfl (hb hbytes d3) rfl rfl rfl ?_
    refine XS.aloadN X3.here hexec rfl (hb hbytes d4) rfl rfl ?_
    refine XS.iloadN X3.here hexec rfl (hb hbytes d5) rfl ?_
    refine XS.aloadN X3.here hexec rfl (hb hbytes d6) rfl rfl ?_
    refine iconstV X3.here hexec rfl 0 (hb hbytes d7) (by decide) ?_
    refine XS.iloadN X3.here hexec rfl (hb hbytes d8) rfl ?_
    exact Steps.refl _)
  obtain ⟨v6, T6, X6, E6, g6⟩ := X3.callS hexec (Cmp5.law l b A s.heap.size B3 o 0 len) hown (wks W (staticW U16 115 Cmp5.yN)) (wk W Cmp5.tab) (W := 0) (Nat.le_of_ble_eq_true rfl) (Nat.le_of_ble_eq_true rfl) (Nat.le_refl _) (by show 0 + len + 0 ≤ len; omega) (g := (mkF m 9 #[.val (.ref b), .val (.int (Int32.ofNat o)), .val (.int (Int32.ofNat len)), .val (.ref s.heap.size), .unset, .unset] [.int (Int32.ofNat len), .int (Int32.ofNat 0), .ref s.heap.size, .int (Int32.ofNat o), .ref b])) rfl (by rw [hml]; rfl) c5 (argsL := [.ref b, .int (Int32.ofNat o), .ref s.heap.size, .int (Int32.ofNat 0), .int (Int32.ofNat len)]) (rest := []) rfl rfl (by show 2 * 0 + 0 ≤ _; decide) (hb hbytes d9) (⟨rfl, hA3, ba3, hne, l1, by rw [bs3]; simp, hp⟩)
  obtain ⟨rfl, B6, p6, f6⟩ := E6
  have c7 : Steps p.tables e below (s₁.setTop (entryFrame m #[.ref b, .int (Int32.ofNat o), .int (Int32.ofNat len)] 6)) (T6.setTop (mkF m 12 #[.val (.ref b), .val (.int (Int32.ofNat o)), .val (.int (Int32.ofNat len)), .val (.ref s.heap.size), .unset, .unset] [.int (Int32.ofNat len)])) := g6
  have c8 : Steps p.tables e below (s₁.setTop (entryFrame m #[.ref b, .int (Int32.ofNat o), .int (Int32.ofNat len)] 6)) (T6.setTop (mkF m 58 #[.val (.ref b), .val (.int (Int32.ofNat o)), .val (.int (Int32.ofNat len)), .val (.ref s.heap.size), .val (.int (Int32.ofNat len)), .unset] [.ref s.heap.size])) := c7.trans (by
    refine XS.istore X6.here hexec rfl (hb hbytes d12) rfl rfl ?_
    refine XS.iload X6.here hexec rfl (hb hbytes d14) rfl ?_
    refine XS.iloadN X6.here hexec rfl (hb hbytes d16) rfl ?_
    refine XS.icmpYes X6.here hexec rfl (pc0 := 17) rfl (hb hbytes d17) rfl (ii_eq_t rfl) (by decide) rfl ?_
    refine XS.aloadN X6.here hexec rfl (hb hbytes d57) rfl rfl ?_
    exact Steps.refl _)
  have X8 := X6.wide (L' := []) (cells' := 1) (slots' := len) (fun x hx hlt => by
    simp only [List.nil_append, copyLocs, List.mem_map, List.mem_range] at hx
    obtain ⟨i, -, rfl⟩ := hx
    exact absurd hlt (Nat.lt_irrefl _)) (Nat.le_refl _) (by omega)
  exact ⟨T6, some (.ref s.heap.size), _, _, _, X8, rfl, rfl, rfl, (fun h => by cases h), ⟨⟨rfl, B6, ba3.like (X3.warmed.alike.symm.trans X6.warmed.alike) p6.1 f6.1 f6.2.1 f6.2.2.1, f6.2.1.trans bv3, by rw [X6.warmed.alike.findClass, f6.1]; exact bf3, by rw [f6.2.2.1, bs3]; simp, fun j hj => by rw [f6.2.2.2 j, if_pos (by omega)]; rfl, kp3.put p6 (Nat.le_refl _)⟩, by rw [p6.2.2, bh3, hh0]; simp⟩, fun fs hl => c8.trans (X8.areturnOut hexec rfl hret rfl (hb hbytes d58) hl)⟩
end Cmp3
namespace CodL
def yN : MethodName := ⟨"java/lang/StringUTF16", "coderFromArrayLen", "([BI)B"⟩
abbrev yB : ByteArray := jdk_52_method_15_code
theorem d0 : decode yB 0 = .ok (.iload_n 1, 1) := by decide +kernel
theorem d1 : decode yB 1 = .ok (.aload_n 0, 1) := by decide +kernel
theorem d2 : decode yB 2 = .ok (.arraylength, 1) := by decide +kernel
theorem d3 : decode yB 3 = .ok (.isub, 1) := by decide +kernel
theorem d4 : decode yB 4 = .ok (.bipush 31, 2) := by decide +kernel
theorem d6 : decode yB 6 = .ok (.iushr, 1) := by decide +kernel
theorem d7 : decode yB 7 = .ok (.i2b, 1) := by decide +kernel
theorem d8 : decode yB 8 = .ok (.ireturn, 1) := by decide +kernel
def site : List Cond := []
def tab : Cond := tabOf yN yB 2 (some .byte) site
def P (d : Addr) (B : Cell) (args : Array Value) (s : State) : Prop := args = #[.ref d, .int (Int32.ofNat B.slots.size)] ∧ Arr .byte d B s
def E (r : Option Value) (s u : State) : Prop := XT.PureE (some (.int 0)) r s u
/-- an array as long as the number of chars: LATIN1 -/
theorem law (l : Launch) (d : Addr) (B : Cell) : Law l yN 2 2 0 0 yB 2 (some .byte) site (P d B) E [] 0 0 := by
  refine Law.of_walk (plainFor_of_name (by decide +kernel)) (by decide +kernel) (by decide +kernel) (by decide) (fun _ _ h => by rw [h.1]; rfl) (fun _ U U' hal hh h => ⟨h.1, h.2.mv hal hh⟩) (fun r U U' V V' h1 hal h2 h => XT.PureE.mv r U U' V V' h1 hal h2 h) ?_
  intro p e s m args below meth c s₁ X0 hexec hbytes hml hret hlk hnm hown hh0 W hP
  obtain ⟨rfl, hB⟩ := hP
  have hB0 := hB.mv X0.warmed.alike hh0
  have c1 : Steps p.tables e below (s₁.setTop (entryFrame m #[.ref d, .int (Int32.ofNat B.slots.size)] 2)) (s₁.setTop (mkF m 0 #[.val (.ref d), .val (.int (Int32.ofNat B.slots.size))] [])) := entry rfl
  have c2 : Steps p.tables e below (s₁.setTop (entryFrame m #[.ref d, .int (Int32.ofNat B.slots.size)] 2)) (s₁.setTop (mkF m 2 #[.val (.ref d), .val (.int (Int32.ofNat B.slots.size))] [.ref d, .int (Int32.ofNat B.slots.size)])) := c1.trans (by
    refine XS.iloadN X0.here hexec rfl (hb hbytes d0) rfl ?_
    refine XS.aloadN X0.here hexec rfl (hb hbytes d1) rfl rfl ?_
    exact Steps.refl _)
  have c3 : Steps p.tables e below (s₁.setTop (entryFrame m #[.ref d, .int (Int32.ofNat B.slots.size)] 2)) (s₁.setTop (mkF m 8 #[.val (.ref d), .val (.int (Int32.ofNat B.slots.size))] [.int (lo8 (ushr (Int32.ofNat B.slots.size - Int32.ofNat B.slots.size) 31))])) := c2.trans (by
    refine X0.alen hexec hB0 rfl rfl (hb hbytes d2) ?_
    refine XS.isub X0.here hexec rfl (hb hbytes d3) rfl ?_
    refine bipushV X0.here hexec rfl 31 (hb hbytes d4) (by decide) ?_
    refine iushr X0.here hexec rfl (hb hbytes d6) rfl ?_
    refine i2b X0.here hexec rfl (hb hbytes d7) rfl ?_
    exact Steps.refl _)
  have e0 : lo8 (ushr (Int32.ofNat B.slots.size - Int32.ofNat B.slots.size) 31) = 0 := by rw [Int32.sub_self]; decide
  rw [e0] at c3
  exact ⟨s₁, some (.int 0), _, _, _, X0, rfl, rfl, rfl, (fun h => by cases h), ⟨rfl, hh0⟩, fun fs hl => c3.trans (X0.ireturnOut hexec hret rfl (Or.inr (Or.inr (Or.inl rfl))) (hb hbytes d8) hl)⟩
end CodL
/-- the String at a is Latin-1 over a new byte[] (the heap's one new cell): the low bytes of the len chars of A from o on; every cell but a is kept -/
def Got (a : Addr) (D : Cell) (fV fC : Field) (A : Cell) (o len : Nat) (r : Option Value) (s u : State) : Prop := r = none ∧ ∃ D' V : Cell, Blank "java/lang/String" a D' u ∧ Same D D' [fV.slot, fC.slot] ∧ D'.slots[fV.slot]? = some (.ref s.heap.size) ∧ D'.slots[fC.slot]? = some (.int 0) ∧ Arr .byte s.heap.size V u ∧ V.vm = .none ∧ u.vm.findClass "[B" = some V.cls ∧ V.slots.size = len ∧ (∀ j, j < len → V.slots[j]? = some (.int (lo8 (cv A (o + j))))) ∧ (∀ (y : Addr) (c : Cell), y ≠ a → s.heap[y]? = some c → u.heap[y]? = some c) ∧ u.heap.size = s.heap.size + 1
theorem Got.mv {a : Addr} {D A : Cell} {fV fC : Field} {o len : Nat} : ∀ r (U U' V V' : State), U'.heap = U.heap → V.vm.Alike V'.vm → V'.heap = V.heap → Got a D fV fC A o len r U V → Got a D fV fC A o len r U' V' :=
  fun r U U' V V' h1 hal h2 ⟨e0, D', X, a1, a2, a3, a4, a5, a6, a7, a8, a9, a10, a11⟩ => ⟨e0, D', X, a1.mv hal h2, a2, by rw [h1]; exact a3, a4, by rw [h1]; exact a5.mv hal h2, a6, by rw [hal.findClass]; exact a7, a8, a9, by rw [h1, h2]; exact a10, by rw [h1, h2]; exact a11⟩
namespace New4
def yN : MethodName := ⟨"java/lang/String", "<init>", "([CIILjava/lang/Void;)V"⟩
abbrev yB : ByteArray := jdk_42_method_149_code
theorem d0 : decode yB 0 = .ok (.aload_n 0, 1) := by decide +kernel
theorem d1 : decode yB 1 = .ok (.invokespecial 1, 3) := by decide +kernel
theorem d4 : decode yB 4 = .ok (.iload_n 3, 1) := by decide +kernel
theorem d5 : decode yB 5 = .ok (.ifCond (.ne) 22, 3) := by decide +kernel
theorem d27 : decode yB 27 = .ok (.getstatic 38, 3) := by decide +kernel
theorem d30 : decode yB 30 = .ok (.ifCond (.eq) 28, 3) := by decide +kernel
theorem d33 : decode yB 33 = .ok (.aload_n 1, 1) := by decide +kernel
theorem d34 : decode yB 34 = .ok (.iload_n 2, 1) := by decide +kernel
theorem d35 : decode yB 35 = .ok (.iload_n 3, 1) := by decide +kernel
theorem d36 : decode yB 36 = .ok (.invokestatic 177, 3) := by decide +kernel
theorem d39 : decode yB 39 = .ok (.astore 5, 2) := by decide +kernel
theorem d41 : decode yB 41 = .ok (.aload_n 0, 1) := by decide +kernel
theorem d42 : decode yB 42 = .ok (.aload 5, 2) := by decide +kernel
theorem d44 : decode yB 44 = .ok (.iload_n 3, 1) := by decide +kernel
theorem d45 : decode yB 45 = .ok (.invokestatic 47, 3) := by decide +kernel
theorem d48 : decode yB 48 = .ok (.putfield 15, 3) := by decide +kernel
theorem d51 : decode yB 51 = .ok (.aload_n 0, 1) := by decide +kernel
theorem d52 : decode yB 52 = .ok (.aload 5, 2) := by decide +kernel
theorem d54 : decode yB 54 = .ok (.putfield 9, 3) := by decide +kernel
theorem d57 : decode yB 57 = .ok (.return_, 1) := by decide +kernel
def site : List Cond := [.fieldLink "java/lang/String" 38 "java/lang/String" "COMPACT_STRINGS" "Z", Cmp3.tab, CodL.tab, .laysFinal "java/lang/String" "java/lang/String" "value" "[B", .fieldLink "java/lang/String" 9 "java/lang/String" "value" "[B", .laysFinal "java/lang/String" "java/lang/String" "coder" "B", .fieldLink "java/lang/String" 15 "java/lang/String" "coder" "B"] ++ objW "java/lang/String" 1 ++ staticW "java/lang/String" 177 Cmp3.yN ++ staticW "java/lang/String" 47 CodL.yN
def tab : Cond := tabOf yN yB 6 none site
def P (a : Addr) (D : Cell) (fV fC : Field) (b : Addr) (A : Cell) (z : Int32) (o len : Nat) (args : Array Value) (s : State) : Prop := args = #[.ref a, .ref b, .int (Int32.ofNat o), .int (Int32.ofNat len), .null] ∧ Blank "java/lang/String" a D s ∧ Found "java/lang/String" "value" "[B" fV s ∧ Found "java/lang/String" "coder" "B" fC s ∧ Ch b A s ∧ StaticIs s "java/lang/String" "COMPACT_STRINGS" "Z" (.int z) ∧ ¬ z = 0 ∧ 0 < len ∧ o + len ≤ A.slots.size ∧ len ≤ 536870912 ∧ ∀ i, i < len → ¬ 255 < cv A (o + i)
def E (a : Addr) (D : Cell) (fV fC : Field) (A : Cell) (o len : Nat) (r : Option Value) (s u : State) : Prop := Got a D fV fC A o len r s u
/-- len > 0, no char of the range above 255: a Latin-1 String of their low bytes -/
theorem law (l : Launch) (a : Addr) (D : Cell) (fV fC : Field) (b : Addr) (A : Cell) (z : Int32) (o len : Nat) : Law l yN 5 4 2 35 yB 6 none site (P a D fV fC b A z o len) (E a D fV fC A o len) [⟨a, fC.slot⟩, ⟨a, fV.slot⟩] 1 len := by
  refine Law.of_walk (plainFor_of_name (by decide +kernel)) (by decide +kernel) (by decide +kernel) (by decide) (fun _ _ h => by rw [h.1]; rfl) (fun _ U U' hal hh h => ⟨h.1, h.2.1.mv hal hh, h.2.2.1.al hal, h.2.2.2.1.al hal, h.2.2.2.2.1.mv hal hh, h.2.2.2.2.2.1.there hal hh, h.2.2.2.2.2.2⟩) (fun r U U' V V' h1 hal h2 h => Got.mv r U U' V V' h1 hal h2 h) ?_
  intro p e s m args below meth c s₁ X0 hexec hbytes hml hret hlk hnm hown hh0 W hP
  obtain ⟨rfl, hB, f1, f2, hA, s1, hz, l0, l1, l2, hp⟩ := hP
  have a31 := hA.1.2.2.2
  have c1 : Steps p.tables e below (s₁.setTop (entryFrame m #[.ref a, .ref b, .int (Int32.ofNat o), .int (Int32.ofNat len), .null] 6)) (s₁.setTop (mkF m 0 #[.val (.ref a), .val (.ref b), .val (.int (Int32.ofNat o)), .val (.int (Int32.ofNat len)), .val .null, .unset] [])) := entry rfl
  have c2 : Steps p.tables e below (s₁.setTop (entryFrame m #[.ref a, .ref b, .int (Int32.ofNat o), .int (Int32.ofNat len), .null] 6)) (s₁.setTop (mkF m 1 #[.val (.ref a), .val (.ref b), .val (.int (Int32.ofNat o)), .val (.int (Int32.ofNat len)), .val .null, .unset] [.ref a])) := c1.trans (by
    refine XS.aloadN X0.here hexec rfl (hb hbytes d0) rfl rfl ?_
    exact Steps.refl _)
  obtain ⟨T3, X3, q3, st3⟩ := X0.oinit hexec hown (wks W (objW "java/lang/String" 1)) (g := (mkF m 1 #[.val (.ref a), .val (.ref b), .val (.int (Int32.ofNat o)), .val (.int (Int32.ofNat len)), .val .null, .unset] [.ref a])) rfl (by rw [hml]; rfl) (rest := []) rfl (hb hbytes d1) (W := 0) (by show 2 * 0 + 0 ≤ _; decide) (Nat.le_of_ble_eq_true rfl) (Nat.le_of_ble_eq_true rfl)
  have hh3 := q3.trans hh0
  have c4 : Steps p.tables e below (s₁.setTop (entryFrame m #[.ref a, .ref b, .int (Int32.ofNat o), .int (Int32.ofNat len), .null] 6)) (T3.setTop (mkF m 27 #[.val (.ref a), .val (.ref b), .val (.int (Int32.ofNat o)), .val (.int (Int32.ofNat len)), .val .null, .unset] [])) := (c2.trans (st3 _ (Steps.refl _))).trans (by
    refine XS.iloadN X3.here hexec rfl (hb hbytes d4) rfl ?_
    refine XS.ifYes X3.here hexec rfl (pc0 := 5) rfl (hb hbytes d5) rfl (i0_ne_t (nz32 (by omega) l0)) (by decide) rfl ?_
    exact Steps.refl _)
  obtain ⟨T5, X5, q5, st5⟩ := X3.sget hexec hown (wk W (.fieldLink "java/lang/String" 38 "java/lang/String" "COMPACT_STRINGS" "Z")) s1 (fun _ _ h => by rw [hh3]; exact h) (g := (mkF m 27 #[.val (.ref a), .val (.ref b), .val (.int (Int32.ofNat o)), .val (.int (Int32.ofNat len)), .val .null, .unset] [])) rfl (hb hbytes d27)
  have hh5 := q5.trans hh3
  have c6 : Steps p.tables e below (s₁.setTop (entryFrame m #[.ref a, .ref b, .int (Int32.ofNat o), .int (Int32.ofNat len), .null] 6)) (T5.setTop (mkF m 30 #[.val (.ref a), .val (.ref b), .val (.int (Int32.ofNat o)), .val (.int (Int32.ofNat len)), .val .null, .unset] [.int z])) := c4.trans (st5 _ (Steps.refl _))
  have c7 : Steps p.tables e below (s₁.setTop (entryFrame m #[.ref a, .ref b, .int (Int32.ofNat o), .int (Int32.ofNat len), .null] 6)) (T5.setTop (mkF m 36 #[.val (.ref a), .val (.ref b), .val (.int (Int32.ofNat o)), .val (.int (Int32.ofNat len)), .val .null, .unset] [.int (Int32.ofNat len), .int (Int32.ofNat o), .ref b])) := c6.trans (by
    refine XS.ifNo X5.here hexec rfl (hb hbytes d30) rfl (i0_eq_f hz) ?_
    refine XS.aloadN X5.here hexec rfl (hb hbytes d33) rfl rfl ?_
    refine XS.iloadN X5.here hexec rfl (hb hbytes d34) rfl ?_
    refine XS.iloadN X5.here hexec rfl (hb hbytes d35) rfl ?_
    exact Steps.refl _)
  obtain ⟨v8, T8, X8, E8, g8⟩ := X5.callS hexec (Cmp3.law l b A o len) hown (wks W (staticW "java/lang/String" 177 Cmp3.yN)) (wk W Cmp3.tab) (W := 0) (Nat.le_of_ble_eq_true rfl) (Nat.le_of_ble_eq_true rfl) (Nat.le_refl _) (by show 0 + len ≤ len; omega) (g := (mkF m 36 #[.val (.ref a), .val (.ref b), .val (.int (Int32.ofNat o)), .val (.int (Int32.ofNat len)), .val .null, .unset] [.int (Int32.ofNat len), .int (Int32.ofNat o), .ref b])) rfl (by rw [hml]; rfl) c7 (argsL := [.ref b, .int (Int32.ofNat o), .int (Int32.ofNat len)]) (rest := []) rfl rfl (by show 2 * 0 + 0 ≤ _; decide) (hb hbytes d36) (⟨rfl, hA.mv X5.warmed.alike hh5, l1, l2, hp⟩)
  obtain ⟨e8, z8⟩ := E8
  obtain ⟨rfl, N, n1, n2, n3, n4, n5, n6⟩ := NewArr.mv _ T5 s _ _ hh5.symm (Vm.Alike.refl _) rfl e8
  rw [hh5] at z8
  have hB1 := hB.keep X8.warmed.alike (n6 _ _ hB.1)
  have hne : s.heap.size ≠ a := (Nat.ne_of_lt (Array.getElem?_eq_some_iff.mp hB.1).1).symm
  have c9 : Steps p.tables e below (s₁.setTop (entryFrame m #[.ref a, .ref b, .int (Int32.ofNat o), .int (Int32.ofNat len), .null] 6)) (T8.setTop (mkF m 39 #[.val (.ref a), .val (.ref b), .val (.int (Int32.ofNat o)), .val (.int (Int32.ofNat len)), .val .null, .unset] [.ref s.heap.size])) := g8
  have c10 : Steps p.tables e below (s₁.setTop (entryFrame m #[.ref a, .ref b, .int (Int32.ofNat o), .int (Int32.ofNat len), .null] 6)) (T8.setTop (mkF m 45 #[.val (.ref a), .val (.ref b), .val (.int (Int32.ofNat o)), .val (.int (Int32.ofNat len)), .val .null, .val (.ref s.heap.size)] [.int (Int32.ofNat N.slots.size), .ref s.heap.size, .ref a])) := by
    have hc : Steps p.tables e below (s₁.setTop (entryFrame m #[.ref a, .ref b, .int (Int32.ofNat o), .int (Int32.ofNat len), .null] 6)) (T8.setTop (mkF m 45 #[.val (.ref a), .val (.ref b), .val (.int (Int32.ofNat o)), .val (.int (Int32.ofNat len)), .val .null, .val (.ref s.heap.size)] [.int (Int32.ofNat len), .ref s.heap.size, .ref a])) := c9.trans (by
      refine XS.astore X8.here hexec rfl (hb hbytes d39) rfl rfl rfl ?_
      refine XS.aloadN X8.here hexec rfl (hb hbytes d41) rfl rfl ?_
      refine XS.aload X8.here hexec rfl (hb hbytes d42) rfl rfl ?_
      refine XS.iloadN X8.here hexec rfl (hb hbytes d44) rfl ?_
      exact Steps.refl _)
    rw [n4]; exact hc
  obtain ⟨v11, T11, X11, E11, g11⟩ := X8.callS hexec (CodL.law l s.heap.size N) hown (wks W (staticW "java/lang/String" 47 CodL.yN)) (wk W CodL.tab) (W := 1) (Nat.le_of_ble_eq_true rfl) (Nat.le_of_ble_eq_true rfl) (Nat.le_refl _) (by show 0 + len + 0 ≤ len; omega) (g := (mkF m 45 #[.val (.ref a), .val (.ref b), .val (.int (Int32.ofNat o)), .val (.int (Int32.ofNat len)), .val .null, .val (.ref s.heap.size)] [.int (Int32.ofNat N.slots.size), .ref s.heap.size, .ref a])) rfl (by rw [hml]; rfl) c10 (argsL := [.ref s.heap.size, .int (Int32.ofNat N.slots.size)]) (rest := [.ref a]) rfl rfl (by show 2 * 0 + (1 + 0) ≤ _; decide) (hb hbytes d45) (⟨rfl, n1⟩)
  obtain ⟨rfl, q11⟩ := E11
  have hB11 := hB1.mv (X8.warmed.alike.symm.trans X11.warmed.alike) q11
  have c12 : Steps p.tables e below (s₁.setTop (entryFrame m #[.ref a, .ref b, .int (Int32.ofNat o), .int (Int32.ofNat len), .null] 6)) (T11.setTop (mkF m 48 #[.val (.ref a), .val (.ref b), .val (.int (Int32.ofNat o)), .val (.int (Int32.ofNat len)), .val .null, .val (.ref s.heap.size)] [.int 0, .ref a])) := g11
  obtain ⟨T13, X13, p13, bl13, sl13, st13⟩ := X11.finit hexec hown (wk W (.fieldLink "java/lang/String" 15 "java/lang/String" "coder" "B")) (Or.inr ⟨_, (wk W (.laysFinal "java/lang/String" "java/lang/String" "coder" "B"))⟩) (Or.inl ⟨rfl, hnm⟩) f2 (Or.inl rfl) hB11 (t := .byte) (by decide +kernel) rfl (g := (mkF m 48 #[.val (.ref a), .val (.ref b), .val (.int (Int32.ofNat o)), .val (.int (Int32.ofNat len)), .val .null, .val (.ref s.heap.size)] [.int 0, .ref a])) rfl (rest := []) rfl (hb hbytes d48)
  have c14 : Steps p.tables e below (s₁.setTop (entryFrame m #[.ref a, .ref b, .int (Int32.ofNat o), .int (Int32.ofNat len), .null] 6)) (T13.setTop (mkF m 54 #[.val (.ref a), .val (.ref b), .val (.int (Int32.ofNat o)), .val (.int (Int32.ofNat len)), .val .null, .val (.ref s.heap.size)] [.ref s.heap.size, .ref a])) := (c12.trans (st13 _ (Steps.refl _))).trans (by
    refine XS.aloadN X13.here hexec rfl (hb hbytes d51) rfl rfl ?_
    refine XS.aload X13.here hexec rfl (hb hbytes d52) rfl rfl ?_
    exact Steps.refl _)
  obtain ⟨T15, X15, p15, bl15, sl15, st15⟩ := X13.finit hexec hown (wk W (.fieldLink "java/lang/String" 9 "java/lang/String" "value" "[B")) (Or.inr ⟨_, (wk W (.laysFinal "java/lang/String" "java/lang/String" "value" "[B"))⟩) (Or.inl ⟨rfl, hnm⟩) f1 (Or.inl rfl) bl13 (t := (.array .byte)) (by decide +kernel) rfl (g := (mkF m 54 #[.val (.ref a), .val (.ref b), .val (.int (Int32.ofNat o)), .val (.int (Int32.ofNat len)), .val .null, .val (.ref s.heap.size)] [.ref s.heap.size, .ref a])) rfl (rest := []) rfl (hb hbytes d54)
  have c16 : Steps p.tables e below (s₁.setTop (entryFrame m #[.ref a, .ref b, .int (Int32.ofNat o), .int (Int32.ofNat len), .null] 6)) (T15.setTop (mkF m 57 #[.val (.ref a), .val (.ref b), .val (.int (Int32.ofNat o)), .val (.int (Int32.ofNat len)), .val .null, .val (.ref s.heap.size)] [])) := c14.trans (st15 _ (Steps.refl _))
  have ap := apart (Or.inr ⟨_, (wk W (.laysFinal "java/lang/String" "java/lang/String" "value" "[B"))⟩) (Or.inr ⟨_, (wk W (.laysFinal "java/lang/String" "java/lang/String" "coder" "B"))⟩) f1 f2 (t₁ := .array .byte) (t₂ := .byte) (by decide +kernel) (by decide +kernel) (by decide)
  have al := X8.warmed.alike.symm.trans X15.warmed.alike
  have n7 : T11.heap[s.heap.size]? = some N := by rw [q11]; exact n1.1
  exact ⟨T15, none, _, _, _, X15, by simp, rfl, by omega, (fun _ => rfl), ⟨rfl, _, N, bl15, ((Same.refl D _).set _ (by simp)).set _ (by simp), sl15, (Cell.slots_setSlot_ne _ ap).trans sl13, n1.keep al (p15.other hne (p13.other hne n7)), n2, by rw [al.findClass]; exact n3, n4, n5, fun y c h1 h2 => p15.other h1 (p13.other h1 (by rw [q11]; exact n6 y c h2)), by rw [p15.2.2, p13.2.2, q11]; exact z8⟩, fun fs hl => c16.trans (X15.returnOut hexec hret (hb hbytes d57) hl)⟩
end New4
namespace New1
def yN : MethodName := ⟨"java/lang/String", "<init>", "([C)V"⟩
abbrev yB : ByteArray := jdk_42_method_3_code
theorem d0 : decode yB 0 = .ok (.aload_n 0, 1) := by decide +kernel
theorem d1 : decode yB 1 = .ok (.aload_n 1, 1) := by decide +kernel
theorem d2 : decode yB 2 = .ok (.iconst 0, 1) := by decide +kernel
theorem d3 : decode yB 3 = .ok (.aload_n 1, 1) := by decide +kernel
theorem d4 : decode yB 4 = .ok (.arraylength, 1) := by decide +kernel
theorem d5 : decode yB 5 = .ok (.aconst_null, 1) := by decide +kernel
theorem d6 : decode yB 6 = .ok (.invokespecial 27, 3) := by decide +kernel
theorem d9 : decode yB 9 = .ok (.return_, 1) := by decide +kernel
def site : List Cond := [New4.tab] ++ initW "java/lang/String" 27 New4.yN
def tab : Cond := tabOf yN yB 2 none site
def P (a : Addr) (D : Cell) (fV fC : Field) (b : Addr) (A : Cell) (z : Int32) (args : Array Value) (s : State) : Prop := args = #[.ref a, .ref b] ∧ Blank "java/lang/String" a D s ∧ Found "java/lang/String" "value" "[B" fV s ∧ Found "java/lang/String" "coder" "B" fC s ∧ Ch b A s ∧ StaticIs s "java/lang/String" "COMPACT_STRINGS" "Z" (.int z) ∧ ¬ z = 0 ∧ 0 < A.slots.size ∧ A.slots.size ≤ 536870912 ∧ ∀ i, i < A.slots.size → ¬ 255 < cv A i
def E (a : Addr) (D : Cell) (fV fC : Field) (A : Cell) (r : Option Value) (s u : State) : Prop := Got a D fV fC A 0 A.slots.size r s u
/-- new String(chars), not empty, no char above 255: a Latin-1 String of their low bytes -/
theorem law (l : Launch) (a : Addr) (D : Cell) (fV fC : Field) (b : Addr) (A : Cell) (z : Int32) : Law l yN 2 1 3 52 yB 2 none site (P a D fV fC b A z) (E a D fV fC A) [⟨a, fC.slot⟩, ⟨a, fV.slot⟩] 1 A.slots.size := by
  refine Law.of_walk (plainFor_of_name (by decide +kernel)) (by decide +kernel) (by decide +kernel) (by decide) (fun _ _ h => by rw [h.1]; rfl) (fun _ U U' hal hh h => ⟨h.1, h.2.1.mv hal hh, h.2.2.1.al hal, h.2.2.2.1.al hal, h.2.2.2.2.1.mv hal hh, h.2.2.2.2.2.1.there hal hh, h.2.2.2.2.2.2⟩) (fun r U U' V V' h1 hal h2 h => Got.mv r U U' V V' h1 hal h2 h) ?_
  intro p e s m args below meth c s₁ X0 hexec hbytes hml hret hlk hnm hown hh0 W hP
  obtain ⟨rfl, hB, f1, f2, hA, s1, hz, l0, l2, hp⟩ := hP
  have c1 : Steps p.tables e below (s₁.setTop (entryFrame m #[.ref a, .ref b] 2)) (s₁.setTop (mkF m 0 #[.val (.ref a), .val (.ref b)] [])) := entry rfl
  have c2 : Steps p.tables e below (s₁.setTop (entryFrame m #[.ref a, .ref b] 2)) (s₁.setTop (mkF m 6 #[.val (.ref a), .val (.ref b)] [.null, .int (Int32.ofNat A.slots.size), .int 0, .ref b, .ref a])) := c1.trans (by
    refine XS.aloadN X0.here hexec rfl (hb hbytes d0) rfl rfl ?_
    refine XS.aloadN X0.here hexec rfl (hb hbytes d1) rfl rfl ?_
    refine iconstV X0.here hexec rfl 0 (hb hbytes d2) (by decide) ?_
    refine XS.aloadN X0.here hexec rfl (hb hbytes d3) rfl rfl ?_
    refine X0.alen hexec (hA.1.mv X0.warmed.alike hh0) rfl rfl (hb hbytes d4) ?_
    refine XS.aconstNull X0.here hexec rfl (hb hbytes d5) ?_
    exact Steps.refl _)
  obtain ⟨v3, T3, X3, E3, g3⟩ := X0.callN hexec (New4.law l a D fV fC b A z 0 A.slots.size) rfl hown (wks W (initW "java/lang/String" 27 New4.yN)) (W New4.tab (by simp only [site, List.mem_cons, List.mem_append, true_or, or_true])) (W := 0) (Nat.le_of_ble_eq_true rfl) (Nat.le_of_ble_eq_true rfl) (Nat.le_refl _) (by show 0 + A.slots.size ≤ A.slots.size; omega) (g := (mkF m 6 #[.val (.ref a), .val (.ref b)] [.null, .int (Int32.ofNat A.slots.size), .int (Int32.ofNat 0), .ref b, .ref a])) rfl (by rw [hml]; rfl) c2 (argsL := [.ref b, .int (Int32.ofNat 0), .int (Int32.ofNat A.slots.size), .null]) (rest := []) rfl rfl (by show 2 * 0 + 0 ≤ _; decide) (hb hbytes d6) (⟨rfl, hB.mv X0.warmed.alike hh0, f1.al X0.warmed.alike, f2.al X0.warmed.alike, hA.mv X0.warmed.alike hh0, s1.there X0.warmed.alike hh0, hz, l0, by omega, l2, fun i hi => by rw [Nat.zero_add]; exact hp i hi⟩)
  have e0 := Got.mv _ s₁ s _ _ hh0.symm (Vm.Alike.refl _) rfl E3
  obtain rfl := e0.1
  have c4 : Steps p.tables e below (s₁.setTop (entryFrame m #[.ref a, .ref b] 2)) (T3.setTop (mkF m 9 #[.val (.ref a), .val (.ref b)] [])) := g3
  exact ⟨T3, none, _, _, _, X3, by simp, rfl, by omega, (fun _ => rfl), e0, fun fs hl => c4.trans (X3.returnOut hexec hret (hb hbytes d9) hl)⟩
theorem pays {l : Launch} {R : Room} {p : Program} {e : Env} {below : List Frame} {s : State} {sargs : Array Value} {len W : Nat} (a : Addr) (D : Cell) (fV fC : Field) (b : Addr) (A : Cell) (z : Int32) (htab : tab.before sargs s = true) (hfr : 4 ≤ R.frames) (hlo : W + 65 ≤ R.locals) :
    Back l R p e below s sargs yN len W (fun A₁ a₁ => A₁.cells + 1 ≤ R.cells ∧ A₁.slots + A.slots.size ≤ R.slots ∧ P a D fV fC b A z a₁ A₁.U) (fun A₁ _ v₁ B₁ => E a D fV fC A v₁ A₁.U B₁.U ∧ B₁.locs = A₁.locs ++ [⟨a, fC.slot⟩, ⟨a, fV.slot⟩] ∧ B₁.cells = A₁.cells + 1 ∧ B₁.slots = A₁.slots + A.slots.size) :=
  (law l a D fV fC b A z).pays htab hfr (by omega)
end New1
/-- the byte, read back as charAt reads it, is the char -/
theorem lo8_mask {x : Int32} (h0 : ¬ x < 0) (h1 : ¬ 255 < x) : lo8 x &&& 255 = x := by
  have t : ∀ k : Fin 256, lo8 (Int32.ofNat k.val) &&& 255 = Int32.ofNat k.val := by decide +kernel
  rw [Int32.lt_iff_toInt_lt] at h0 h1
  have e0 : (0 : Int32).toInt = 0 := rfl
  have e1 : (255 : Int32).toInt = 255 := rfl
  obtain ⟨k, hk⟩ : ∃ k : Nat, x.toInt = k := ⟨x.toInt.toNat, by omega⟩
  have hx : x = Int32.ofNat k := Int32.toInt_inj.mp (by rw [hk, Int32.toInt_ofNat_small (by omega)])
  rw [hx]
  exact t ⟨k, by omega⟩
end StrChars
namespace StrChars.Road
open Jvm Sem ClassFile Op Lib Jvm.Stand Jvm.Free Jvm.Free.XT
open Jvm.Lib.Cold (StaticIs)
abbrev ST : String := "java/lang/String"
/-- every table word that New1's law asks, flat -/
abbrev words : List Jvm.Cond := [.code New1.yN New1.yB 2 none, .initialized ST, .methodLink ST 27 New4.yN, .instanceMethod New4.yN,
  .code New4.yN New4.yB 6 none, .fieldLink ST 38 ST "COMPACT_STRINGS" "Z", .laysFinal ST ST "value" "[B", .fieldLink ST 9 ST "value" "[B", .laysFinal ST ST "coder" "B", .fieldLink ST 15 ST "coder" "B",
  .methodLink ST 1 Lib.objectInit, .instanceMethod Lib.objectInit, .code Lib.objectInit ⟨#[0xb1]⟩ 1 none, .methodLink ST 177 Cmp3.yN, .static Cmp3.yN, .methodLink ST 47 CodL.yN, .static CodL.yN,
  .code Cmp3.yN Cmp3.yB 6 (some (.array .byte)), .initialized U16, .arrayClass .byte, .methodLink U16 115 Cmp5.yN, .static Cmp5.yN, .code Cmp5.yN Cmp5.yB 7 (some .int), .code CodL.yN CodL.yB 2 (some .byte)]
theorem tab_of {a : Array Value} {s : State} (h : ∀ w ∈ words, w.before a s = true) : New1.tab.before a s = true := by
  have h5 : Cmp5.tab.before a s = true := unparts (wk h (.code Cmp5.yN Cmp5.yB 7 (some .int))) (wks h (.initialized Cmp5.yN.cls :: Cmp5.site))
  have hc : CodL.tab.before a s = true := unparts (wk h (.code CodL.yN CodL.yB 2 (some .byte))) (wks h (.initialized CodL.yN.cls :: CodL.site))
  have q5 : ∀ w ∈ Cmp5.tab :: words, w.before a s = true := fun w hw => (List.mem_cons.mp hw).elim (fun e => e ▸ h5) (h w)
  have h3 : Cmp3.tab.before a s = true := unparts (wk q5 (.code Cmp3.yN Cmp3.yB 6 (some (.array .byte)))) (wks q5 (.initialized Cmp3.yN.cls :: Cmp3.site))
  have q3 : ∀ w ∈ Cmp3.tab :: CodL.tab :: words, w.before a s = true := fun w hw => (List.mem_cons.mp hw).elim (fun e => e ▸ h3) fun hw => (List.mem_cons.mp hw).elim (fun e => e ▸ hc) (h w)
  have h4 : New4.tab.before a s = true := unparts (wk q3 (.code New4.yN New4.yB 6 none)) (wks q3 (.initialized New4.yN.cls :: New4.site))
  have q4 : ∀ w ∈ New4.tab :: words, w.before a s = true := fun w hw => (List.mem_cons.mp hw).elim (fun e => e ▸ h4) (h w)
  exact unparts (wk q4 (.code New1.yN New1.yB 2 none)) (wks q4 (.initialized New1.yN.cls :: New1.site))
/-- the words ride from the start Z to the walk's own state -/
theorem moved {Z s : State} {a0 args : Array Value} (hZ : Z.Warmed39 s.vm) (hw : ∀ d ∈ words, d.before a0 Z = true) : ∀ d ∈ words, d.before args s = true := fun d hd => by
  have q := hw d hd
  have t : ∀ d ∈ words, d = .arrayClass .byte ∨ (d.onTables && d.keepsFace) = true := by decide +kernel
  rcases t d hd with rfl | t
  · exact RoadKit.mvA hZ q
  · exact RoadKit.mv hZ q t
/-- WHAT COMES BACK, over the tables of the start Z: h the heap at the call, h' behind it -/
def Q (Z : State) (x : Addr) (A : Cell) (h : Heap) (v : Option Value) (h' : Heap) (L : List Loc) : Prop := v = none ∧ (∀ y ∈ L, y.base = x) ∧ RoadKit.Keep h h' [x] ∧ h'.size = h.size + 1 ∧ RoadKit.Exa Z h' x ST ∧ RoadKit.Fld Z h' x ST "value" "[B" (.ref h.size) ∧ RoadKit.Fld Z h' x ST "coder" "B" (.int 0) ∧
  (∃ V : Cell, RoadKit.Arr Z h' h.size V .byte ∧ V.vm = .none ∧ Z.vm.findClass "[B" = some V.cls ∧ V.slots.size = A.slots.size ∧ ∀ j, j < A.slots.size → V.slots[j]? = some (.int (lo8 (cv A j)))) ∧
  ∀ (O n d : String) (w : Value), RoadKit.Fld Z h x O n d w → RoadKit.slotOf Z O n d ≠ RoadKit.slotOf Z ST "value" "[B" → RoadKit.slotOf Z O n d ≠ RoadKit.slotOf Z ST "coder" "B" → RoadKit.Fld Z h' x O n d w
/-- **new String(chars) AT A CALL, IN THE ROAD'S FORM**: for specialBack behind newO: x the fresh String, b the char[] with the cell A -/
theorem back {p : Program} {l : Launch} {e : Env} {R : Room} {s : State} {args : Array Value} {below : List Frame} {len W : Nat} {Z : State} {a0 : Array Value} {h : Heap} (hZ : Z.Warmed39 s.vm) (hw : ∀ d ∈ words, d.before a0 Z = true) {kI : Nat} (wi : (Jvm.Cond.instantiable ST kI).before a0 Z = true)
    {x b : Addr} {A : Cell} {z : Int32} {v0 c0 : Value} (E : RoadKit.Exa Z h x ST) (V : RoadKit.Fld Z h x ST "value" "[B" v0) (C : RoadKit.Fld Z h x ST "coder" "B" c0) (K : RoadKit.Arr Z h b A .char) (hty : Typed .char A) (S : RoadKit.Sta Z h ST "COMPACT_STRINGS" "Z" (.int z)) (hz : ¬ z = 0)
    (l0 : 0 < A.slots.size) (l2 : A.slots.size ≤ 536870912) (hp : ∀ i, i < A.slots.size → ¬ 255 < cv A i) (hfr : 4 ≤ R.frames) (hlo : W + 65 ≤ R.locals) :
    Back l R p e below s args New1.yN len W (fun P a => a = #[.ref x, .ref b] ∧ P.U.heap = h ∧ P.cells + 1 ≤ R.cells ∧ P.slots + A.slots.size ≤ R.slots)
      (fun P _ v B => ∃ L, Q Z x A h v B.U.heap L ∧ B.locs = P.locs ++ L ∧ B.cells = P.cells + 1 ∧ B.slots = P.slots + A.slots.size) := by
  intro m meth c P g ig mk a X hg hsize hdg hW hn hp'
  obtain ⟨rfl, rfl, r1, r2⟩ := hp'
  have al : Z.vm.Alike P.U.vm := hZ.alike.trans X.warmed.alike
  obtain ⟨D, cfV, kV, iV, fV, hD, gV, stV, knV, obV, asV, slV⟩ := id V
  obtain ⟨D', cfC, kC, iC, fC, hD', gC, stC, -, -, asC, slC⟩ := id C
  cases hD.symm.trans hD'
  obtain ⟨D2, kD, e1, e2, e3, e4, e5⟩ := id E
  cases hD.symm.trans e1
  obtain ⟨c2, k2, i1, i2, i3, -⟩ := Cond.instantiable_spec wi
  cases e2.symm.trans i1
  cases e3.symm.trans i2
  obtain ⟨kU, u1, u2⟩ := al.2.2 _ _ e3
  have hB : Blank ST x D P.U := ⟨hD, ⟨knV, fun q hq => by rw [hq] at obV; cases obV⟩, by rw [al.findClass]; exact e2, kU, u1, by rw [u2]; exact i3, by rw [u2]; exact e5 i3⟩
  have F1 : Found ST "value" "[B" fV P.U := ⟨SBG.found_only al ⟨cfV, kV, iV, gV⟩, stV⟩
  have F2 : Found ST "coder" "B" fC P.U := ⟨SBG.found_only al ⟨cfC, kC, iC, gC⟩, stC⟩
  have hA : Ch b A P.U := ⟨⟨K.1, State.isArrayOf_alike al K.2.1, K.2.2, by omega⟩, hty⟩
  have hS : StaticIs P.U ST "COMPACT_STRINGS" "Z" (.int z) := by
    obtain ⟨cfS, iS, kS, fS, st, cS, t1, t2, t3, t4, t5, t6, t7⟩ := S
    exact StaticIs.there (s := { Z with heap := P.U.heap }) ⟨cfS, iS, kS, fS, st, cS, t1, t2, t3, t4, t5, (fun q => by rw [q] at t6; cases t6), t7⟩ al rfl
  obtain ⟨v, B, X', ⟨⟨hv, E', V', q1, q2, q3, q4, q5, q6, q7, q8, q9, q10, q11⟩, hl, hc, hs⟩, st⟩ := New1.pays x D fV fC b A z (tab_of (moved hZ hw)) hfr hlo m meth c P g ig mk _ X hg hsize hdg hW hn ⟨r1, r2, rfl, hB, F1, F2, hA, hS, hz, l0, l2, hp⟩
  have al' : Z.vm.Alike B.U.vm := hZ.alike.trans X'.warmed.alike
  have hsz : E'.slots.size = D.slots.size := by
    obtain ⟨-, -, -, kB, w1, w2, w3⟩ := q1
    obtain ⟨kB', y1, y2⟩ := al'.2.2 _ _ e3
    rw [q2.2.1] at w1
    cases w1.symm.trans y1
    rw [w3, e5 i3, y2]
  refine ⟨v, B, X', ⟨_, ⟨hv, ?_, ⟨by omega, fun y cy hy hn' => q10 y cy (by simpa using hn') hy, fun y cy hy => ?_⟩, q11, ⟨E', _, q1.1, by rw [q2.2.1]; exact e2, by rw [q2.2.1]; exact e3, by rw [q2.1]; exact obV, fun _ => by rw [hsz]; exact e5 i3⟩,
    ⟨E', cfV, kV, iV, fV, q1.1, gV, stV, by rw [q2.1]; exact knV, by rw [q2.1]; exact obV, by rw [q2.2.1]; exact asV, q3⟩, ⟨E', cfC, kC, iC, fC, q1.1, gC, stC, by rw [q2.1]; exact knV, by rw [q2.1]; exact obV, by rw [q2.2.1]; exact asC, q4⟩,
    ⟨V', ⟨q5.1, State.isArrayOf_alike al'.symm q5.2.1, q5.2.2.1⟩, q6, by rw [← al'.findClass]; exact q7, q8, fun j hj => by have := q9 j hj; rwa [Nat.zero_add] at this⟩, fun O n d w F n1 n2 => ?_⟩, hl, hc, hs⟩, st⟩
  · intro y hy
    simp only [List.mem_cons, List.not_mem_nil, or_false] at hy
    rcases hy with rfl | rfl <;> rfl
  · by_cases q : y = x
    · subst q
      cases hD.symm.trans hy
      exact ⟨E', q1.1, q2.2.1, q2.1, hsz⟩
    · exact ⟨cy, q10 y cy q hy, rfl, rfl, rfl⟩
  · obtain ⟨D3, cf, k, i, f, g1, g2, g3, g4, g5, g6, g7⟩ := F
    cases hD.symm.trans g1
    simp only [RoadKit.slotOf, g2, gV, gC, Option.map_some, Option.getD_some] at n1 n2
    exact ⟨E', cf, k, i, f, q1.1, g2, g3, by rw [q2.1]; exact g4, by rw [q2.1]; exact g5, by rw [q2.2.1]; exact g6, by rw [q2.2.2 f.slot (by simp [n1, n2])]; exact g7⟩
end StrChars.Road
namespace StrChars.Road
open Jvm Sem ClassFile Op Lib Jvm.Stand Jvm.Free Jvm.Free.XT
/-- WHAT COMES BACK, the byte[] as a list of values -/
def QA (Z : State) (x : Addr) (zn : Int32) (cs : List Int32) (h : Heap) (v : Option Value) (h' : Heap) (L : List Loc) : Prop := v = none ∧ (∀ y ∈ L, y.base = x) ∧ RoadKit.Keep h h' [x] ∧ h'.size = h.size + 1 ∧ RoadKit.Exa Z h' x ST ∧ RoadKit.Fld Z h' x ST "value" "[B" (.ref h.size) ∧ RoadKit.Fld Z h' x ST "coder" "B" (.int 0) ∧
  (∃ kb, Z.vm.findClass "[B" = some kb ∧ RoadKit.Arv Z h' h.size kb .byte zn (cs.map fun c => .int (lo8 c)) (.int 0)) ∧
  ∀ (O n d : String) (w : Value), RoadKit.Fld Z h x O n d w → RoadKit.slotOf Z O n d ≠ RoadKit.slotOf Z ST "value" "[B" → RoadKit.slotOf Z O n d ≠ RoadKit.slotOf Z ST "coder" "B" → RoadKit.Fld Z h' x O n d w
/-- **new String(chars) AT A CALL, THE ARRAYS AS LISTS**: the char[] at b holds cs, not empty, no char above 255 -/
theorem backArv {p : Program} {l : Launch} {e : Env} {R : Room} {s : State} {args : Array Value} {below : List Frame} {len W : Nat} {Z : State} {a0 : Array Value} {h : Heap} (hZ : Z.Warmed39 s.vm) (hw : ∀ d ∈ words, d.before a0 Z = true) {kI : Nat} (wi : (Jvm.Cond.instantiable ST kI).before a0 Z = true)
    {x b : Addr} {k : ClassId} {zn z : Int32} {cs : List Int32} {dv v0 c0 : Value} (E : RoadKit.Exa Z h x ST) (V : RoadKit.Fld Z h x ST "value" "[B" v0) (C : RoadKit.Fld Z h x ST "coder" "B" c0) (K : RoadKit.Arv Z h b k .char zn (cs.map Value.int) dv) (S : RoadKit.Sta Z h ST "COMPACT_STRINGS" "Z" (.int z)) (hz : ¬ z = 0)
    (hlen : zn.toNatClampNeg = cs.length) (h0 : 0 < cs.length) (hbig : cs.length ≤ 536870912) (hall : ∀ c ∈ cs, ¬ 255 < c) (hfr : 4 ≤ R.frames) (hlo : W + 65 ≤ R.locals) :
    Back l R p e below s args New1.yN len W (fun P a => a = #[.ref x, .ref b] ∧ P.U.heap = h ∧ P.cells + 1 ≤ R.cells ∧ P.slots + cs.length ≤ R.slots)
      (fun P _ v B => ∃ L, QA Z x zn cs h v B.U.heap L ∧ B.locs = P.locs ++ L ∧ B.cells = P.cells + 1 ∧ B.slots = P.slots + cs.length) := by
  obtain ⟨A, K1, K2, K3, K4, K5, K6⟩ := K
  have e : A.slots.size = cs.length := K3.trans hlen
  have hat : ∀ (i : Nat) (hi : i < cs.length), A.slots[i]? = some (.int cs[i]) := fun i hi => by rw [K5 i (by omega)]; simp [List.getD_eq_getElem?_getD, hi]
  have hcv : ∀ (i : Nat) (hi : i < cs.length), cv A i = cs[i] := fun i hi => by unfold cv; rw [hat i hi]
  have hty : Typed .char A := fun i v hv => by
    have hi : i < A.slots.size := (Array.getElem?_eq_some_iff.mp hv).1
    have q := K5 i hi
    rw [hv] at q
    rw [Option.some.inj q]
    exact K6 i hi
  refine Back.mono (back hZ hw wi E V C K1 hty S hz (by omega) (by omega) (fun i hi => by rw [hcv i (by omega)]; exact hall _ (List.getElem_mem _)) hfr hlo) (fun P a hp => ⟨hp.1, hp.2.1, hp.2.2.1, by rw [e]; exact hp.2.2.2⟩) (fun P a v B hp hq => ?_)
  obtain ⟨L, ⟨q1, q2, q3, q4, q5, q6, q7, ⟨V', v1, v2, v3, v4, v5⟩, q9⟩, hl, hc, hs⟩ := hq
  refine ⟨L, ⟨q1, q2, q3, q4, q5, q6, q7, ⟨V'.cls, v3, V', v1, rfl, by rw [v4, e, hlen], K4, fun i hi => ?_, fun i hi => ?_⟩, q9⟩, hl, hc, by rw [hs, e]⟩
  · have hi' : i < cs.length := by omega
    rw [v5 i (by omega), hcv i hi']; simp [List.getD_eq_getElem?_getD, hi']
  · have hi' : i < cs.length := by omega
    simp only [List.getD_eq_getElem?_getD, List.getElem?_map, List.getElem?_eq_getElem hi', Option.map_some, Option.getD_some]
    exact fits_lo8 _
end StrChars.Road
namespace StrChars.Road
open Jvm Sem ClassFile Op Lib Jvm.Stand Jvm.Free Jvm.Free.XT
/-- WHAT COMES BACK, in the writer's own shape -/
def QV (Z : State) (x : Addr) (N : Int32) (bs : List Int32) (h : Heap) (n0 : Nat) (v : Option Value) (h' : Heap) (L : List Loc) : Prop := v = none ∧ RoadKit.Fr n0 L ∧ RoadKit.Keep h h' [x] ∧ RoadKit.Exa Z h' x ST ∧ RoadKit.Fld Z h' x ST "coder" "B" (.int 0) ∧
  ∃ (t : Addr) (kb : ClassId), n0 ≤ t ∧ h.size ≤ t ∧ ¬ t = x ∧ RoadKit.Fld Z h' x ST "value" "[B" (.ref t) ∧ RoadKit.Arv Z h' t kb .byte N (bs.map Value.int) (.int 0)
/-- **new String(chars) AT A CALL, FOR THE WRITER**: a char[] of n known ints, each 0 to 255 -/
theorem backV {p : Program} {l : Launch} {e : Env} {R : Room} {s : State} {args : Array Value} {below : List Frame} {len W : Nat} {Z : State} {a0 : Array Value} {h : Heap} (hZ : Z.Warmed39 s.vm) (hw : ∀ d ∈ words, d.before a0 Z = true) {kI : Nat} (wi : (Jvm.Cond.instantiable ST kI).before a0 Z = true)
    {x b : Addr} {kC : ClassId} {cs bs : List Int32} {d v0 c0 : Value} {z N : Int32} {n n0 : Nat} (hx0 : n0 ≤ x) (hh0 : n0 ≤ h.size) (E : RoadKit.Exa Z h x ST) (V : RoadKit.Fld Z h x ST "value" "[B" v0) (C : RoadKit.Fld Z h x ST "coder" "B" c0) (K : RoadKit.Arv Z h b kC .char N (cs.map Value.int) d) (S : RoadKit.Sta Z h ST "COMPACT_STRINGS" "Z" (.int z)) (hz : ¬ z = 0)
    (hn : cs.length = n) (hN : N = Int32.ofNat n) (l0 : 0 < n) (l2 : n ≤ 4000) (hp : ∀ c ∈ cs, ¬ c < 0 ∧ ¬ (255 : Int32) < c) (hb : bs = cs.map (fun c => c.toInt8.toInt32)) (hfr : 4 ≤ R.frames) (hlo : W + 65 ≤ R.locals) :
    Back l R p e below s args (⟨"java/lang/String", "<init>", "([C)V"⟩ : MethodName) len W (fun P a => a = #[.ref x, .ref b] ∧ P.U.heap = h ∧ P.cells + 1 ≤ R.cells ∧ P.slots + n ≤ R.slots)
      (fun P _ v B => ∃ L, QV Z x N bs h n0 v B.U.heap L ∧ B.locs = P.locs ++ L ∧ B.cells = P.cells + 1 ∧ B.slots = P.slots + n) := by
  subst hn hN hb
  refine Back.mono (backArv hZ hw wi E V C K S hz (n32 (by omega)) l0 (by omega) (fun c hc => (hp c hc).2) hfr hlo) (fun P a hp => hp) (fun P a v B hp hq => ?_)
  obtain ⟨L, ⟨q1, q2, q3, q4, q5, q6, q7, ⟨kb, v1, v2⟩, q9⟩, hl, hc, hs⟩ := hq
  exact ⟨L, ⟨q1, fun y hy => by rw [q2 y hy]; exact hx0, q3, q5, q7, h.size, kb, hh0, Nat.le_refl _, Nat.ne_of_gt E.lt, q6, by rw [List.map_map]; exact v2⟩, hl, hc, hs⟩
end StrChars.Road
namespace StrChars
open Jvm Sem ClassFile Op Lib Jvm.Stand Jvm.Free.XT Jvm.Free.ALB Jvm.Free.JM Jvm.Free
open Jvm.Lib.Cold (StaticIs)
def hi8 (x : Int32) : Int32 := lo8 (x >>> ((8 : Int32) &&& 31))
/-- what StringUTF16.getChar makes of two bytes -/
def pairCh (u v : Int32) : Int32 := (((u &&& 255) <<< ((0 : Int32) &&& 31)) ||| ((v &&& 255) <<< ((8 : Int32) &&& 31))).toUInt32.toUInt16.toUInt32.toInt32
theorem shr0 (c : Int32) : c >>> ((0 : Int32) &&& 31) = c := by
  have e : ((0 : Int32) &&& 31) = 0 := by decide
  rw [e]
  apply Int32.toBitVec_inj.mp
  rw [Int32.toBitVec_shiftRight]
  have e1 : ((0 : Int32).toBitVec.smod 32) = 0#32 := by decide
  rw [e1, BitVec.sshiftRight_eq']
  exact BitVec.sshiftRight_zero
theorem lo8_and (x : Int32) : (lo8 x &&& 255).toBitVec.toNat = x.toBitVec.toNat % 256 := by
  have h : (lo8 x).toBitVec = (x.toBitVec.signExtend 8).signExtend 32 := by rw [lo8, Int8.toBitVec_toInt32, Int32.toBitVec_toInt8]
  rw [Int32.toBitVec_and, BitVec.toNat_and, h]
  have e : ((x.toBitVec.signExtend 8).signExtend 32).toNat % 256 = x.toBitVec.toNat % 256 := by
    rw [BitVec.toNat_signExtend]
    have hlt := x.toBitVec.isLt
    simp only [BitVec.toNat_setWidth, BitVec.toNat_signExtend]
    split <;> split <;> omega
  rw [← e]
  exact Nat.and_two_pow_sub_one_eq_mod _ 8
theorem pair_says {c : Int32} (h0 : ¬ c < 0) (h1 : ¬ 65535 < c) : pairCh (lo8 c) (hi8 c) = c := by
  rw [Int32.lt_iff_toInt_lt] at h0 h1
  have e0 : (0 : Int32).toInt = 0 := rfl
  have e1 : (65535 : Int32).toInt = 65535 := rfl
  have hc : c.toInt = c.toBitVec.toNat := by
    have := c.toBitVec.isLt
    have e : c.toInt = c.toBitVec.toInt := rfl
    rw [e] at h0 h1
    rw [e]
    rw [BitVec.toInt_eq_toNat_cond] at h0 h1 ⊢
    split at h0 <;> split <;> omega
  have hn : c.toBitVec.toNat < 65536 := by omega
  have a1 := lo8_and c
  have a2 : (hi8 c &&& 255).toBitVec.toNat = c.toBitVec.toNat / 256 := by
    rw [hi8, lo8_and]
    have e : ((8 : Int32) &&& 31) = 8 := by decide
    rw [e, Int32.toBitVec_shiftRight]
    have e2 : ((8 : Int32).toBitVec.smod 32) = 8#32 := by decide
    rw [e2, BitVec.sshiftRight_eq', BitVec.toNat_sshiftRight_of_msb_false (by rw [BitVec.msb_eq_false_iff_two_mul_lt]; omega)]
    show c.toBitVec.toNat >>> 8 % 256 = _
    rw [Nat.shiftRight_eq_div_pow]
    omega
  unfold pairCh
  apply Int32.toBitVec_inj.mp
  apply BitVec.eq_of_toNat_eq
  have f0 : ((0 : Int32) &&& 31) = 0 := by decide
  have f8 : ((8 : Int32) &&& 31) = 8 := by decide
  rw [f0, f8]
  have g : (((lo8 c &&& 255) <<< (0 : Int32)) ||| ((hi8 c &&& 255) <<< (8 : Int32))).toBitVec.toNat = c.toBitVec.toNat := by
    rw [Int32.toBitVec_or, Int32.toBitVec_shiftLeft, Int32.toBitVec_shiftLeft]
    have s0 : ((0 : Int32).toBitVec.smod 32) = 0#32 := by decide
    have s8 : ((8 : Int32).toBitVec.smod 32) = 8#32 := by decide
    rw [s0, s8, BitVec.toNat_or]
    simp only [BitVec.shiftLeft_eq', BitVec.toNat_shiftLeft, a1, a2]
    show (c.toBitVec.toNat % 256) <<< 0 % 2 ^ 32 ||| (c.toBitVec.toNat / 256) <<< 8 % 2 ^ 32 = _
    rw [Nat.shiftLeft_zero, Nat.mod_eq_of_lt (show c.toBitVec.toNat % 256 < 2 ^ 32 by omega), Nat.mod_eq_of_lt (show (c.toBitVec.toNat / 256) <<< 8 < 2 ^ 32 by rw [Nat.shiftLeft_eq]; omega), Nat.or_comm, ← Nat.shiftLeft_add_eq_or_of_lt (by omega), Nat.shiftLeft_eq]
    omega
  show BitVec.toNat (((((lo8 c &&& 255) <<< (0 : Int32)) ||| ((hi8 c &&& 255) <<< (8 : Int32))).toBitVec.setWidth 16).setWidth 32) = _
  rw [BitVec.toNat_setWidth, BitVec.toNat_setWidth, g]
  omega
end StrChars
namespace StrChars
open Jvm Sem ClassFile Op Lib Jvm.Stand Jvm.Free.XT Jvm.Free.ALB Jvm.Free.JM Jvm.Free
open Jvm.Lib.Cold (StaticIs)
theorem shr1 {n : Nat} (h : 2 * n < 2 ^ 31) : Int32.ofNat (2 * n) >>> ((1 : Int32) &&& 31) = Int32.ofNat n := by
  have e : ((1 : Int32) &&& 31) = 1 := by decide
  rw [e]
  apply Int32.toBitVec_inj.mp
  rw [Int32.toBitVec_shiftRight]
  have e1 : ((1 : Int32).toBitVec.smod 32) = 1#32 := by decide
  have hm : (BitVec.ofNat 32 (2 * n)).toNat = 2 * n := by rw [BitVec.toNat_ofNat, Nat.mod_eq_of_lt (by omega)]
  rw [e1, BitVec.sshiftRight_eq']
  apply BitVec.eq_of_toNat_eq
  show ((BitVec.ofNat 32 (2 * n)).sshiftRight 1).toNat = (BitVec.ofNat 32 n).toNat
  rw [BitVec.toNat_sshiftRight_of_msb_false (by rw [BitVec.msb_eq_false_iff_two_mul_lt, hm]; omega), hm, BitVec.toNat_ofNat, Nat.shiftRight_eq_div_pow]
  omega
/-- the array's cell V codes the n chars f 0 .. f (n - 1) by the coder cd, as the JDK does: coder 1 just where some char is above 255 -/
def Cod (cd : Int32) (n : Nat) (f : Nat → Int32) (V : Cell) : Prop := (cd = 0 ∧ V.slots.size = n ∧ ∀ j, j < n → V.slots[j]? = some (.int (lo8 (f j))) ∧ ¬ 255 < f j) ∨ (cd = 1 ∧ V.slots.size = 2 * n ∧ (∀ j, j < n → V.slots[2 * j]? = some (.int (lo8 (f j))) ∧ V.slots[2 * j + 1]? = some (.int (hi8 (f j)))) ∧ ∃ j, j < n ∧ 255 < f j)
theorem Cod.cd {cd : Int32} {n : Nat} {f : Nat → Int32} {V : Cell} (h : Cod cd n f V) : cd = 0 ∨ cd = 1 := h.imp (fun q => q.1) fun q => q.1
theorem Cod.len {cd : Int32} {n : Nat} {f : Nat → Int32} {V : Cell} (h : Cod cd n f V) (hs : V.slots.size < 2 ^ 31) : Int32.ofNat V.slots.size >>> (cd &&& 31) = Int32.ofNat n := by
  rcases h with ⟨rfl, h, -⟩ | ⟨rfl, h, -⟩
  · rw [shr0, h]
  · rw [h, shr1 (by omega)]
/-- **x is a String of the n chars f 0 .. f (n - 1)**, Latin-1 or UTF-16; its array at t has the cell V -/
def Txt (x t : Addr) (V : Cell) (cd : Int32) (n : Nat) (f : Nat → Int32) (U : State) : Prop := Exact "java/lang/String" x U ∧ Has x "java/lang/String" "value" "[B" (.ref t) U ∧ Has x "java/lang/String" "coder" "B" (.int cd) U ∧ XT.Arr .byte t V U ∧ Cod cd n f V ∧ ∀ j, j < n → ¬ f j < 0 ∧ ¬ 65535 < f j
theorem Txt.mv {x t : Addr} {V : Cell} {cd : Int32} {n : Nat} {f : Nat → Int32} {U U' : State} (h : Txt x t V cd n f U) (hal : U.vm.Alike U'.vm) (hh : U'.heap = U.heap) : Txt x t V cd n f U' := ⟨h.1.mv hal hh, h.2.1.mv hal hh, h.2.2.1.mv hal hh, h.2.2.2.1.mv hal hh, h.2.2.2.2⟩
namespace Cdr
def yN : MethodName := ⟨"java/lang/String", "coder", "()B"⟩
abbrev yB : ByteArray := jdk_42_method_152_code
theorem d0 : decode yB 0 = .ok (.getstatic 38, 3) := by decide +kernel
theorem d3 : decode yB 3 = .ok (.ifCond (.eq) 10, 3) := by decide +kernel
theorem d6 : decode yB 6 = .ok (.aload_n 0, 1) := by decide +kernel
theorem d7 : decode yB 7 = .ok (.getfield 15, 3) := by decide +kernel
theorem d10 : decode yB 10 = .ok (.goto 4, 3) := by decide +kernel
theorem d14 : decode yB 14 = .ok (.ireturn, 1) := by decide +kernel
def site : List Cond := [.fieldLink "java/lang/String" 38 "java/lang/String" "COMPACT_STRINGS" "Z", .fieldLink "java/lang/String" 15 "java/lang/String" "coder" "B"]
def tab : Cond := tabOf yN yB 1 (some .byte) site
def P (x : Addr) (cd z : Int32) (args : Array Value) (s : State) : Prop := args = #[.ref x] ∧ Has x "java/lang/String" "coder" "B" (.int cd) s ∧ (cd = 0 ∨ cd = 1) ∧ StaticIs s "java/lang/String" "COMPACT_STRINGS" "Z" (.int z) ∧ ¬ z = 0
def E (cd : Int32) (r : Option Value) (s u : State) : Prop := XT.PureE (some (.int cd)) r s u
theorem law (l : Launch) (x : Addr) (cd z : Int32) : Law l yN 1 0 0 0 yB 1 (some .byte) site (P x cd z) (E cd) [] 0 0 := by
  refine Law.of_walk (plainFor_of_name (by decide +kernel)) (by decide +kernel) (by decide +kernel) (by decide) (fun _ _ h => by rw [h.1]; rfl) (fun _ U U' hal hh h => ⟨h.1, h.2.1.mv hal hh, h.2.2.1, h.2.2.2.1.there hal hh, h.2.2.2.2⟩) (fun r U U' V V' h1 hal h2 h => XT.PureE.mv r U U' V V' h1 hal h2 h) ?_
  intro p e s m args below meth c s₁ X0 hexec hbytes hml hret hlk hnm hown hh0 W hP
  obtain ⟨rfl, hx, hc, s1, hz⟩ := hP
  have c1 : Steps p.tables e below (s₁.setTop (entryFrame m #[.ref x] 1)) (s₁.setTop (mkF m 0 #[.val (.ref x)] [])) := entry rfl
  obtain ⟨T2, X2, q2, st2⟩ := X0.sget hexec hown (wk W (.fieldLink "java/lang/String" 38 "java/lang/String" "COMPACT_STRINGS" "Z")) s1 (fun _ _ h => by rw [hh0]; exact h) (g := (mkF m 0 #[.val (.ref x)] [])) rfl (hb hbytes d0)
  have hh2 := q2.trans hh0
  have c3 : Steps p.tables e below (s₁.setTop (entryFrame m #[.ref x] 1)) (T2.setTop (mkF m 7 #[.val (.ref x)] [.ref x])) := (c1.trans (st2 _ (Steps.refl _))).trans (by
    refine XS.ifNo X2.here hexec rfl (hb hbytes d3) rfl (i0_eq_f hz) ?_
    refine XS.aloadN X2.here hexec rfl (hb hbytes d6) rfl rfl ?_
    exact Steps.refl _)
  obtain ⟨T4, X4, q4, st4⟩ := X2.hget hexec hown (wk W (.fieldLink "java/lang/String" 15 "java/lang/String" "coder" "B")) (hx.mv X2.warmed.alike hh2) (g := (mkF m 7 #[.val (.ref x)] [.ref x])) rfl (rest := []) rfl (hb hbytes d7)
  have c5 : Steps p.tables e below (s₁.setTop (entryFrame m #[.ref x] 1)) (T4.setTop (mkF m 14 #[.val (.ref x)] [.int cd])) := (c3.trans (st4 _ (Steps.refl _))).trans (by
    refine XS.goto X4.here hexec rfl (pc0 := 10) rfl (hb hbytes d10) (by decide) rfl ?_
    exact Steps.refl _)
  exact ⟨T4, some (.int cd), _, _, _, X4, rfl, rfl, rfl, (fun h => by cases h), ⟨rfl, q4.trans hh2⟩, fun fs hl => c5.trans (X4.ireturnOut hexec hret (by rcases hc with rfl | rfl <;> rfl) (Or.inr (Or.inr (Or.inl rfl))) (hb hbytes d14) hl)⟩
end Cdr
namespace Len
def yN : MethodName := ⟨"java/lang/String", "length", "()I"⟩
abbrev yB : ByteArray := jdk_42_method_54_code
theorem d0 : decode yB 0 = .ok (.aload_n 0, 1) := by decide +kernel
theorem d1 : decode yB 1 = .ok (.getfield 9, 3) := by decide +kernel
theorem d4 : decode yB 4 = .ok (.arraylength, 1) := by decide +kernel
theorem d5 : decode yB 5 = .ok (.aload_n 0, 1) := by decide +kernel
theorem d6 : decode yB 6 = .ok (.invokevirtual 335, 3) := by decide +kernel
theorem d9 : decode yB 9 = .ok (.ishr, 1) := by decide +kernel
theorem d10 : decode yB 10 = .ok (.ireturn, 1) := by decide +kernel
def site : List Cond := [.fieldLink "java/lang/String" 9 "java/lang/String" "value" "[B", Cdr.tab] ++ virtW "java/lang/String" 335 "java/lang/String" Cdr.yN Cdr.yN
def tab : Cond := tabOf yN yB 1 (some .int) site
def P (x t : Addr) (V : Cell) (cd : Int32) (n : Nat) (f : Nat → Int32) (z : Int32) (args : Array Value) (s : State) : Prop := args = #[.ref x] ∧ Txt x t V cd n f s ∧ StaticIs s "java/lang/String" "COMPACT_STRINGS" "Z" (.int z) ∧ ¬ z = 0
def E (n : Nat) (r : Option Value) (s u : State) : Prop := XT.PureE (some (.int (Int32.ofNat n))) r s u
/-- length() of a String of n chars, in either coding -/
theorem law (l : Launch) (x t : Addr) (V : Cell) (cd : Int32) (n : Nat) (f : Nat → Int32) (z : Int32) : Law l yN 1 0 1 13 yB 1 (some .int) site (P x t V cd n f z) (E n) [] 0 0 := by
  refine Law.of_walk (plainFor_of_name (by decide +kernel)) (by decide +kernel) (by decide +kernel) (by decide) (fun _ _ h => by rw [h.1]; rfl) (fun _ U U' hal hh h => ⟨h.1, h.2.1.mv hal hh, h.2.2.1.there hal hh, h.2.2.2⟩) (fun r U U' V V' h1 hal h2 h => XT.PureE.mv r U U' V V' h1 hal h2 h) ?_
  intro p e s m args below meth c s₁ X0 hexec hbytes hml hret hlk hnm hown hh0 W hP
  obtain ⟨rfl, hx, s1, hz⟩ := hP
  have v31 := hx.2.2.2.1.2.2.2
  have c1 : Steps p.tables e below (s₁.setTop (entryFrame m #[.ref x] 1)) (s₁.setTop (mkF m 1 #[.val (.ref x)] [.ref x])) := Steps.trans (entry rfl) (by
    show Steps p.tables e below (s₁.setTop (mkF m 0 #[.val (.ref x)] [])) _
    refine XS.aloadN X0.here hexec rfl (hb hbytes d0) rfl rfl ?_
    exact Steps.refl _)
  obtain ⟨T2, X2, q2, st2⟩ := X0.hget hexec hown (wk W (.fieldLink "java/lang/String" 9 "java/lang/String" "value" "[B")) (hx.mv X0.warmed.alike hh0).2.1 (g := (mkF m 1 #[.val (.ref x)] [.ref x])) rfl (rest := []) rfl (hb hbytes d1)
  have hh2 := q2.trans hh0
  have hx2 := hx.mv X2.warmed.alike hh2
  have c3 : Steps p.tables e below (s₁.setTop (entryFrame m #[.ref x] 1)) (T2.setTop (mkF m 6 #[.val (.ref x)] [.ref x, .int (Int32.ofNat V.slots.size)])) := (c1.trans (st2 _ (Steps.refl _))).trans (by
    refine X2.alen hexec hx2.2.2.2.1 rfl rfl (hb hbytes d4) ?_
    refine XS.aloadN X2.here hexec rfl (hb hbytes d5) rfl rfl ?_
    exact Steps.refl _)
  obtain ⟨v4, T4, X4, E4, g4⟩ := X2.callV hexec (Cdr.law l x cd z) hown (wks W (virtW "java/lang/String" 335 "java/lang/String" Cdr.yN Cdr.yN)) rfl (by decide) (wk W Cdr.tab) (W := 1) (Nat.le_of_ble_eq_true rfl) (Nat.le_of_ble_eq_true rfl) (Nat.le_refl _) (Nat.le_refl _) (hx2.1.fc X2.warmed.alike) hx2.1.is (g := (mkF m 6 #[.val (.ref x)] [.ref x, .int (Int32.ofNat V.slots.size)])) rfl (by rw [hml]; rfl) c3 (argsL := []) (rest := [.int (Int32.ofNat V.slots.size)]) rfl rfl (by show 2 * 0 + (1 + 0) ≤ _; decide) (hb hbytes d6) (⟨rfl, hx2.2.2.1, hx.2.2.2.2.1.cd, s1.there X2.warmed.alike hh2, hz⟩)
  obtain ⟨rfl, q4⟩ := E4
  have c5 : Steps p.tables e below (s₁.setTop (entryFrame m #[.ref x] 1)) (T4.setTop (mkF m 10 #[.val (.ref x)] [.int (Int32.ofNat V.slots.size >>> (cd &&& 31))])) := Steps.trans g4 (by
    refine ishr X4.here hexec rfl (hb hbytes d9) rfl ?_
    exact Steps.refl _)
  rw [hx.2.2.2.2.1.len v31] at c5
  exact ⟨T4, some (.int (Int32.ofNat n)), _, _, _, X4, rfl, rfl, rfl, (fun h => by cases h), ⟨rfl, q4.trans hh2⟩, fun fs hl => c5.trans (X4.ireturnOut hexec hret rfl (Or.inl rfl) (hb hbytes d10) hl)⟩
theorem pays {l : Launch} {R : Room} {p : Program} {e : Env} {below : List Frame} {s : State} {sargs : Array Value} {len W : Nat} (x t : Addr) (V : Cell) (cd : Int32) (n : Nat) (f : Nat → Int32) (z : Int32) (htab : tab.before sargs s = true) (hfr : 2 ≤ R.frames) (hlo : W + 25 ≤ R.locals) :
    Back l R p e below s sargs yN len W (fun A₁ a₁ => A₁.cells + 0 ≤ R.cells ∧ A₁.slots + 0 ≤ R.slots ∧ P x t V cd n f z a₁ A₁.U) (fun A₁ _ v₁ B₁ => E n v₁ A₁.U B₁.U ∧ B₁.locs = A₁.locs ++ [] ∧ B₁.cells = A₁.cells + 0 ∧ B₁.slots = A₁.slots + 0) :=
  (law l x t V cd n f z).pays htab hfr (by omega)
end Len
end StrChars
namespace StrChars.Road
open Jvm Sem ClassFile Op Lib Jvm.Stand Jvm.Free Jvm.Free.XT
open Jvm.Lib.Cold (StaticIs)
theorem consq {a : Array Value} {s : State} {c : Jvm.Cond} {L : List Jvm.Cond} (h0 : c.before a s = true) (h : ∀ w ∈ L, w.before a s = true) : ∀ w ∈ c :: L, w.before a s = true := fun w hw => (List.mem_cons.mp hw).elim (fun e => e ▸ h0) (h w)
/-- the words of String.length(), either coding -/
abbrev wordsLen : List Jvm.Cond := [.code Len.yN Len.yB 1 (some .int), .initialized ST, .fieldLink ST 9 ST "value" "[B", .fieldLink ST 38 ST "COMPACT_STRINGS" "Z", .fieldLink ST 15 ST "coder" "B", .code Cdr.yN Cdr.yB 1 (some .byte), .methodLink ST 335 Cdr.yN, .declares Cdr.yN, .selects ST Cdr.yN Cdr.yN, .instanceMethod Cdr.yN]
theorem tabLen_of {a : Array Value} {s : State} (h : ∀ w ∈ wordsLen, w.before a s = true) : Len.tab.before a s = true := by
  have hc : Cdr.tab.before a s = true := unparts (wk h (.code Cdr.yN Cdr.yB 1 (some .byte))) (wks h (.initialized Cdr.yN.cls :: Cdr.site))
  have q := consq hc h
  exact unparts (wk q (.code Len.yN Len.yB 1 (some .int))) (wks q (.initialized Len.yN.cls :: Len.site))
theorem movedLen {Z s : State} {a0 args : Array Value} (hZ : Z.Warmed39 s.vm) (hw : ∀ d ∈ wordsLen, d.before a0 Z = true) : ∀ d ∈ wordsLen, d.before args s = true := fun d hd => by
  have q := hw d hd
  have t : ∀ d ∈ wordsLen, d = .arrayClass .byte ∨ (d.onTables && d.keepsFace) = true := by decide +kernel
  rcases t d hd with rfl | t
  · exact RoadKit.mvA hZ q
  · exact RoadKit.mv hZ q t
/-- the bytes of the chars cs, low before high -/
def wideBytes : List Int32 → List Value
  | [] => []
  | c :: cs => .int (lo8 c) :: .int (hi8 c) :: wideBytes cs
theorem wide_lo (d : Value) : ∀ (cs : List Int32) (j : Nat), j < cs.length → (wideBytes cs).getD (2 * j) d = .int (lo8 (cs.getD j 0))
  | [], j, h => absurd h (Nat.not_lt_zero j)
  | c :: cs, 0, _ => rfl
  | c :: cs, j + 1, h => by
    have q := wide_lo d cs j (by simpa using h)
    rw [show 2 * (j + 1) = 2 * j + 1 + 1 from by omega]
    simpa [wideBytes] using q
theorem wide_hi (d : Value) : ∀ (cs : List Int32) (j : Nat), j < cs.length → (wideBytes cs).getD (2 * j + 1) d = .int (hi8 (cs.getD j 0))
  | [], j, h => absurd h (Nat.not_lt_zero j)
  | c :: cs, 0, _ => rfl
  | c :: cs, j + 1, h => by
    have q := wide_hi d cs j (by simpa using h)
    rw [show 2 * (j + 1) + 1 = 2 * j + 1 + 1 + 1 from by omega]
    simpa [wideBytes] using q
theorem low_at (d : Value) (cs : List Int32) (j : Nat) (h : j < cs.length) : (cs.map fun c => Value.int (lo8 c)).getD j d = .int (lo8 (cs.getD j 0)) := by
  simp [List.getD_eq_getElem?_getD, h]
/-- an array of N2 bytes vs codes the chars cs by the coder cd -/
def CodA (cs : List Int32) (cd N2 : Int32) (vs : List Value) : Prop := (cd = 0 ∧ N2 = Int32.ofNat cs.length ∧ vs = (cs.map fun c => Value.int (lo8 c)) ∧ ∀ c ∈ cs, ¬ 255 < c) ∨ (cd = 1 ∧ N2 = Int32.ofNat (2 * cs.length) ∧ vs = wideBytes cs ∧ ∃ c ∈ cs, 255 < c)
theorem CodA.cod {cs : List Int32} {cd N2 : Int32} {vs : List Value} {V : Cell} (h : CodA cs cd N2 vs) (hn : 2 * cs.length < 2 ^ 31) (hs : V.slots.size = N2.toNatClampNeg) (hv : RoadKit.Has V vs (.int 0)) : Cod cd cs.length (fun j => cs.getD j 0) V := by
  rcases h with ⟨rfl, rfl, rfl, h⟩ | ⟨rfl, rfl, rfl, c, hc, hw⟩
  · rw [n32 (by omega)] at hs
    exact Or.inl ⟨rfl, hs, fun j hj => ⟨by rw [hv j (by omega), low_at _ _ _ hj], by
      have e : cs.getD j 0 = cs[j] := by simp [List.getD_eq_getElem?_getD, hj]
      show ¬ 255 < cs.getD j 0
      rw [e]; exact h _ (List.getElem_mem _)⟩⟩
  · rw [n32 (by omega)] at hs
    obtain ⟨j, hj, rfl⟩ := List.getElem_of_mem hc
    exact Or.inr ⟨rfl, hs, fun j hj => ⟨by rw [hv _ (by omega), wide_lo _ _ _ hj], by rw [hv _ (by omega), wide_hi _ _ _ hj]⟩, j, hj, by
      have e : cs.getD j 0 = cs[j] := by simp [List.getD_eq_getElem?_getD, hj]
      show 255 < cs.getD j 0
      rw [e]; exact hw⟩
/-- an object of exactly java/lang/String, its two fields found: as the laws ask it -/
theorem strObj {Z U : State} {a0 : Array Value} {kI : Nat} (wi : (Jvm.Cond.instantiable ST kI).before a0 Z = true) (al : Z.vm.Alike U.vm) {x : Addr} {v0 c0 : Value} (E : RoadKit.Exa Z U.heap x ST) (V : RoadKit.Fld Z U.heap x ST "value" "[B" v0) (C : RoadKit.Fld Z U.heap x ST "coder" "B" c0) :
    ∃ (D : Cell) (fV fC : Field), Blank ST x D U ∧ Found ST "value" "[B" fV U ∧ Found ST "coder" "B" fC U ∧ D.slots[fV.slot]? = some v0 ∧ D.slots[fC.slot]? = some c0 ∧ RoadKit.slotOf Z ST "value" "[B" = fV.slot ∧ RoadKit.slotOf Z ST "coder" "B" = fC.slot := by
  obtain ⟨D, cfV, kV, iV, fV, hD, gV, stV, knV, obV, asV, slV⟩ := V
  obtain ⟨D', cfC, kC, iC, fC, hD', gC, stC, -, -, asC, slC⟩ := C
  cases hD.symm.trans hD'
  obtain ⟨D2, kD, e1, e2, e3, e4, e5⟩ := E
  cases hD.symm.trans e1
  obtain ⟨c2, k2, i1, i2, i3, -⟩ := Cond.instantiable_spec wi
  cases e2.symm.trans i1
  cases e3.symm.trans i2
  obtain ⟨kU, u1, u2⟩ := al.2.2 _ _ e3
  exact ⟨D, fV, fC, ⟨hD, ⟨knV, fun q hq => by rw [hq] at obV; cases obV⟩, by rw [al.findClass]; exact e2, kU, u1, by rw [u2]; exact i3, by rw [u2]; exact e5 i3⟩, ⟨SBG.found_only al ⟨cfV, kV, iV, gV⟩, stV⟩, ⟨SBG.found_only al ⟨cfC, kC, iC, gC⟩, stC⟩, slV, slC, by simp [RoadKit.slotOf, gV], by simp [RoadKit.slotOf, gC]⟩
theorem sta_is {Z U : State} (al : Z.vm.Alike U.vm) {C n d : String} {v : Value} (S : RoadKit.Sta Z U.heap C n d v) : StaticIs U C n d v := by
  obtain ⟨cfS, iS, kS, fS, st, cS, t1, t2, t3, t4, t5, t6, t7⟩ := S
  exact StaticIs.there (s := { Z with heap := U.heap }) ⟨cfS, iS, kS, fS, st, cS, t1, t2, t3, t4, t5, (fun q => by rw [q] at t6; cases t6), t7⟩ al rfl
/-- **length() OF SUCH A STRING** -/
theorem lenW {p : Program} {l : Launch} {e : Env} {R : Room} {s : State} {args : Array Value} {below : List Frame} {len W : Nat} {Z : State} {a0 : Array Value} {h : Heap} (hZ : Z.Warmed39 s.vm) (hw : ∀ d ∈ wordsLen, d.before a0 Z = true) {kI : Nat} (wi : (Jvm.Cond.instantiable ST kI).before a0 Z = true)
    {x t : Addr} {kb : ClassId} {cs : List Int32} {cd N2 z : Int32} {vs : List Value} (E : RoadKit.Exa Z h x ST) (V : RoadKit.Fld Z h x ST "value" "[B" (.ref t)) (C : RoadKit.Fld Z h x ST "coder" "B" (.int cd)) (K : RoadKit.Arv Z h t kb .byte N2 vs (.int 0)) (hc : CodA cs cd N2 vs) (hb : ∀ c ∈ cs, ¬ c < 0 ∧ ¬ (65535 : Int32) < c)
    (S : RoadKit.Sta Z h ST "COMPACT_STRINGS" "Z" (.int z)) (hz : ¬ z = 0) (l2 : cs.length ≤ 4000) (hfr : 2 ≤ R.frames) (hlo : W + 25 ≤ R.locals) :
    Back l R p e below s args (⟨"java/lang/String", "length", "()I"⟩ : MethodName) len W (fun P a => a = #[.ref x] ∧ P.U.heap = h ∧ P.cells + 0 ≤ R.cells ∧ P.slots + 0 ≤ R.slots)
      (fun P _ v B => ∃ L, (v = some (.int (Int32.ofNat cs.length)) ∧ L = [] ∧ B.U.heap = h) ∧ B.locs = P.locs ++ L ∧ B.cells = P.cells + 0 ∧ B.slots = P.slots + 0) := by
  obtain ⟨A, K1, K2, K3, K4, K5, K6⟩ := K
  have hcod := hc.cod (by omega) K3 K5
  intro m meth c P g ig mk a X hg hsize hdg hW hn hp'
  obtain ⟨rfl, rfl, r1, r2⟩ := hp'
  have al : Z.vm.Alike P.U.vm := hZ.alike.trans X.warmed.alike
  obtain ⟨D, fV, fC, hB, F1, F2, g1, g2, -, -⟩ := strObj wi al E V C
  have hx : Txt x t A cd cs.length (fun j => cs.getD j 0) P.U := ⟨⟨_, hB.2.2.1, D, hB.1, rfl, by cases q : D.vm <;> first | rfl | exact absurd q (hB.2.1.2 _)⟩, Has.of hB F1 g1, Has.of hB F2 g2, ⟨K1.1, State.isArrayOf_alike al K1.2.1, K1.2.2, by rcases hcod with ⟨-, q, -⟩ | ⟨-, q, -⟩ <;> omega⟩, hcod, fun j hj => by
    have e : cs.getD j 0 = cs[j] := by simp [List.getD_eq_getElem?_getD, hj]
    show ¬ cs.getD j 0 < 0 ∧ ¬ 65535 < cs.getD j 0
    rw [e]; exact hb _ (List.getElem_mem _)⟩
  obtain ⟨v, B, X', ⟨⟨hv, hh⟩, hl, hk, hs⟩, st⟩ := Len.pays x t A cd cs.length (fun j => cs.getD j 0) z (tabLen_of (movedLen hZ hw)) hfr hlo m meth c P g ig mk _ X hg hsize hdg hW hn ⟨r1, r2, rfl, hx, sta_is al S, hz⟩
  exact ⟨v, B, X', ⟨[], ⟨hv, rfl, hh⟩, hl, hk, hs⟩, st⟩
end StrChars.Road
namespace StrChars
open Jvm Sem ClassFile Op Lib Jvm.Stand Jvm.Free.XT Jvm.Free.ALB Jvm.Free.JM Jvm.Free
open Jvm.Lib.Cold (StaticIs)
/-- what place i of a byte[]'s cell holds -/
def yv (A : Cell) (i : Nat) : Int32 := match A.slots[i]? with | some (.int x) => x | _ => 0
theorem yv_get {a : Addr} {A : Cell} {U : State} (h : XT.Arr .byte a A U) (ht : Typed .byte A) {i : Nat} (hi : i < A.slots.size) : A.slots[i]? = some (.int (yv A i)) := by
  have e := Array.getElem?_eq_getElem hi
  have f := ht i _ e
  unfold yv; rw [e]
  generalize A.slots[i] = v at f
  cases v <;> simp [fits] at f ⊢
/-- the two arrays are equal, place for place -/
def EqC (A B : Cell) : Prop := A.slots.size = B.slots.size ∧ ∀ i, i < A.slots.size → yv A i = yv B i
/-- a boolean that says whether p -/
def Says01 (q : Prop) (r : Option Value) (s u : State) : Prop := ∃ v : Int32, r = some (.int v) ∧ u.heap = s.heap ∧ ((v = 1 ∧ q) ∨ (v = 0 ∧ ¬ q))
theorem Says01.mv {q : Prop} : ∀ r (U U' V V' : State), U'.heap = U.heap → V.vm.Alike V'.vm → V'.heap = V.heap → Says01 q r U V → Says01 q r U' V' :=
  fun r U U' V V' h1 _ h2 ⟨v, a, b, c⟩ => ⟨v, a, by rw [h1, h2]; exact b, c⟩
namespace LEq
def yN : MethodName := ⟨"java/lang/StringLatin1", "equals", "([B[B)Z"⟩
abbrev yB : ByteArray := jdk_43_method_13_code
theorem d0 : decode yB 0 = .ok (.aload_n 0, 1) := by decide +kernel
theorem d1 : decode yB 1 = .ok (.arraylength, 1) := by decide +kernel
theorem d2 : decode yB 2 = .ok (.aload_n 1, 1) := by decide +kernel
theorem d3 : decode yB 3 = .ok (.arraylength, 1) := by decide +kernel
theorem d4 : decode yB 4 = .ok (.if_icmp (.ne) 30, 3) := by decide +kernel
theorem d7 : decode yB 7 = .ok (.iconst 0, 1) := by decide +kernel
theorem d8 : decode yB 8 = .ok (.istore_n 2, 1) := by decide +kernel
theorem d9 : decode yB 9 = .ok (.iload_n 2, 1) := by decide +kernel
theorem d10 : decode yB 10 = .ok (.aload_n 0, 1) := by decide +kernel
theorem d11 : decode yB 11 = .ok (.arraylength, 1) := by decide +kernel
theorem d12 : decode yB 12 = .ok (.if_icmp (.ge) 20, 3) := by decide +kernel
theorem d15 : decode yB 15 = .ok (.aload_n 0, 1) := by decide +kernel
theorem d16 : decode yB 16 = .ok (.iload_n 2, 1) := by decide +kernel
theorem d17 : decode yB 17 = .ok (.baload, 1) := by decide +kernel
theorem d18 : decode yB 18 = .ok (.aload_n 1, 1) := by decide +kernel
theorem d19 : decode yB 19 = .ok (.iload_n 2, 1) := by decide +kernel
theorem d20 : decode yB 20 = .ok (.baload, 1) := by decide +kernel
theorem d21 : decode yB 21 = .ok (.if_icmp (.eq) 5, 3) := by decide +kernel
theorem d24 : decode yB 24 = .ok (.iconst 0, 1) := by decide +kernel
theorem d25 : decode yB 25 = .ok (.ireturn, 1) := by decide +kernel
theorem d26 : decode yB 26 = .ok (.iinc 2 1, 3) := by decide +kernel
theorem d29 : decode yB 29 = .ok (.goto (-20), 3) := by decide +kernel
theorem d32 : decode yB 32 = .ok (.iconst 1, 1) := by decide +kernel
theorem d33 : decode yB 33 = .ok (.ireturn, 1) := by decide +kernel
theorem d34 : decode yB 34 = .ok (.iconst 0, 1) := by decide +kernel
theorem d35 : decode yB 35 = .ok (.ireturn, 1) := by decide +kernel
def site : List Cond := []
def tab : Cond := tabOf yN yB 3 (some .boolean) site
def P (a : Addr) (A : Cell) (b : Addr) (B : Cell) (args : Array Value) (s : State) : Prop := args = #[.ref a, .ref b] ∧ XT.Arr .byte a A s ∧ Typed .byte A ∧ XT.Arr .byte b B s ∧ Typed .byte B
/-- whether two byte[] are equal, place for place -/
theorem law (l : Launch) (a : Addr) (A : Cell) (b : Addr) (B : Cell) : Law l yN 2 2 0 0 yB 3 (some .boolean) site (P a A b B) (Says01 (EqC A B)) [] 0 0 := by
  refine Law.of_walk (plainFor_of_name (by decide +kernel)) (by decide +kernel) (by decide +kernel) (by decide) (fun _ _ h => by rw [h.1]; rfl) (fun _ U U' hal hh h => ⟨h.1, h.2.1.mv hal hh, h.2.2.1, h.2.2.2.1.mv hal hh, h.2.2.2.2⟩) (fun r U U' V V' h1 hal h2 h => Says01.mv r U U' V V' h1 hal h2 h) ?_
  intro p e s m args below meth c s₁ X0 hexec hbytes hml hret hlk hnm hown hh0 W hP
  obtain ⟨rfl, hA, tA, hB, tB⟩ := hP
  have a31 := hA.2.2.2
  have b31 := hB.2.2.2
  have hA0 := hA.mv X0.warmed.alike hh0
  have hB0 := hB.mv X0.warmed.alike hh0
  have c1 : Steps p.tables e below (s₁.setTop (entryFrame m #[.ref a, .ref b] 3)) (s₁.setTop (mkF m 0 #[.val (.ref a), .val (.ref b), .unset] [])) := entry rfl
  have c2 : Steps p.tables e below (s₁.setTop (entryFrame m #[.ref a, .ref b] 3)) (s₁.setTop (mkF m 4 #[.val (.ref a), .val (.ref b), .unset] [.int (Int32.ofNat B.slots.size), .int (Int32.ofNat A.slots.size)])) := c1.trans (by
    refine XS.aloadN X0.here hexec rfl (hb hbytes d0) rfl rfl ?_
    refine X0.alen hexec hA0 rfl rfl (hb hbytes d1) ?_
    refine XS.aloadN X0.here hexec rfl (hb hbytes d2) rfl rfl ?_
    refine X0.alen hexec hB0 rfl rfl (hb hbytes d3) ?_
    exact Steps.refl _)
  by_cases hs : A.slots.size = B.slots.size
  · have c3 : Steps p.tables e below (s₁.setTop (entryFrame m #[.ref a, .ref b] 3)) (s₁.setTop (mkF m 9 #[.val (.ref a), .val (.ref b), .val (.int 0)] [])) := c2.trans (by
      refine XS.icmpNo X0.here hexec rfl (hb hbytes d4) rfl (ii_ne_f (by rw [hs])) ?_
      refine iconstV X0.here hexec rfl 0 (hb hbytes d7) (by decide) ?_
      refine XS.istoreN X0.here hexec rfl (hb hbytes d8) rfl rfl ?_
      exact Steps.refl _)
    have loop : ∀ (r i : Nat), i + r = A.slots.size → (∀ j, j < i → yv A j = yv B j) → Steps p.tables e below (s₁.setTop (entryFrame m #[.ref a, .ref b] 3)) (s₁.setTop (mkF m 9 #[.val (.ref a), .val (.ref b), .val (.int (Int32.ofNat i))] [])) → ∃ (pc : Nat) (Ls : Array Slot) (v : Int32), (pc = 25 ∨ pc = 33) ∧ ((v = 1 ∧ EqC A B) ∨ (v = 0 ∧ ¬ EqC A B)) ∧ Steps p.tables e below (s₁.setTop (entryFrame m #[.ref a, .ref b] 3)) (s₁.setTop (mkF m pc Ls [.int v])) := by
      intro r
      induction r with
      | zero =>
        intro i hi he cl
        exact ⟨33, _, 1, Or.inr rfl, Or.inl ⟨rfl, hs, fun j hj => he j (by omega)⟩, cl.trans (by
          refine XS.iloadN X0.here hexec rfl (hb hbytes d9) rfl ?_
          refine XS.aloadN X0.here hexec rfl (hb hbytes d10) rfl rfl ?_
          refine X0.alen hexec hA0 rfl rfl (hb hbytes d11) ?_
          refine XS.icmpYes X0.here hexec rfl (pc0 := 12) rfl (hb hbytes d12) rfl (ii_ge_t (nlt32 (by omega) (by omega))) (by decide) rfl ?_
          refine iconstV X0.here hexec rfl 1 (hb hbytes d32) (by decide) ?_
          exact Steps.refl _)⟩
      | succ r ih =>
        intro i hi he cl
        have c4 : Steps p.tables e below (s₁.setTop (entryFrame m #[.ref a, .ref b] 3)) (s₁.setTop (mkF m 21 #[.val (.ref a), .val (.ref b), .val (.int (Int32.ofNat i))] [.int (yv B i), .int (yv A i)])) := cl.trans (by
          refine XS.iloadN X0.here hexec rfl (hb hbytes d9) rfl ?_
          refine XS.aloadN X0.here hexec rfl (hb hbytes d10) rfl rfl ?_
          refine X0.alen hexec hA0 rfl rfl (hb hbytes d11) ?_
          refine XS.icmpNo X0.here hexec rfl (hb hbytes d12) rfl (ii_ge_f (lt32 (by omega) (by omega))) ?_
          refine XS.aloadN X0.here hexec rfl (hb hbytes d15) rfl rfl ?_
          refine XS.iloadN X0.here hexec rfl (hb hbytes d16) rfl ?_
          refine X0.aget hexec hA0 rfl (yv_get hA tA (i := i) (by omega)) rfl rfl (hb hbytes d17) ?_
          refine XS.aloadN X0.here hexec rfl (hb hbytes d18) rfl rfl ?_
          refine XS.iloadN X0.here hexec rfl (hb hbytes d19) rfl ?_
          refine X0.aget hexec hB0 rfl (yv_get hB tB (i := i) (by omega)) rfl rfl (hb hbytes d20) ?_
          exact Steps.refl _)
        by_cases hv : yv A i = yv B i
        · have c5 : Steps p.tables e below (s₁.setTop (entryFrame m #[.ref a, .ref b] 3)) (s₁.setTop (mkF m 9 #[.val (.ref a), .val (.ref b), .val (.int (Int32.ofNat i + 1))] [])) := c4.trans (by
            refine XS.icmpYes X0.here hexec rfl (pc0 := 21) rfl (hb hbytes d21) rfl (ii_eq_t hv) (by decide) rfl ?_
            refine iincV X0.here hexec rfl 1 (hb hbytes d26) (by decide) rfl rfl ?_
            refine XS.goto X0.here hexec rfl (pc0 := 29) rfl (hb hbytes d29) (by decide) rfl ?_
            exact Steps.refl _)
          rw [succ32] at c5
          exact ih (i + 1) (by omega) (fun j hj => by
            by_cases e : j = i
            · rw [e]; exact hv
            · exact he j (by omega)) c5
        · exact ⟨25, _, 0, Or.inl rfl, Or.inr ⟨rfl, fun q => hv (q.2 i (by omega))⟩, c4.trans (by
            refine XS.icmpNo X0.here hexec rfl (hb hbytes d21) rfl (ii_eq_f hv) ?_
            refine iconstV X0.here hexec rfl 0 (hb hbytes d24) (by decide) ?_
            exact Steps.refl _)⟩
    obtain ⟨pc, Ls, v, hpc, hv, cz⟩ := loop A.slots.size 0 (by omega) (fun j hj => absurd hj (Nat.not_lt_zero j)) c3
    have nv : narrow .boolean (.int v) = .int v := by rcases hv with ⟨rfl, -⟩ | ⟨rfl, -⟩ <;> rfl
    rcases hpc with rfl | rfl
    · exact ⟨s₁, some (.int v), _, _, _, X0, rfl, rfl, rfl, (fun h => by cases h), ⟨v, rfl, hh0, hv⟩, fun fs hl => cz.trans (X0.ireturnOut hexec hret nv (Or.inr (Or.inl rfl)) (hb hbytes d25) hl)⟩
    · exact ⟨s₁, some (.int v), _, _, _, X0, rfl, rfl, rfl, (fun h => by cases h), ⟨v, rfl, hh0, hv⟩, fun fs hl => cz.trans (X0.ireturnOut hexec hret nv (Or.inr (Or.inl rfl)) (hb hbytes d33) hl)⟩
  · have c3 : Steps p.tables e below (s₁.setTop (entryFrame m #[.ref a, .ref b] 3)) (s₁.setTop (mkF m 35 #[.val (.ref a), .val (.ref b), .unset] [.int 0])) := c2.trans (by
      refine XS.icmpYes X0.here hexec rfl (pc0 := 4) rfl (hb hbytes d4) rfl (ii_ne_t (ne32 a31 b31 hs)) (by decide) rfl ?_
      refine iconstV X0.here hexec rfl 0 (hb hbytes d34) (by decide) ?_
      exact Steps.refl _)
    exact ⟨s₁, some (.int 0), _, _, _, X0, rfl, rfl, rfl, (fun h => by cases h), ⟨0, rfl, hh0, Or.inr ⟨rfl, fun q => hs q.1⟩⟩, fun fs hl => c3.trans (X0.ireturnOut hexec hret rfl (Or.inr (Or.inl rfl)) (hb hbytes d35) hl)⟩
end LEq
theorem Cod.ty {cd : Int32} {n : Nat} {f : Nat → Int32} {V : Cell} (h : Cod cd n f V) : Typed .byte V := fun i v hv => by
  have hi : i < V.slots.size := (Array.getElem?_eq_some_iff.mp hv).1
  rcases h with ⟨-, k1, k2⟩ | ⟨-, k1, k2, -⟩
  · rw [(k2 i (by omega)).1] at hv; cases hv; exact fits_lo8 _
  · rcases Nat.mod_two_eq_zero_or_one i with e | e
    · obtain ⟨j, rfl⟩ : ∃ j, i = 2 * j := ⟨i / 2, by omega⟩
      rw [(k2 j (by omega)).1] at hv; cases hv; exact fits_lo8 _
    · obtain ⟨j, rfl⟩ : ∃ j, i = 2 * j + 1 := ⟨i / 2, by omega⟩
      rw [(k2 j (by omega)).2] at hv; cases hv; exact fits_lo8 _
/-- the same text -/
def SameT (n : Nat) (f : Nat → Int32) (k : Nat) (g : Nat → Int32) : Prop := n = k ∧ ∀ j, j < n → f j = g j
theorem lo8_inj {x y : Int32} (h0 : ¬ x < 0) (h1 : ¬ 255 < x) (k0 : ¬ y < 0) (k1 : ¬ 255 < y) (h : lo8 x = lo8 y) : x = y := by
  rw [← lo8_mask h0 h1, ← lo8_mask k0 k1, h]
/-- arrays coded by one coder are equal just where the texts are -/
theorem Cod.eqv {cd : Int32} {n k : Nat} {f g : Nat → Int32} {V V' : Cell} (h : Cod cd n f V) (h' : Cod cd k g V') (hf : ∀ j, j < n → ¬ f j < 0 ∧ ¬ 65535 < f j) (hg : ∀ j, j < k → ¬ g j < 0 ∧ ¬ 65535 < g j) : EqC V V' ↔ SameT n f k g := by
  have yvv : ∀ {W : Cell} {i : Nat} {x : Int32}, W.slots[i]? = some (.int x) → yv W i = x := fun q => by unfold yv; rw [q]
  rcases h with ⟨rfl, k1, k2⟩ | ⟨rfl, k1, k2, -⟩
  · rcases h' with ⟨-, m1, m2⟩ | ⟨e, -⟩
    · constructor
      · rintro ⟨e1, e2⟩
        refine ⟨by omega, fun j hj => ?_⟩
        have q := e2 j (by omega)
        rw [yvv (k2 j hj).1, yvv (m2 j (by omega)).1] at q
        exact lo8_inj (hf j hj).1 (k2 j hj).2 (hg j (by omega)).1 (m2 j (by omega)).2 q
      · rintro ⟨rfl, e2⟩
        refine ⟨by omega, fun j hj => ?_⟩
        rw [yvv (k2 j (by omega)).1, yvv (m2 j (by omega)).1, e2 j (by omega)]
    · exact absurd e (by decide)
  · rcases h' with ⟨e, -⟩ | ⟨-, m1, m2, -⟩
    · exact absurd e (by decide)
    · constructor
      · rintro ⟨e1, e2⟩
        refine ⟨by omega, fun j hj => ?_⟩
        have q1 := e2 (2 * j) (by omega)
        have q2 := e2 (2 * j + 1) (by omega)
        rw [yvv (k2 j hj).1, yvv (m2 j (by omega)).1] at q1
        rw [yvv (k2 j hj).2, yvv (m2 j (by omega)).2] at q2
        rw [← pair_says (hf j hj).1 (hf j hj).2, ← pair_says (hg j (by omega)).1 (hg j (by omega)).2, q1, q2]
      · rintro ⟨rfl, e2⟩
        refine ⟨by omega, fun i hi => ?_⟩
        rcases Nat.mod_two_eq_zero_or_one i with e | e
        · obtain ⟨j, rfl⟩ : ∃ j, i = 2 * j := ⟨i / 2, by omega⟩
          rw [yvv (k2 j (by omega)).1, yvv (m2 j (by omega)).1, e2 j (by omega)]
        · obtain ⟨j, rfl⟩ : ∃ j, i = 2 * j + 1 := ⟨i / 2, by omega⟩
          rw [yvv (k2 j (by omega)).2, yvv (m2 j (by omega)).2, e2 j (by omega)]
/-- two codings differ: so do the texts -/
theorem Cod.dif {cd cd' : Int32} {n k : Nat} {f g : Nat → Int32} {V V' : Cell} (h : Cod cd n f V) (h' : Cod cd' k g V') (hne : ¬ cd = cd') : ¬ SameT n f k g := by
  rintro ⟨rfl, e⟩
  rcases h with ⟨rfl, -, k2⟩ | ⟨rfl, -, -, j, hj, hw⟩
  · rcases h' with ⟨rfl, -⟩ | ⟨-, -, -, j, hj, hw⟩
    · exact hne rfl
    · exact (k2 j hj).2 (by rw [e j hj]; exact hw)
  · rcases h' with ⟨-, -, m2⟩ | ⟨rfl, -⟩
    · exact (m2 j hj).2 (by rw [← e j hj]; exact hw)
    · exact hne rfl
/-- an object of exactly C is an instance of C -/
theorem cinst {p : Program} {l : Launch} {e : Env} {R : Room} {s : State} {m : MethodId} {args : Array Value} {below : List Frame} {meth : Method} {c : Code} {T : State} {locs : List Loc} {cells slots : Nat} (X : Stand p l e R s m args below meth c T locs cells slots) (hexec : p.tables.exec = Jvm.exec) {own C : String} {index : Nat} (hown : s.vm.findClass own = some m.cls) (hlink : (Cond.classLink own index C).before args s = true) {a : Addr} (hE : Exact C a T)
    {g : JFrame} (hg : g.method = m) {rest : List Value} (hstack : g.stack = .ref a :: rest) (hdg : decode c.code g.pc = .ok (.instanceof index, 3)) :
    ∃ T', Stand p l e R s m args below meth c T' locs cells slots ∧ T'.heap = T.heap ∧ ∀ target, Steps p.tables e below (T'.setTop { g with pc := g.pc + 3, stack := .int 1 :: rest }) target → Steps p.tables e below (T.setTop g) target := by
  obtain ⟨cB, h1, D, h2, h3, h4⟩ := hE
  have h1' : s.vm.findClass C = some cB := by rw [← X.warmed.alike.findClass]; exact h1
  obtain ⟨vm', X', st⟩ := X.instanceofYes hexec hown hlink h2 h4 h1' (by rw [h3]; exact Jvm.Free.SB.assignable_self _ _) hg hstack hdg
  exact ⟨_, X', rfl, st⟩
theorem cself {p : Program} {l : Launch} {e : Env} {R : Room} {s : State} {m : MethodId} {args : Array Value} {below : List Frame} {meth : Method} {c : Code} {T : State} {locs : List Loc} {cells slots : Nat} (X : Stand p l e R s m args below meth c T locs cells slots) (hexec : p.tables.exec = Jvm.exec) {own C : String} {index : Nat} (hown : s.vm.findClass own = some m.cls) (hlink : (Cond.classLink own index C).before args s = true) {a : Addr} (hE : Exact C a T)
    {g : JFrame} (hg : g.method = m) {rest : List Value} (hstack : g.stack = .ref a :: rest) (hdg : decode c.code g.pc = .ok (.checkcast index, 3)) :
    ∃ T', Stand p l e R s m args below meth c T' locs cells slots ∧ T'.heap = T.heap ∧ ∀ target, Steps p.tables e below (T'.setTop { g with pc := g.pc + 3, stack := .ref a :: rest }) target → Steps p.tables e below (T.setTop g) target := by
  obtain ⟨cB, h1, D, h2, h3, h4⟩ := hE
  have h1' : s.vm.findClass C = some cB := by rw [← X.warmed.alike.findClass]; exact h1
  obtain ⟨vm', X', st⟩ := X.checkcastYes hexec hown hlink h2 h4 h1' (by rw [h3]; exact Jvm.Free.SB.assignable_self _ _) hg hstack hdg
  exact ⟨_, X', rfl, fun t h => st t (by rw [← hstack] at h; exact h)⟩
namespace SEq
def yN : MethodName := ⟨"java/lang/String", "equals", "(Ljava/lang/Object;)Z"⟩
abbrev yB : ByteArray := jdk_42_method_66_code
theorem d0 : decode yB 0 = .ok (.aload_n 0, 1) := by decide +kernel
theorem d1 : decode yB 1 = .ok (.aload_n 1, 1) := by decide +kernel
theorem d2 : decode yB 2 = .ok (.if_acmp (.ne) 5, 3) := by decide +kernel
theorem d5 : decode yB 5 = .ok (.iconst 1, 1) := by decide +kernel
theorem d6 : decode yB 6 = .ok (.ireturn, 1) := by decide +kernel
theorem d7 : decode yB 7 = .ok (.aload_n 1, 1) := by decide +kernel
theorem d8 : decode yB 8 = .ok (.instanceof 10, 3) := by decide +kernel
theorem d11 : decode yB 11 = .ok (.ifCond (.eq) 43, 3) := by decide +kernel
theorem d14 : decode yB 14 = .ok (.aload_n 1, 1) := by decide +kernel
theorem d15 : decode yB 15 = .ok (.checkcast 10, 3) := by decide +kernel
theorem d18 : decode yB 18 = .ok (.astore_n 2, 1) := by decide +kernel
theorem d19 : decode yB 19 = .ok (.getstatic 38, 3) := by decide +kernel
theorem d22 : decode yB 22 = .ok (.ifCond (.eq) 14, 3) := by decide +kernel
theorem d25 : decode yB 25 = .ok (.aload_n 0, 1) := by decide +kernel
theorem d26 : decode yB 26 = .ok (.getfield 15, 3) := by decide +kernel
theorem d29 : decode yB 29 = .ok (.aload_n 2, 1) := by decide +kernel
theorem d30 : decode yB 30 = .ok (.getfield 15, 3) := by decide +kernel
theorem d33 : decode yB 33 = .ok (.if_icmp (.ne) 21, 3) := by decide +kernel
theorem d36 : decode yB 36 = .ok (.aload_n 0, 1) := by decide +kernel
theorem d37 : decode yB 37 = .ok (.getfield 9, 3) := by decide +kernel
theorem d40 : decode yB 40 = .ok (.aload_n 2, 1) := by decide +kernel
theorem d41 : decode yB 41 = .ok (.getfield 9, 3) := by decide +kernel
theorem d44 : decode yB 44 = .ok (.invokestatic 541, 3) := by decide +kernel
theorem d47 : decode yB 47 = .ok (.ifCond (.eq) 7, 3) := by decide +kernel
theorem d50 : decode yB 50 = .ok (.iconst 1, 1) := by decide +kernel
theorem d51 : decode yB 51 = .ok (.goto 4, 3) := by decide +kernel
theorem d54 : decode yB 54 = .ok (.iconst 0, 1) := by decide +kernel
theorem d55 : decode yB 55 = .ok (.ireturn, 1) := by decide +kernel
def site : List Cond := [.classLink "java/lang/String" 10 "java/lang/String", .fieldLink "java/lang/String" 38 "java/lang/String" "COMPACT_STRINGS" "Z", .fieldLink "java/lang/String" 15 "java/lang/String" "coder" "B", .fieldLink "java/lang/String" 9 "java/lang/String" "value" "[B", LEq.tab] ++ staticW "java/lang/String" 541 LEq.yN
def tab : Cond := tabOf yN yB 3 (some .boolean) site
def P (x t : Addr) (V : Cell) (cd : Int32) (n : Nat) (f : Nat → Int32) (y t' : Addr) (V' : Cell) (cd' : Int32) (k : Nat) (g : Nat → Int32) (z : Int32) (args : Array Value) (s : State) : Prop := args = #[.ref x, .ref y] ∧ Txt x t V cd n f s ∧ Txt y t' V' cd' k g s ∧ StaticIs s "java/lang/String" "COMPACT_STRINGS" "Z" (.int z) ∧ ¬ z = 0
/-- equals(Object) of two Strings: whether the texts are the same -/
theorem law (l : Launch) (x t : Addr) (V : Cell) (cd : Int32) (n : Nat) (f : Nat → Int32) (y t' : Addr) (V' : Cell) (cd' : Int32) (k : Nat) (g : Nat → Int32) (z : Int32) : Law l yN 2 1 1 14 yB 3 (some .boolean) site (P x t V cd n f y t' V' cd' k g z) (Says01 (SameT n f k g)) [] 0 0 := by
  refine Law.of_walk (plainFor_of_name (by decide +kernel)) (by decide +kernel) (by decide +kernel) (by decide) (fun _ _ h => by rw [h.1]; rfl) (fun _ U U' hal hh h => ⟨h.1, h.2.1.mv hal hh, h.2.2.1.mv hal hh, h.2.2.2.1.there hal hh, h.2.2.2.2⟩) (fun r U U' V V' h1 hal h2 h => Says01.mv r U U' V V' h1 hal h2 h) ?_
  intro p e s m args below meth c s₁ X0 hexec hbytes hml hret hlk hnm hown hh0 W hP
  obtain ⟨rfl, hx, hy, s1, hz⟩ := hP
  have c1 : Steps p.tables e below (s₁.setTop (entryFrame m #[.ref x, .ref y] 3)) (s₁.setTop (mkF m 2 #[.val (.ref x), .val (.ref y), .unset] [.ref y, .ref x])) := Steps.trans (entry rfl) (by
    show Steps p.tables e below (s₁.setTop (mkF m 0 #[.val (.ref x), .val (.ref y), .unset] [])) _
    refine XS.aloadN X0.here hexec rfl (hb hbytes d0) rfl rfl ?_
    refine XS.aloadN X0.here hexec rfl (hb hbytes d1) rfl rfl ?_
    exact Steps.refl _)
  by_cases hxy : x = y
  · have c2 : Steps p.tables e below (s₁.setTop (entryFrame m #[.ref x, .ref y] 3)) (s₁.setTop (mkF m 6 #[.val (.ref x), .val (.ref y), .unset] [.int 1])) := c1.trans (by
      refine acmpNo X0.here hexec rfl (hb hbytes d2) rfl rfl rfl (by simp [acmp, hxy]) ?_
      refine iconstV X0.here hexec rfl 1 (hb hbytes d5) (by decide) ?_
      exact Steps.refl _)
    subst hxy
    have ec : cd = cd' := by
      obtain ⟨D, fd, a1, a2, a3⟩ := hx.2.2.1
      obtain ⟨D', fd', b1, b2, b3⟩ := hy.2.2.1
      cases a1.symm.trans b1
      obtain ⟨q1, q2, q3, q4⟩ := a2.1
      obtain ⟨r1, r2, r3, r4⟩ := b2.1
      cases q4.symm.trans r4
      cases a3.symm.trans b3; rfl
    have et : t = t' := by
      obtain ⟨D, fd, a1, a2, a3⟩ := hx.2.1
      obtain ⟨D', fd', b1, b2, b3⟩ := hy.2.1
      cases a1.symm.trans b1
      obtain ⟨q1, q2, q3, q4⟩ := a2.1
      obtain ⟨r1, r2, r3, r4⟩ := b2.1
      cases q4.symm.trans r4
      cases a3.symm.trans b3; rfl
    subst ec et
    have ev : V = V' := by cases hx.2.2.2.1.1.symm.trans hy.2.2.2.1.1; rfl
    subst ev
    have hs : SameT n f k g := (Cod.eqv hx.2.2.2.2.1 hy.2.2.2.2.1 hx.2.2.2.2.2 hy.2.2.2.2.2).mp ⟨rfl, fun _ _ => rfl⟩
    exact ⟨s₁, some (.int 1), _, _, _, X0, rfl, rfl, rfl, (fun h => by cases h), ⟨1, rfl, hh0, Or.inl ⟨rfl, hs⟩⟩, fun fs hl => c2.trans (X0.ireturnOut hexec hret rfl (Or.inr (Or.inl rfl)) (hb hbytes d6) hl)⟩
  · have c2 : Steps p.tables e below (s₁.setTop (entryFrame m #[.ref x, .ref y] 3)) (s₁.setTop (mkF m 8 #[.val (.ref x), .val (.ref y), .unset] [.ref y])) := c1.trans (by
      refine acmpYes X0.here hexec rfl (pc0 := 2) rfl (hb hbytes d2) rfl rfl rfl (by simp [acmp, hxy]) (by decide) rfl ?_
      refine XS.aloadN X0.here hexec rfl (hb hbytes d7) rfl rfl ?_
      exact Steps.refl _)
    obtain ⟨T3, X3, q3, st3⟩ := cinst X0 hexec hown (wk W (.classLink "java/lang/String" 10 "java/lang/String")) (hy.mv X0.warmed.alike hh0).1 (g := (mkF m 8 #[.val (.ref x), .val (.ref y), .unset] [.ref y])) rfl (rest := []) rfl (hb hbytes d8)
    have hh3 := q3.trans hh0
    have c4 : Steps p.tables e below (s₁.setTop (entryFrame m #[.ref x, .ref y] 3)) (T3.setTop (mkF m 15 #[.val (.ref x), .val (.ref y), .unset] [.ref y])) := (c2.trans (st3 _ (Steps.refl _))).trans (by
      refine XS.ifNo X3.here hexec rfl (hb hbytes d11) rfl (i0_eq_f (by decide)) ?_
      refine XS.aloadN X3.here hexec rfl (hb hbytes d14) rfl rfl ?_
      exact Steps.refl _)
    obtain ⟨T5, X5, q5, st5⟩ := cself X3 hexec hown (wk W (.classLink "java/lang/String" 10 "java/lang/String")) (hy.mv X3.warmed.alike hh3).1 (g := (mkF m 15 #[.val (.ref x), .val (.ref y), .unset] [.ref y])) rfl (rest := []) rfl (hb hbytes d15)
    have hh5 := q5.trans hh3
    have c6 : Steps p.tables e below (s₁.setTop (entryFrame m #[.ref x, .ref y] 3)) (T5.setTop (mkF m 19 #[.val (.ref x), .val (.ref y), .val (.ref y)] [])) := (c4.trans (st5 _ (Steps.refl _))).trans (by
      refine XS.astoreN X5.here hexec rfl (hb hbytes d18) rfl rfl rfl ?_
      exact Steps.refl _)
    obtain ⟨T7, X7, q7, st7⟩ := X5.sget hexec hown (wk W (.fieldLink "java/lang/String" 38 "java/lang/String" "COMPACT_STRINGS" "Z")) s1 (fun _ _ h => by rw [hh5]; exact h) (g := (mkF m 19 #[.val (.ref x), .val (.ref y), .val (.ref y)] [])) rfl (hb hbytes d19)
    have hh7 := q7.trans hh5
    have c8 : Steps p.tables e below (s₁.setTop (entryFrame m #[.ref x, .ref y] 3)) (T7.setTop (mkF m 26 #[.val (.ref x), .val (.ref y), .val (.ref y)] [.ref x])) := (c6.trans (st7 _ (Steps.refl _))).trans (by
      refine XS.ifNo X7.here hexec rfl (hb hbytes d22) rfl (i0_eq_f hz) ?_
      refine XS.aloadN X7.here hexec rfl (hb hbytes d25) rfl rfl ?_
      exact Steps.refl _)
    obtain ⟨T9, X9, q9, st9⟩ := X7.hget hexec hown (wk W (.fieldLink "java/lang/String" 15 "java/lang/String" "coder" "B")) (hx.mv X7.warmed.alike hh7).2.2.1 (g := (mkF m 26 #[.val (.ref x), .val (.ref y), .val (.ref y)] [.ref x])) rfl (rest := []) rfl (hb hbytes d26)
    have hh9 := q9.trans hh7
    have c10 : Steps p.tables e below (s₁.setTop (entryFrame m #[.ref x, .ref y] 3)) (T9.setTop (mkF m 30 #[.val (.ref x), .val (.ref y), .val (.ref y)] [.ref y, .int cd])) := (c8.trans (st9 _ (Steps.refl _))).trans (by
      refine XS.aloadN X9.here hexec rfl (hb hbytes d29) rfl rfl ?_
      exact Steps.refl _)
    obtain ⟨T11, X11, q11, st11⟩ := X9.hget hexec hown (wk W (.fieldLink "java/lang/String" 15 "java/lang/String" "coder" "B")) (hy.mv X9.warmed.alike hh9).2.2.1 (g := (mkF m 30 #[.val (.ref x), .val (.ref y), .val (.ref y)] [.ref y, .int cd])) rfl (rest := [.int cd]) rfl (hb hbytes d30)
    have hh11 := q11.trans hh9
    have c12 : Steps p.tables e below (s₁.setTop (entryFrame m #[.ref x, .ref y] 3)) (T11.setTop (mkF m 33 #[.val (.ref x), .val (.ref y), .val (.ref y)] [.int cd', .int cd])) := c10.trans (st11 _ (Steps.refl _))
    by_cases hcd : cd = cd'
    · subst hcd
      have c13 : Steps p.tables e below (s₁.setTop (entryFrame m #[.ref x, .ref y] 3)) (T11.setTop (mkF m 37 #[.val (.ref x), .val (.ref y), .val (.ref y)] [.ref x])) := c12.trans (by
        refine XS.icmpNo X11.here hexec rfl (hb hbytes d33) rfl (ii_ne_f rfl) ?_
        refine XS.aloadN X11.here hexec rfl (hb hbytes d36) rfl rfl ?_
        exact Steps.refl _)
      obtain ⟨T14, X14, q14, st14⟩ := X11.hget hexec hown (wk W (.fieldLink "java/lang/String" 9 "java/lang/String" "value" "[B")) (hx.mv X11.warmed.alike hh11).2.1 (g := (mkF m 37 #[.val (.ref x), .val (.ref y), .val (.ref y)] [.ref x])) rfl (rest := []) rfl (hb hbytes d37)
      have hh14 := q14.trans hh11
      have c15 : Steps p.tables e below (s₁.setTop (entryFrame m #[.ref x, .ref y] 3)) (T14.setTop (mkF m 41 #[.val (.ref x), .val (.ref y), .val (.ref y)] [.ref y, .ref t])) := (c13.trans (st14 _ (Steps.refl _))).trans (by
        refine XS.aloadN X14.here hexec rfl (hb hbytes d40) rfl rfl ?_
        exact Steps.refl _)
      obtain ⟨T16, X16, q16, st16⟩ := X14.hget hexec hown (wk W (.fieldLink "java/lang/String" 9 "java/lang/String" "value" "[B")) (hy.mv X14.warmed.alike hh14).2.1 (g := (mkF m 41 #[.val (.ref x), .val (.ref y), .val (.ref y)] [.ref y, .ref t])) rfl (rest := [.ref t]) rfl (hb hbytes d41)
      have hh16 := q16.trans hh14
      have c17 : Steps p.tables e below (s₁.setTop (entryFrame m #[.ref x, .ref y] 3)) (T16.setTop (mkF m 44 #[.val (.ref x), .val (.ref y), .val (.ref y)] [.ref t', .ref t])) := c15.trans (st16 _ (Steps.refl _))
      obtain ⟨v18, T18, X18, E18, g18⟩ := X16.callS hexec (LEq.law l t V t' V') hown (wks W (staticW "java/lang/String" 541 LEq.yN)) (wk W LEq.tab) (W := 0) (Nat.le_of_ble_eq_true rfl) (Nat.le_of_ble_eq_true rfl) (Nat.le_refl _) (Nat.le_refl _) (g := (mkF m 44 #[.val (.ref x), .val (.ref y), .val (.ref y)] [.ref t', .ref t])) rfl (by rw [hml]; rfl) c17 (argsL := [.ref t, .ref t']) (rest := []) rfl rfl (by show 2 * 0 + 0 ≤ _; decide) (hb hbytes d44) (⟨rfl, hx.2.2.2.1.mv X16.warmed.alike hh16, hx.2.2.2.2.1.ty, hy.2.2.2.1.mv X16.warmed.alike hh16, hy.2.2.2.2.1.ty⟩)
      obtain ⟨v, rfl, q18, hv⟩ := E18
      have iff := Cod.eqv hx.2.2.2.2.1 hy.2.2.2.2.1 hx.2.2.2.2.2 hy.2.2.2.2.2
      rcases hv with ⟨rfl, he⟩ | ⟨rfl, he⟩
      · have c19 : Steps p.tables e below (s₁.setTop (entryFrame m #[.ref x, .ref y] 3)) (T18.setTop (mkF m 55 #[.val (.ref x), .val (.ref y), .val (.ref y)] [.int 1])) := Steps.trans g18 (by
          refine XS.ifNo X18.here hexec rfl (hb hbytes d47) rfl (i0_eq_f (by decide)) ?_
          refine iconstV X18.here hexec rfl 1 (hb hbytes d50) (by decide) ?_
          refine XS.goto X18.here hexec rfl (pc0 := 51) rfl (hb hbytes d51) (by decide) rfl ?_
          exact Steps.refl _)
        exact ⟨T18, some (.int 1), _, _, _, X18, rfl, rfl, rfl, (fun h => by cases h), ⟨1, rfl, q18.trans hh16, Or.inl ⟨rfl, iff.mp he⟩⟩, fun fs hl => c19.trans (X18.ireturnOut hexec hret rfl (Or.inr (Or.inl rfl)) (hb hbytes d55) hl)⟩
      · have c19 : Steps p.tables e below (s₁.setTop (entryFrame m #[.ref x, .ref y] 3)) (T18.setTop (mkF m 55 #[.val (.ref x), .val (.ref y), .val (.ref y)] [.int 0])) := Steps.trans g18 (by
          refine XS.ifYes X18.here hexec rfl (pc0 := 47) rfl (hb hbytes d47) rfl (i0_eq_t rfl) (by decide) rfl ?_
          refine iconstV X18.here hexec rfl 0 (hb hbytes d54) (by decide) ?_
          exact Steps.refl _)
        exact ⟨T18, some (.int 0), _, _, _, X18, rfl, rfl, rfl, (fun h => by cases h), ⟨0, rfl, q18.trans hh16, Or.inr ⟨rfl, fun q => he (iff.mpr q)⟩⟩, fun fs hl => c19.trans (X18.ireturnOut hexec hret rfl (Or.inr (Or.inl rfl)) (hb hbytes d55) hl)⟩
    · have c13 : Steps p.tables e below (s₁.setTop (entryFrame m #[.ref x, .ref y] 3)) (T11.setTop (mkF m 55 #[.val (.ref x), .val (.ref y), .val (.ref y)] [.int 0])) := c12.trans (by
        refine XS.icmpYes X11.here hexec rfl (pc0 := 33) rfl (hb hbytes d33) rfl (ii_ne_t hcd) (by decide) rfl ?_
        refine iconstV X11.here hexec rfl 0 (hb hbytes d54) (by decide) ?_
        exact Steps.refl _)
      exact ⟨T11, some (.int 0), _, _, _, X11, rfl, rfl, rfl, (fun h => by cases h), ⟨0, rfl, hh11, Or.inr ⟨rfl, Cod.dif hx.2.2.2.2.1 hy.2.2.2.2.1 hcd⟩⟩, fun fs hl => c13.trans (X11.ireturnOut hexec hret rfl (Or.inr (Or.inl rfl)) (hb hbytes d55) hl)⟩
theorem pays {l : Launch} {R : Room} {p : Program} {e : Env} {below : List Frame} {s : State} {sargs : Array Value} {len W : Nat} (x t : Addr) (V : Cell) (cd : Int32) (n : Nat) (f : Nat → Int32) (y t' : Addr) (V' : Cell) (cd' : Int32) (k : Nat) (g : Nat → Int32) (z : Int32) (htab : tab.before sargs s = true) (hfr : 2 ≤ R.frames) (hlo : W + 28 ≤ R.locals) :
    Back l R p e below s sargs yN len W (fun A₁ a₁ => A₁.cells + 0 ≤ R.cells ∧ A₁.slots + 0 ≤ R.slots ∧ P x t V cd n f y t' V' cd' k g z a₁ A₁.U) (fun A₁ _ v₁ B₁ => Says01 (SameT n f k g) v₁ A₁.U B₁.U ∧ B₁.locs = A₁.locs ++ [] ∧ B₁.cells = A₁.cells + 0 ∧ B₁.slots = A₁.slots + 0) :=
  (law l x t V cd n f y t' V' cd' k g z).pays htab hfr (by omega)
end SEq
end StrChars
namespace StrChars.Road
open Jvm Sem ClassFile Op Lib Jvm.Stand Jvm.Free Jvm.Free.XT
open Jvm.Lib.Cold (StaticIs)
/-- the words of String.equals(Object) -/
abbrev wordsEq : List Jvm.Cond := [.code SEq.yN SEq.yB 3 (some .boolean), .initialized ST, .classLink ST 10 ST, .fieldLink ST 38 ST "COMPACT_STRINGS" "Z", .fieldLink ST 15 ST "coder" "B", .fieldLink ST 9 ST "value" "[B", .methodLink ST 541 LEq.yN, .static LEq.yN, .code LEq.yN LEq.yB 3 (some .boolean), .initialized "java/lang/StringLatin1"]
theorem tabEq_of {a : Array Value} {s : State} (h : ∀ w ∈ wordsEq, w.before a s = true) : SEq.tab.before a s = true := by
  have hl : LEq.tab.before a s = true := unparts (wk h (.code LEq.yN LEq.yB 3 (some .boolean))) (wks h (.initialized LEq.yN.cls :: LEq.site))
  have q := consq hl h
  exact unparts (wk q (.code SEq.yN SEq.yB 3 (some .boolean))) (wks q (.initialized SEq.yN.cls :: SEq.site))
theorem movedEq {Z s : State} {a0 args : Array Value} (hZ : Z.Warmed39 s.vm) (hw : ∀ d ∈ wordsEq, d.before a0 Z = true) : ∀ d ∈ wordsEq, d.before args s = true := fun d hd => by
  have t : ∀ d ∈ wordsEq, (d.onTables && d.keepsFace) = true := by decide +kernel
  exact RoadKit.mv hZ (hw d hd) (t d hd)
/-- the road's facts of a String, as the laws ask it -/
theorem txt_of {Z U : State} {a0 : Array Value} {kI : Nat} (wi : (Jvm.Cond.instantiable ST kI).before a0 Z = true) (al : Z.vm.Alike U.vm) {x t : Addr} {kb : ClassId} {cs : List Int32} {cd N2 : Int32} {vs : List Value} (E : RoadKit.Exa Z U.heap x ST) (V : RoadKit.Fld Z U.heap x ST "value" "[B" (.ref t)) (C : RoadKit.Fld Z U.heap x ST "coder" "B" (.int cd)) (K : RoadKit.Arv Z U.heap t kb .byte N2 vs (.int 0)) (hc : CodA cs cd N2 vs) (hb : ∀ c ∈ cs, ¬ c < 0 ∧ ¬ (65535 : Int32) < c) (l2 : cs.length ≤ 4000) :
    ∃ A, Txt x t A cd cs.length (fun j => cs.getD j 0) U := by
  obtain ⟨A, K1, K2, K3, K4, K5, K6⟩ := K
  have hcod := hc.cod (by omega) K3 K5
  obtain ⟨D, fV, fC, hB, F1, F2, g1, g2, -, -⟩ := strObj wi al E V C
  exact ⟨A, ⟨_, hB.2.2.1, D, hB.1, rfl, by cases q : D.vm <;> first | rfl | exact absurd q (hB.2.1.2 _)⟩, Has.of hB F1 g1, Has.of hB F2 g2, ⟨K1.1, State.isArrayOf_alike al K1.2.1, K1.2.2, by rcases hcod with ⟨-, q, -⟩ | ⟨-, q, -⟩ <;> omega⟩, hcod, fun j hj => by
    have e : cs.getD j 0 = cs[j] := by simp [List.getD_eq_getElem?_getD, hj]
    show ¬ cs.getD j 0 < 0 ∧ ¬ 65535 < cs.getD j 0
    rw [e]; exact hb _ (List.getElem_mem _)⟩
theorem same_list (cs ds : List Int32) : SameT cs.length (fun j => cs.getD j 0) ds.length (fun j => ds.getD j 0) ↔ cs = ds := by
  constructor
  · rintro ⟨e, q⟩
    refine List.ext_getElem e fun j h1 h2 => ?_
    have := q j h1
    simpa [List.getD_eq_getElem?_getD, h1, h2] using this
  · rintro rfl
    exact ⟨rfl, fun _ _ => rfl⟩
/-- **equals(Object) OF TWO SUCH STRINGS**: 1 just where the chars are the same -/
theorem eqW {p : Program} {l : Launch} {e : Env} {R : Room} {s : State} {args : Array Value} {below : List Frame} {len W : Nat} {Z : State} {a0 : Array Value} {h : Heap} (hZ : Z.Warmed39 s.vm) (hw : ∀ d ∈ wordsEq, d.before a0 Z = true) {kI : Nat} (wi : (Jvm.Cond.instantiable ST kI).before a0 Z = true)
    {x t : Addr} {kb : ClassId} {cs : List Int32} {cd N2 : Int32} {vs : List Value} (E : RoadKit.Exa Z h x ST) (V : RoadKit.Fld Z h x ST "value" "[B" (.ref t)) (C : RoadKit.Fld Z h x ST "coder" "B" (.int cd)) (K : RoadKit.Arv Z h t kb .byte N2 vs (.int 0)) (hc : CodA cs cd N2 vs) (hb : ∀ c ∈ cs, ¬ c < 0 ∧ ¬ (65535 : Int32) < c) (l2 : cs.length ≤ 4000)
    {y t' : Addr} {kb' : ClassId} {ds : List Int32} {cd' N2' : Int32} {vs' : List Value} (E' : RoadKit.Exa Z h y ST) (V' : RoadKit.Fld Z h y ST "value" "[B" (.ref t')) (C' : RoadKit.Fld Z h y ST "coder" "B" (.int cd')) (K' : RoadKit.Arv Z h t' kb' .byte N2' vs' (.int 0)) (hc' : CodA ds cd' N2' vs') (hb' : ∀ c ∈ ds, ¬ c < 0 ∧ ¬ (65535 : Int32) < c) (l2' : ds.length ≤ 4000)
    {z : Int32} (S : RoadKit.Sta Z h ST "COMPACT_STRINGS" "Z" (.int z)) (hz : ¬ z = 0) (hfr : 2 ≤ R.frames) (hlo : W + 28 ≤ R.locals) :
    Back l R p e below s args (⟨"java/lang/String", "equals", "(Ljava/lang/Object;)Z"⟩ : MethodName) len W (fun P a => a = #[.ref x, .ref y] ∧ P.U.heap = h ∧ P.cells + 0 ≤ R.cells ∧ P.slots + 0 ≤ R.slots)
      (fun P _ v B => ∃ L, (((v = some (.int 1) ∧ cs = ds) ∨ (v = some (.int 0) ∧ ¬ cs = ds)) ∧ L = [] ∧ B.U.heap = h) ∧ B.locs = P.locs ++ L ∧ B.cells = P.cells + 0 ∧ B.slots = P.slots + 0) := by
  intro m meth c P g ig mk a X hg hsize hdg hW hn hp'
  obtain ⟨rfl, rfl, r1, r2⟩ := hp'
  have al : Z.vm.Alike P.U.vm := hZ.alike.trans X.warmed.alike
  obtain ⟨A, hx⟩ := txt_of wi al E V C K hc hb l2
  obtain ⟨A', hy⟩ := txt_of wi al E' V' C' K' hc' hb' l2'
  obtain ⟨v, B, X', ⟨⟨w, hv, hh, hq⟩, hl, hk, hs⟩, st⟩ := SEq.pays x t A cd cs.length (fun j => cs.getD j 0) y t' A' cd' ds.length (fun j => ds.getD j 0) z (tabEq_of (movedEq hZ hw)) hfr hlo m meth c P g ig mk _ X hg hsize hdg hW hn ⟨r1, r2, rfl, hx, hy, sta_is al S, hz⟩
  refine ⟨v, B, X', ⟨[], ⟨?_, rfl, hh⟩, hl, hk, hs⟩, st⟩
  rcases hq with ⟨rfl, q⟩ | ⟨rfl, q⟩
  · exact Or.inl ⟨hv, (same_list cs ds).mp q⟩
  · exact Or.inr ⟨hv, fun e => q ((same_list cs ds).mpr e)⟩
end StrChars.Road
end Jvm.Pilot.@@N@@
namespace Jvm.Pilot.@@N@@
namespace Own
open Jvm Jvm.ClassFile Sem Op Lib Jvm.Free Jvm.Stand Jvm.LawKit Jvm.RoadKit
/-- what stays through a whole case: the launch, the start, its arguments, the assumed constants, the start heap's size -/
def Gl : Type := Launch × State × Array Value × List (String × Nat) × Nat
def Gl.l (G : Gl) : Launch := G.1
def Gl.Z (G : Gl) : State := G.2.1
def Gl.a0 (G : Gl) : Array Value := G.2.2.1
def Gl.EL (G : Gl) : List (String × Nat) := G.2.2.2.1
def Gl.n0 (G : Gl) : Nat := G.2.2.2.2
/-- one run of one body -/
def Rn : Type := Program × Env × State × MethodId × Array Value × List Frame × Method × Code
def Rn.p (X : Rn) : Program := X.1
def Rn.e (X : Rn) : Env := X.2.1
def Rn.s (X : Rn) : State := X.2.2.1
def Rn.m (X : Rn) : MethodId := X.2.2.2.1
def Rn.args (X : Rn) : Array Value := X.2.2.2.2.1
def Rn.below (X : Rn) : List Frame := X.2.2.2.2.2.1
def Rn.meth (X : Rn) : Method := X.2.2.2.2.2.2.1
def Rn.c (X : Rn) : Code := X.2.2.2.2.2.2.2
/-- one body: its name, bytes, locals, what it returns, its room -/
def Bo : Type := MethodName × ByteArray × Nat × Option FieldType × Room
abbrev Bo.y (M : Bo) : MethodName := M.1
abbrev Bo.bytes (M : Bo) : ByteArray := M.2.1
abbrev Bo.maxL (M : Bo) : Nat := M.2.2.1
abbrev Bo.ret (M : Bo) : Option FieldType := M.2.2.2.1
abbrev Bo.R (M : Bo) : Room := M.2.2.2.2
/-- what is known of a run's body throughout -/
def Fixd (G : Gl) (X : Rn) (M : Bo) : Prop := X.p.tables.exec = Jvm.exec ∧ X.c.code = M.bytes ∧ X.c.maxLocals = M.maxL ∧ X.meth.sig.returnType = M.ret ∧ X.meth.locks = false ∧ X.meth.name = M.y.name ∧ EW G.Z G.a0 G.EL
/-- WHERE A WALK STANDS: the tables of its base vm, the state T, its heap h, at most C new cells of S slots -/
def Here (G : Gl) (X : Rn) (M : Bo) (vm : Vm) (T : State) (h : Heap) (C S : Nat) : Prop :=
  Fixd G X M ∧ ∃ (k0 : Nat) (locs : List Loc) (cells slots : Nat), Stand X.p G.l X.e M.R (X.s.setVm vm) X.m X.args X.below X.meth X.c T locs cells slots ∧ T.heap = h ∧ X.s.Since vm k0 ∧ k0 ≤ h.size ∧ G.Z.Warmed39 vm ∧ vm.findClass M.y.cls = some X.m.cls ∧
    CHr G.Z G.EL X.s.vm X.s.heap vm h ∧ Fr G.n0 locs ∧ Old G.Z G.n0 h ∧ cells ≤ C ∧ slots ≤ S
/-- THE GOAL: from this frame the body comes to its end, and there Q holds -/
def Go (G : Gl) (X : Rn) (M : Bo) (Q : Option Value → Heap → Prop) (T : State) (pc : Nat) (Ls : Array Slot) (st : List Value) : Prop :=
  ∃ s₂ o, Steps X.p.tables X.e X.below (T.setTop (mkF X.m pc Ls st)) s₂ ∧ s₂.status = .running ∧ Ended s₂ X.below o ∧ ∃ v L, o = .returned v ∧ (Q v s₂.heap ∧ Fr G.n0 L ∧ Old G.Z G.n0 s₂.heap) ∧ CHr G.Z G.EL X.s.vm X.s.heap s₂.vm s₂.heap ∧ ReturnedEndW X.s o s₂ L M.R.cells M.R.slots
/-- A BODY's CONTRACT: called with as' in the heap h (the places sf not booked by a constant), it returns and Q holds -/
def Con (G : Gl) (ws : List Jvm.Cond) (M : Bo) (as' : Array Value) (h : Heap) (sf : List Addr) (Q : Option Value → Heap → Prop) : Prop :=
  MetFree G.l M.y (head1 (Jvm.Cond.code M.y M.bytes M.maxL M.ret :: ws) M.R) (fun a U => a = as' ∧ G.Z.Warmed39 U.vm ∧ U.heap = h ∧ CHv G.Z G.EL U.vm h ∧ ∀ x ∈ sf, Safe G.Z G.EL U.vm h x) (fun _ _ _ _ _ => True)
    (fun _ U o U' => ∃ v L, o = .returned v ∧ (Q v U'.heap ∧ Fr G.n0 L ∧ Old G.Z G.n0 U'.heap) ∧ CHr G.Z G.EL U.vm U.heap U'.vm U'.heap ∧ ReturnedEndW U o U' L M.R.cells M.R.slots)
/-- A CALL THAT IS PAID -/
def Pay (G : Gl) (X : Rn) (M : Bo) (vm : Vm) (h : Heap) (y : MethodName) (len W : Nat) (as' : Array Value) (kc ks : Nat) (Q : Option Value → Heap → Prop) : Prop :=
  BackS G.l M.R X.p X.e X.below (X.s.setVm vm) X.args y len W (fun A a => a = as' ∧ A.U.heap = h ∧ A.cells + kc ≤ M.R.cells ∧ A.slots + ks ≤ M.R.slots)
    (fun A _ v B => ∃ L, (Q v B.U.heap ∧ Fr G.n0 L ∧ Old G.Z G.n0 B.U.heap) ∧ B.locs = A.locs ++ L ∧ B.cells ≤ A.cells + kc ∧ B.slots ≤ A.slots + ks ∧ CHr G.Z G.EL vm h B.U.vm B.U.heap)
section Kit
variable {G : Gl} {X : Rn} {M : Bo} {vm : Vm} {T : State} {h : Heap} {C S : Nat} {Q : Option Value → Heap → Prop} {pc pc' : Nat} {Ls Ls' : Array Slot} {st : List Value}
theorem Go.stp {T' : State} {st' : List Value} (hs : ∀ t, Steps X.p.tables X.e X.below (T'.setTop (mkF X.m pc' Ls' st')) t → Steps X.p.tables X.e X.below (T.setTop (mkF X.m pc Ls st)) t) (k : Go G X M Q T' pc' Ls' st') : Go G X M Q T pc Ls st := by
  obtain ⟨s₂, o, h1, r⟩ := k
  exact ⟨s₂, o, hs _ h1, r⟩
theorem Here.x (W : Here G X M vm T h C S) : X.p.tables.exec = Jvm.exec := W.1.1
theorem Here.d (W : Here G X M vm T h C S) {pc : Nat} {r : Except ClassFile.DecodeError (ClassFile.Instr × Nat)} (h2 : ClassFile.decode M.bytes pc = r) : ClassFile.decode X.c.code pc = r := hb W.1.2.1 h2
theorem Here.at (W : Here G X M vm T h C S) : Jvm.At T X.m X.c X.below := by obtain ⟨-, _, _, _, _, X1, -⟩ := W; exact X1.here
theorem Here.old (W : Here G X M vm T h C S) : Old G.Z G.n0 h := by obtain ⟨-, _, _, _, _, -, -, -, -, -, -, -, -, o, -⟩ := W; exact o
theorem Here.ch (W : Here G X M vm T h C S) : CHv G.Z G.EL vm h := by obtain ⟨-, _, _, _, _, -, -, -, -, -, -, q, -⟩ := W; exact q.1
theorem Here.wz (W : Here G X M vm T h C S) : G.Z.Warmed39 vm := by obtain ⟨-, _, _, _, _, -, -, -, -, q, -⟩ := W; exact q
theorem Here.le (W : Here G X M vm T h C S) {C' S' : Nat} (hc : C ≤ C') (hs : S ≤ S') : Here G X M vm T h C' S' := by
  obtain ⟨F, k0, L, c, s, h1, h2, h3, h4, h5, h6, h7, h8, h9, h10, h11⟩ := W
  exact ⟨F, k0, L, c, s, h1, h2, h3, h4, h5, h6, h7, h8, h9, Nat.le_trans h10 hc, Nat.le_trans h11 hs⟩
theorem Here.n0 (W : Here G X M vm T h C S) : G.n0 ≤ h.size := W.old.1 ▸ W.old.2.1
/-- the start heap's fact, now -/
theorem Here.sta (W : Here G X M vm T h C S) {c n d : String} {v : Value} (F : Sta G.Z G.Z.heap c n d v) : Sta G.Z h c n d v := F.ext W.old.2
/-! ### plain steps -/
theorem iconst (W : Here G X M vm T h C S) {i : Int} (hd : decode M.bytes pc = .ok (.iconst i, 1)) (pc' : Nat) (hp : pc + 1 = pc') (v : Int32) (hv : Int32.ofInt i = v) (k : Go G X M Q T pc' Ls (.int v :: st)) : Go G X M Q T pc Ls st := by
  subst hp hv; exact Go.stp (fun t r => XS.iconst W.at W.x rfl (W.d hd) r) k
theorem bipush (W : Here G X M vm T h C S) {i : Int} (hd : decode M.bytes pc = .ok (.bipush i, 2)) (pc' : Nat) (hp : pc + 2 = pc') (v : Int32) (hv : (Int8.ofInt i).toInt32 = v) (k : Go G X M Q T pc' Ls (.int v :: st)) : Go G X M Q T pc Ls st := by
  subst hp hv; exact Go.stp (fun t r => XS.bipush W.at W.x rfl (W.d hd) r) k
theorem sipush (W : Here G X M vm T h C S) {i : Int} (hd : decode M.bytes pc = .ok (.sipush i, 3)) (pc' : Nat) (hp : pc + 3 = pc') (v : Int32) (hv : (Int16.ofInt i).toInt32 = v) (k : Go G X M Q T pc' Ls (.int v :: st)) : Go G X M Q T pc Ls st := by
  subst hp hv; exact Go.stp (fun t r => XS.sipush W.at W.x rfl (W.d hd) r) k
theorem aconstNull (W : Here G X M vm T h C S) (hd : decode M.bytes pc = .ok (.aconst_null, 1)) (pc' : Nat) (hp : pc + 1 = pc') (k : Go G X M Q T pc' Ls (.null :: st)) : Go G X M Q T pc Ls st := by
  subst hp; exact Go.stp (fun t r => XS.aconstNull W.at W.x rfl (W.d hd) r) k
theorem iloadN (W : Here G X M vm T h C S) {j : Fin 4} (hd : decode M.bytes pc = .ok (.iload_n j, 1)) (pc' : Nat) (hp : pc + 1 = pc') (v : Int32) (hl : Ls[j.val]? = some (.val (.int v))) (k : Go G X M Q T pc' Ls (.int v :: st)) : Go G X M Q T pc Ls st := by
  subst hp; exact Go.stp (fun t r => XS.iloadN W.at W.x rfl (W.d hd) hl r) k
theorem iload (W : Here G X M vm T h C S) {j : Nat} (hd : decode M.bytes pc = .ok (.iload j, 2)) (pc' : Nat) (hp : pc + 2 = pc') (v : Int32) (hl : Ls[j]? = some (.val (.int v))) (k : Go G X M Q T pc' Ls (.int v :: st)) : Go G X M Q T pc Ls st := by
  subst hp; exact Go.stp (fun t r => XS.iload W.at W.x rfl (W.d hd) hl r) k
theorem aloadN (W : Here G X M vm T h C S) {j : Fin 4} (hd : decode M.bytes pc = .ok (.aload_n j, 1)) (pc' : Nat) (hp : pc + 1 = pc') (v : Value) (hl : Ls[j.val]? = some (.val v)) (hv : v.isRef = true) (k : Go G X M Q T pc' Ls (v :: st)) : Go G X M Q T pc Ls st := by
  subst hp; exact Go.stp (fun t r => XS.aloadN W.at W.x rfl (W.d hd) hl hv r) k
theorem aload (W : Here G X M vm T h C S) {j : Nat} (hd : decode M.bytes pc = .ok (.aload j, 2)) (pc' : Nat) (hp : pc + 2 = pc') (v : Value) (hl : Ls[j]? = some (.val v)) (hv : v.isRef = true) (k : Go G X M Q T pc' Ls (v :: st)) : Go G X M Q T pc Ls st := by
  subst hp; exact Go.stp (fun t r => XS.aload W.at W.x rfl (W.d hd) hl hv r) k
theorem istoreN (W : Here G X M vm T h C S) {j : Fin 4} {x : Int32} (hd : decode M.bytes pc = .ok (.istore_n j, 1)) (pc' : Nat) (hp : pc + 1 = pc') (Ls' : Array Slot) (hl : storeLocals Ls j.val (.int x) = some Ls') (k : Go G X M Q T pc' Ls' st) : Go G X M Q T pc Ls (.int x :: st) := by
  subst hp; exact Go.stp (fun t r => XS.istoreN W.at W.x rfl (W.d hd) rfl hl r) k
theorem istore (W : Here G X M vm T h C S) {j : Nat} {x : Int32} (hd : decode M.bytes pc = .ok (.istore j, 2)) (pc' : Nat) (hp : pc + 2 = pc') (Ls' : Array Slot) (hl : storeLocals Ls j (.int x) = some Ls') (k : Go G X M Q T pc' Ls' st) : Go G X M Q T pc Ls (.int x :: st) := by
  subst hp; exact Go.stp (fun t r => XS.istore W.at W.x rfl (W.d hd) rfl hl r) k
theorem astoreN (W : Here G X M vm T h C S) {j : Fin 4} {x : Value} (hd : decode M.bytes pc = .ok (.astore_n j, 1)) (pc' : Nat) (hp : pc + 1 = pc') (hv : x.isRef = true) (Ls' : Array Slot) (hl : storeLocals Ls j.val x = some Ls') (k : Go G X M Q T pc' Ls' st) : Go G X M Q T pc Ls (x :: st) := by
  subst hp; exact Go.stp (fun t r => XS.astoreN W.at W.x rfl (W.d hd) rfl hv hl r) k
theorem astore (W : Here G X M vm T h C S) {j : Nat} {x : Value} (hd : decode M.bytes pc = .ok (.astore j, 2)) (pc' : Nat) (hp : pc + 2 = pc') (hv : x.isRef = true) (Ls' : Array Slot) (hl : storeLocals Ls j x = some Ls') (k : Go G X M Q T pc' Ls' st) : Go G X M Q T pc Ls (x :: st) := by
  subst hp; exact Go.stp (fun t r => XS.astore W.at W.x rfl (W.d hd) rfl hv hl r) k
theorem iinc (W : Here G X M vm T h C S) {j : Nat} {cst : Int} {x : Int32} (hd : decode M.bytes pc = .ok (.iinc j cst, 3)) (pc' : Nat) (hp : pc + 3 = pc') (hl : Ls[j]? = some (.val (.int x))) (Ls' : Array Slot) (hl' : storeLocals Ls j (.int (x + Int32.ofInt cst)) = some Ls') (k : Go G X M Q T pc' Ls' st) : Go G X M Q T pc Ls st := by
  subst hp; exact Go.stp (fun t r => XS.iinc W.at W.x rfl (W.d hd) hl hl' r) k
theorem iadd (W : Here G X M vm T h C S) {x y : Int32} (hd : decode M.bytes pc = .ok (.iadd, 1)) (pc' : Nat) (hp : pc + 1 = pc') (k : Go G X M Q T pc' Ls (.int (x + y) :: st)) : Go G X M Q T pc Ls (.int y :: .int x :: st) := by
  subst hp; exact Go.stp (fun t r => XS.iadd W.at W.x rfl (W.d hd) rfl r) k
theorem isub (W : Here G X M vm T h C S) {x y : Int32} (hd : decode M.bytes pc = .ok (.isub, 1)) (pc' : Nat) (hp : pc + 1 = pc') (k : Go G X M Q T pc' Ls (.int (x - y) :: st)) : Go G X M Q T pc Ls (.int y :: .int x :: st) := by
  subst hp; exact Go.stp (fun t r => XS.isub W.at W.x rfl (W.d hd) rfl r) k
theorem iand (W : Here G X M vm T h C S) {x y : Int32} (hd : decode M.bytes pc = .ok (.iand, 1)) (pc' : Nat) (hp : pc + 1 = pc') (k : Go G X M Q T pc' Ls (.int (x &&& y) :: st)) : Go G X M Q T pc Ls (.int y :: .int x :: st) := by
  subst hp; exact Go.stp (fun t r => XS.iand W.at W.x rfl (W.d hd) rfl r) k
theorem ixor (W : Here G X M vm T h C S) {x y : Int32} (hd : decode M.bytes pc = .ok (.ixor, 1)) (pc' : Nat) (hp : pc + 1 = pc') (k : Go G X M Q T pc' Ls (.int (x ^^^ y) :: st)) : Go G X M Q T pc Ls (.int y :: .int x :: st) := by
  subst hp; exact Go.stp (fun t r => XS.ixor W.at W.x rfl (W.d hd) rfl r) k
theorem iushr (W : Here G X M vm T h C S) {x y : Int32} (hd : decode M.bytes pc = .ok (.iushr, 1)) (pc' : Nat) (hp : pc + 1 = pc') (k : Go G X M Q T pc' Ls (.int ((x.toUInt32 >>> (y &&& 31).toUInt32).toInt32) :: st)) : Go G X M Q T pc Ls (.int y :: .int x :: st) := by
  subst hp; exact Go.stp (fun t r => XS.iushr W.at W.x rfl (W.d hd) rfl r) k
theorem ineg (W : Here G X M vm T h C S) {x : Int32} (hd : decode M.bytes pc = .ok (.ineg, 1)) (pc' : Nat) (hp : pc + 1 = pc') (k : Go G X M Q T pc' Ls (.int (-x) :: st)) : Go G X M Q T pc Ls (.int x :: st) := by
  subst hp; exact Go.stp (fun t r => XS.ineg W.at W.x rfl (W.d hd) rfl r) k
theorem i2c (W : Here G X M vm T h C S) {x : Int32} (hd : decode M.bytes pc = .ok (.i2c, 1)) (pc' : Nat) (hp : pc + 1 = pc') (k : Go G X M Q T pc' Ls (.int x.toUInt32.toUInt16.toUInt32.toInt32 :: st)) : Go G X M Q T pc Ls (.int x :: st) := by
  subst hp; exact Go.stp (fun t r => XS.i2c W.at W.x rfl (W.d hd) rfl r) k
theorem i2b (W : Here G X M vm T h C S) {x : Int32} (hd : decode M.bytes pc = .ok (.i2b, 1)) (pc' : Nat) (hp : pc + 1 = pc') (k : Go G X M Q T pc' Ls (.int x.toInt8.toInt32 :: st)) : Go G X M Q T pc Ls (.int x :: st) := by
  subst hp; exact Go.stp (fun t r => XS.i2b W.at W.x rfl (W.d hd) rfl r) k
theorem irem (W : Here G X M vm T h C S) {x y : Int32} (hd : decode M.bytes pc = .ok (.irem, 1)) (pc' : Nat) (hp : pc + 1 = pc') (hy : y ≠ 0) (k : Go G X M Q T pc' Ls (.int (x % y) :: st)) : Go G X M Q T pc Ls (.int y :: .int x :: st) := by
  subst hp
  obtain ⟨F, k0, L, c, s, X1, -⟩ := id W
  exact Go.stp (fun t r => iremM X1 W.x rfl (W.d hd) rfl hy r) k
theorem dup (W : Here G X M vm T h C S) {x : Value} (hd : decode M.bytes pc = .ok (.dup, 1)) (pc' : Nat) (hp : pc + 1 = pc') (hc : x.category = 1) (k : Go G X M Q T pc' Ls (x :: x :: st)) : Go G X M Q T pc Ls (x :: st) := by
  subst hp; exact Go.stp (fun t r => XS.dup W.at W.x rfl (W.d hd) rfl hc r) k
theorem pop (W : Here G X M vm T h C S) {x : Value} (hd : decode M.bytes pc = .ok (.pop, 1)) (pc' : Nat) (hp : pc + 1 = pc') (hc : x.category = 1) (k : Go G X M Q T pc' Ls st) : Go G X M Q T pc Ls (x :: st) := by
  subst hp; exact Go.stp (fun t r => XS.pop W.at W.x rfl (W.d hd) rfl hc r) k
theorem goto (W : Here G X M vm T h C S) {o : Int} (hd : decode M.bytes pc = .ok (.goto o, 3)) (pc' : Nat) (ho : 0 ≤ (pc : Int) + o) (hp : ((pc : Int) + o).toNat = pc') (k : Go G X M Q T pc' Ls st) : Go G X M Q T pc Ls st :=
  Go.stp (fun t r => XS.goto W.at W.x rfl (pc0 := pc) (pc' := pc') rfl (W.d hd) ho hp r) k
theorem ifYes (W : Here G X M vm T h C S) {cd : ClassFile.Cond} {x : Int32} {o : Int} (hd : decode M.bytes pc = .ok (.ifCond cd o, 3)) (pc' : Nat) (hc : ifCond.holds cd x = true) (ho : 0 ≤ (pc : Int) + o) (hp : ((pc : Int) + o).toNat = pc') (k : Go G X M Q T pc' Ls st) : Go G X M Q T pc Ls (.int x :: st) :=
  Go.stp (fun t r => XS.ifYes W.at W.x rfl (pc0 := pc) (pc' := pc') rfl (W.d hd) rfl hc ho hp r) k
theorem ifNo (W : Here G X M vm T h C S) {cd : ClassFile.Cond} {x : Int32} {o : Int} (hd : decode M.bytes pc = .ok (.ifCond cd o, 3)) (pc' : Nat) (hc : ifCond.holds cd x = false) (hp : pc + 3 = pc') (k : Go G X M Q T pc' Ls st) : Go G X M Q T pc Ls (.int x :: st) := by
  subst hp; exact Go.stp (fun t r => XS.ifNo W.at W.x rfl (W.d hd) rfl hc r) k
theorem icmpYes (W : Here G X M vm T h C S) {cd : ClassFile.Cond} {x y : Int32} {o : Int} (hd : decode M.bytes pc = .ok (.if_icmp cd o, 3)) (pc' : Nat) (hc : if_icmp.holds cd x y = true) (ho : 0 ≤ (pc : Int) + o) (hp : ((pc : Int) + o).toNat = pc') (k : Go G X M Q T pc' Ls st) : Go G X M Q T pc Ls (.int y :: .int x :: st) :=
  Go.stp (fun t r => XS.icmpYes W.at W.x rfl (pc0 := pc) (pc' := pc') rfl (W.d hd) rfl hc ho hp r) k
theorem icmpNo (W : Here G X M vm T h C S) {cd : ClassFile.Cond} {x y : Int32} {o : Int} (hd : decode M.bytes pc = .ok (.if_icmp cd o, 3)) (pc' : Nat) (hc : if_icmp.holds cd x y = false) (hp : pc + 3 = pc') (k : Go G X M Q T pc' Ls st) : Go G X M Q T pc Ls (.int y :: .int x :: st) := by
  subst hp; exact Go.stp (fun t r => XS.icmpNo W.at W.x rfl (W.d hd) rfl hc r) k
theorem ifnullYes (W : Here G X M vm T h C S) {o : Int} (hd : decode M.bytes pc = .ok (.ifnull o, 3)) (pc' : Nat) (ho : 0 ≤ (pc : Int) + o) (hp : ((pc : Int) + o).toNat = pc') (k : Go G X M Q T pc' Ls st) : Go G X M Q T pc Ls (.null :: st) :=
  Go.stp (fun t r => XS.ifnullYes W.at W.x rfl (pc0 := pc) (pc' := pc') rfl (W.d hd) rfl ho hp r) k
theorem ifnullNo (W : Here G X M vm T h C S) {o : Int} {b : Addr} (hd : decode M.bytes pc = .ok (.ifnull o, 3)) (pc' : Nat) (hp : pc + 3 = pc') (k : Go G X M Q T pc' Ls st) : Go G X M Q T pc Ls (.ref b :: st) := by
  subst hp; exact Go.stp (fun t r => XS.ifnullNo W.at W.x rfl (W.d hd) rfl r) k
theorem ifnonnullYes (W : Here G X M vm T h C S) {o : Int} {b : Addr} (hd : decode M.bytes pc = .ok (.ifnonnull o, 3)) (pc' : Nat) (ho : 0 ≤ (pc : Int) + o) (hp : ((pc : Int) + o).toNat = pc') (k : Go G X M Q T pc' Ls st) : Go G X M Q T pc Ls (.ref b :: st) :=
  Go.stp (fun t r => XT.nonnullYes W.at W.x rfl (pc0 := pc) (pc' := pc') rfl (W.d hd) rfl rfl (fun q => nomatch q) ho hp r) k
theorem ifnonnullNo (W : Here G X M vm T h C S) {o : Int} (hd : decode M.bytes pc = .ok (.ifnonnull o, 3)) (pc' : Nat) (hp : pc + 3 = pc') (k : Go G X M Q T pc' Ls st) : Go G X M Q T pc Ls (.null :: st) := by
  subst hp; exact Go.stp (fun t r => XT.nonnullNo W.at W.x rfl (W.d hd) rfl rfl r) k
theorem acmp (W : Here G X M vm T h C S) {cd : ACond} {x y : Value} {o : Int} (hd : decode M.bytes pc = .ok (.if_acmp cd o, 3)) (pc' : Nat) (h1 : x.isRef = true) (h2 : y.isRef = true) (same : Bool) (hs : decide (x = y) = same) (ho : 0 ≤ (pc : Int) + o) (hp : pc' = if acV cd same = true then ((pc : Int) + o).toNat else pc + 3) (k : Go G X M Q T pc' Ls st) : Go G X M Q T pc Ls (y :: x :: st) := by
  obtain ⟨F, k0, L, c, s, X1, -⟩ := id W
  exact Go.stp (fun t r => Jvm.RoadKit.acmp (g := mkF X.m pc Ls (y :: x :: st)) X1 W.x rfl h1 h2 (pc0 := pc) (pc' := pc') (same := same) rfl (W.d hd) rfl hs ho hp r) k
end Kit
end Own
end Jvm.Pilot.@@N@@
namespace Jvm.Pilot.@@N@@
namespace Own
open Jvm Jvm.ClassFile Sem Op Lib Jvm.Free Jvm.Stand Jvm.LawKit Jvm.RoadKit
section Kit2
variable {G : Gl} {X : Rn} {M : Bo} {vm : Vm} {T : State} {h : Heap} {C S : Nat} {Q : Option Value → Heap → Prop} {pc pc' : Nat} {Ls Ls' : Array Slot} {st : List Value}
theorem Ext.rfl' (h : Heap) : Ext h h := ⟨Nat.le_refl _, fun _ _ q => q⟩
theorem Ext.tr {h1 h2 h3 : Heap} (a : Ext h1 h2) (b : Ext h2 h3) : Ext h1 h3 := ⟨Nat.le_trans a.1 b.1, fun x c q => b.2 x c (a.2 x c q)⟩
theorem Ext.wr' {h1 h2 h3 : Heap} {a : Addr} {sl : Nat} {v : Value} (e : Ext h1 h2) (w : Wr h2 h3 a sl v) (ha : h1.size ≤ a) : Ext h1 h3 := ⟨Nat.le_trans e.1 (Keep.of_wr w).1, fun x c q => (Keep.of_wr w).2.1 x c (e.2 x c q) fun z => by
  cases List.mem_singleton.mp z; exact absurd (Array.getElem?_eq_some_iff.mp q).1 (Nat.not_lt.mpr ha)⟩
theorem Ext.kp {h1 h2 h3 : Heap} {ws : List Addr} (e : Ext h1 h2) (k : Keep h2 h3 ws) (ha : ∀ x ∈ ws, h1.size ≤ x) : Ext h1 h3 := ⟨Nat.le_trans e.1 k.1, fun x c q => k.2.1 x c (e.2 x c q) fun z => absurd (Array.getElem?_eq_some_iff.mp q).1 (Nat.not_lt.mpr (ha x z))⟩
theorem Ext.keep {h1 h2 : Heap} (e : Ext h1 h2) : Keep h1 h2 [] := ⟨e.1, fun x c q _ => e.2 x c q, fun x c q => ⟨c, e.2 x c q, rfl, rfl, rfl⟩⟩
/-! ### the end -/
theorem Go.retW (W : Here G X M vm T h C S) (hC : C ≤ M.R.cells) (hS : S ≤ M.R.slots) {v : Option Value} (hv : M.ret = none → v = none)
    (hst : ∀ fs, (∀ (f : JFrame) (acts : List Action), f.method = X.m → f.locked = none → f.entered = [] → (doReturn X.e (T.setTop f) acts v).1 = T.setFrames fs) → Steps X.p.tables X.e X.below (T.setTop (mkF X.m pc Ls st)) (T.setFrames fs)) (hQ : Q v h) : Go G X M Q T pc Ls st := by
  obtain ⟨⟨hx, hby, hml, hret, hlk, hnm, hEL⟩, k0, L, c, s, X1, e1, S1, hk, hZ, hown, hCH, N, O, c1, s1⟩ := W
  obtain ⟨fs, hr, hrun, hended, h1, h2, h3, h4⟩ := X1.leaveW S1 (by rw [e1]; exact hk) (v := v) (fun q => hv (hret.symm.trans q)) hlk
  refine ⟨_, _, hst fs hr, hrun, hended, v, L, rfl, ⟨?_, N, ?_⟩, ?_, h1, h2, h3, h4.mono (Nat.le_trans c1 hC) (Nat.le_trans s1 hS)⟩
  · show Q v T.heap
    rw [e1]; exact hQ
  · show Old G.Z G.n0 T.heap
    rw [e1]; exact O
  · show CHr G.Z G.EL X.s.vm X.s.heap T.vm T.heap
    rw [e1]; exact hCH.trans (CHv.at X1 hZ hEL hCH.1)
theorem retI (W : Here G X M vm T h C S) (hC : C ≤ M.R.cells) (hS : S ≤ M.R.slots) (hr : M.ret = some .int) (hd : decode M.bytes pc = .ok (.ireturn, 1)) {z : Int32} (hQ : Q (some (.int z)) h) : Go G X M Q T pc Ls (.int z :: st) := by
  obtain ⟨F, k0, L, c, s, X1, -⟩ := id W
  exact Go.retW W hC hS (fun q => by rw [hr] at q; cases q) (fun fs q => retOut X1 W.x (F.2.2.2.1.trans hr) rfl (Or.inl ⟨rfl, Or.inl rfl, z, rfl⟩) (W.d hd) q) hQ
theorem retB (W : Here G X M vm T h C S) (hC : C ≤ M.R.cells) (hS : S ≤ M.R.slots) (hr : M.ret = some .boolean) (hd : decode M.bytes pc = .ok (.ireturn, 1)) {z : Int32} (hz : narrow .boolean (.int z) = .int z) (hQ : Q (some (.int z)) h) : Go G X M Q T pc Ls (.int z :: st) := by
  obtain ⟨F, k0, L, c, s, X1, -⟩ := id W
  exact Go.retW W hC hS (fun q => by rw [hr] at q; cases q) (fun fs q => retOut X1 W.x (F.2.2.2.1.trans hr) hz (Or.inl ⟨rfl, Or.inr (Or.inl rfl), z, rfl⟩) (W.d hd) q) hQ
theorem retC (W : Here G X M vm T h C S) (hC : C ≤ M.R.cells) (hS : S ≤ M.R.slots) (hr : M.ret = some .char) (hd : decode M.bytes pc = .ok (.ireturn, 1)) {z : Int32} (hz : narrow .char (.int z) = .int z) (hQ : Q (some (.int z)) h) : Go G X M Q T pc Ls (.int z :: st) := by
  obtain ⟨F, k0, L, c, s, X1, -⟩ := id W
  exact Go.retW W hC hS (fun q => by rw [hr] at q; cases q) (fun fs q => retOut X1 W.x (F.2.2.2.1.trans hr) hz (Or.inl ⟨rfl, Or.inr (Or.inr (Or.inr (Or.inl rfl))), z, rfl⟩) (W.d hd) q) hQ
theorem retY (W : Here G X M vm T h C S) (hC : C ≤ M.R.cells) (hS : S ≤ M.R.slots) (hr : M.ret = some .byte) (hd : decode M.bytes pc = .ok (.ireturn, 1)) {z : Int32} (hz : narrow .byte (.int z) = .int z) (hQ : Q (some (.int z)) h) : Go G X M Q T pc Ls (.int z :: st) := by
  obtain ⟨F, k0, L, c, s, X1, -⟩ := id W
  exact Go.retW W hC hS (fun q => by rw [hr] at q; cases q) (fun fs q => retOut X1 W.x (F.2.2.2.1.trans hr) hz (Or.inl ⟨rfl, Or.inr (Or.inr (Or.inl rfl)), z, rfl⟩) (W.d hd) q) hQ
theorem retA (W : Here G X M vm T h C S) (hC : C ≤ M.R.cells) (hS : S ≤ M.R.slots) {t : FieldType} (hr : M.ret = some t) (ht : t.isReference = true) {w : Value} (hw : w.isRef = true) (hd : decode M.bytes pc = .ok (.areturn, 1)) (hQ : Q (some w) h) : Go G X M Q T pc Ls (w :: st) := by
  obtain ⟨F, k0, L, c, s, X1, -⟩ := id W
  refine Go.retW W hC hS (fun q => by rw [hr] at q; cases q) (fun fs q => retOut X1 W.x (F.2.2.2.1.trans hr) ?_ (Or.inr (Or.inr (Or.inr (Or.inr ⟨rfl, ht, hw⟩)))) (W.d hd) q) hQ
  rcases ref_cases hw with rfl | ⟨b, rfl⟩ <;> cases t <;> first | rfl | cases ht
theorem retL (W : Here G X M vm T h C S) (hC : C ≤ M.R.cells) (hS : S ≤ M.R.slots) (hr : M.ret = some .long) (hd : decode M.bytes pc = .ok (.lreturn, 1)) {z : Int64} (hQ : Q (some (.long z)) h) : Go G X M Q T pc Ls (.long z :: st) := by
  obtain ⟨F, k0, L, c, s, X1, -⟩ := id W
  exact Go.retW W hC hS (fun q => by rw [hr] at q; cases q) (fun fs q => retOut X1 W.x (F.2.2.2.1.trans hr) rfl (Or.inr (Or.inl ⟨rfl, rfl, z, rfl⟩)) (W.d hd) q) hQ
theorem retV (W : Here G X M vm T h C S) (hC : C ≤ M.R.cells) (hS : S ≤ M.R.slots) (hr : M.ret = none) (hd : decode M.bytes pc = .ok (.return_, 1)) (hQ : Q none h) : Go G X M Q T pc Ls [] := by
  obtain ⟨F, k0, L, c, s, X1, -⟩ := id W
  exact Go.retW W hC hS (fun _ => rfl) (fun fs q => X1.returnOut W.x (F.2.2.2.1.trans hr) (W.d hd) q) hQ
/-! ### the entry -/
theorem Con.intro {ws : List Jvm.Cond} {as' : Array Value} {sf : List Addr} (hpn : plainFor M.y = true) (hO : Old G.Z G.n0 h) (hEL : EW G.Z G.a0 G.EL) (Ls0 : Array Slot) (hef : ∀ m, entryFrame m as' M.maxL = mkF m 0 Ls0 [])
    (body : ∀ (X : Rn) (T : State), Here G X M X.s.vm T h 0 0 → (∀ x ∈ sf, Safe G.Z G.EL X.s.vm h x) → Go G X M Q T 0 Ls0 []) : Con G ws M as' h sf Q := by
  refine MetFree.of_bodySF hpn hisR ?_
  intro p e s m args below meth c s₁ Bd hml0 hP hK
  obtain ⟨rfl, hZ, rfl, hCH, hsf⟩ := hP
  have hown : s.vm.findClass M.y.cls = some m.cls := findClass_of_methodNamed Bd.named
  have hnm := (name_of_methodNamed Bd.named Bd.method).1
  have X0 : Stand p G.l e M.R s m args below meth c s₁ [] 0 0 := Stand.of_body Bd
  have e0 : s₁.heap = s.heap := by rw [Bd.state]; rfl
  have q := body (p, e, s, m, args, below, meth, c) s₁ ⟨⟨Bd.exec, Bd.bytes, hml0, Bd.returns, Bd.notSynchronized, hnm, hEL⟩, s.heap.size, [], 0, 0, X0, e0, (State.WarmedH.refl s).since _, Nat.le_refl _, hZ, hown, CHr.refl hCH, Fr.nil _, hO, Nat.le_refl 0, Nat.le_refl 0⟩ hsf
  rw [hef m]
  exact q
/-! ### calls -/
theorem Con.pay {N : Bo} {as' : Array Value} {sf : List Addr} {Qy : Option Value → Heap → Prop} (K : Con G [] N as' h sf Qy) (W : Here G X M vm T h C S) (wc : (Jvm.Cond.code N.y N.bytes N.maxL N.ret).before G.a0 G.Z = true) (wz : (Jvm.Cond.initialized N.y.cls).before G.a0 G.Z = true) {len wd : Nat}
    (hf : N.R.frames + 1 ≤ M.R.frames) (hl : wd + (N.maxL + 11) + N.R.locals ≤ M.R.locals) (hsf : ∀ x ∈ sf, x < h.size ∧ Safe G.Z G.EL vm h x) : Pay G X M vm h N.y len wd as' N.R.cells N.R.slots Qy := by
  have hZ := W.wz
  have hEL := W.1.2.2.2.2.2.2
  have H := W.ch
  exact BackS.of_freeW (bytes := N.bytes) (maxL := N.maxL) (ret := N.ret) (E := fun _ first o t L k n => k = N.R.cells ∧ n = N.R.slots ∧ (∃ v, o = .returned v ∧ Qy v t.heap ∧ Fr G.n0 L ∧ Old G.Z G.n0 t.heap) ∧ CHr G.Z G.EL first.vm first.heap t.vm t.heap) K hf hl
    (fun m meth c A a Y hp => have hU : G.Z.Warmed39 A.U.vm := wtrans (s := X.s.setVm vm) hZ Y.warmed
      ⟨by show (Cond.and _ .tt).before a A.U = true; rw [Cond.before_and, mv hU wc]; rfl, mv hU wc, mv hU wz, hp.2.2.1, hp.2.2.2⟩)
    (fun m meth c A a g mk Y hp => ⟨hp.1, wtrans (s := X.s.setVm vm) hZ Y.warmed, hp.2.1, (CHv.at Y hZ hEL H).1, fun x hx => (CHv.at Y hZ hEL H).safe (hsf x hx).1 (hsf x hx).2⟩) (fun _ _ _ _ _ _ _ _ _ => trivial)
    (fun _ _ _ _ ⟨v, L, h1, h2, h3, h4⟩ => ⟨L, _, _, h4, rfl, rfl, ⟨v, h1, h2⟩, h3⟩)
    (fun m meth c A a g mk v t L k n Y hp _ _ ⟨e1, e2, ⟨v', e3, e4⟩, e5⟩ => by
      cases e3; subst e1 e2
      refine ⟨L, e4, rfl, Nat.le_refl _, Nat.le_refl _, (CHv.at Y hZ hEL H).trans ?_⟩
      rw [← hp.2.1]; exact e5)
/-- a law of the other shape pays too: its callee interns nothing -/
theorem payB {y : MethodName} {len wd kc ks : Nat} {as' : Array Value} {Qy : Option Value → Heap → List Loc → Prop} {Q' : Option Value → Heap → Prop}
    (B : Back G.l M.R X.p X.e X.below (X.s.setVm vm) X.args y len wd (fun P a => a = as' ∧ P.U.heap = h ∧ P.cells + kc ≤ M.R.cells ∧ P.slots + ks ≤ M.R.slots) (fun P _ v B => ∃ L, Qy v B.U.heap L ∧ B.locs = P.locs ++ L ∧ B.cells = P.cells + kc ∧ B.slots = P.slots + ks))
    (W : Here G X M vm T h C S) (hq : ∀ v h' L, Qy v h' L → Q' v h' ∧ Fr G.n0 L ∧ Old G.Z G.n0 h' ∧ CHr G.Z G.EL vm h vm h') : Pay G X M vm h y len wd as' kc ks Q' := by
  intro m meth c A g ig mk a X1 hg hsize hdg hW hn hp
  obtain ⟨v, B', X', ⟨L, q, e1, e2, e3⟩, st⟩ := B m meth c A g ig mk a X1 hg hsize hdg hW hn hp
  obtain ⟨q1, q2, q3, q4⟩ := hq _ _ _ q
  refine ⟨v, B', X'.retabled X'.warmed.wide, X'.warmed.since _, ?_, ⟨L, ⟨q1, q2, q3⟩, e1, Nat.le_of_eq e2, Nat.le_of_eq e3, q4.trans (CHv.at X' W.wz W.1.2.2.2.2.2.2 q4.1)⟩, st⟩
  rw [hp.2.1]; exact q4.2.1
theorem Here.call (W : Here G X M vm T h C S) {kc ks C' S' : Nat} {v : Option Value} {Qy : Option Value → Heap → Prop} (hc : C + kc ≤ C') (hs : S + ks ≤ S')
    {k0 : Nat} {locs : List Loc} {cells slots : Nat} (hS : X.s.Since vm k0) (hk : k0 ≤ h.size) (hown : vm.findClass M.y.cls = some X.m.cls) (hCH : CHr G.Z G.EL X.s.vm X.s.heap vm h) (hF : Fr G.n0 locs) (c1 : cells ≤ C) (s1 : slots ≤ S) {B : Pt}
    (X' : Stand X.p G.l X.e M.R ((X.s.setVm vm).setVm B.U.vm) X.m X.args X.below X.meth X.c B.U B.locs B.cells B.slots) (h2 : (X.s.setVm vm).Since B.U.vm B.U.heap.size) (hg : h.size ≤ B.U.heap.size) {L : List Loc}
    (hq : (Qy v B.U.heap ∧ Fr G.n0 L ∧ Old G.Z G.n0 B.U.heap) ∧ B.locs = locs ++ L ∧ B.cells ≤ cells + kc ∧ B.slots ≤ slots + ks ∧ CHr G.Z G.EL vm h B.U.vm B.U.heap) : Here G X M B.U.vm B.U B.U.heap C' S' := by
  obtain ⟨X2, S2, Z2, o2⟩ := rebS hS hk X' h2 hg W.wz hown
  obtain ⟨⟨-, q2, q3⟩, e1, e2, e3, q4⟩ := hq
  refine ⟨W.1, _, _, _, _, X2, rfl, S2, Nat.le_refl _, Z2, o2, hCH.trans q4, ?_, q3, ?_, ?_⟩
  · rw [e1]; exact hF.app q2
  · omega
  · omega
theorem callS (W : Here G X M vm T h C S) {y : MethodName} {idx : Nat} {bytes : ByteArray} {maxL : Nat} {ret : Option FieldType} (w1 : (Jvm.Cond.methodLink M.y.cls idx y).before G.a0 G.Z = true) (w2 : (Jvm.Cond.static y).before G.a0 G.Z = true) (w3 : (Jvm.Cond.initialized y.cls).before G.a0 G.Z = true) (w4 : (Jvm.Cond.code y bytes maxL ret).before G.a0 G.Z = true)
    (hy : y.cls ≠ "java/lang/invoke/MethodHandle" ∧ y.cls ≠ "java/lang/invoke/VarHandle") {wd kc ks : Nat} {argsL rest : List Value} {Qy : Option Value → Heap → Prop} (P : Pay G X M vm h y 3 wd argsL.toArray kc ks Qy) (hsz : Ls.size = M.maxL) (hlen : ∀ sig, parseMethodDescriptor y.desc = some sig → argsL.length = sig.parameters.length)
    (hstk : st = argsL.reverse ++ rest) (hwd : (rest.map fun v => v.category).sum ≤ wd) (hd : decode M.bytes pc = .ok (.invokestatic idx, 3)) (pc' : Nat) (hp : pc + 3 = pc') (C' S' : Nat) (hc : C + kc ≤ C') (hs : S + ks ≤ S') (hc' : C' ≤ M.R.cells) (hs' : S' ≤ M.R.slots)
    (k : ∀ (vm' : Vm) (T' : State) (h' : Heap) (v : Option Value), Here G X M vm' T' h' C' S' → CHr G.Z G.EL vm h vm' h' → Qy v h' → Go G X M Q T' pc' Ls (v.toList ++ rest)) : Go G X M Q T pc Ls st := by
  subst hp hstk
  obtain ⟨F, k0, locs, cells, slots, X1, e1, hS, hk, hZ, hown, hCH, hF, O, c1, s1⟩ := id W
  subst e1
  obtain ⟨v, vm₁, B, -, X', h2, hg, ⟨L, hq⟩, st'⟩ := callSS X1 W.x (y := y) hown (mv (s := X.s.setVm vm) hZ w1) (mv (s := X.s.setVm vm) hZ w2) (mv (s := X.s.setVm vm) hZ w3) (mv (s := X.s.setVm vm) hZ w4) hy P (g := mkF X.m pc Ls (argsL.reverse ++ rest)) rfl (hsz.trans F.2.2.1.symm) (argsL := argsL) (rest := rest) hlen rfl (by show 2 * 0 + _ ≤ _; omega) (W.d hd) (fun _ _ => ⟨rfl, rfl, by show cells + kc ≤ _; omega, by show slots + ks ≤ _; omega⟩)
  exact Go.stp (fun t r => st'.trans r) (k B.U.vm B.U B.U.heap v (Here.call W hc hs hS hk hown hCH hF c1 s1 X' h2 hg hq) hq.2.2.2.2 hq.1.1)
theorem callX (W : Here G X M vm T h C S) {y : MethodName} {idx : Nat} {bytes : ByteArray} {maxL : Nat} (hy1 : y.name = "<init>") (w1 : (Jvm.Cond.methodLink M.y.cls idx y).before G.a0 G.Z = true) (w2 : (Jvm.Cond.instanceMethod y).before G.a0 G.Z = true) (w4 : (Jvm.Cond.code y bytes maxL none).before G.a0 G.Z = true)
    (hy : y.cls ≠ "java/lang/invoke/MethodHandle" ∧ y.cls ≠ "java/lang/invoke/VarHandle") {wd kc ks : Nat} {a : Addr} {argsL rest : List Value} {Qy : Option Value → Heap → Prop} (P : Pay G X M vm h y 3 wd (.ref a :: argsL).toArray kc ks Qy) (hsz : Ls.size = M.maxL) (hlen : ∀ sig, parseMethodDescriptor y.desc = some sig → argsL.length = sig.parameters.length)
    (hstk : st = argsL.reverse ++ .ref a :: rest) (hwd : (rest.map fun v => v.category).sum ≤ wd) (hd : decode M.bytes pc = .ok (.invokespecial idx, 3)) (pc' : Nat) (hp : pc + 3 = pc') (C' S' : Nat) (hc : C + kc ≤ C') (hs : S + ks ≤ S') (hc' : C' ≤ M.R.cells) (hs' : S' ≤ M.R.slots)
    (k : ∀ (vm' : Vm) (T' : State) (h' : Heap) (v : Option Value), Here G X M vm' T' h' C' S' → CHr G.Z G.EL vm h vm' h' → Qy v h' → Go G X M Q T' pc' Ls (v.toList ++ rest)) : Go G X M Q T pc Ls st := by
  subst hp hstk
  obtain ⟨F, k0, locs, cells, slots, X1, e1, hS, hk, hZ, hown, hCH, hF, O, c1, s1⟩ := id W
  subst e1
  obtain ⟨v, vm₁, B, -, X', h2, hg, ⟨L, hq⟩, st'⟩ := X1.specialBackS W.x (y := y) hy1 hown (mv (s := X.s.setVm vm) hZ w1) (mv (s := X.s.setVm vm) hZ w2) (mv (s := X.s.setVm vm) hZ w4) hy P (g := mkF X.m pc Ls (argsL.reverse ++ .ref a :: rest)) rfl (hsz.trans F.2.2.1.symm) (Steps.refl _) (a := a) (argsL := argsL) (rest := rest) hlen rfl (by show 2 * 0 + _ ≤ _; omega) (W.d hd) (fun _ _ => ⟨rfl, rfl, by show cells + kc ≤ _; omega, by show slots + ks ≤ _; omega⟩)
  exact Go.stp (fun t r => st'.trans r) (k B.U.vm B.U B.U.heap v (Here.call W hc hs hS hk hown hCH hF c1 s1 X' h2 hg hq) hq.2.2.2.2 hq.1.1)
theorem callV (W : Here G X M vm T h C S) {y z : MethodName} {idx : Nat} {cl : String} (w1 : (Jvm.Cond.methodLink M.y.cls idx y).before G.a0 G.Z = true) (w2 : (Jvm.Cond.declares y).before G.a0 G.Z = true) (nf : ∀ s : State, G.Z.Warmed39 s.vm → NotFace s y) (w3 : (Jvm.Cond.selects cl y z).before G.a0 G.Z = true) (w4 : (Jvm.Cond.instanceMethod z).before G.a0 G.Z = true)
    (hy : y.cls ≠ "java/lang/invoke/MethodHandle" ∧ y.cls ≠ "java/lang/invoke/VarHandle") {wd kc ks : Nat} {a : Addr} {argsL rest : List Value} {Qy : Option Value → Heap → Prop} (P : Pay G X M vm h z 3 wd (.ref a :: argsL).toArray kc ks Qy) (E : Exa G.Z h a cl) (hsz : Ls.size = M.maxL) (hlen : ∀ sig, parseMethodDescriptor y.desc = some sig → argsL.length = sig.parameters.length)
    (hstk : st = argsL.reverse ++ .ref a :: rest) (hwd : (rest.map fun v => v.category).sum ≤ wd) (hd : decode M.bytes pc = .ok (.invokevirtual idx, 3)) (pc' : Nat) (hp : pc + 3 = pc') (C' S' : Nat) (hc : C + kc ≤ C') (hs : S + ks ≤ S') (hc' : C' ≤ M.R.cells) (hs' : S' ≤ M.R.slots)
    (k : ∀ (vm' : Vm) (T' : State) (h' : Heap) (v : Option Value), Here G X M vm' T' h' C' S' → CHr G.Z G.EL vm h vm' h' → Qy v h' → Go G X M Q T' pc' Ls (v.toList ++ rest)) : Go G X M Q T pc Ls st := by
  subst hp hstk
  obtain ⟨F, k0, locs, cells, slots, X1, e1, hS, hk, hZ, hown, hCH, hF, O, c1, s1⟩ := id W
  obtain ⟨cq, kq, qa, qb, qc⟩ := isOf (s := X.s.setVm vm) hZ e1 E
  subst e1
  obtain ⟨v, vm₁, B, -, X', h2, hg, ⟨L, hq⟩, st'⟩ := X1.virtualBackS W.x (y := y) (z := z) hown (mv (s := X.s.setVm vm) hZ w1) (mv (s := X.s.setVm vm) hZ w2) (nf _ hZ) (mv (s := X.s.setVm vm) hZ w3) (mv (s := X.s.setVm vm) hZ w4) hy P qa qc (g := mkF X.m pc Ls (argsL.reverse ++ .ref a :: rest)) rfl (hsz.trans F.2.2.1.symm) (Steps.refl _) (argsL := argsL) (rest := rest) hlen rfl (by show 2 * 0 + _ ≤ _; omega) (W.d hd) (fun _ _ => ⟨rfl, rfl, by show cells + kc ≤ _; omega, by show slots + ks ≤ _; omega⟩)
  exact Go.stp (fun t r => st'.trans r) (k B.U.vm B.U B.U.heap v (Here.call W hc hs hS hk hown hCH hF c1 s1 X' h2 hg hq) hq.2.2.2.2 hq.1.1)
theorem callI (W : Here G X M vm T h C S) {y z : MethodName} {idx count : Nat} {cl : String} (w1 : (Jvm.Cond.methodLink M.y.cls idx y).before G.a0 G.Z = true) (w2 : (Jvm.Cond.declares y).before G.a0 G.Z = true) (wf : (Jvm.Cond.interfaceMethod y.cls y.cls y.name y.desc).before G.a0 G.Z = true) (hfa : ((Jvm.Cond.interfaceMethod y.cls y.cls y.name y.desc).onTables && (Jvm.Cond.interfaceMethod y.cls y.cls y.name y.desc).keepsFace) = true) (w3 : (Jvm.Cond.selects cl y z).before G.a0 G.Z = true) (w4 : (Jvm.Cond.instanceMethod z).before G.a0 G.Z = true)
    (w5 : (Jvm.Cond.publicMethod z).before G.a0 G.Z = true) (w6 : (Jvm.Cond.unhidden cl y.name y.desc).before G.a0 G.Z = true) (w7 : (Jvm.Cond.castable cl y.cls).before G.a0 G.Z = true)
    (hy : y.cls ≠ "java/lang/invoke/MethodHandle" ∧ y.cls ≠ "java/lang/invoke/VarHandle") {wd kc ks : Nat} {a : Addr} {argsL rest : List Value} {Qy : Option Value → Heap → Prop} (P : Pay G X M vm h z 5 wd (.ref a :: argsL).toArray kc ks Qy) (E : Exa G.Z h a cl) (hsz : Ls.size = M.maxL) (hlen : ∀ sig, parseMethodDescriptor y.desc = some sig → argsL.length = sig.parameters.length)
    (hstk : st = argsL.reverse ++ .ref a :: rest) (hwd : (rest.map fun v => v.category).sum ≤ wd) (hd : decode M.bytes pc = .ok (.invokeinterface idx count, 5)) (pc' : Nat) (hp : pc + 5 = pc') (C' S' : Nat) (hc : C + kc ≤ C') (hs : S + ks ≤ S') (hc' : C' ≤ M.R.cells) (hs' : S' ≤ M.R.slots)
    (k : ∀ (vm' : Vm) (T' : State) (h' : Heap) (v : Option Value), Here G X M vm' T' h' C' S' → CHr G.Z G.EL vm h vm' h' → Qy v h' → Go G X M Q T' pc' Ls (v.toList ++ rest)) : Go G X M Q T pc Ls st := by
  subst hp hstk
  obtain ⟨F, k0, locs, cells, slots, X1, e1, hS, hk, hZ, hown, hCH, hF, O, c1, s1⟩ := id W
  obtain ⟨cq, kq, qa, qb, qc⟩ := isOf (s := X.s.setVm vm) hZ e1 E
  subst e1
  obtain ⟨v, vm₁, B, -, X', h2, hg, ⟨L, hq⟩, st'⟩ := X1.interfaceBackS W.x (xi := y) (y := z) hown (mv (s := X.s.setVm vm) hZ w1) (mv (s := X.s.setVm vm) hZ w2) (mv (s := X.s.setVm vm) hZ wf hfa) (mv (s := X.s.setVm vm) hZ w3) (mv (s := X.s.setVm vm) hZ w4) (mv (s := X.s.setVm vm) hZ w5) (mv (s := X.s.setVm vm) hZ w6) (mv (s := X.s.setVm vm) hZ w7) hy P qa qb qc (g := mkF X.m pc Ls (argsL.reverse ++ .ref a :: rest)) rfl (hsz.trans F.2.2.1.symm) (Steps.refl _) (argsL := argsL) (rest := rest) hlen rfl (by show 2 * 0 + _ ≤ _; omega) (W.d hd) (fun _ _ => ⟨rfl, rfl, by show cells + kc ≤ _; omega, by show slots + ks ≤ _; omega⟩)
  exact Go.stp (fun t r => st'.trans r) (k B.U.vm B.U B.U.heap v (Here.call W hc hs hS hk hown hCH hF c1 s1 X' h2 hg hq) hq.2.2.2.2 hq.1.1)
/-! ### steps on the heap -/
theorem Here.ext (W : Here G X M vm T h C S) {T' : State} {h' : Heap} {k0 : Nat} {locs : List Loc} {cells slots C' S' : Nat} (hS : X.s.Since vm k0) (hk : k0 ≤ h.size) (hown : vm.findClass M.y.cls = some X.m.cls) (hCH : CHr G.Z G.EL X.s.vm X.s.heap vm h) (hF : Fr G.n0 locs)
    (X' : Stand X.p G.l X.e M.R (X.s.setVm vm) X.m X.args X.below X.meth X.c T' locs cells slots) (e' : T'.heap = h') (E : Ext h h') (hc : cells ≤ C') (hs : slots ≤ S') : Here G X M vm T' h' C' S' :=
  ⟨W.1, k0, locs, cells, slots, X', e', hS, Nat.le_trans hk E.1, W.wz, hown, hCH.trans (CHr.ext E hCH.1), hF, W.old.ext E, hc, hs⟩
theorem newO (W : Here G X M vm T h C S) {cl : String} {idx n : Nat} (w : (Jvm.Cond.classLink M.y.cls idx cl).before G.a0 G.Z = true) (wi : (Jvm.Cond.instantiable cl n).before G.a0 G.Z = true) (wz : (Jvm.Cond.initialized cl).before G.a0 G.Z = true) (hd : decode M.bytes pc = .ok (.new idx, 3)) (pc' : Nat) (hp : pc + 3 = pc') (C' S' : Nat) (hc : C + 1 ≤ C') (hs : S + n ≤ S') (hc' : C' ≤ M.R.cells) (hs' : S' ≤ M.R.slots)
    (k : ∀ (T' : State) (h' : Heap) (a : Addr), a = h.size → Here G X M vm T' h' C' S' → Ext h h' → Exa G.Z h' a cl → (∀ {O nm d : String} {ty : FieldType}, Laid G.Z G.a0 cl O nm d → parseFieldDescriptor d = some ty → Fld G.Z h' a O nm d (defaultValue ty)) → Safe G.Z G.EL vm h' a → (∀ y, Safe G.Z G.EL vm h y → Safe G.Z G.EL vm h' y) → Go G X M Q T' pc' Ls (.ref a :: st)) : Go G X M Q T pc Ls st := by
  subst hp
  obtain ⟨F, k0, locs, cells, slots, X1, e1, hS, hk, hZ, hown, hCH, hF, O, c1, s1⟩ := id W
  obtain ⟨T', h', X', e', E, A, D, -, st'⟩ := RoadKit.newO X1 W.x hZ hown w wi wz e1 (g := mkF X.m pc Ls st) rfl (W.d hd) (by omega) (by omega)
  exact Go.stp (fun t r => st' t r) (k T' h' h.size rfl (Here.ext W hS hk hown hCH hF X' e' E (by omega) (by omega)) E A D (Safe.ext E hCH.1 (Safe.new (Nat.le_refl _))) (fun y q => Safe.ext E hCH.1 q))
theorem newA (W : Here G X M vm T h C S) {aty : ArrayType} {n : Int32} (w : (Jvm.Cond.arrayClass (newarray.typeOf aty)).before G.a0 G.Z = true) (hd : decode M.bytes pc = .ok (.newarray aty, 2)) (pc' : Nat) (hp : pc + 2 = pc') (hn : ¬ n < 0) (cap : Nat) (hcap : n.toNatClampNeg ≤ cap) (hb : cap * 8 ≤ 536870912) (C' S' : Nat) (hc : C + 1 ≤ C') (hs : S + cap ≤ S') (hc' : C' ≤ M.R.cells) (hs' : S' ≤ M.R.slots)
    (k : ∀ (T' : State) (h' : Heap) (a : Addr) (kA : ClassId), a = h.size → Here G X M vm T' h' C' S' → Ext h h' → Arv G.Z h' a kA (newarray.typeOf aty) n (List.replicate cap (defaultValue (newarray.typeOf aty))) (defaultValue (newarray.typeOf aty)) → Safe G.Z G.EL vm h' a → (∀ y, Safe G.Z G.EL vm h y → Safe G.Z G.EL vm h' y) → Go G X M Q T' pc' Ls (.ref a :: st)) : Go G X M Q T pc Ls (.int n :: st) := by
  subst hp
  obtain ⟨F, k0, locs, cells, slots, X1, e1, hS, hk, hZ, hown, hCH, hF, O, c1, s1⟩ := id W
  obtain ⟨T', h', kA, X', e', E, A, st'⟩ := RoadKit.newP X1 W.x hZ w e1 (g := mkF X.m pc Ls (.int n :: st)) rfl (W.d hd) rfl hn hcap hb (by omega) (by omega)
  exact Go.stp (fun t r => st' t r) (k T' h' h.size kA rfl (Here.ext W hS hk hown hCH hF X' e' E (by omega) (by omega)) E ((Arv.new A hn).pad (pad_rep [] _ cap)) (Safe.ext E hCH.1 (Safe.new (Nat.le_refl _))) (fun y q => Safe.ext E hCH.1 q))
theorem getF (W : Here G X M vm T h C S) {R0 O n d : String} {idx : Nat} {a : Addr} {v : Value} (w : (Jvm.Cond.fieldLink M.y.cls idx R0 n d).before G.a0 G.Z = true) (via : Via G.Z R0 O n d) (F : Fld G.Z h a O n d v) (hd : decode M.bytes pc = .ok (.getfield idx, 3)) (pc' : Nat) (hp : pc + 3 = pc')
    (k : ∀ T' : State, Here G X M vm T' h C S → Go G X M Q T' pc' Ls (v :: st)) : Go G X M Q T pc Ls (.ref a :: st) := by
  subst hp
  obtain ⟨F', k0, locs, cells, slots, X1, e1, hS, hk, hZ, hown, hCH, hF, O', c1, s1⟩ := id W
  obtain ⟨T', X', e', st'⟩ := RoadKit.getF X1 W.x hZ hown (host := "") (Or.inl w) via e1 F (g := mkF X.m pc Ls (.ref a :: st)) rfl rfl (W.d hd)
  exact Go.stp (fun t r => st' t r) (k T' (Here.ext W hS hk hown hCH hF X' e' (Ext.rfl' h) c1 s1))
theorem getS (W : Here G X M vm T h C S) {R0 O n d : String} {idx : Nat} {v : Value} (w : (Jvm.Cond.fieldLink M.y.cls idx R0 n d).before G.a0 G.Z = true) (via : Via G.Z R0 O n d) (F : Sta G.Z h O n d v) (hd : decode M.bytes pc = .ok (.getstatic idx, 3)) (pc' : Nat) (hp : pc + 3 = pc')
    (k : ∀ T' : State, Here G X M vm T' h C S → Go G X M Q T' pc' Ls (v :: st)) : Go G X M Q T pc Ls st := by
  subst hp
  obtain ⟨F', k0, locs, cells, slots, X1, e1, hS, hk, hZ, hown, hCH, hF, O', c1, s1⟩ := id W
  obtain ⟨T', X', e', st'⟩ := RoadKit.getS X1 W.x hZ (host := "") hown w via e1 F (g := mkF X.m pc Ls st) rfl (W.d hd)
  exact Go.stp (fun t r => st' t r) (k T' (Here.ext W hS hk hown hCH hF X' e' (Ext.rfl' h) c1 s1))
theorem castY (W : Here G X M vm T h C S) {K : String} {idx : Nat} {a : Addr} (w : (Jvm.Cond.classLink M.y.cls idx K).before G.a0 G.Z = true) (F : Ins G.Z h a K true) (hd : decode M.bytes pc = .ok (.checkcast idx, 3)) (pc' : Nat) (hp : pc + 3 = pc')
    (k : ∀ T' : State, Here G X M vm T' h C S → Go G X M Q T' pc' Ls (.ref a :: st)) : Go G X M Q T pc Ls (.ref a :: st) := by
  subst hp
  obtain ⟨F', k0, locs, cells, slots, X1, e1, hS, hk, hZ, hown, hCH, hF, O', c1, s1⟩ := id W
  obtain ⟨T', X', e', st'⟩ := RoadKit.castY X1 W.x hZ hown w e1 F (g := mkF X.m pc Ls (.ref a :: st)) rfl rfl (W.d hd)
  exact Go.stp (fun t r => st' t r) (k T' (Here.ext W hS hk hown hCH hF X' e' (Ext.rfl' h) c1 s1))
theorem instY (W : Here G X M vm T h C S) {K : String} {idx : Nat} {a : Addr} (w : (Jvm.Cond.classLink M.y.cls idx K).before G.a0 G.Z = true) (F : Ins G.Z h a K true) (hd : decode M.bytes pc = .ok (.instanceof idx, 3)) (pc' : Nat) (hp : pc + 3 = pc')
    (k : ∀ T' : State, Here G X M vm T' h C S → Go G X M Q T' pc' Ls (.int 1 :: st)) : Go G X M Q T pc Ls (.ref a :: st) := by
  subst hp
  obtain ⟨F', k0, locs, cells, slots, X1, e1, hS, hk, hZ, hown, hCH, hF, O', c1, s1⟩ := id W
  obtain ⟨T', X', e', st'⟩ := RoadKit.instY X1 W.x hZ hown w e1 F (g := mkF X.m pc Ls (.ref a :: st)) rfl rfl (W.d hd)
  exact Go.stp (fun t r => st' t r) (k T' (Here.ext W hS hk hown hCH hF X' e' (Ext.rfl' h) c1 s1))
theorem instNo (W : Here G X M vm T h C S) {K c0 : String} {idx : Nat} {a : Addr} (w : (Jvm.Cond.classLink M.y.cls idx K).before G.a0 G.Z = true) (E : Exa G.Z h a c0) (F : ∃ c t, G.Z.vm.findClass c0 = some c ∧ G.Z.vm.findClass K = some t ∧ G.Z.vm.assignable c t = false) (hd : decode M.bytes pc = .ok (.instanceof idx, 3)) (pc' : Nat) (hp : pc + 3 = pc')
    (k : ∀ T' : State, Here G X M vm T' h C S → Go G X M Q T' pc' Ls (.int 0 :: st)) : Go G X M Q T pc Ls (.ref a :: st) := by
  subst hp
  obtain ⟨F', k0, locs, cells, slots, X1, e1, hS, hk, hZ, hown, hCH, hF, O', c1, s1⟩ := id W
  obtain ⟨T', X', e', st'⟩ := RoadKit.instNo X1 W.x hZ hown w e1 E F (g := mkF X.m pc Ls (.ref a :: st)) rfl rfl (W.d hd)
  exact Go.stp (fun t r => st' t r) (k T' (Here.ext W hS hk hown hCH hF X' e' (Ext.rfl' h) c1 s1))
theorem instNull (W : Here G X M vm T h C S) {idx : Nat} (hd : decode M.bytes pc = .ok (.instanceof idx, 3)) (pc' : Nat) (hp : pc + 3 = pc') (k : Go G X M Q T pc' Ls (.int 0 :: st)) : Go G X M Q T pc Ls (.null :: st) := by
  subst hp
  obtain ⟨F', k0, locs, cells, slots, X1, -⟩ := id W
  exact Go.stp (fun t r => X1.instanceofNull W.x (g := mkF X.m pc Ls (.null :: st)) rfl rfl (W.d hd) t r) k
theorem castNull (W : Here G X M vm T h C S) {idx : Nat} (hd : decode M.bytes pc = .ok (.checkcast idx, 3)) (pc' : Nat) (hp : pc + 3 = pc') (k : Go G X M Q T pc' Ls (.null :: st)) : Go G X M Q T pc Ls (.null :: st) := by
  subst hp
  obtain ⟨F', k0, locs, cells, slots, X1, -⟩ := id W
  exact Go.stp (fun t r => X1.checkcastNull W.x (g := mkF X.m pc Ls (.null :: st)) rfl rfl (W.d hd) t r) k
theorem Here.wr (W : Here G X M vm T h C S) {T' : State} {h' : Heap} {k0 : Nat} {locs : List Loc} {cells slots : Nat} {a : Addr} {sl : Nat} {v : Value} (hS : X.s.Since vm k0) (hk : k0 ≤ h.size) (hown : vm.findClass M.y.cls = some X.m.cls) (hCH : CHr G.Z G.EL X.s.vm X.s.heap vm h) (hF : Fr G.n0 locs) (ha : G.n0 ≤ a) (sf : Safe G.Z G.EL vm h a)
    (X' : Stand X.p G.l X.e M.R (X.s.setVm vm) X.m X.args X.below X.meth X.c T' (locs ++ [⟨a, sl⟩]) cells slots) (e' : T'.heap = h') (E : Wr h h' a sl v) (hc : cells ≤ C) (hs : slots ≤ S) : Here G X M vm T' h' C S :=
  ⟨W.1, k0, _, cells, slots, X', e', hS, by rw [E.size]; exact hk, W.wz, hown, hCH.trans (CHr.wr E sf hCH.1), Fr.snoc X' hF ha, W.old.wr E ha, hc, hs⟩
theorem putF (W : Here G X M vm T h C S) {R0 O n d cl : String} {idx kk : Nat} {ty : FieldType} {a : Addr} {v v' old : Value} (w : (Jvm.Cond.fieldLink M.y.cls idx R0 n d).before G.a0 G.Z = true) (via : Via G.Z R0 O n d) (F : Fld G.Z h a O n d old) (E : Exa G.Z h a cl)
    (L : (Jvm.Cond.lays cl O n d).before G.a0 G.Z = true ∨ ((Jvm.Cond.laysFinal cl O n d).before G.a0 G.Z = true ∧ M.y.cls = O ∧ M.y.name = "<init>")) (wi : (Jvm.Cond.instantiable cl kk).before G.a0 G.Z = true) (hty : parseFieldDescriptor d = some ty) (hn : narrow ty v = v') (hf : fits ty v' = true) (ha : G.n0 ≤ a) (sf : Safe G.Z G.EL vm h a)
    (hd : decode M.bytes pc = .ok (.putfield idx, 3)) (pc' : Nat) (hp : pc + 3 = pc') (k : ∀ (T' : State) (h' : Heap), Here G X M vm T' h' C S → Wr h h' a (RoadKit.slotOf G.Z O n d) v' → (∀ y, Safe G.Z G.EL vm h y → Safe G.Z G.EL vm h' y) → Go G X M Q T' pc' Ls st) : Go G X M Q T pc Ls (v :: .ref a :: st) := by
  subst hp
  obtain ⟨F', k0, locs, cells, slots, X1, e1, hS, hk, hZ, hown, hCH, hF, O', c1, s1⟩ := id W
  obtain ⟨T', h', X', e', Wq, st'⟩ := RoadKit.putFN X1 W.x hZ hown w via e1 F E (L.imp id fun q => ⟨q.1, q.2.1, F'.2.2.2.2.2.1.trans q.2.2⟩) wi hty hn hf (g := mkF X.m pc Ls (v :: .ref a :: st)) rfl rfl (W.d hd)
  exact Go.stp (fun t r => st' t r) (k T' h' (Here.wr W hS hk hown hCH hF ha sf X' e' Wq c1 s1) Wq (fun y q => Safe.wr Wq sf hCH.1 q))
theorem castore (W : Here G X M vm T h C S) {a : Addr} {kA : ClassId} {z j x : Int32} {vs : List Value} {dv : Value} (A : Arv G.Z h a kA .char z vs dv) (i : Nat) (hj : j.toNatClampNeg = i) (hj0 : ¬ j < 0 ∧ j < z) (hi : i < vs.length) (ha : G.n0 ≤ a) {x' : Int32} (hx' : nar .char x = x') (hd : decode M.bytes pc = .ok (.castore, 1)) (pc' : Nat) (hp : pc + 1 = pc')
    (k : ∀ (T' : State) (h' : Heap), Here G X M vm T' h' C S → Wr h h' a i (.int x') → Arv G.Z h' a kA .char z (vs.set i (.int x')) dv → (∀ y, Safe G.Z G.EL vm h y → Safe G.Z G.EL vm h' y) → Go G X M Q T' pc' Ls st) : Go G X M Q T pc Ls (.int x :: .int j :: .ref a :: st) := by
  subst hp hj hx'
  obtain ⟨F', k0, locs, cells, slots, X1, e1, hS, hk, hZ, hown, hCH, hF, O', c1, s1⟩ := id W
  have sf : Safe G.Z G.EL vm h a := Safe.arv hZ.alike A (by decide)
  obtain ⟨cl, A1, q, Sz, Nz, H, Gz⟩ := A
  obtain ⟨T', h', X', e', Wq, st'⟩ := RoadKit.stC X1 W.x hZ e1 A1 (j := j) (inb_of Sz hj0) (g := mkF X.m pc Ls (.int x :: .int j :: .ref a :: st)) rfl rfl (W.d hd)
  exact Go.stp (fun t r => st' t r) (k T' h' (Here.wr W hS hk hown hCH hF ha sf X' e' Wq c1 s1) Wq (Arv.set A1 q Sz Nz H Gz (fits_nar_char _) Wq _ rfl hi) (fun y q => Safe.wr Wq sf hCH.1 q))
theorem arrlen (W : Here G X M vm T h C S) {a : Addr} {kA : ClassId} {ty : FieldType} {z : Int32} {vs : List Value} {dv : Value} (A : Arv G.Z h a kA ty z vs dv) (hd : decode M.bytes pc = .ok (.arraylength, 1)) (pc' : Nat) (hp : pc + 1 = pc') (k : Go G X M Q T pc' Ls (.int z :: st)) : Go G X M Q T pc Ls (.ref a :: st) := by
  subst hp
  obtain ⟨F', k0, locs, cells, slots, X1, e1, hS, hk, hZ, hown, hCH, hF, O', c1, s1⟩ := id W
  obtain ⟨cl, A1, q, Sz, Nz, H, Gz⟩ := A
  rw [← len_of Sz Nz] at k
  exact Go.stp (fun t r => X1.arraylength W.x (by rw [e1]; exact A1.1) (State.isArrayOf_alike (T := X.s.setVm vm) hZ.alike A1.2.1) (g := mkF X.m pc Ls (.ref a :: st)) rfl rfl (W.d hd) t r) k
theorem caload (W : Here G X M vm T h C S) {a : Addr} {kA : ClassId} {z j : Int32} {vs : List Value} {dv : Value} (A : Arv G.Z h a kA .char z vs dv) (hj0 : ¬ j < 0 ∧ j < z) (v : Value) (hv : vs.getD j.toNatClampNeg dv = v) (hd : decode M.bytes pc = .ok (.caload, 1)) (pc' : Nat) (hp : pc + 1 = pc') (k : Go G X M Q T pc' Ls (v :: st)) : Go G X M Q T pc Ls (.int j :: .ref a :: st) := by
  subst hp
  obtain ⟨F', k0, locs, cells, slots, X1, e1, hS, hk, hZ, hown, hCH, hF, O', c1, s1⟩ := id W
  obtain ⟨cl, A1, q, Sz, Nz, H, Gz⟩ := A
  exact Go.stp (fun t r => X1.caload W.x (by rw [e1]; exact A1.1) (State.isArrayOf_alike (T := X.s.setVm vm) hZ.alike A1.2.1) A1.2.2 (inb_of Sz hj0) (H.at (inb_of Sz hj0) hv) (g := mkF X.m pc Ls (.int j :: .ref a :: st)) rfl rfl (W.d hd) t r) k
theorem bastore (W : Here G X M vm T h C S) {a : Addr} {kA : ClassId} {z j x : Int32} {vs : List Value} {dv : Value} (A : Arv G.Z h a kA .byte z vs dv) (i : Nat) (hj : j.toNatClampNeg = i) (hj0 : ¬ j < 0 ∧ j < z) (hi : i < vs.length) (ha : G.n0 ≤ a) (sf : Safe G.Z G.EL vm h a) {x' : Int32} (hx' : nar .byte x = x') (hd : decode M.bytes pc = .ok (.bastore, 1)) (pc' : Nat) (hp : pc + 1 = pc')
    (k : ∀ (T' : State) (h' : Heap), Here G X M vm T' h' C S → Wr h h' a i (.int x') → Arv G.Z h' a kA .byte z (vs.set i (.int x')) dv → (∀ y, Safe G.Z G.EL vm h y → Safe G.Z G.EL vm h' y) → Go G X M Q T' pc' Ls st) : Go G X M Q T pc Ls (.int x :: .int j :: .ref a :: st) := by
  subst hp hj hx'
  obtain ⟨F', k0, locs, cells, slots, X1, e1, hS, hk, hZ, hown, hCH, hF, O', c1, s1⟩ := id W
  obtain ⟨cl, A1, q, Sz, Nz, H, Gz⟩ := A
  obtain ⟨T', h', X', e', Wq, st'⟩ := RoadKit.stB X1 W.x hZ e1 A1 (j := j) (inb_of Sz hj0) (g := mkF X.m pc Ls (.int x :: .int j :: .ref a :: st)) rfl rfl (W.d hd)
  exact Go.stp (fun t r => st' t r) (k T' h' (Here.wr W hS hk hown hCH hF ha sf X' e' Wq c1 s1) Wq (Arv.set A1 q Sz Nz H Gz (fits_nar_byte _) Wq _ rfl hi) (fun y q => Safe.wr Wq sf hCH.1 q))
theorem baload (W : Here G X M vm T h C S) {a : Addr} {kA : ClassId} {z j : Int32} {vs : List Value} {dv : Value} (A : Arv G.Z h a kA .byte z vs dv) (hj0 : ¬ j < 0 ∧ j < z) (v : Value) (hv : vs.getD j.toNatClampNeg dv = v) (hd : decode M.bytes pc = .ok (.baload, 1)) (pc' : Nat) (hp : pc + 1 = pc') (k : Go G X M Q T pc' Ls (v :: st)) : Go G X M Q T pc Ls (.int j :: .ref a :: st) := by
  subst hp
  obtain ⟨F', k0, locs, cells, slots, X1, e1, hS, hk, hZ, hown, hCH, hF, O', c1, s1⟩ := id W
  obtain ⟨cl, A1, q, Sz, Nz, H, Gz⟩ := A
  exact Go.stp (fun t r => X1.baloadBytes W.x (by rw [e1]; exact A1.1) (State.isArrayOf_alike (T := X.s.setVm vm) hZ.alike A1.2.1) A1.2.2 (inb_of Sz hj0) (H.at (inb_of Sz hj0) hv) (g := mkF X.m pc Ls (.int j :: .ref a :: st)) rfl rfl (W.d hd) t r) k
theorem initO (W : Here G X M vm T h C S) {idx : Nat} {a : Addr} (w1 : (Jvm.Cond.methodLink M.y.cls idx Lib.objectInit).before G.a0 G.Z = true) (w2 : (Jvm.Cond.instanceMethod Lib.objectInit).before G.a0 G.Z = true) (w3 : (Jvm.Cond.code Lib.objectInit ⟨#[0xb1]⟩ 1 none).before G.a0 G.Z = true) (hsz : Ls.size = M.maxL)
    (hd : decode M.bytes pc = .ok (.invokespecial idx, 3)) (pc' : Nat) (hp : pc + 3 = pc') (hf : 1 ≤ M.R.frames) (hl : (st.map fun v => v.category).sum + 12 ≤ M.R.locals) (k : ∀ T' : State, Here G X M vm T' h C S → Go G X M Q T' pc' Ls st) : Go G X M Q T pc Ls (.ref a :: st) := by
  subst hp
  obtain ⟨F', k0, locs, cells, slots, X1, e1, hS, hk, hZ, hown, hCH, hF, O', c1, s1⟩ := id W
  obtain ⟨T', X', e', st'⟩ := RoadKit.initO X1 W.x hZ hown w1 w2 w3 e1 (g := mkF X.m pc Ls (.ref a :: st)) rfl (hsz.trans F'.2.2.1.symm) rfl (W.d hd) hf (W := (st.map fun v => v.category).sum) (by show 2 * 0 + _ ≤ _; omega) hl
  exact Go.stp (fun t r => st' t r) (k T' (Here.ext W hS hk hown hCH hF X' e' (Ext.rfl' h) c1 s1))
/-! ### more plain steps -/
theorem imul (W : Here G X M vm T h C S) {x y : Int32} (hd : decode M.bytes pc = .ok (.imul, 1)) (pc' : Nat) (hp : pc + 1 = pc') (k : Go G X M Q T pc' Ls (.int (x * y) :: st)) : Go G X M Q T pc Ls (.int y :: .int x :: st) := by
  subst hp; exact Go.stp (fun t r => XS.imul W.at W.x rfl (W.d hd) rfl r) k
theorem ior (W : Here G X M vm T h C S) {x y : Int32} (hd : decode M.bytes pc = .ok (.ior, 1)) (pc' : Nat) (hp : pc + 1 = pc') (k : Go G X M Q T pc' Ls (.int (x ||| y) :: st)) : Go G X M Q T pc Ls (.int y :: .int x :: st) := by
  subst hp; exact Go.stp (fun t r => XS.ior W.at W.x rfl (W.d hd) rfl r) k
theorem ishr (W : Here G X M vm T h C S) {x y : Int32} (hd : decode M.bytes pc = .ok (.ishr, 1)) (pc' : Nat) (hp : pc + 1 = pc') (k : Go G X M Q T pc' Ls (.int (x >>> (y &&& 31)) :: st)) : Go G X M Q T pc Ls (.int y :: .int x :: st) := by
  subst hp; exact Go.stp (fun t r => XS.ishr W.at W.x rfl (W.d hd) rfl r) k
theorem ishl (W : Here G X M vm T h C S) {x y : Int32} (hd : decode M.bytes pc = .ok (.ishl, 1)) (pc' : Nat) (hp : pc + 1 = pc') (k : Go G X M Q T pc' Ls (.int (x <<< (y &&& 31)) :: st)) : Go G X M Q T pc Ls (.int y :: .int x :: st) := by
  subst hp; exact Go.stp (fun t r => XS.ishl W.at W.x rfl (W.d hd) rfl r) k
theorem ladd (W : Here G X M vm T h C S) {x y : Int64} (hd : decode M.bytes pc = .ok (.ladd, 1)) (pc' : Nat) (hp : pc + 1 = pc') (k : Go G X M Q T pc' Ls (.long (x + y) :: st)) : Go G X M Q T pc Ls (.long y :: .long x :: st) := by
  subst hp; exact Go.stp (fun t r => XS.ladd W.at W.x rfl (W.d hd) rfl r) k
theorem lsub (W : Here G X M vm T h C S) {x y : Int64} (hd : decode M.bytes pc = .ok (.lsub, 1)) (pc' : Nat) (hp : pc + 1 = pc') (k : Go G X M Q T pc' Ls (.long (x - y) :: st)) : Go G X M Q T pc Ls (.long y :: .long x :: st) := by
  subst hp; exact Go.stp (fun t r => XS.lsub W.at W.x rfl (W.d hd) rfl r) k
theorem lcmp (W : Here G X M vm T h C S) {x y : Int64} (hd : decode M.bytes pc = .ok (.lcmp, 1)) (pc' : Nat) (hp : pc + 1 = pc') (k : Go G X M Q T pc' Ls (.int (XT.cmpL x y) :: st)) : Go G X M Q T pc Ls (.long y :: .long x :: st) := by
  subst hp; exact Go.stp (fun t r => XS.lcmp W.at W.x rfl (W.d hd) rfl r) k
theorem lneg (W : Here G X M vm T h C S) {x : Int64} (hd : decode M.bytes pc = .ok (.lneg, 1)) (pc' : Nat) (hp : pc + 1 = pc') (k : Go G X M Q T pc' Ls (.long (-x) :: st)) : Go G X M Q T pc Ls (.long x :: st) := by
  subst hp; exact Go.stp (fun t r => XS.lneg W.at W.x rfl (W.d hd) rfl r) k
theorem i2l (W : Here G X M vm T h C S) {x : Int32} (hd : decode M.bytes pc = .ok (.i2l, 1)) (pc' : Nat) (hp : pc + 1 = pc') (k : Go G X M Q T pc' Ls (.long x.toInt64 :: st)) : Go G X M Q T pc Ls (.int x :: st) := by
  subst hp; exact Go.stp (fun t r => XS.i2l W.at W.x rfl (W.d hd) rfl r) k
theorem l2i (W : Here G X M vm T h C S) {x : Int64} (hd : decode M.bytes pc = .ok (.l2i, 1)) (pc' : Nat) (hp : pc + 1 = pc') (k : Go G X M Q T pc' Ls (.int x.toInt32 :: st)) : Go G X M Q T pc Ls (.long x :: st) := by
  subst hp; exact Go.stp (fun t r => XS.l2i W.at W.x rfl (W.d hd) rfl r) k
theorem lushr (W : Here G X M vm T h C S) {x : Int64} {y : Int32} (hd : decode M.bytes pc = .ok (.lushr, 1)) (pc' : Nat) (hp : pc + 1 = pc') (k : Go G X M Q T pc' Ls (.long ((x.toUInt64 >>> (y &&& 0x3f).toInt64.toUInt64).toInt64) :: st)) : Go G X M Q T pc Ls (.int y :: .long x :: st) := by
  subst hp; exact Go.stp (fun t r => XS.lushr W.at W.x rfl (W.d hd) rfl r) k
theorem idiv (W : Here G X M vm T h C S) {x y : Int32} (hd : decode M.bytes pc = .ok (.idiv, 1)) (pc' : Nat) (hp : pc + 1 = pc') (hy : y ≠ 0) (k : Go G X M Q T pc' Ls (.int (x / y) :: st)) : Go G X M Q T pc Ls (.int y :: .int x :: st) := by
  subst hp; exact Go.stp (fun t r => XS.idiv W.at W.x rfl (W.d hd) rfl hy r) k
theorem lconst (W : Here G X M vm T h C S) {j : Fin 2} (hd : decode M.bytes pc = .ok (.lconst j, 1)) (pc' : Nat) (hp : pc + 1 = pc') (v : Int64) (hv : Int64.ofNat j = v) (k : Go G X M Q T pc' Ls (.long v :: st)) : Go G X M Q T pc Ls st := by
  subst hp hv; exact Go.stp (fun t r => XS.lconst W.at W.x rfl (W.d hd) r) k
theorem lloadN (W : Here G X M vm T h C S) {j : Fin 4} (hd : decode M.bytes pc = .ok (.lload_n j, 1)) (pc' : Nat) (hp : pc + 1 = pc') (v : Int64) (hl : Ls[j.val]? = some (.val (.long v))) (k : Go G X M Q T pc' Ls (.long v :: st)) : Go G X M Q T pc Ls st := by
  subst hp; exact Go.stp (fun t r => XS.lloadN W.at W.x rfl (W.d hd) hl r) k
theorem lload (W : Here G X M vm T h C S) {j : Nat} (hd : decode M.bytes pc = .ok (.lload j, 2)) (pc' : Nat) (hp : pc + 2 = pc') (v : Int64) (hl : Ls[j]? = some (.val (.long v))) (k : Go G X M Q T pc' Ls (.long v :: st)) : Go G X M Q T pc Ls st := by
  subst hp; exact Go.stp (fun t r => XS.lload W.at W.x rfl (W.d hd) hl r) k
theorem lstoreN (W : Here G X M vm T h C S) {j : Fin 4} {x : Int64} (hd : decode M.bytes pc = .ok (.lstore_n j, 1)) (pc' : Nat) (hp : pc + 1 = pc') (Ls' : Array Slot) (hl : storeLocals Ls j.val (.long x) = some Ls') (k : Go G X M Q T pc' Ls' st) : Go G X M Q T pc Ls (.long x :: st) := by
  subst hp; exact Go.stp (fun t r => XS.lstoreN W.at W.x rfl (W.d hd) rfl hl r) k
theorem lstore (W : Here G X M vm T h C S) {j : Nat} {x : Int64} (hd : decode M.bytes pc = .ok (.lstore j, 2)) (pc' : Nat) (hp : pc + 2 = pc') (Ls' : Array Slot) (hl : storeLocals Ls j (.long x) = some Ls') (k : Go G X M Q T pc' Ls' st) : Go G X M Q T pc Ls (.long x :: st) := by
  subst hp; exact Go.stp (fun t r => XS.lstore W.at W.x rfl (W.d hd) rfl hl r) k
theorem ldcI (W : Here G X M vm T h C S) {idx : Nat} {v : Int32} (w : (Jvm.Cond.constant M.y.cls idx v).before G.a0 G.Z = true) (hd : decode M.bytes pc = .ok (.ldc idx, 2)) (pc' : Nat) (hp : pc + 2 = pc') (k : Go G X M Q T pc' Ls (.int v :: st)) : Go G X M Q T pc Ls st := by
  subst hp
  obtain ⟨F', k0, locs, cells, slots, X1, e1, hS, hk, hZ, hown, -⟩ := id W
  exact Go.stp (fun t r => X1.ldcInt W.x hown (mv (s := X.s.setVm vm) hZ w) (g := mkF X.m pc Ls st) rfl (W.d hd) t r) k
theorem ldc2 (W : Here G X M vm T h C S) {idx : Nat} {v : Int64} (w : (Jvm.Cond.constantLong M.y.cls idx v).before G.a0 G.Z = true) (hd : decode M.bytes pc = .ok (.ldc2_w idx, 3)) (pc' : Nat) (hp : pc + 3 = pc') (k : Go G X M Q T pc' Ls (.long v :: st)) : Go G X M Q T pc Ls st := by
  subst hp
  obtain ⟨F', k0, locs, cells, slots, X1, e1, hS, hk, hZ, hown, -⟩ := id W
  exact Go.stp (fun t r => X1.ldc2Long W.x hown (mv (s := X.s.setVm vm) hZ w) (g := mkF X.m pc Ls st) rfl (W.d hd) t r) k
/-! ### String constants -/
theorem ldcR (W : Here G X M vm T h C S) {idx : Nat} {text : String} (w : (Jvm.Cond.stringLink M.y.cls idx text).before G.a0 G.Z = true) (wS : ∀ a ∈ Bundle.stringAtoms, a.before G.a0 G.Z = true) (hmem : (M.y.cls, idx) ∈ G.EL) {vs : List Value} {z : Int32} (ht : (∀ c ∈ text.toList, c.toNat < 256) ∧ text.toList.map (fun c => Value.int (Jvm.Lit.byteI c.toNat.toUInt16)) = vs) (hz : ¬ z < 0) (hl : z.toNatClampNeg = vs.length)
    (hd : decode M.bytes pc = .ok (.ldc idx, 2)) (pc' : Nat) (hp : pc + 2 = pc') (n : Nat) (hn : 4 * text.toList.length ≤ n) (hbig : n ≤ 536870912) (C' S' : Nat) (hc : C + 2 ≤ C') (hs : S + (n + 4) ≤ S') (hc' : C' ≤ M.R.cells) (hs' : S' ≤ M.R.slots)
    (k : ∀ (vm' : Vm) (T' : State) (h' : Heap) (a b : Addr) (kb : ClassId), Here G X M vm' T' h' C' S' → CHr G.Z G.EL vm h vm' h' → Ext h h' → Exa G.Z h' a "java/lang/String" → Fld G.Z h' a "java/lang/String" "coder" "B" (.int 0) → Fld G.Z h' a "java/lang/String" "value" "[B" (.ref b) → Arv G.Z h' b kb .byte z vs (.int 0) → (∀ x, Safe G.Z G.EL vm' h' x → x ≠ a ∧ x ≠ b) → Go G X M Q T' pc' Ls (.ref a :: st)) : Go G X M Q T pc Ls st := by
  subst hp
  obtain ⟨F', k0, locs, cells, slots, X1, e1, hS, hk, hZ, hown, hCH, hF, O', c1, s1⟩ := id W
  obtain ⟨a, T', h', k1, b, kb, X', e', E, hS', hk', hZ', ho', f1, f2, f3, f4, -, -, r1, -, r2, st'⟩ := ldcCH X1 W.x hZ hown w wS e1 hS hk F'.2.2.2.2.2.2 hmem hCH.1 ht hz hl (g := mkF X.m pc Ls st) rfl (W.d hd) hn hbig (by omega) (by omega)
  exact Go.stp (fun t r => st' t r) (k T'.vm T' h' a b kb ⟨F', k1, locs, _, _, X', e', hS', hk', hZ', ho', hCH.trans r1, hF, O'.ext E, by omega, by omega⟩ r1 E f1 f2 f3 f4 r2)
theorem ldcO (W : Here G X M vm T h C S) {idx : Nat} {text : String} (w : (Jvm.Cond.stringLink M.y.cls idx text).before G.a0 G.Z = true) (wS : ∀ a ∈ Bundle.stringAtoms, a.before G.a0 G.Z = true)
    (hd : decode M.bytes pc = .ok (.ldc idx, 2)) (pc' : Nat) (hp : pc + 2 = pc') (n : Nat) (hn : 4 * text.toList.length ≤ n) (hbig : n ≤ 536870912) (C' S' : Nat) (hc : C + 2 ≤ C') (hs : S + (n + 4) ≤ S') (hc' : C' ≤ M.R.cells) (hs' : S' ≤ M.R.slots)
    (k : ∀ (vm' : Vm) (T' : State) (h' : Heap) (a : Addr), Here G X M vm' T' h' C' S' → CHr G.Z G.EL vm h vm' h' → Ext h h' → Go G X M Q T' pc' Ls (.ref a :: st)) : Go G X M Q T pc Ls st := by
  subst hp
  obtain ⟨F', k0, locs, cells, slots, X1, e1, hS, hk, hZ, hown, hCH, hF, O', c1, s1⟩ := id W
  obtain ⟨a, T', h', k1, X', e', E, hS', hk', hZ', ho', r1, -, st'⟩ := ldcOH X1 W.x hZ hown w wS e1 hS hk F'.2.2.2.2.2.2 hCH.1 (g := mkF X.m pc Ls st) rfl (W.d hd) hn hbig (by omega) (by omega)
  exact Go.stp (fun t r => st' t r) (k T'.vm T' h' a ⟨F', k1, locs, _, _, X', e', hS', hk', hZ', ho', hCH.trans r1, hF, O'.ext E, by omega, by omega⟩ r1 E)
end Kit2
end Own
end Jvm.Pilot.@@N@@
namespace Jvm.Pilot.@@N@@
namespace Own
open Jvm Jvm.ClassFile Sem Op Lib Jvm.Free Jvm.Stand Jvm.LawKit Jvm.RoadKit
abbrev ST : String := "java/lang/String"
/-- a String that spells the chars cs, each 0 to 255 -/
def Str (Z : State) (h : Heap) (a : Addr) (cs : List Int32) : Prop := Exa Z h a ST ∧ Fld Z h a ST "coder" "B" (.int 0) ∧ (∀ c ∈ cs, ¬ c < 0 ∧ ¬ (255 : Int32) < c) ∧ cs.length ≤ 4000 ∧
  ∃ (b : Addr) (kb : ClassId), Fld Z h a ST "value" "[B" (.ref b) ∧ Arv Z h b kb .byte (Int32.ofNat cs.length) ((cs.map fun c => c.toInt8.toInt32).map Value.int) (.int 0)
theorem Str.ext {Z : State} {h h' : Heap} {a : Addr} {cs : List Int32} (F : Str Z h a cs) (E : Ext h h') : Str Z h' a cs := by
  obtain ⟨h1, h2, h3, h4, b, kb, h5, h6⟩ := F
  exact ⟨h1.ext E, h2.ext E, h3, h4, b, kb, h5.ext E, h6.ext E⟩
theorem Str.lt {Z : State} {h : Heap} {a : Addr} {cs : List Int32} (F : Str Z h a cs) : a < h.size := F.1.lt
theorem Str.exa {Z : State} {h : Heap} {a : Addr} {cs : List Int32} (F : Str Z h a cs) : Exa Z h a ST := F.1
/-- over a change of other objects, none of them a String or a byte[] -/
theorem Str.keep {Z : State} {h h' : Heap} {a : Addr} {cs : List Int32} {ws : List Addr} (F : Str Z h a cs) (K : Keep h h' ws) (ha : a ∉ ws) (hb : ∀ x ∈ ws, ∀ (cl : Cell), ¬ Arr Z h x cl .byte) : Str Z h' a cs := by
  obtain ⟨h1, h2, h3, h4, b, kb, h5, h6⟩ := F
  refine ⟨h1.keep K, h2.keep K ha, h3, h4, b, kb, h5.keep K ha, h6.keep K fun q => ?_⟩
  obtain ⟨cl, A, -⟩ := h6
  exact hb b q cl A
theorem codS {cs : List Int32} (hb : ∀ c ∈ cs, ¬ c < 0 ∧ ¬ (255 : Int32) < c) : StrChars.Road.CodA cs 0 (Int32.ofNat cs.length) ((cs.map fun c => c.toInt8.toInt32).map Value.int) :=
  Or.inl ⟨rfl, rfl, by rw [List.map_map]; rfl, fun c hc => (hb c hc).2⟩
theorem wide16 {cs : List Int32} (hb : ∀ c ∈ cs, ¬ c < 0 ∧ ¬ (255 : Int32) < c) : ∀ c ∈ cs, ¬ c < 0 ∧ ¬ (65535 : Int32) < c := fun c hc => ⟨(hb c hc).1, fun q => (hb c hc).2 (Int32.lt_trans (by decide) q)⟩
/-- the words of a String constant's load, and of the empty road of new String(char[]) -/
abbrev wordsS : List Jvm.Cond := StrChars.Road.words ++ [.initialized ST, .instantiable ST 4, .soleField ST "value", .soleField ST "coder", .stringLink ST 7 ""]
section Kit3
variable {G : Gl} {X : Rn} {M : Bo} {vm : Vm} {T : State} {h : Heap} {C S : Nat} {Q : Option Value → Heap → Prop} {pc pc' : Nat} {Ls Ls' : Array Slot} {st : List Value}
theorem sAtoms (hw : ∀ d ∈ wordsS, d.before G.a0 G.Z = true) : ∀ a ∈ Bundle.stringAtoms, a.before G.a0 G.Z = true := fun d hd => hw d ((by decide +kernel : ∀ d ∈ Bundle.stringAtoms, d ∈ wordsS) d hd)
theorem w1 (hw : ∀ d ∈ wordsS, d.before G.a0 G.Z = true) (d : Jvm.Cond) (hd : d ∈ wordsS := by decide +kernel) : d.before G.a0 G.Z = true := hw d hd
abbrev bNew4 : Bo := (StrChars.New4.yN, StrChars.New4.yB, 6, none, ({ frames := 1, cells := 4, slots := 8, locals := 12 } : Room))
abbrev bNew1 : Bo := (StrChars.New1.yN, StrChars.New1.yB, 2, none, ({ frames := 2, cells := 4, slots := 8, locals := 29 } : Room))
theorem e4_8 : decode StrChars.New4.yB 8 = .ok (.aload_n 0, 1) := by decide +kernel
theorem e4_9 : decode StrChars.New4.yB 9 = .ok (.ldc 7, 2) := by decide +kernel
theorem e4_11 : decode StrChars.New4.yB 11 = .ok (.getfield 9, 3) := by decide +kernel
theorem e4_14 : decode StrChars.New4.yB 14 = .ok (.putfield 9, 3) := by decide +kernel
theorem e4_17 : decode StrChars.New4.yB 17 = .ok (.aload_n 0, 1) := by decide +kernel
theorem e4_18 : decode StrChars.New4.yB 18 = .ok (.ldc 7, 2) := by decide +kernel
theorem e4_20 : decode StrChars.New4.yB 20 = .ok (.getfield 15, 3) := by decide +kernel
theorem e4_23 : decode StrChars.New4.yB 23 = .ok (.putfield 15, 3) := by decide +kernel
theorem e4_26 : decode StrChars.New4.yB 26 = .ok (.return_, 1) := by decide +kernel
theorem pnST : plainName "java/lang/String" = true := by first | (simp [plainName, overriddenIn]; done) | decide +kernel
theorem pd4 : parseMethodDescriptor "([CIILjava/lang/Void;)V" = some ⟨[.array .char, .int, .int, .object "java/lang/Void"], none⟩ := by decide +kernel
theorem pd1 : parseMethodDescriptor "([C)V" = some ⟨[.array .char], none⟩ := by decide +kernel
theorem ef4 (m : MethodId) (x b : Addr) : entryFrame m #[.ref x, .ref b, .int 0, .int 0, .null] 6 = mkF m 0 #[.val (.ref x), .val (.ref b), .val (.int 0), .val (.int 0), .val .null, .unset] [] := by first | (simp [entryFrame, mkF, argsToLocals, Value.category]; done) | rfl
theorem ef1 (m : MethodId) (x b : Addr) : entryFrame m #[.ref x, .ref b] 2 = mkF m 0 #[.val (.ref x), .val (.ref b)] [] := by first | (simp [entryFrame, mkF, argsToLocals, Value.category]; done) | rfl
set_option maxRecDepth 65536 in
set_option maxHeartbeats 4000000 in
theorem con_new4e (hw : ∀ d ∈ wordsS, d.before G.a0 G.Z = true) (hEL : EW G.Z G.a0 G.EL) (hmem : (ST, 7) ∈ G.EL) {x b : Addr} {v0 c0 : Value} (hO : Old G.Z G.n0 h) (hx0 : G.n0 ≤ x) (E : Exa G.Z h x ST) (V : Fld G.Z h x ST "value" "[B" v0) (Cd : Fld G.Z h x ST "coder" "B" c0) :
    Con G [] bNew4 #[.ref x, .ref b, .int 0, .int 0, .null] h [x] (fun v h' => v = none ∧ Keep h h' [x] ∧ Str G.Z h' x []) := by
  refine Con.intro (plainFor_of_name pnST) hO hEL _ (fun m => ef4 m x b) ?_
  intro X T W sf
  have sx := sf x (List.mem_singleton.mpr rfl)
  have wS := sAtoms hw
  refine aloadN W StrChars.New4.d0 1 rfl _ rfl rfl ?_
  refine initO W (w1 hw (.methodLink ST 1 Lib.objectInit)) (w1 hw (.instanceMethod Lib.objectInit)) (w1 hw (.code Lib.objectInit ⟨#[0xb1]⟩ 1 none)) rfl StrChars.New4.d1 4 rfl (by decide) (by decide) ?_
  intro T1 W1
  refine iloadN W1 StrChars.New4.d4 5 rfl _ rfl ?_
  refine ifNo W1 StrChars.New4.d5 8 (by decide) rfl ?_
  refine aloadN W1 e4_8 9 rfl _ rfl rfl ?_
  refine ldcR W1 (w1 hw (.stringLink ST 7 "")) wS hmem (vs := []) (z := 0) ⟨by decide, by decide⟩ (by decide) (by decide) e4_9 11 rfl 0 (by decide) (by decide) 2 4 (by decide) (by decide) (by decide) (by decide) ?_
  intro vm2 T2 h2 a2 b2 kb2 W2 R2 E2 fa fc fv fb hne
  have sx2 : Safe G.Z G.EL vm2 h2 x := R2.safe E.lt sx
  have ne2 := hne x sx2
  refine getF W2 (w1 hw (.fieldLink ST 9 ST "value" "[B")) Via.refl fv e4_11 14 rfl ?_
  intro T3 W3
  refine putF W3 (w1 hw (.fieldLink ST 9 ST "value" "[B")) Via.refl (V.ext E2) (E.ext E2) (Or.inr ⟨w1 hw (.laysFinal ST ST "value" "[B"), rfl, rfl⟩) (w1 hw (.instantiable ST 4)) (ty := .array .byte) (by decide) rfl rfl hx0 sx2 e4_14 17 rfl ?_
  intro T4 h4 W4 Wr4 k4
  refine aloadN W4 e4_17 18 rfl _ rfl rfl ?_
  refine ldcR W4 (w1 hw (.stringLink ST 7 "")) wS hmem (vs := []) (z := 0) ⟨by decide, by decide⟩ (by decide) (by decide) e4_18 20 rfl 0 (by decide) (by decide) 4 8 (by decide) (by decide) (by decide) (by decide) ?_
  intro vm5 T5 h5 a5 b5 kb5 W5 R5 E5 ga gc gv gb hne5
  have x4 : x < h4.size := by rw [Wr4.size]; exact (E.ext E2).lt
  have sx4 : Safe G.Z G.EL vm2 h4 x := k4 x sx2
  have sx5 : Safe G.Z G.EL vm5 h5 x := R5.safe x4 sx4
  refine getF W5 (w1 hw (.fieldLink ST 15 ST "coder" "B")) Via.refl gc e4_20 23 rfl ?_
  intro T6 W6
  have Ex5 : Exa G.Z h5 x ST := ((E.ext E2).wr Wr4).ext E5
  have sne : RoadKit.slotOf G.Z ST "coder" "B" ≠ RoadKit.slotOf G.Z ST "value" "[B" := slot_ne (Or.inr (w1 hw (.laysFinal ST ST "coder" "B"))) (Or.inr (w1 hw (.laysFinal ST ST "value" "[B"))) (by decide) (t := .byte) (t' := .array .byte) (by decide) (by decide)
  have Cd5 : Fld G.Z h5 x ST "coder" "B" c0 := ((Cd.ext E2).other Wr4 (Or.inr sne)).ext E5
  have V5 : Fld G.Z h5 x ST "value" "[B" (.ref b2) := ((V.ext E2).same Wr4).ext E5
  have B5 : Arv G.Z h5 b2 kb2 .byte 0 [] (.int 0) := (fb.other Wr4 (Ne.symm ne2.2)).ext E5
  refine putF W6 (w1 hw (.fieldLink ST 15 ST "coder" "B")) Via.refl Cd5 Ex5 (Or.inr ⟨w1 hw (.laysFinal ST ST "coder" "B"), rfl, rfl⟩) (w1 hw (.instantiable ST 4)) (ty := .byte) (v' := .int 0) (by decide) rfl rfl hx0 sx5 e4_23 26 rfl ?_
  intro T7 h7 W7 Wr7 _
  refine retV W7 (by decide) (by decide) rfl e4_26 ⟨rfl, ?_, ?_⟩
  · exact ((((Keep.refl h [x]).ext E2).wr Wr4 (Or.inl (List.mem_singleton.mpr rfl))).ext E5).wr Wr7 (Or.inl (List.mem_singleton.mpr rfl))
  · have nb : b2 ≠ x := Ne.symm ne2.2
    exact ⟨Ex5.wr Wr7, Cd5.same Wr7, by simp, by simp, b2, kb2, V5.other Wr7 (Or.inr (Ne.symm sne)), B5.other Wr7 nb⟩
set_option maxRecDepth 65536 in
set_option maxHeartbeats 4000000 in
theorem con_new1e (hw : ∀ d ∈ wordsS, d.before G.a0 G.Z = true) (hEL : EW G.Z G.a0 G.EL) (hmem : (ST, 7) ∈ G.EL) {x b : Addr} {kC : ClassId} {v0 c0 dv : Value} {vs : List Value} (hO : Old G.Z G.n0 h) (hx0 : G.n0 ≤ x) (E : Exa G.Z h x ST) (V : Fld G.Z h x ST "value" "[B" v0) (Cd : Fld G.Z h x ST "coder" "B" c0) (A : Arv G.Z h b kC .char 0 vs dv) :
    Con G [] bNew1 #[.ref x, .ref b] h [x] (fun v h' => v = none ∧ Keep h h' [x] ∧ Str G.Z h' x []) := by
  refine Con.intro (plainFor_of_name pnST) hO hEL _ (fun m => ef1 m x b) ?_
  intro X T W sf
  have sx := sf x (List.mem_singleton.mpr rfl)
  refine aloadN W StrChars.New1.d0 1 rfl _ rfl rfl ?_
  refine aloadN W StrChars.New1.d1 2 rfl _ rfl rfl ?_
  refine iconst W StrChars.New1.d2 3 rfl 0 rfl ?_
  refine aloadN W StrChars.New1.d3 4 rfl _ rfl rfl ?_
  refine arrlen W A StrChars.New1.d4 5 rfl ?_
  refine aconstNull W StrChars.New1.d5 6 rfl ?_
  refine callX W (y := StrChars.New4.yN) rfl (w1 hw (.methodLink ST 27 StrChars.New4.yN)) (w1 hw (.instanceMethod StrChars.New4.yN)) (w1 hw (.code StrChars.New4.yN StrChars.New4.yB 6 none)) (by decide) (argsL := [.ref b, .int 0, .int 0, .null]) (rest := [])
    (Con.pay (con_new4e hw hEL hmem hO hx0 E V Cd) W (w1 hw (.code StrChars.New4.yN StrChars.New4.yB 6 none)) (w1 hw (.initialized ST)) (len := 3) (wd := 0) (by decide) (by decide) (fun y hy => by cases List.mem_singleton.mp hy; exact ⟨E.lt, sx⟩)) rfl (lenOf pd4 rfl) rfl (by decide) StrChars.New1.d6 9 rfl 4 8 (by decide) (by decide) (by decide) (by decide) ?_
  intro vm1 T1 h1 v W1 R1 hq
  obtain ⟨rfl, K, F⟩ := hq
  exact retV W1 (by decide) (by decide) rfl StrChars.New1.d9 ⟨rfl, K, F⟩
/-- **new String(char[]) AT ITS CALL**: x the fresh String, b the char[] that holds cs -/
theorem payStr (hw : ∀ d ∈ wordsS, d.before G.a0 G.Z = true) (hEL : EW G.Z G.a0 G.EL) (hmem : (ST, 7) ∈ G.EL) (W : Here G X M vm T h C S) {x b : Addr} {kC : ClassId} {v0 c0 dv : Value} {cs : List Int32} {z cz : Int32} (hx0 : G.n0 ≤ x) (sx : Safe G.Z G.EL vm h x) (E : Exa G.Z h x ST) (V : Fld G.Z h x ST "value" "[B" v0) (Cd : Fld G.Z h x ST "coder" "B" c0)
    (A : Arv G.Z h b kC .char z (cs.map Value.int) dv) (hz : z = Int32.ofNat cs.length) (hcs : ∀ c ∈ cs, ¬ c < 0 ∧ ¬ (255 : Int32) < c) (hl : cs.length ≤ 4000) (hS : Sta G.Z G.Z.heap ST "COMPACT_STRINGS" "Z" (.int cz)) (hcz : ¬ cz = 0) {len wd : Nat} (hf : 4 ≤ M.R.frames) (hlo : wd + 65 ≤ M.R.locals) :
    Pay G X M vm h StrChars.New1.yN len wd #[.ref x, .ref b] 4 (8 + cs.length) (fun v h' => v = none ∧ Keep h h' [x] ∧ Str G.Z h' x cs) := by
  have hO := W.old
  subst hz
  match cs, A, hcs, hl with
  | [], A, _, _ =>
    exact Con.pay (con_new1e hw hEL hmem hO hx0 E V Cd A) W (w1 hw (.code StrChars.New1.yN StrChars.New1.yB 2 none)) (w1 hw (.initialized ST)) (by show 2 + 1 ≤ _; omega) (by show wd + (2 + 11) + 29 ≤ _; omega) (fun y hy => by cases List.mem_singleton.mp hy; exact ⟨E.lt, sx⟩)
  | c :: cs, A, hcs, hl =>
    have B := StrChars.Road.backV (p := X.p) (l := G.l) (e := X.e) (R := M.R) (s := X.s.setVm vm) (args := X.args) (below := X.below) (len := len) (W := wd) (Z := G.Z) (a0 := G.a0) W.wz (fun d hd => hw d (List.mem_append_left _ hd)) (kI := 4) (w1 hw (.instantiable ST 4)) hx0 W.n0 E V Cd A (W.sta hS) hcz (n := (c :: cs).length) rfl rfl (by simp) hl hcs rfl hf hlo
    have P := payB (Q' := fun v h' => v = none ∧ Keep h h' [x] ∧ Str G.Z h' x (c :: cs)) B W (fun v h' L q => by
      obtain ⟨q1, q2, q3, q4, q5, t, kb, q6, q7, q8, q9, q10⟩ := q
      have ks : ∀ y ∈ [x], Safe G.Z G.EL vm h y := fun y hy => by cases List.mem_singleton.mp hy; exact sx
      exact ⟨⟨q1, q3, q4, q5, hcs, hl, t, kb, q9, q10⟩, q2, hO.keep q3 (fun y hy => by cases List.mem_singleton.mp hy; exact hx0), CHr.keep q3 ks W.ch⟩)
    intro m meth c' A' g ig mk a X1 hg hsize hdg hW hn hp
    obtain ⟨v, B', r1, r2, r3, ⟨L, r4, r5, r6, r7, r8⟩, r9⟩ := P m meth c' A' g ig mk a X1 hg hsize hdg hW hn ⟨hp.1, hp.2.1, by have := hp.2.2.1; omega, by have := hp.2.2.2; omega⟩
    exact ⟨v, B', r1, r2, r3, ⟨L, r4, r5, by omega, by omega, r8⟩, r9⟩
end Kit3
/-! ### chars -/
def chr (x : Int32) : Int32 := x.toUInt32.toUInt16.toUInt32.toInt32
def us (x k : Int32) : Int32 := (x.toUInt32 >>> (k &&& 31).toUInt32).toInt32
/-- the low eight bits, as a char -/
def lo (x : Int32) : Int32 := chr (x &&& 255)
theorem chr_id {x : Int32} (h0 : 0 ≤ x.toInt) (h1 : x.toInt < 65536) : chr x = x := Int32.toInt_inj.mp (by
  have q := c_i2c x
  unfold chr
  omega)
theorem and255 (x : Int32) : 0 ≤ (x &&& 255).toInt ∧ (x &&& 255).toInt ≤ 255 := c_and x 255 (by decide)
theorem lo_eq (x : Int32) : lo x = x &&& 255 := chr_id (and255 x).1 (by have := (and255 x).2; omega)
theorem lo_rng (x : Int32) : ¬ lo x < 0 ∧ ¬ (255 : Int32) < lo x := by
  rw [lo_eq, Int32.lt_iff_toInt_lt, Int32.lt_iff_toInt_lt]
  have q := and255 x
  have e1 : (0 : Int32).toInt = 0 := by decide
  have e2 : (255 : Int32).toInt = 255 := by decide
  rw [e1, e2]; omega
theorem nar_of {c : Int32} (q : ¬ c < 0 ∧ ¬ (255 : Int32) < c) : nar .char c = c := by
  rw [Int32.lt_iff_toInt_lt, Int32.lt_iff_toInt_lt] at q
  have e1 : (0 : Int32).toInt = 0 := by decide
  have e2 : (255 : Int32).toInt = 255 := by decide
  rw [e1, e2] at q
  show chr c = c
  exact chr_id (by omega) (by omega)
theorem nar_b8 (x : Int32) : nar .byte x.toInt8.toInt32 = x.toInt8.toInt32 := by
  show (x.toInt8.toInt32).toInt8.toInt32 = x.toInt8.toInt32
  simp
theorem nar_lo (x : Int32) : nar .char (lo x) = lo x := by
  show chr (lo x) = lo x
  rw [lo_eq]; exact chr_id (and255 x).1 (by have := (and255 x).2; omega)
end Own
end Jvm.Pilot.@@N@@
namespace Jvm.Pilot.@@N@@
namespace Own
open Jvm Jvm.ClassFile Sem Op Lib Jvm.Free Jvm.Stand Jvm.LawKit Jvm.RoadKit
/-- the words of new String(char[]) of one char or more, and of a String constant's load -/
abbrev wordsN : List Jvm.Cond := StrChars.Road.words ++ [.initialized ST, .instantiable ST 4, .soleField ST "value", .soleField ST "coder"]
section KitN
variable {G : Gl} {X : Rn} {M : Bo} {vm : Vm} {T : State} {h : Heap} {C S : Nat} {Q : Option Value → Heap → Prop} {pc pc' : Nat} {Ls Ls' : Array Slot} {st : List Value}
theorem sAtomsN (hw : ∀ d ∈ wordsN, d.before G.a0 G.Z = true) : ∀ a ∈ Bundle.stringAtoms, a.before G.a0 G.Z = true := fun d hd => hw d ((by decide +kernel : ∀ d ∈ Bundle.stringAtoms, d ∈ wordsN) d hd)
theorem w1N (hw : ∀ d ∈ wordsN, d.before G.a0 G.Z = true) (d : Jvm.Cond) (hd : d ∈ wordsN := by decide +kernel) : d.before G.a0 G.Z = true := hw d hd
set_option maxRecDepth 65536 in
set_option maxHeartbeats 4000000 in
theorem payStrN (hw : ∀ d ∈ wordsN, d.before G.a0 G.Z = true) (W : Here G X M vm T h C S) {x b : Addr} {kC : ClassId} {v0 c0 dv : Value} {cs : List Int32} {z cz : Int32} (hx0 : G.n0 ≤ x) (sx : Safe G.Z G.EL vm h x) (E : Exa G.Z h x ST) (V : Fld G.Z h x ST "value" "[B" v0) (Cd : Fld G.Z h x ST "coder" "B" c0)
    (A : Arv G.Z h b kC .char z (cs.map Value.int) dv) (hne : cs ≠ []) (hz : z = Int32.ofNat cs.length) (hcs : ∀ c ∈ cs, ¬ c < 0 ∧ ¬ (255 : Int32) < c) (hl : cs.length ≤ 4000) (hS : Sta G.Z G.Z.heap ST "COMPACT_STRINGS" "Z" (.int cz)) (hcz : ¬ cz = 0) {len wd : Nat} (hf : 4 ≤ M.R.frames) (hlo : wd + 65 ≤ M.R.locals) :
    Pay G X M vm h StrChars.New1.yN len wd #[.ref x, .ref b] 1 cs.length (fun v h' => v = none ∧ Keep h h' [x] ∧ Str G.Z h' x cs) := by
  have hO := W.old
  subst hz
  cases cs with
  | nil => exact absurd rfl hne
  | cons c cs =>
    have B := StrChars.Road.backV (p := X.p) (l := G.l) (e := X.e) (R := M.R) (s := X.s.setVm vm) (args := X.args) (below := X.below) (len := len) (W := wd) (Z := G.Z) (a0 := G.a0) W.wz (fun d hd => hw d (List.mem_append_left _ hd)) (kI := 4) (w1N hw (.instantiable ST 4)) hx0 W.n0 E V Cd A (W.sta hS) hcz (n := (c :: cs).length) rfl rfl (by simp) hl hcs rfl hf hlo
    have P := payB (Q' := fun v h' => v = none ∧ Keep h h' [x] ∧ Str G.Z h' x (c :: cs)) B W (fun v h' L q => by
      obtain ⟨q1, q2, q3, q4, q5, t, kb, q6, q7, q8, q9, q10⟩ := q
      have ks : ∀ y ∈ [x], Safe G.Z G.EL vm h y := fun y hy => by cases List.mem_singleton.mp hy; exact sx
      exact ⟨⟨q1, q3, q4, q5, hcs, hl, t, kb, q9, q10⟩, q2, hO.keep q3 (fun y hy => by cases List.mem_singleton.mp hy; exact hx0), CHr.keep q3 ks W.ch⟩)
    exact P
end KitN
end Own
end Jvm.Pilot.@@N@@
namespace Jvm.Pilot.@@N@@
namespace Own
open Jvm Jvm.ClassFile Sem Op Lib Jvm.Free Jvm.Stand Jvm.LawKit Jvm.RoadKit
theorem payEq {G : Gl} {X : Rn} {M : Bo} {vm : Vm} {T : State} {h : Heap} {C S : Nat} {cs ds : List Int32} {x y : Addr} {cz : Int32} (hwE : ∀ d ∈ StrChars.Road.wordsEq, d.before G.a0 G.Z = true) {kI : Nat} (wi : (Jvm.Cond.instantiable ST kI).before G.a0 G.Z = true) (W : Here G X M vm T h C S) (F : Str G.Z h x cs) (F' : Str G.Z h y ds)
    (hS : Sta G.Z G.Z.heap ST "COMPACT_STRINGS" "Z" (.int cz)) (hcz : ¬ cz = 0) {len wd : Nat} (hf : 2 ≤ M.R.frames) (hlo : wd + 28 ≤ M.R.locals) :
    Pay G X M vm h ⟨"java/lang/String", "equals", "(Ljava/lang/Object;)Z"⟩ len wd #[.ref x, .ref y] 0 0 (fun v h' => ((v = some (.int 1) ∧ cs = ds) ∨ (v = some (.int 0) ∧ ¬ cs = ds)) ∧ h' = h) := by
  obtain ⟨h1, h2, h3, h4, b, kb, h5, h6⟩ := F
  obtain ⟨g1, g2, g3, g4, b', kb', g5, g6⟩ := F'
  exact payB (Qy := fun v h' L => ((v = some (.int 1) ∧ cs = ds) ∨ (v = some (.int 0) ∧ ¬ cs = ds)) ∧ L = [] ∧ h' = h) (StrChars.Road.eqW (p := X.p) (l := G.l) (e := X.e) (R := M.R) (s := X.s.setVm vm) (args := X.args) (below := X.below) (len := len) (W := wd) W.wz hwE wi h1 h5 h2 h6 (codS h3) (wide16 h3) h4 g1 g5 g2 g6 (codS g3) (wide16 g3) g4 (W.sta hS) hcz hf hlo) W (fun v h' L q => by
    obtain ⟨q1, rfl, q3⟩ := q
    subst q3
    exact ⟨⟨q1, rfl⟩, Fr.nil _, W.old, CHr.refl W.ch⟩)
end Own
end Jvm.Pilot.@@N@@
namespace Jvm.Pilot.@@N@@
namespace Own
open Jvm Jvm.ClassFile Sem Op Lib Jvm.Free Jvm.Stand Jvm.LawKit Jvm.RoadKit
theorem payLen {G : Gl} {X : Rn} {M : Bo} {vm : Vm} {T : State} {h : Heap} {C S : Nat} {cs : List Int32} {x : Addr} {cz : Int32} (hwE : ∀ d ∈ StrChars.Road.wordsLen, d.before G.a0 G.Z = true) {kI : Nat} (wi : (Jvm.Cond.instantiable ST kI).before G.a0 G.Z = true) (W : Here G X M vm T h C S) (F : Str G.Z h x cs)
    (hS : Sta G.Z G.Z.heap ST "COMPACT_STRINGS" "Z" (.int cz)) (hcz : ¬ cz = 0) {len wd : Nat} (hf : 2 ≤ M.R.frames) (hlo : wd + 25 ≤ M.R.locals) :
    Pay G X M vm h ⟨"java/lang/String", "length", "()I"⟩ len wd #[.ref x] 0 0 (fun v h' => v = some (.int (Int32.ofNat cs.length)) ∧ h' = h) := by
  obtain ⟨h1, h2, h3, h4, b, kb, h5, h6⟩ := F
  exact payB (Qy := fun v h' L => v = some (.int (Int32.ofNat cs.length)) ∧ L = [] ∧ h' = h) (StrChars.Road.lenW (p := X.p) (l := G.l) (e := X.e) (R := M.R) (s := X.s.setVm vm) (args := X.args) (below := X.below) (len := len) (W := wd) W.wz hwE wi h1 h5 h2 h6 (codS h3) (wide16 h3) (W.sta hS) hcz h4 hf hlo) W (fun v h' L q => by
    obtain ⟨q1, rfl, q3⟩ := q
    subst q3
    exact ⟨⟨q1, rfl⟩, Fr.nil _, W.old, CHr.refl W.ch⟩)
end Own
end Jvm.Pilot.@@N@@
namespace Jvm.Pilot.@@N@@
namespace Own
open Jvm Jvm.ClassFile Sem Op Lib Jvm.Free Jvm.Stand Jvm.LawKit Jvm.RoadKit
section Enum
variable {G : Gl} {X : Rn} {M : Bo} {vm : Vm} {T : State} {h : Heap} {C S : Nat} {Q : Option Value → Heap → Prop} {pc pc' : Nat} {Ls Ls' : Array Slot} {st : List Value}
theorem aaload (W : Here G X M vm T h C S) {a : Addr} {kA : ClassId} {ty : FieldType} {z j : Int32} {vs : List Value} {dv : Value} (A : Arv G.Z h a kA ty z vs dv) (hty : ty.isReference = true) (hj0 : ¬ j < 0 ∧ j < z) (v : Value) (hv : vs.getD j.toNatClampNeg dv = v) (hd : decode M.bytes pc = .ok (.aaload, 1)) (pc' : Nat) (hp : pc + 1 = pc') (k : Go G X M Q T pc' Ls (v :: st)) : Go G X M Q T pc Ls (.int j :: .ref a :: st) := by
  subst hp
  obtain ⟨F', k0, locs, cells, slots, X1, e1, hS, hk, hZ, hown, hCH, hF, O', c1, s1⟩ := id W
  obtain ⟨cl, A1, q, Sz, Nz, H, Gz⟩ := A
  exact Go.stp (fun t r => X1.aaload W.x (by rw [e1]; exact A1.1) (State.isArrayOf_alike (T := X.s.setVm vm) hZ.alike A1.2.1) hty A1.2.2 (inb_of Sz hj0) (H.at (inb_of Sz hj0) hv) (g := mkF X.m pc Ls (.int j :: .ref a :: st)) rfl rfl (W.d hd) t r) k
theorem cloneV (W : Here G X M vm T h C S) {ad : String} {idx : Nat} {a : Addr} {kA : ClassId} {ty : FieldType} {z : Int32} {vs : List Value} {dv : Value} (w1 : (Jvm.Cond.methodLink M.y.cls idx ⟨ad, "clone", "()Ljava/lang/Object;"⟩).before G.a0 G.Z = true) (w2 : (Jvm.Cond.sameMethod ad "java/lang/Object" "clone" "()Ljava/lang/Object;").before G.a0 G.Z = true) (w3 : (Jvm.Cond.native ⟨"java/lang/Object", "clone", "()Ljava/lang/Object;"⟩).before G.a0 G.Z = true)
    (w4 : (Jvm.Cond.instanceMethod ⟨"java/lang/Object", "clone", "()Ljava/lang/Object;"⟩).before G.a0 G.Z = true) (w5 : (Jvm.Cond.selects ad ⟨ad, "clone", "()Ljava/lang/Object;"⟩ ⟨"java/lang/Object", "clone", "()Ljava/lang/Object;"⟩).before G.a0 G.Z = true) (w6 : (Jvm.Cond.castable ad "java/lang/Cloneable").before G.a0 G.Z = true)
    (A : Arv G.Z h a kA ty z vs dv) (E : Exa G.Z h a ad) (hsz : Ls.size = M.maxL) (hd : decode M.bytes pc = .ok (.invokevirtual idx, 3)) (pc' : Nat) (hp : pc + 3 = pc') (hf : 1 ≤ M.R.frames) (hl : (st.map fun v => v.category).sum + 14 ≤ M.R.locals) (cap : Nat) (hcap : z.toNatClampNeg ≤ cap) (C' S' : Nat) (hc : C + 1 ≤ C') (hs : S + cap ≤ S') (hc' : C' ≤ M.R.cells) (hs' : S' ≤ M.R.slots)
    (k : ∀ (T' : State) (h' : Heap) (b : Addr), b = h.size → Here G X M vm T' h' C' S' → Ext h h' → Arv G.Z h' b kA ty z vs dv → Exa G.Z h' b ad → Go G X M Q T' pc' Ls (.ref b :: st)) : Go G X M Q T pc Ls (.ref a :: st) := by
  subst hp
  obtain ⟨F', k0, locs, cells, slots, X1, e1, hS, hk, hZ, hown, hCH, hF, O', c1, s1⟩ := id W
  obtain ⟨T', h', X', e', E', A', Ex', st'⟩ := RoadKit.cloneH X1 W.x hZ hown w1 w2 w3 w4 w5 w6 e1 A.arh E (g := mkF X.m pc Ls (.ref a :: st)) rfl (hsz.trans F'.2.2.1.symm) rfl (W.d hd) hf (W := (st.map fun v => v.category).sum) (cap := cap) (by show 2 * 0 + _ ≤ _; omega) hl hcap (by omega) (by omega)
  exact Go.stp (fun t r => st' t r) (k T' h' h.size rfl (Here.ext W hS hk hown hCH hF X' e' E' (by omega) (by omega)) E' A' Ex')
end Enum
/-! ### a case's words on its start: arrays and Strings -/
section Start
variable {s : State} {args : Array Value} {t : Term} {r : Addr}
theorem eqRef {a b : Term} {r : Addr} (m : (Jvm.Cond.eq a b).value args s none s [] = some true) (ev : b.eval args s none [] s = some (.ref r)) : a.eval args s none [] s = some (.ref r) := by
  simp only [Cond.value, ev] at m
  cases ha : a.eval args s none [] s with
  | none => simp [ha] at m
  | some x => cases x <;> simp [ha] at m ⊢ <;> exact m
theorem eqI {a : Term} {k : Int32} (m : (Jvm.Cond.eq a (.int k)).value args s none s [] = some true) : a.eval args s none [] s = some (.int k) := Cond.eq_int (Cond.before_iff.mpr m) rfl
theorem hasL_of {cl : Cell} : ∀ (vs : List Value) (i : Nat), (∀ j (hj : j < vs.length), cl.slots[i + j]? = some vs[j]) → HasL cl i vs
  | [], _, _ => trivial
  | v :: vs, i, q => ⟨q 0 (by simp), hasL_of vs (i + 1) fun j hj => by
      have z := q (j + 1) (by simp; omega)
      rw [show i + 1 + j = i + (j + 1) from by omega]
      simpa using z⟩
theorem arvStart (hf : Fit s) {ty : FieldType} {z : Int32} {vs : List Value} {dv : Value} (ev : t.eval args s none [] s = some (.ref r)) (ha : (Jvm.Cond.arrayOf t ty).value args s none s [] = some true) (hl : (Jvm.Cond.eq (.length t) (.int z)).value args s none s [] = some true) (hz : ¬ z < 0) (hn : z.toNatClampNeg = vs.length)
    (hel : ∀ i (hi : i < vs.length), (Term.elem t (.int (Int32.ofNat i))).eval args s none [] s = some vs[i]) : ∃ k, Arv s s.heap r k ty z vs dv := by
  obtain ⟨cl, A⟩ := Arr.start ev ha
  have e := eqI hl
  obtain ⟨sd, SA, hev, harrAt, -⟩ := Term.length_spec e
  have h31 := SBG.length_lt hev harrAt e
  cases ev.symm.trans hev
  have hcl : SA = cl := by
    have q := Arr.fin (U := s) (Vm.Alike.refl _) A
    exact Option.some.inj (harrAt.symm.trans q)
  subst hcl
  have e2 := len_f (o := none) (idx := []) ev harrAt h31
  have ez : SA.slots.size.toInt32 = z := by
    have q := e2.symm.trans e
    simpa using q
  refine ⟨SA.cls, Arv.start hf A h31 ez hz hn (hasL_of vs 0 fun j hj => ?_)⟩
  have q := elem_in (hel j hj) ev rfl A.1
  have z2 := q.2
  rw [show (Int32.ofNat j).toNatClampNeg = j from by
    have := Int32.toInt_ofNat_small (n := j) (by have := back32 hz; omega)
    simp [Int32.toNatClampNeg, this]] at z2
  rw [Nat.zero_add]; exact z2
end Start
end Own
end Jvm.Pilot.@@N@@
namespace Jvm.Pilot.@@N@@
namespace Own
open Jvm Jvm.ClassFile Sem Op Lib Jvm.Free Jvm.Stand Jvm.LawKit Jvm.RoadKit
section L
variable {G : Gl} {X : Rn} {M : Bo} {vm : Vm} {T : State} {h : Heap} {C S : Nat} {Q : Option Value → Heap → Prop} {pc pc' : Nat} {Ls Ls' : Array Slot} {st : List Value}
theorem dupX1 (W : Here G X M vm T h C S) {x y : Value} (hd : decode M.bytes pc = .ok (.dup_x1, 1)) (pc' : Nat) (hp : pc + 1 = pc') (hc : x.category = 1) (hc' : y.category = 1) (k : Go G X M Q T pc' Ls (x :: y :: x :: st)) : Go G X M Q T pc Ls (x :: y :: st) := by
  subst hp; exact Go.stp (fun t r => XT.dupX1 W.at W.x rfl (W.d hd) rfl hc hc' r) k
theorem newR (W : Here G X M vm T h C S) {C0 ad : String} {idx : Nat} {n : Int32} (w1 : (Jvm.Cond.classLink M.y.cls idx C0).before G.a0 G.Z = true) (w2 : (Jvm.Cond.arrayOver (.object C0)).before G.a0 G.Z = true) (had : "[" ++ (FieldType.object C0).toString = ad) (hd : decode M.bytes pc = .ok (.anewarray idx, 3)) (pc' : Nat) (hp : pc + 3 = pc') (hn : ¬ n < 0) (cap : Nat) (hcap : n.toNatClampNeg ≤ cap) (hb : cap * 8 ≤ 536870912) (C' S' : Nat) (hc : C + 1 ≤ C') (hs : S + cap ≤ S') (hc' : C' ≤ M.R.cells) (hs' : S' ≤ M.R.slots)
    (k : ∀ (T' : State) (h' : Heap) (a : Addr) (kA : ClassId), a = h.size → Here G X M vm T' h' C' S' → Ext h h' → Arv G.Z h' a kA (.object C0) n (List.replicate cap .null) .null → Exa G.Z h' a ad → Ovr G.Z kA C0 → Safe G.Z G.EL vm h' a → (∀ y, Safe G.Z G.EL vm h y → Safe G.Z G.EL vm h' y) → Go G X M Q T' pc' Ls (.ref a :: st)) : Go G X M Q T pc Ls (.int n :: st) := by
  subst hp
  obtain ⟨F, k0, locs, cells, slots, X1, e1, hS, hk, hZ, hown, hCH, hF, O, c1, s1⟩ := id W
  obtain ⟨T', h', kA, X', e', E, A, Ex, Ov, st'⟩ := RoadKit.newRE X1 W.x hZ hown w1 w2 e1 (g := mkF X.m pc Ls (.int n :: st)) rfl (W.d hd) rfl hn hcap hb (by omega) (by omega) had
  exact Go.stp (fun t r => st' t r) (k T' h' h.size kA rfl (Here.ext W hS hk hown hCH hF X' e' E (by omega) (by omega)) E ((Arv.new A hn).pad (pad_rep [] _ cap)) Ex Ov (Safe.ext E hCH.1 (Safe.new (Nat.le_refl _))) (fun y q => Safe.ext E hCH.1 q))
theorem aastore (W : Here G X M vm T h C S) {a : Addr} {kA : ClassId} {C0 : String} {z j : Int32} {vs : List Value} {dv : Value} {y : Addr} (A : Arv G.Z h a kA (.object C0) z vs dv) (O : Ovr G.Z kA C0) (I : Ins G.Z h y C0 true) (i : Nat) (hj : j.toNatClampNeg = i) (hj0 : ¬ j < 0 ∧ j < z) (hi : i < vs.length) (ha : G.n0 ≤ a) (hd : decode M.bytes pc = .ok (.aastore, 1)) (pc' : Nat) (hp : pc + 1 = pc')
    (k : ∀ (T' : State) (h' : Heap), Here G X M vm T' h' C S → Wr h h' a i (.ref y) → Arv G.Z h' a kA (.object C0) z (vs.set i (.ref y)) dv → (∀ y, Safe G.Z G.EL vm h y → Safe G.Z G.EL vm h' y) → Go G X M Q T' pc' Ls st) : Go G X M Q T pc Ls (.ref y :: .int j :: .ref a :: st) := by
  subst hp hj
  obtain ⟨F', k0, locs, cells, slots, X1, e1, hS, hk, hZ, hown, hCH, hF, O', c1, s1⟩ := id W
  have sf : Safe G.Z G.EL vm h a := Safe.arv hZ.alike A (fun q => by cases q)
  obtain ⟨cl, A1, q, Sz, Nz, H, Gz⟩ := A
  obtain ⟨T', h', X', e', Wq, st'⟩ := RoadKit.stR X1 W.x hZ e1 A1 (j := j) (inb_of Sz hj0) rfl (Sto.ofV A1 q O I) (g := mkF X.m pc Ls (.ref y :: .int j :: .ref a :: st)) rfl rfl (W.d hd)
  exact Go.stp (fun t r => st' t r) (k T' h' (Here.wr W hS hk hown hCH hF ha sf X' e' Wq c1 s1) Wq (Arv.set A1 q Sz Nz H Gz rfl Wq _ rfl hi) (fun y q => Safe.wr Wq sf hCH.1 q))
theorem priv_warm {Z U : State} {a0 a1 : Array Value} {y : MethodName} (hZ : Z.Warmed39 U.vm) (h : (Jvm.Cond.privateMethod y).before a0 Z = true) : (Jvm.Cond.privateMethod y).before a1 U = true := by
  have hal := hZ.alike
  have e1 : U.methodNamed? y = Z.methodNamed? y := by rw [State.methodNamed?_of_vm (show U.vm = (Z.setVm U.vm).vm from rfl), State.methodNamed?_setVm hal]
  have e2 : U.vm.method? = Z.vm.method? := funext hal.method?
  simp only [Cond.before, Cond.holds, Cond.value] at h ⊢
  rw [e1, e2]; exact h
theorem callP (W : Here G X M vm T h C S) {y : MethodName} {idx : Nat} {cl : String} {bytes : ByteArray} {maxL : Nat} {ret : Option FieldType} (w1 : (Jvm.Cond.methodLink M.y.cls idx y).before G.a0 G.Z = true) (w2 : (Jvm.Cond.instanceMethod y).before G.a0 G.Z = true) (w3 : (Jvm.Cond.selects y.cls y y).before G.a0 G.Z = true) (w4 : (Jvm.Cond.privateMethod y).before G.a0 G.Z = true) (w5 : (Jvm.Cond.code y bytes maxL ret).before G.a0 G.Z = true)
    (hy : y.cls ≠ "java/lang/invoke/MethodHandle" ∧ y.cls ≠ "java/lang/invoke/VarHandle") {wd kc ks : Nat} {a : Addr} {argsL rest : List Value} {Qy : Option Value → Heap → Prop} (P : Pay G X M vm h y 3 wd (.ref a :: argsL).toArray kc ks Qy) (E : Exa G.Z h a cl) (hsz : Ls.size = M.maxL) (hlen : ∀ sig, parseMethodDescriptor y.desc = some sig → argsL.length = sig.parameters.length)
    (hstk : st = argsL.reverse ++ .ref a :: rest) (hwd : (rest.map fun v => v.category).sum ≤ wd) (hd : decode M.bytes pc = .ok (.invokevirtual idx, 3)) (pc' : Nat) (hp : pc + 3 = pc') (C' S' : Nat) (hc : C + kc ≤ C') (hs : S + ks ≤ S') (hc' : C' ≤ M.R.cells) (hs' : S' ≤ M.R.slots)
    (k : ∀ (vm' : Vm) (T' : State) (h' : Heap) (v : Option Value), Here G X M vm' T' h' C' S' → CHr G.Z G.EL vm h vm' h' → Qy v h' → Go G X M Q T' pc' Ls (v.toList ++ rest)) : Go G X M Q T pc Ls st := by
  subst hp hstk
  obtain ⟨F, k0, locs, cells, slots, X1, e1, hS, hk, hZ, hown, hCH, hF, O, c1, s1⟩ := id W
  obtain ⟨cell, qa, qb⟩ := (Ins.self E).cell
  subst e1
  obtain ⟨v, vm₁, B, -, X', h2, hg, ⟨L, hq⟩, st'⟩ := X1.privateBackS W.x (y := y) hown (mv (s := X.s.setVm vm) hZ w1) (mv (s := X.s.setVm vm) hZ w2) (mv (s := X.s.setVm vm) hZ w3) (Cond.privateMethod_at (priv_warm (a1 := X.args) (U := X.s.setVm vm) hZ w4)) (mv (s := X.s.setVm vm) hZ w5) hy P (g := mkF X.m pc Ls (argsL.reverse ++ .ref a :: rest)) rfl (hsz.trans F.2.2.1.symm) (Steps.refl _) qa qb (argsL := argsL) (rest := rest) hlen rfl (by show 2 * 0 + _ ≤ _; omega) (W.d hd) (fun _ _ => ⟨rfl, rfl, by show cells + kc ≤ _; omega, by show slots + ks ≤ _; omega⟩)
  exact Go.stp (fun t r => st'.trans r) (k B.U.vm B.U B.U.heap v (Here.call W hc hs hS hk hown hCH hF c1 s1 X' h2 hg hq) hq.2.2.2.2 hq.1.1)
end L
abbrev ALN : String := "java/util/ArrayList"
/-- an ArrayList of n things in the array e -/
def AL (Z : State) (h : Heap) (a : Addr) (n : Int32) (e : Addr) : Prop := Exa Z h a ALN ∧ (∃ m : Int32, Fld Z h a "java/util/AbstractList" "modCount" "I" (.int m)) ∧ Fld Z h a ALN "size" "I" (.int n) ∧ Fld Z h a ALN "elementData" "[Ljava/lang/Object;" (.ref e)
theorem AL.ext {Z : State} {h h' : Heap} {a : Addr} {n : Int32} {e : Addr} (F : AL Z h a n e) (E : Ext h h') : AL Z h' a n e := by
  obtain ⟨q1, ⟨m, q2⟩, q3, q4⟩ := F
  exact ⟨q1.ext E, ⟨m, q2.ext E⟩, q3.ext E, q4.ext E⟩
theorem AL.lt {Z : State} {h : Heap} {a : Addr} {n : Int32} {e : Addr} (F : AL Z h a n e) : a < h.size := F.1.lt
theorem AL.exa {Z : State} {h : Heap} {a : Addr} {n : Int32} {e : Addr} (F : AL Z h a n e) : Exa Z h a ALN := F.1
theorem AL.keep {Z : State} {h h' : Heap} {a : Addr} {n : Int32} {e : Addr} {ws : List Addr} (F : AL Z h a n e) (K : Keep h h' ws) (q : a ∉ ws) : AL Z h' a n e := by
  obtain ⟨q1, ⟨m, q2⟩, q3, q4⟩ := F
  exact ⟨q1.keep K, ⟨m, q2.keep K q⟩, q3.keep K q, q4.keep K q⟩
theorem AL.other {Z : State} {h h' : Heap} {a b : Addr} {n : Int32} {e : Addr} {sl : Nat} {v : Value} (F : AL Z h b n e) (W : Wr h h' a sl v) (q : b ≠ a) : AL Z h' b n e := by
  obtain ⟨q1, ⟨m, q2⟩, q3, q4⟩ := F
  exact ⟨q1.wr W, ⟨m, q2.other W (Or.inl q)⟩, q3.other W (Or.inl q), q4.other W (Or.inl q)⟩
end Own
end Jvm.Pilot.@@N@@
namespace Jvm.Pilot.@@N@@
namespace Own
open Jvm Jvm.ClassFile Sem Op Lib Bundle Jvm.Free Jvm.Stand Jvm.LawKit Jvm.RoadKit Jvm.Free.SB Jvm.Free.SBG
/-- no entry of EL names a text of n signs -/
def EN (Z : State) (a0 : Array Value) (EL : List (String × Nat)) (n : Nat) : Prop := ∀ p ∈ EL, ∃ text : String, (Cond.stringLink p.1 p.2 text).before a0 Z = true ∧ (∀ c ∈ text.toList, c.toNat < 256) ∧ text.toList.length ≠ n
theorem EN.nil {Z : State} {a0 : Array Value} {n : Nat} : EN Z a0 [] n := fun _ hp => by cases hp
theorem EN.cons {Z : State} {a0 : Array Value} {EL : List (String × Nat)} {n : Nat} {own text : String} {index : Nat} (w : (Cond.stringLink own index text).before a0 Z = true) (ht : ∀ c ∈ text.toList, c.toNat < 256) (hn : text.toList.length ≠ n) (E : EN Z a0 EL n) : EN Z a0 ((own, index) :: EL) n := fun p hp => by
  rcases List.mem_cons.mp hp with rfl | hp
  · exact ⟨text, w, ht, hn⟩
  · exact E p hp
/-- a byte[] as long as no constant's is none of theirs -/
theorem Safe.len {Z : State} {a0 : Array Value} {EL : List (String × Nat)} {vm : Vm} {h : Heap} {x : Addr} {k : ClassId} {z : Int32} {vs : List Value} {dv : Value} {n : Nat} (hW : Z.Warmed39 vm) (hEN : EN Z a0 EL n) (A : Arv Z h x k .byte z vs dv) (hz : z.toNatClampNeg = n) : Safe Z EL vm h x := fun B => by
  have hal : Z.vm.Alike vm := hW.alike
  obtain ⟨p, hp, u, a, hb, q, -, F, hy⟩ := B
  obtain ⟨cl, A0, -, Sz, -⟩ := A
  obtain ⟨A1, ⟨-, kA, hkA, compA, hkindA⟩, -⟩ := A0
  obtain ⟨kA', hkA', ekA⟩ := hal.2.2 _ _ hkA
  rcases hy with rfl | rfl
  · cases (show h[q.sa]? = some q.sC from F.ha).symm.trans A1
    obtain ⟨cS, ⟨-, -, e⟩, ⟨kS, g1, g2, -⟩, -⟩ := F
    subst e
    cases (show vm.classes[q.sC.cls]? = some kS from g1).symm.trans hkA'
    rw [ekA] at g2
    have := hkindA.symm.trans g2
    cases this
  · cases (show h[q.sd]? = some q.SA from F.hd).symm.trans A1
    obtain ⟨cS, -, -, -, hsl⟩ := F
    obtain ⟨text, w, ht, hn⟩ := hEN p hp
    obtain ⟨c, k1, cf, i, b1, b2, b3, b4, b5, -⟩ := hb
    have w2 : (Cond.stringLink p.1 p.2 text).before a0 (Wst Z vm h) = true := mvS (s := { Z with heap := h }) hW w
    obtain ⟨k2, cf2, i2, u2, d1, d2, d3, d4, -, d6, -⟩ := Cond.stringLink_spec (s := Wst Z vm h) b1 w2
    cases b2.symm.trans (show vm.classes[c]? = some k2 from d1)
    cases b3.symm.trans d2
    cases b4.symm.trans d3
    cases b5.symm.trans d4
    have hl := lat_of_text d6 ht
    have hu := units_of_text d6 ht
    have e1 : (stringBytes u).size = u.size := by unfold stringBytes; rw [if_pos hl]; simp
    have e2 : u.size = text.toList.length := by rw [← Array.length_toList, hu, List.length_map]
    rw [hsl, e1, e2, hz] at Sz
    exact hn Sz
end Own
end Jvm.Pilot.@@N@@
namespace Jvm.Pilot.@@N@@
namespace Own
open Jvm Jvm.ClassFile Sem Op Lib Jvm.Free Jvm.Stand Jvm.LawKit Jvm.RoadKit
abbrev SBN : String := "java/lang/StringBuilder"
abbrev ASB : String := "java/lang/AbstractStringBuilder"
/-- the bytes of chars -/
abbrev bs (cs : List Int32) : List Value := (cs.map fun c => c.toInt8.toInt32).map Value.int
theorem bs_len (cs : List Int32) : (bs cs).length = cs.length := by simp [bs]
theorem bs_app (cs ds : List Int32) : bs (cs ++ ds) = bs cs ++ bs ds := by simp [bs]
theorem shr0 (x : Int32) : x >>> ((0 : Int32) &&& 31) = x := by
  rw [show ((0 : Int32) &&& 31) = 0 by decide]; exact Int32.toBitVec_inj.mp (by simp)
theorem shl0 (x : Int32) : x <<< ((0 : Int32) &&& 31) = x := by
  rw [show ((0 : Int32) &&& 31) = 0 by decide]; exact Int32.toBitVec_inj.mp (by simp)
theorem clampN {n : Nat} (h : n ≤ 4000) : (Int32.ofNat n).toNatClampNeg = n := by
  have e : (Int32.ofNat n).toNatClampNeg = (Int32.ofNat n).toInt.toNat := rfl
  rw [e, Int32.toInt_ofNat_of_lt (by omega)]; omega
theorem natI {n : Nat} (h : n ≤ 100000) : (Int32.ofNat n).toInt = n := Int32.toInt_ofNat_of_lt (by omega)
theorem nonneg {n : Nat} (h : n ≤ 4000) : ¬ Int32.ofNat n < 0 := by
  rw [Int32.lt_iff_toInt_lt, natI (by omega), show (0 : Int32).toInt = 0 by decide]; omega
theorem capOK {a b c : Nat} (h : a + b ≤ c) (hc : c ≤ 4000) : ¬ (0 : Int32) < Int32.ofNat a + Int32.ofNat b - Int32.ofNat c := by
  rw [Int32.lt_iff_toInt_lt, ← Int32.ofNat_add]
  have h1 := c_isub (Int32.ofNat (a + b)) (Int32.ofNat c)
  have h2 := Int32.toInt_lt (Int32.ofNat (a + b) - Int32.ofNat c)
  have h3 := Int32.le_toInt (Int32.ofNat (a + b) - Int32.ofNat c)
  rw [natI (by omega), natI (by omega)] at h1
  rw [show (0 : Int32).toInt = 0 by decide]
  omega
theorem rangeGet {vs : List Value} {n : Nat} (dv : Value) (hn : n = vs.length) (k : Nat) (hk : k = 0) : vs = (List.range n).map fun i => vs.getD (k + i) dv := by
  subst hn hk
  apply List.ext_getElem (by simp)
  intro i h1 h2
  simp [List.getD_eq_getElem?_getD, h1]
theorem Arv.cong {Z : State} {h : Heap} {a : Addr} {k : ClassId} {ty : FieldType} {z : Int32} {vs vs' : List Value} {dv : Value} (F : Arv Z h a k ty z vs dv) (q : ∀ i, i < z.toNatClampNeg → vs'.getD i dv = vs.getD i dv) : Arv Z h a k ty z vs' dv := by
  obtain ⟨c, A, r1, r2, r3, H, G⟩ := F
  exact ⟨c, A, r1, r2, r3, fun i hi => by rw [q i (by omega)]; exact H i hi, fun i hi => by rw [q i (by omega)]; exact G i hi⟩
/-- a StringBuilder of Latin-1 chars ts in the array b of cap bytes -/
def SBd (Z : State) (h : Heap) (sb b : Addr) (cap : Nat) (ts : List Int32) : Prop := Exa Z h sb SBN ∧ Fld Z h sb ASB "value" "[B" (.ref b) ∧ Fld Z h sb ASB "coder" "B" (.int 0) ∧ Fld Z h sb ASB "count" "I" (.int (Int32.ofNat ts.length)) ∧ (∀ c ∈ ts, ¬ c < 0 ∧ ¬ (255 : Int32) < c) ∧ ts.length ≤ cap ∧ cap ≤ 4000 ∧
  ∃ (kb : ClassId) (junk : List Value), Arv Z h b kb .byte (Int32.ofNat cap) (bs ts ++ junk) (.int 0) ∧ (bs ts ++ junk).length = cap
theorem SBd.ext {Z : State} {h h' : Heap} {sb b : Addr} {cap : Nat} {ts : List Int32} (F : SBd Z h sb b cap ts) (E : Ext h h') : SBd Z h' sb b cap ts := by
  obtain ⟨h1, h2, h3, h4, h5, h6, h7, kb, j, h8, h9⟩ := F
  exact ⟨h1.ext E, h2.ext E, h3.ext E, h4.ext E, h5, h6, h7, kb, j, h8.ext E, h9⟩
theorem SBd.other {Z : State} {h h' : Heap} {a sb b : Addr} {cap : Nat} {ts : List Int32} {sl : Nat} {v : Value} (F : SBd Z h sb b cap ts) (W : Wr h h' a sl v) (q : sb ≠ a) (qb : b ≠ a) : SBd Z h' sb b cap ts := by
  obtain ⟨h1, h2, h3, h4, h5, h6, h7, kb, j, h8, h9⟩ := F
  exact ⟨h1.wr W, h2.other W (Or.inl q), h3.other W (Or.inl q), h4.other W (Or.inl q), h5, h6, h7, kb, j, h8.other W qb, h9⟩
theorem SBd.lt {Z : State} {h : Heap} {sb b : Addr} {cap : Nat} {ts : List Int32} (F : SBd Z h sb b cap ts) : sb < h.size := F.1.lt
theorem SBd.exa {Z : State} {h : Heap} {sb b : Addr} {cap : Nat} {ts : List Int32} (F : SBd Z h sb b cap ts) : Exa Z h sb SBN := F.1
theorem SBd.ltb {Z : State} {h : Heap} {sb b : Addr} {cap : Nat} {ts : List Int32} (F : SBd Z h sb b cap ts) : b < h.size := by
  obtain ⟨h1, h2, h3, h4, h5, h6, h7, kb, j, h8, h9⟩ := F; exact h8.lt
section SB
variable {G : Gl} {X : Rn} {M : Bo} {vm : Vm} {T : State} {h : Heap} {C S : Nat} {Q : Option Value → Heap → Prop} {pc pc' : Nat} {Ls Ls' : Array Slot} {st : List Value}
theorem acopy (W : Here G X M vm T h C S) {idx : Nat} {a b : Addr} {k k' : ClassId} {z z' sp dp nn : Int32} {vs vd us : List Value} {dv dd : Value} (w1 : (Jvm.Cond.methodLink M.y.cls idx Jvm.Stand.acN).before G.a0 G.Z = true) (w2 : (Jvm.Cond.native Jvm.Stand.acN).before G.a0 G.Z = true) (w3 : (Jvm.Cond.static Jvm.Stand.acN).before G.a0 G.Z = true) (w4 : (Jvm.Cond.initialized "java/lang/System").before G.a0 G.Z = true)
    (A : Arv G.Z h a k .byte z vs dv) (B : Arv G.Z h b k' .byte z' vd dd) (h1 : ¬ sp < 0) (h2 : ¬ dp < 0) (h3 : ¬ nn < 0) (h4 : sp.toNatClampNeg + nn.toNatClampNeg ≤ z.toNatClampNeg) (h5 : dp.toNatClampNeg + nn.toNatClampNeg ≤ z'.toNatClampNeg)
    (hus : us = (List.range nn.toNatClampNeg).map fun i => vs.getD (sp.toNatClampNeg + i) dv) (hl : dp.toNatClampNeg + nn.toNatClampNeg ≤ vd.length) (ge : G.n0 ≤ b) (sf : Safe G.Z G.EL vm h b) (hsz : Ls.size = M.maxL)
    (hd : decode M.bytes pc = .ok (.invokestatic idx, 3)) (pc' : Nat) (hp : pc + 3 = pc') (hf : 1 ≤ M.R.frames) (hlo : (st.map fun v => v.category).sum + 18 ≤ M.R.locals)
    (kk : ∀ (T' : State) (h' : Heap), Here G X M vm T' h' C S → CHr G.Z G.EL vm h vm h' → Keep h h' [b] → Arv G.Z h' b k' .byte z' (vd.take dp.toNatClampNeg ++ us ++ vd.drop (dp.toNatClampNeg + nn.toNatClampNeg)) dd → Go G X M Q T' pc' Ls st) : Go G X M Q T pc Ls (.int nn :: .int dp :: .ref b :: .int sp :: .ref a :: st) := by
  subst hp
  obtain ⟨F, k0, locs, cells, slots, X1, e1, hS, hk, hZ, hown, hCH, hF, O, c1, s1⟩ := id W
  obtain ⟨T', h', L, X', e', N', K, A', st'⟩ := RoadKit.cpA X1 W.x hZ hown w1 w2 w3 w4 e1 A B (Or.inl ⟨rfl, rfl⟩) h1 h2 h3 h4 h5 hus hl hF ge (g := mkF X.m pc Ls (.int nn :: .int dp :: .ref b :: .int sp :: .ref a :: st)) rfl (hsz.trans F.2.2.1.symm) rfl (W.d hd) hf (W := (st.map fun v => v.category).sum) (by show 2 * 0 + _ ≤ _; omega) (by
    rw [show nativeFrameWords "java/lang/System" "arraycopy" 5 + 11 = 18 by decide]; exact hlo)
  have ks : ∀ y ∈ [b], Safe G.Z G.EL vm h y := fun y hy => by cases List.mem_singleton.mp hy; exact sf
  have R := CHr.keep K ks hCH.1
  exact Go.stp (fun t r => st' t r) (kk T' h' ⟨W.1, k0, L, cells, slots, X', e', hS, Nat.le_trans hk K.1, W.wz, hown, hCH.trans R, N', O.keep K (fun y hy => by cases List.mem_singleton.mp hy; exact ge), c1, s1⟩ R K A')
theorem declares_of {Z : State} {a0 : Array Value} {y : MethodName} {bytes : ByteArray} {maxL : Nat} {ret : Option FieldType} (w1 : (Jvm.Cond.instanceMethod y).before a0 Z = true) (w2 : (Jvm.Cond.code y bytes maxL ret).before a0 Z = true) : (Jvm.Cond.declares y).before a0 Z = true := by
  obtain ⟨m, meth, h1, h2, h3, h4⟩ := Cond.instanceMethod_spec w1
  obtain ⟨meth', c, g1, -, -, -, -, -, -, g2⟩ := Cond.code_spec h1 w2
  cases h2.symm.trans g1
  simp [Cond.before, Cond.holds, Cond.value, h1, h2, h3, g2]
theorem same_of {Z : State} {a0 : Array Value} {y y' : MethodName} {K : String} (w1 : (Jvm.Cond.declares y).before a0 Z = true) (w2 : (Jvm.Cond.selects K y' y').before a0 Z = true) (hc : y'.cls = y.cls) (hy : y.cls ≠ "java/lang/invoke/MethodHandle" ∧ y.cls ≠ "java/lang/invoke/VarHandle") : (Jvm.Cond.sameMethod y.cls y.cls y.name y.desc).before a0 Z = true := by
  obtain ⟨m, meth, h1, h2, h3, h4⟩ := Cond.declares_spec w1
  obtain ⟨c2, r2, m2, q1, q2, q3, q4, kP, hkP, hkPi⟩ := Cond.selects_spec w2
  have f1 := findClass_of_methodNamed h1
  have f2 := findClass_of_methodNamed q3
  rw [hc] at f2
  have e := Option.some.inj (f1.symm.trans f2)
  have hf := State.methodFound?_of_named h1 hy
  have h1' : Z.methodNamed? ⟨y.cls, y.name, y.desc⟩ = some m := h1
  simp [Cond.before, Cond.holds, Cond.value, f1, hf, h1', e, hkP, hkPi]
/-- super.m(..): y is declared by the superclass -/
theorem callU (W : Here G X M vm T h C S) {y y' : MethodName} {K' : String} {idx : Nat} {cl : String} {bytes : ByteArray} {maxL : Nat} {ret : Option FieldType} (w1 : (Jvm.Cond.methodLink M.y.cls idx y).before G.a0 G.Z = true) (w2 : (Jvm.Cond.declares y).before G.a0 G.Z = true) (w3 : (Jvm.Cond.selects K' y' y').before G.a0 G.Z = true) (hc0 : y'.cls = y.cls) (w4 : (Jvm.Cond.instanceMethod y).before G.a0 G.Z = true) (w5 : (Jvm.Cond.superclass M.y.cls y.cls).before G.a0 G.Z = true) (w6 : (Jvm.Cond.code y bytes maxL ret).before G.a0 G.Z = true) (hn : y.name ≠ "<init>")
    (hy : y.cls ≠ "java/lang/invoke/MethodHandle" ∧ y.cls ≠ "java/lang/invoke/VarHandle") {wd kc ks : Nat} {a : Addr} {argsL rest : List Value} {Qy : Option Value → Heap → Prop} (P : Pay G X M vm h y 3 wd (.ref a :: argsL).toArray kc ks Qy) (E : Exa G.Z h a cl) (hsz : Ls.size = M.maxL) (hlen : ∀ sig, parseMethodDescriptor y.desc = some sig → argsL.length = sig.parameters.length)
    (hstk : st = argsL.reverse ++ .ref a :: rest) (hwd : (rest.map fun v => v.category).sum ≤ wd) (hd : decode M.bytes pc = .ok (.invokespecial idx, 3)) (pc' : Nat) (hp : pc + 3 = pc') (C' S' : Nat) (hc : C + kc ≤ C') (hs : S + ks ≤ S') (hc' : C' ≤ M.R.cells) (hs' : S' ≤ M.R.slots)
    (k : ∀ (vm' : Vm) (T' : State) (h' : Heap) (v : Option Value), Here G X M vm' T' h' C' S' → CHr G.Z G.EL vm h vm' h' → Qy v h' → Go G X M Q T' pc' Ls (v.toList ++ rest)) : Go G X M Q T pc Ls st := by
  subst hp hstk
  obtain ⟨F, k0, locs, cells, slots, X1, e1, hS, hk, hZ, hown, hCH, hF, O, c1, s1⟩ := id W
  subst e1
  obtain ⟨v, vm₁, B, -, X', h2, hg, ⟨L, hq⟩, st'⟩ := RoadKit.superBackS X1 W.x (Z := G.Z) (a0 := G.a0) hZ (y := y) hown w1 (same_of w2 w3 hc0 hy) w4 w5 hn P rfl (Ins.self E) (g := mkF X.m pc Ls (argsL.reverse ++ .ref a :: rest)) rfl (hsz.trans F.2.2.1.symm) w6 (argsL := argsL) (rest := rest) hlen rfl (by show 2 * 0 + _ ≤ _; omega) (W.d hd) (fun _ _ => ⟨rfl, rfl, by show cells + kc ≤ _; omega, by show slots + ks ≤ _; omega⟩)
  exact Go.stp (fun t r => st'.trans r) (k B.U.vm B.U B.U.heap v (Here.call W hc hs hS hk hown hCH hF c1 s1 X' h2 hg hq) hq.2.2.2.2 hq.1.1)
end SB
theorem notFace_via {args : Array Value} {s : State} {K : String} {y y' : MethodName} (hsel : (Jvm.Cond.selects K y' y').before args s = true) (hc : y'.cls = y.cls) : NotFace s y := fun r0 h0 => by
  obtain ⟨c2, r2, m2, q1, q2, q3, q4, kP, hkP, hkPi⟩ := Cond.selects_spec hsel
  have f1 := findClass_of_methodNamed h0
  have f2 := findClass_of_methodNamed q3
  rw [hc] at f2
  have e := Option.some.inj (f1.symm.trans f2)
  exact ⟨kP, by rw [e]; exact hkP, hkPi⟩
theorem rangePre {ts : List Int32} {junk : List Value} (dv : Value) {n : Nat} (hn : n = ts.length) (k : Nat) (hk : k = 0) : bs ts = (List.range n).map fun i => (bs ts ++ junk).getD (k + i) dv := by
  subst hn hk
  apply List.ext_getElem (by simp [bs])
  intro i h1 h2
  rw [bs_len] at h1
  simp [List.getD_eq_getElem?_getD, List.getElem?_append, h1]
theorem cp_new {ts : List Int32} {vd : List Value} {n : Nat} (hn : n = ts.length) (d : Nat) (hd : d = 0) : ∀ i, i < n → (bs ts).getD i (Value.int 0) = (vd.take d ++ bs ts ++ vd.drop (d + n)).getD i (Value.int 0) := by
  subst hn hd
  intro i hi
  simp [List.getD_eq_getElem?_getD, List.getElem?_append, hi]
theorem ne_cap {a b : Nat} (h : a < b) (hb : b ≤ 4000) : ¬ Int32.ofNat a = Int32.ofNat b := fun q => by
  have := congrArg Int32.toInt q
  rw [natI (by omega), natI (by omega)] at this
  omega
theorem lt_cap {a b : Nat} (h : a < b) (hb : b ≤ 4000) : Int32.ofNat a < Int32.ofNat b := by
  rw [Int32.lt_iff_toInt_lt, natI (by omega), natI (by omega)]; omega
theorem cp_app {ts cs : List Int32} {junk : List Value} (hc : ts.length ≤ 4000) (hd : cs.length ≤ 4000) : (bs ts ++ junk).take (Int32.ofNat ts.length).toNatClampNeg ++ bs cs ++ (bs ts ++ junk).drop ((Int32.ofNat ts.length).toNatClampNeg + (Int32.ofNat cs.length).toNatClampNeg) = bs (ts ++ cs) ++ junk.drop cs.length := by
  rw [clampN hc, clampN hd, bs_app, List.take_left' (bs_len ts), List.drop_append, bs_len, List.drop_eq_nil_of_le (by rw [bs_len]; omega)]
  simp
end Own
end Jvm.Pilot.@@N@@
namespace Jvm.Pilot.@@N@@
namespace Own
open Jvm Jvm.ClassFile Sem Op Lib Jvm.Free Jvm.Stand Jvm.LawKit Jvm.RoadKit
section I
variable {G : Gl} {X : Rn} {M : Bo} {vm : Vm} {T : State} {h : Heap} {C S : Nat} {Q : Option Value → Heap → Prop} {pc pc' : Nat} {Ls Ls' : Array Slot} {st : List Value}
theorem iastore (W : Here G X M vm T h C S) {a : Addr} {kA : ClassId} {z j x : Int32} {vs : List Value} {dv : Value} (A : Arv G.Z h a kA .int z vs dv) (i : Nat) (hj : j.toNatClampNeg = i) (hj0 : ¬ j < 0 ∧ j < z) (hi : i < vs.length) (ha : G.n0 ≤ a) (hd : decode M.bytes pc = .ok (.iastore, 1)) (pc' : Nat) (hp : pc + 1 = pc')
    (k : ∀ (T' : State) (h' : Heap), Here G X M vm T' h' C S → Wr h h' a i (.int x) → Arv G.Z h' a kA .int z (vs.set i (.int x)) dv → (∀ y, Safe G.Z G.EL vm h y → Safe G.Z G.EL vm h' y) → Go G X M Q T' pc' Ls st) : Go G X M Q T pc Ls (.int x :: .int j :: .ref a :: st) := by
  subst hp hj
  obtain ⟨F', k0, locs, cells, slots, X1, e1, hS, hk, hZ, hown, hCH, hF, O', c1, s1⟩ := id W
  have sf : Safe G.Z G.EL vm h a := Safe.arv hZ.alike A (by decide)
  obtain ⟨cl, A1, q, Sz, Nz, H, Gz⟩ := A
  obtain ⟨T', h', X', e', Wq, st'⟩ := RoadKit.stI X1 W.x hZ e1 A1 (j := j) (inb_of Sz hj0) (g := mkF X.m pc Ls (.int x :: .int j :: .ref a :: st)) rfl rfl (W.d hd)
  exact Go.stp (fun t r => st' t r) (k T' h' (Here.wr W hS hk hown hCH hF ha sf X' e' Wq c1 s1) Wq (Arv.set A1 q Sz Nz H Gz rfl Wq _ rfl hi) (fun y q => Safe.wr Wq sf hCH.1 q))
theorem iaload (W : Here G X M vm T h C S) {a : Addr} {kA : ClassId} {z j : Int32} {vs : List Value} {dv : Value} (A : Arv G.Z h a kA .int z vs dv) (hj0 : ¬ j < 0 ∧ j < z) (v : Value) (hv : vs.getD j.toNatClampNeg dv = v) (hd : decode M.bytes pc = .ok (.iaload, 1)) (pc' : Nat) (hp : pc + 1 = pc') (k : Go G X M Q T pc' Ls (v :: st)) : Go G X M Q T pc Ls (.int j :: .ref a :: st) := by
  subst hp
  obtain ⟨F', k0, locs, cells, slots, X1, e1, hS, hk, hZ, hown, hCH, hF, O', c1, s1⟩ := id W
  obtain ⟨cl, A1, q, Sz, Nz, H, Gz⟩ := A
  exact Go.stp (fun t r => X1.iaload W.x (by rw [e1]; exact A1.1) (State.isArrayOf_alike (T := X.s.setVm vm) hZ.alike A1.2.1) A1.2.2 (inb_of Sz hj0) (H.at (inb_of Sz hj0) hv) (g := mkF X.m pc Ls (.int j :: .ref a :: st)) rfl rfl (W.d hd) t r) k
end I
theorem noByteI {Z : State} {a0 : Array Value} {h : Heap} {x : Addr} {K : String} {n : Nat} (w : (Jvm.Cond.instantiable K n).before a0 Z = true) (E : Exa Z h x K) (cl : Cell) : ¬ Arr Z h x cl .byte := fun B => by
  obtain ⟨cell, k, e1, e2, e3, e4, e5⟩ := E
  obtain ⟨c, k', g1, g2, g3, -⟩ := Cond.instantiable_spec w
  cases e2.symm.trans g1
  cases e3.symm.trans g2
  obtain ⟨b1, ⟨-, kB, b2, comp, b3⟩, -⟩ := B
  cases e1.symm.trans b1
  cases e3.symm.trans b2
  have := g3.symm.trans b3
  cases this
theorem noByteA {Z : State} {h : Heap} {x : Addr} {k : ClassId} {ty : FieldType} {z : Int32} {vs : List Value} {dv : Value} (A : Arv Z h x k ty z vs dv) (ht : ty ≠ .byte) (cl : Cell) : ¬ Arr Z h x cl .byte := fun B => by
  obtain ⟨c, A, -⟩ := A
  cases A.1.symm.trans B.1
  obtain ⟨-, k1, a1, c1, a2⟩ := A.2.1
  obtain ⟨-, k2, b1, c2, b2⟩ := B.2.1
  cases a1.symm.trans b1
  rw [a2] at b2
  injection b2 with _ e
  exact ht e
theorem sub_nat {a b : Nat} (h : a ≤ b) (hb : b ≤ 4000) : Int32.ofNat b - Int32.ofNat a = Int32.ofNat (b - a) := by
  apply Int32.toInt_inj.mp
  have h1 := c_isub (Int32.ofNat b) (Int32.ofNat a)
  have h2 := Int32.toInt_lt (Int32.ofNat b - Int32.ofNat a)
  have h3 := Int32.le_toInt (Int32.ofNat b - Int32.ofNat a)
  rw [natI (by omega), natI (by omega)] at h1
  rw [natI (by omega)]
  omega
theorem nlt_nat {a b : Nat} (h : a ≤ b) (hb : b ≤ 4000) : ¬ Int32.ofNat b < Int32.ofNat a := by
  rw [Int32.lt_iff_toInt_lt, natI (by omega), natI (by omega)]; omega
theorem eq0_nat {a : Nat} (ha : a ≤ 4000) (h : Int32.ofNat a = 0) : a = 0 := by
  have := congrArg Int32.toInt h
  rw [natI (by omega), show (0 : Int32).toInt = 0 by decide] at this
  omega
theorem eq_nat {a b : Nat} (ha : a ≤ 4000) (hb : b ≤ 4000) (h : Int32.ofNat a = Int32.ofNat b) : a = b := by
  have := congrArg Int32.toInt h
  rw [natI (by omega), natI (by omega)] at this
  omega
theorem rangeDrop {vs : List Value} {f n : Nat} (dv : Value) (h : f + n ≤ vs.length) (k m : Nat) (hk : k = f) (hm : m = n) : (vs.drop f).take n = (List.range m).map fun i => vs.getD (k + i) dv := by
  subst hk hm
  apply List.ext_getElem (by simp; omega)
  intro i h1 h2
  simp at h2
  simp [List.getD_eq_getElem?_getD, show k + i < vs.length by omega]
theorem cp_new2 {us vd : List Value} {n : Nat} (hn : n = us.length) (d : Nat) (hd : d = 0) : ∀ i, i < n → us.getD i (Value.int 0) = (vd.take d ++ us ++ vd.drop (d + n)).getD i (Value.int 0) := by
  subst hn hd
  intro i hi
  simp [List.getD_eq_getElem?_getD, List.getElem?_append, hi]
theorem bs_cut (J : List Int32) (f n : Nat) : ((bs J).drop f).take n = bs ((J.drop f).take n) := by simp [bs, List.map_drop, List.map_take]
theorem lt_antisymm' {i j : Int32} (h1 : ¬ i < j) (h2 : ¬ j < i) : i = j := by
  rw [Int32.lt_iff_toInt_lt] at h1 h2
  apply Int32.toInt_inj.mp
  omega
end Own
end Jvm.Pilot.@@N@@
namespace Jvm.Pilot.@@N@@
namespace Own
open Jvm Jvm.ClassFile Sem Op Lib Jvm.Free Jvm.Stand Jvm.LawKit Jvm.RoadKit
theorem decI (n : Nat) : Int32.ofNat (n + 1) + Int32.ofInt (-1) = Int32.ofNat n := by
  rw [Int32.ofNat_add, Int32.add_assoc, show (Int32.ofNat 1 + Int32.ofInt (-1)) = 0 by decide, Int32.add_zero]
theorem ofClamp {j : Int32} (h : ¬ j < 0) : Int32.ofNat j.toNatClampNeg = j := by
  apply Int32.toInt_inj.mp
  have e : j.toNatClampNeg = j.toInt.toNat := rfl
  rw [Int32.lt_iff_toInt_lt, show (0 : Int32).toInt = 0 by decide] at h
  have q := Int32.toInt_lt j
  rw [e, Int32.toInt_ofNat_of_lt (by omega)]; omega
theorem clamp100 {j : Int32} (h : ¬ j < 0 ∧ j < 100) : j.toNatClampNeg < 100 := by
  obtain ⟨h0, h1⟩ := h
  rw [Int32.lt_iff_toInt_lt, show (0 : Int32).toInt = 0 by decide] at h0
  rw [Int32.lt_iff_toInt_lt, show (100 : Int32).toInt = 100 by decide] at h1
  have e : j.toNatClampNeg = j.toInt.toNat := rfl
  omega
def onesF (r : Nat) : Int32 := (48 : Int32) + Int32.ofNat r % 10
def tensF (r : Nat) : Int32 := (48 : Int32) + Int32.ofNat r / 10
abbrev digL (F : Nat → Int32) : List Value := (List.range 100).map fun r => Value.int (F r)
theorem dig_get {F : Nat → Int32} {j v : Int32} (h : ¬ j < 0 ∧ j < 100) (hv : F j.toNatClampNeg = v) : (digL F).getD j.toNatClampNeg (.int 0) = .int v := by
  have q := clamp100 h
  simp [digL, List.getD_eq_getElem?_getD, q, hv]
theorem ones_v {j v : Int32} (h : ¬ j < 0 ∧ j < 100) (hv : (48 : Int32) + j % 10 = v) : onesF j.toNatClampNeg = v := by rw [onesF, ofClamp h.1, hv]
theorem tens_v {j v : Int32} (h : ¬ j < 0 ∧ j < 100) (hv : (48 : Int32) + j / 10 = v) : tensF j.toNatClampNeg = v := by rw [tensF, ofClamp h.1, hv]
/-- the text cs written behind the first q bytes -/
abbrev mid (vs : List Value) (q : Nat) (cs : List Int32) : List Value := vs.take q ++ bs cs ++ vs.drop (q + cs.length)
theorem mid_len {vs : List Value} {q : Nat} {cs : List Int32} (hq : q + cs.length ≤ vs.length) : (mid vs q cs).length = vs.length := by
  simp only [mid, List.length_append, List.length_take, List.length_drop, bs_len]; omega
theorem mid_nil (vs : List Value) (q : Nat) : mid vs q [] = vs := by simp [mid, bs]
theorem mid_set {vs : List Value} {q : Nat} {cs : List Int32} {c : Int32} (hq : q + 1 + cs.length ≤ vs.length) : (mid vs (q + 1) cs).set q (.int (c.toInt8.toInt32)) = mid vs q (c :: cs) := by
  have hl : q < vs.length := by omega
  have e : vs.take (q + 1) = vs.take q ++ [vs[q]] := by rw [List.take_succ_eq_append_getElem hl]
  simp only [mid]
  rw [e, List.append_assoc, List.append_assoc, List.set_append_right _ _ (by rw [List.length_take]; omega), List.length_take, show q - min q vs.length = 0 by omega]
  simp only [List.cons_append, List.nil_append, List.set_cons_zero, List.append_assoc, bs, List.map_cons, List.length_cons]
  rw [show q + 1 + cs.length = q + (cs.length + 1) by omega]
theorem mid_end {ts cs : List Int32} {junk : List Value} : mid (bs ts ++ junk) ts.length cs = bs (ts ++ cs) ++ junk.drop cs.length := by
  simp only [mid]
  rw [bs_app, List.take_left' (bs_len ts), List.drop_append, bs_len, List.drop_eq_nil_of_le (by rw [bs_len]; omega), Nat.add_sub_cancel_left, List.nil_append]
theorem grow_cp {vs : List Value} {cap n K d : Nat} (hv : vs.length = cap) (hd : d = 0) : ∀ i, i < n → (vs ++ List.replicate (n - cap) (Value.int 0)).getD i (Value.int 0) = ((List.replicate K (Value.int 0)).take d ++ vs ++ (List.replicate K (Value.int 0)).drop (d + cap)).getD i (Value.int 0) := by
  subst hd hv
  intro i hi
  simp only [List.take_zero, List.nil_append, List.getD_eq_getElem?_getD, List.getElem?_append]
  by_cases h : i < vs.length
  · simp [h]
  · simp only [h, if_false, List.getElem?_replicate, List.getElem?_drop]
    split <;> split <;> rfl
theorem sum2 {cap : Nat} (h : cap ≤ 1000) : Int32.ofNat cap + (Int32.ofNat cap + 2) = Int32.ofNat (2 * cap + 2) := by
  rw [show (2 : Int32) = Int32.ofNat 2 by decide, ← Int32.ofNat_add, ← Int32.ofNat_add]; congr 1; omega
theorem grow_lt {cap m : Nat} (h : cap ≤ 1000) (h1 : cap < m) (h2 : m < 2 * cap + 2) : Int32.ofNat m - Int32.ofNat cap < Int32.ofNat cap + 2 := by
  rw [show (2 : Int32) = Int32.ofNat 2 by decide, ← Int32.ofNat_add, Int32.lt_iff_toInt_lt]
  have q := c_isub (Int32.ofNat m) (Int32.ofNat cap)
  have r1 := Int32.toInt_lt (Int32.ofNat m - Int32.ofNat cap)
  have r2 := Int32.le_toInt (Int32.ofNat m - Int32.ofNat cap)
  rw [natI (by omega), natI (by omega)] at q
  rw [natI (by omega)]
  omega
theorem need_pos {cap m : Nat} (h : m ≤ 4000) (h1 : cap < m) : (0 : Int32) < Int32.ofNat m - Int32.ofNat cap := by
  rw [Int32.lt_iff_toInt_lt]
  have q := c_isub (Int32.ofNat m) (Int32.ofNat cap)
  have r1 := Int32.toInt_lt (Int32.ofNat m - Int32.ofNat cap)
  have r2 := Int32.le_toInt (Int32.ofNat m - Int32.ofNat cap)
  rw [natI (by omega), natI (by omega)] at q
  rw [show (0 : Int32).toInt = 0 by decide]
  omega
theorem need_no {cap m : Nat} (h : cap ≤ 4000) (h1 : m ≤ cap) : ¬ (0 : Int32) < Int32.ofNat m - Int32.ofNat cap := by
  rw [Int32.lt_iff_toInt_lt]
  have q := c_isub (Int32.ofNat m) (Int32.ofNat cap)
  have r1 := Int32.toInt_lt (Int32.ofNat m - Int32.ofNat cap)
  have r2 := Int32.le_toInt (Int32.ofNat m - Int32.ofNat cap)
  rw [natI (by omega), natI (by omega)] at q
  rw [show (0 : Int32).toInt = 0 by decide]
  omega
theorem pos_of {n : Nat} (h : n ≤ 4000) (h1 : 0 < n) : (0 : Int32) < Int32.ofNat n := by
  rw [Int32.lt_iff_toInt_lt, natI (by omega), show (0 : Int32).toInt = 0 by decide]; omega
theorem soft_ok {n : Nat} (h : n ≤ 4000) : ¬ (2147483639 : Int32) < Int32.ofNat n := by
  rw [Int32.lt_iff_toInt_lt, natI (by omega), show (2147483639 : Int32).toInt = 2147483639 by decide]; omega
theorem max_ne {n : Nat} (h : n ≤ 4000) : ¬ Int32.ofNat n = (2147483647 : Int32) := fun q => by
  have := congrArg Int32.toInt q
  rw [natI (by omega), show (2147483647 : Int32).toInt = 2147483647 by decide] at this; omega
theorem nat_ne {a b : Nat} (ha : a ≤ 4000) (hb : b ≤ 4000) (h : a ≠ b) : ¬ Int32.ofNat a = Int32.ofNat b := fun q => by
  have := congrArg Int32.toInt q
  rw [natI (by omega), natI (by omega)] at this; omega
theorem nat_nlt {a b : Nat} (ha : a ≤ 4000) (hb : b ≤ 4000) (h : b ≤ a) : ¬ Int32.ofNat a < Int32.ofNat b := by
  rw [Int32.lt_iff_toInt_lt, natI (by omega), natI (by omega)]; omega
theorem exaNe {Z : State} {h : Heap} {a b : Addr} {C D : String} (F : Exa Z h a C) (F' : Exa Z h b D) (q : C ≠ D) : a ≠ b := fun e => by
  subst e
  obtain ⟨c1, k1, e1, e2, e3, -⟩ := F
  obtain ⟨c2, k2, g1, g2, g3, -⟩ := F'
  cases e1.symm.trans g1
  obtain ⟨k, hk, hn⟩ := Vm.findClass_spec e2
  obtain ⟨k', hk', hn'⟩ := Vm.findClass_spec g2
  cases hk.symm.trans hk'
  exact q (hn.symm.trans hn')
section J
variable {G : Gl} {X : Rn} {M : Bo} {vm : Vm} {T : State} {h : Heap} {C S : Nat} {Q : Option Value → Heap → Prop} {pc pc' : Nat} {Ls Ls' : Array Slot} {st : List Value}
theorem lmul (W : Here G X M vm T h C S) {x y : Int64} (hd : decode M.bytes pc = .ok (.lmul, 1)) (pc' : Nat) (hp : pc + 1 = pc') (k : Go G X M Q T pc' Ls (.long (x * y) :: st)) : Go G X M Q T pc Ls (.long y :: .long x :: st) := by
  subst hp; exact Go.stp (fun t r => XS.lmul W.at W.x rfl (W.d hd) rfl r) k
theorem ldiv (W : Here G X M vm T h C S) {x y : Int64} (hd : decode M.bytes pc = .ok (.ldiv, 1)) (pc' : Nat) (hp : pc + 1 = pc') (hy : y ≠ 0) (k : Go G X M Q T pc' Ls (.long (x / y) :: st)) : Go G X M Q T pc Ls (.long y :: .long x :: st) := by
  subst hp; exact Go.stp (fun t r => XS.ldiv W.at W.x rfl (W.d hd) rfl hy r) k
theorem iincD (W : Here G X M vm T h C S) {j n : Nat} (hd : decode M.bytes pc = .ok (.iinc j (-1), 3)) (pc' : Nat) (hp : pc + 3 = pc') (hl : Ls[j]? = some (.val (.int (Int32.ofNat (n + 1))))) (Ls' : Array Slot) (hl' : storeLocals Ls j (.int (Int32.ofNat n)) = some Ls') (k : Go G X M Q T pc' Ls' st) : Go G X M Q T pc Ls st :=
  iinc W hd pc' hp hl Ls' (by rw [decI]; exact hl') k
theorem digLoad (W : Here G X M vm T h C S) {d : Addr} {kd : ClassId} {F : Nat → Int32} (D : Arv G.Z G.Z.heap d kd .byte 100 (digL F) (.int 0)) {j v : Int32} (hj : ¬ j < 0 ∧ j < 100) (hv : F j.toNatClampNeg = v) (hd : decode M.bytes pc = .ok (.baload, 1)) (pc' : Nat) (hp : pc + 1 = pc') (k : Go G X M Q T pc' Ls (.int v :: st)) : Go G X M Q T pc Ls (.int j :: .ref d :: st) :=
  baload W (D.ext W.old.2) hj (.int v) (dig_get hj hv) hd pc' hp k
theorem bst (W : Here G X M vm T h C S) {b : Addr} {kb : ClassId} {cap q : Nat} {vs : List Value} {cs : List Int32} {c : Int32} (A : Arv G.Z h b kb .byte (Int32.ofNat cap) (mid vs (q + 1) cs) (.int 0)) (hv : vs.length = cap) (hq : q + 1 + cs.length ≤ cap) (hc : cap ≤ 4000) (hEN : EN G.Z G.a0 G.EL cap) (ha : G.n0 ≤ b) (hd : decode M.bytes pc = .ok (.bastore, 1)) (pc' : Nat) (hp : pc + 1 = pc')
    (k : ∀ (T' : State) (h' : Heap), Here G X M vm T' h' C S → Wr h h' b q (.int (c.toInt8.toInt32)) → Arv G.Z h' b kb .byte (Int32.ofNat cap) (mid vs q (c :: cs)) (.int 0) → (∀ y, Safe G.Z G.EL vm h y → Safe G.Z G.EL vm h' y) → Go G X M Q T' pc' Ls st) : Go G X M Q T pc Ls (.int c :: .int (Int32.ofNat q) :: .ref b :: st) := by
  have h1 : (Int32.ofNat q).toNatClampNeg = q := clampN (by omega)
  have h2 : ¬ Int32.ofNat q < 0 ∧ Int32.ofNat q < Int32.ofNat cap := ⟨nonneg (by omega), lt_cap (by omega) hc⟩
  have h3 : q < (mid vs (q + 1) cs).length := by rw [mid_len (by omega)]; omega
  have sf : Safe G.Z G.EL vm h b := Safe.len W.wz hEN A (clampN hc)
  refine bastore W A q h1 h2 h3 ha sf (x' := c.toInt8.toInt32) rfl hd pc' hp ?_
  intro T' h' W' Q' A' k'
  rw [mid_set (by omega)] at A'
  exact k T' h' W' Q' A' k'
end J
section V
variable {G : Gl} {X : Rn} {M : Bo} {vm : Vm} {T : State} {h : Heap} {C S : Nat} {Q : Option Value → Heap → Prop} {pc pc' : Nat} {Ls Ls' : Array Slot} {st : List Value}
theorem lmulV (W : Here G X M vm T h C S) {x y v : Int64} (hd : decode M.bytes pc = .ok (.lmul, 1)) (pc' : Nat) (hp : pc + 1 = pc') (hv : x * y = v) (k : Go G X M Q T pc' Ls (.long v :: st)) : Go G X M Q T pc Ls (.long y :: .long x :: st) := by
  subst hv; exact lmul W hd pc' hp k
theorem lsubV (W : Here G X M vm T h C S) {x y v : Int64} (hd : decode M.bytes pc = .ok (.lsub, 1)) (pc' : Nat) (hp : pc + 1 = pc') (hv : x - y = v) (k : Go G X M Q T pc' Ls (.long v :: st)) : Go G X M Q T pc Ls (.long y :: .long x :: st) := by
  subst hv; exact lsub W hd pc' hp k
theorem ldivV (W : Here G X M vm T h C S) {x y v : Int64} (hd : decode M.bytes pc = .ok (.ldiv, 1)) (pc' : Nat) (hp : pc + 1 = pc') (hy : y ≠ 0) (hv : x / y = v) (k : Go G X M Q T pc' Ls (.long v :: st)) : Go G X M Q T pc Ls (.long y :: .long x :: st) := by
  subst hv; exact ldiv W hd pc' hp hy k
theorem lcmpV (W : Here G X M vm T h C S) {x y : Int64} {v : Int32} (hd : decode M.bytes pc = .ok (.lcmp, 1)) (pc' : Nat) (hp : pc + 1 = pc') (hv : XT.cmpL x y = v) (k : Go G X M Q T pc' Ls (.int v :: st)) : Go G X M Q T pc Ls (.long y :: .long x :: st) := by
  subst hv; exact lcmp W hd pc' hp k
theorem lnegV (W : Here G X M vm T h C S) {x v : Int64} (hd : decode M.bytes pc = .ok (.lneg, 1)) (pc' : Nat) (hp : pc + 1 = pc') (hv : -x = v) (k : Go G X M Q T pc' Ls (.long v :: st)) : Go G X M Q T pc Ls (.long x :: st) := by
  subst hv; exact lneg W hd pc' hp k
theorem l2iV (W : Here G X M vm T h C S) {x : Int64} {v : Int32} (hd : decode M.bytes pc = .ok (.l2i, 1)) (pc' : Nat) (hp : pc + 1 = pc') (hv : x.toInt32 = v) (k : Go G X M Q T pc' Ls (.int v :: st)) : Go G X M Q T pc Ls (.long x :: st) := by
  subst hv; exact l2i W hd pc' hp k
theorem imulV (W : Here G X M vm T h C S) {x y v : Int32} (hd : decode M.bytes pc = .ok (.imul, 1)) (pc' : Nat) (hp : pc + 1 = pc') (hv : x * y = v) (k : Go G X M Q T pc' Ls (.int v :: st)) : Go G X M Q T pc Ls (.int y :: .int x :: st) := by
  subst hv; exact imul W hd pc' hp k
theorem isubV (W : Here G X M vm T h C S) {x y v : Int32} (hd : decode M.bytes pc = .ok (.isub, 1)) (pc' : Nat) (hp : pc + 1 = pc') (hv : x - y = v) (k : Go G X M Q T pc' Ls (.int v :: st)) : Go G X M Q T pc Ls (.int y :: .int x :: st) := by
  subst hv; exact isub W hd pc' hp k
theorem idivV (W : Here G X M vm T h C S) {x y v : Int32} (hd : decode M.bytes pc = .ok (.idiv, 1)) (pc' : Nat) (hp : pc + 1 = pc') (hy : y ≠ 0) (hv : x / y = v) (k : Go G X M Q T pc' Ls (.int v :: st)) : Go G X M Q T pc Ls (.int y :: .int x :: st) := by
  subst hv; exact idiv W hd pc' hp hy k
theorem inegV (W : Here G X M vm T h C S) {x v : Int32} (hd : decode M.bytes pc = .ok (.ineg, 1)) (pc' : Nat) (hp : pc + 1 = pc') (hv : -x = v) (k : Go G X M Q T pc' Ls (.int v :: st)) : Go G X M Q T pc Ls (.int x :: st) := by
  subst hv; exact ineg W hd pc' hp k
end V
section D
variable {args : Array Value} {s : State}
theorem digStart (hf : Fit s) {t : Term} {F : Nat → Int32} (hcl : ∀ idx, t.eval args s none idx s = t.eval args s none [] s) (w1 : (Jvm.Cond.exactly t "[B").before args s = true) (w2 : (Jvm.Cond.eq (.length t) (.int 100)).before args s = true) {rhs : Term} (w3 : (Jvm.Cond.all t (.eq (.elem t (.index 0)) rhs)).before args s = true)
    (hrhs : ∀ r, r < 100 → rhs.eval args s none [r] s = some (.int (F r))) (harr : (Jvm.Cond.arrayClass .byte).before args s = true) : ∃ (d : Addr) (k : ClassId), t.eval args s none [] s = some (.ref d) ∧ Arv s s.heap d k .byte 100 (digL F) (.int 0) := by
  obtain ⟨d, cB, D, kB, hev, hfcB, hcellD, hkB, hstatD, hclsD, -⟩ := Cond.exactly_spec w1
  have hl := Cond.eq_int w2 rfl
  obtain ⟨d', D', hev', harrAt, hlen⟩ := Term.length_spec hl
  cases hev.symm.trans hev'
  obtain ⟨hcellD', hknD, -, -⟩ := State.arrayAt?_spec harrAt
  cases hcellD.symm.trans hcellD'
  have h31 := SBG.length_lt hev harrAt hl
  have hsz : D.slots.size = 100 := by
    have e : (Term.length t).eval args s none [] s = some (.int (Int32.ofNat D.slots.size)) := by simp [Term.eval, hev, harrAt, h31]
    have := Option.some.inj (e.symm.trans hl)
    have h2 : Int32.ofNat D.slots.size = Int32.ofNat 100 := by simpa using this
    have := congrArg Int32.toInt h2
    rw [Int32.toInt_ofNat_small h31, Int32.toInt_ofNat_small (by omega)] at this; omega
  obtain ⟨cB', kB', comp, hnameB, hkB', hkindB⟩ := Cond.arrayClass_spec harr
  have eBA : ("[" ++ FieldType.toString .byte) = "[B" := by decide
  rw [eBA] at hnameB
  cases hfcB.symm.trans hnameB
  cases hkB.symm.trans hkB'
  have A : Arr s s.heap d D .byte := ⟨hcellD, ⟨(fun q h => by rw [h] at hstatD; cases hstatD), kB, (by rw [hclsD]; exact hkB), comp, hkindB⟩, hknD⟩
  have hel : ∀ r, r < 100 → D.slots[r]? = some (.int (F r)) := fun r hr => by
    have h := Cond.all_elim hev harrAt (Cond.before_iff.mp w3) r (by omega)
    have e1 := Cond.eq_int (SBG.holds_of_value h) (hrhs r hr)
    rw [SBG.elem_at (ix := .index 0) ((hcl [r]).trans hev) harrAt (by omega) (by omega) rfl] at e1
    exact e1
  refine ⟨d, D.cls, hev, Arv.start hf A h31 (by rw [hsz]; decide) (by decide) (by rw [List.length_map, List.length_range]; decide) (hasL_of _ 0 fun j hj => ?_)⟩
  have hj' : j < 100 := by simpa using hj
  rw [Nat.zero_add, hel j hj']
  simp
end D
end Own
end Jvm.Pilot.@@N@@
namespace Jvm.Pilot.@@N@@
open Jvm Jvm.ClassFile Sem Op Lib Jvm.Free Jvm.Stand Jvm.LawKit Jvm.RoadKit Bundle Jvm.Pilot.@@N@@.Jvm.D
theorem lb {a b : Nat} (h : Nat.ble a b = true) : a ≤ b := Nat.le_of_ble_eq_true h
theorem tw {G : Own.Gl} (hw : ∀ d ∈ tables_1, d.before G.a0 G.Z = true) (i : Nat) {d : Jvm.Cond} (h : tables_1[i]? = some d) : d.before G.a0 G.Z = true := hw d (List.mem_of_getElem? h)
theorem wS_in : ∀ d ∈ Own.wordsN, d ∈ tables_1 := by decide +kernel
theorem wS {G : Own.Gl} (hw : ∀ d ∈ tables_1, d.before G.a0 G.Z = true) : ∀ d ∈ Own.wordsN, d.before G.a0 G.Z = true := fun d hd => hw d (wS_in d hd)
theorem wL_in : ∀ d ∈ StrChars.Road.wordsLen, d ∈ tables_1 := by decide +kernel
theorem wL {G : Own.Gl} (hw : ∀ d ∈ tables_1, d.before G.a0 G.Z = true) : ∀ d ∈ StrChars.Road.wordsLen, d.before G.a0 G.Z = true := fun d hd => hw d (wL_in d hd)
theorem wQ_in : ∀ d ∈ StrChars.Road.wordsEq, d ∈ tables_1 := by decide +kernel
theorem wQ {G : Own.Gl} (hw : ∀ d ∈ tables_1, d.before G.a0 G.Z = true) : ∀ d ∈ StrChars.Road.wordsEq, d.before G.a0 G.Z = true := fun d hd => hw d (wQ_in d hd)
theorem d1_0 : decode method_3_code 0 = .ok (.iload_n 2, 1) := by decide +kernel
theorem d1_1 : decode method_3_code 1 = .ok (.bipush 9, 2) := by decide +kernel
theorem d1_3 : decode method_3_code 3 = .ok (.if_icmp .ge 23, 3) := by decide +kernel
theorem d1_6 : decode method_3_code 6 = .ok (.aload_n 0, 1) := by decide +kernel
theorem d1_7 : decode method_3_code 7 = .ok (.iload_n 1, 1) := by decide +kernel
theorem d1_8 : decode method_3_code 8 = .ok (.bipush 45, 2) := by decide +kernel
theorem d1_10 : decode method_3_code 10 = .ok (.castore, 1) := by decide +kernel
theorem d1_11 : decode method_3_code 11 = .ok (.aload_n 0, 1) := by decide +kernel
theorem d1_12 : decode method_3_code 12 = .ok (.iload_n 1, 1) := by decide +kernel
theorem d1_13 : decode method_3_code 13 = .ok (.iconst 1, 1) := by decide +kernel
theorem d1_14 : decode method_3_code 14 = .ok (.iadd, 1) := by decide +kernel
theorem d1_15 : decode method_3_code 15 = .ok (.bipush 48, 2) := by decide +kernel
theorem d1_17 : decode method_3_code 17 = .ok (.iload_n 2, 1) := by decide +kernel
theorem d1_18 : decode method_3_code 18 = .ok (.iadd, 1) := by decide +kernel
theorem d1_19 : decode method_3_code 19 = .ok (.iconst 1, 1) := by decide +kernel
theorem d1_20 : decode method_3_code 20 = .ok (.iadd, 1) := by decide +kernel
theorem d1_21 : decode method_3_code 21 = .ok (.i2c, 1) := by decide +kernel
theorem d1_22 : decode method_3_code 22 = .ok (.castore, 1) := by decide +kernel
theorem d1_23 : decode method_3_code 23 = .ok (.goto 31, 3) := by decide +kernel
theorem d1_26 : decode method_3_code 26 = .ok (.iload_n 2, 1) := by decide +kernel
theorem d1_27 : decode method_3_code 27 = .ok (.iconst 1, 1) := by decide +kernel
theorem d1_28 : decode method_3_code 28 = .ok (.iadd, 1) := by decide +kernel
theorem d1_29 : decode method_3_code 29 = .ok (.istore_n 3, 1) := by decide +kernel
theorem d1_30 : decode method_3_code 30 = .ok (.aload_n 0, 1) := by decide +kernel
theorem d1_31 : decode method_3_code 31 = .ok (.iload_n 1, 1) := by decide +kernel
theorem d1_32 : decode method_3_code 32 = .ok (.bipush 48, 2) := by decide +kernel
theorem d1_34 : decode method_3_code 34 = .ok (.iload_n 3, 1) := by decide +kernel
theorem d1_35 : decode method_3_code 35 = .ok (.bipush 10, 2) := by decide +kernel
theorem d1_37 : decode method_3_code 37 = .ok (.idiv, 1) := by decide +kernel
theorem d1_38 : decode method_3_code 38 = .ok (.iadd, 1) := by decide +kernel
theorem d1_39 : decode method_3_code 39 = .ok (.i2c, 1) := by decide +kernel
theorem d1_40 : decode method_3_code 40 = .ok (.castore, 1) := by decide +kernel
theorem d1_41 : decode method_3_code 41 = .ok (.aload_n 0, 1) := by decide +kernel
theorem d1_42 : decode method_3_code 42 = .ok (.iload_n 1, 1) := by decide +kernel
theorem d1_43 : decode method_3_code 43 = .ok (.iconst 1, 1) := by decide +kernel
theorem d1_44 : decode method_3_code 44 = .ok (.iadd, 1) := by decide +kernel
theorem d1_45 : decode method_3_code 45 = .ok (.bipush 48, 2) := by decide +kernel
theorem d1_47 : decode method_3_code 47 = .ok (.iload_n 3, 1) := by decide +kernel
theorem d1_48 : decode method_3_code 48 = .ok (.bipush 10, 2) := by decide +kernel
theorem d1_50 : decode method_3_code 50 = .ok (.irem, 1) := by decide +kernel
theorem d1_51 : decode method_3_code 51 = .ok (.iadd, 1) := by decide +kernel
theorem d1_52 : decode method_3_code 52 = .ok (.i2c, 1) := by decide +kernel
theorem d1_53 : decode method_3_code 53 = .ok (.castore, 1) := by decide +kernel
theorem d1_54 : decode method_3_code 54 = .ok (.return_, 1) := by decide +kernel
theorem d8_0 : decode method_2_code 0 = .ok (.iload_n 0, 1) := by decide +kernel
theorem d8_1 : decode method_2_code 1 = .ok (.bipush 9, 2) := by decide +kernel
theorem d8_3 : decode method_2_code 3 = .ok (.if_icmp .ge 9, 3) := by decide +kernel
theorem d8_6 : decode method_2_code 6 = .ok (.iload_n 0, 1) := by decide +kernel
theorem d8_7 : decode method_2_code 7 = .ok (.i2l, 1) := by decide +kernel
theorem d8_8 : decode method_2_code 8 = .ok (.lconst 1, 1) := by decide +kernel
theorem d8_9 : decode method_2_code 9 = .ok (.ladd, 1) := by decide +kernel
theorem d8_10 : decode method_2_code 10 = .ok (.lneg, 1) := by decide +kernel
theorem d8_11 : decode method_2_code 11 = .ok (.lreturn, 1) := by decide +kernel
theorem d8_12 : decode method_2_code 12 = .ok (.iload_n 0, 1) := by decide +kernel
theorem d8_13 : decode method_2_code 13 = .ok (.i2l, 1) := by decide +kernel
theorem d8_14 : decode method_2_code 14 = .ok (.lconst 1, 1) := by decide +kernel
theorem d8_15 : decode method_2_code 15 = .ok (.ladd, 1) := by decide +kernel
theorem d8_16 : decode method_2_code 16 = .ok (.lreturn, 1) := by decide +kernel
theorem d9_0 : decode prog_7_method_1_code 0 = .ok (.aload_n 0, 1) := by decide +kernel
theorem d9_1 : decode prog_7_method_1_code 1 = .ok (.invokespecial 1, 3) := by decide +kernel
theorem d9_4 : decode prog_7_method_1_code 4 = .ok (.aload_n 0, 1) := by decide +kernel
theorem d9_5 : decode prog_7_method_1_code 5 = .ok (.lload_n 1, 1) := by decide +kernel
theorem d9_6 : decode prog_7_method_1_code 6 = .ok (.putfield 7, 3) := by decide +kernel
theorem d9_9 : decode prog_7_method_1_code 9 = .ok (.aload_n 0, 1) := by decide +kernel
theorem d9_10 : decode prog_7_method_1_code 10 = .ok (.lload_n 3, 1) := by decide +kernel
theorem d9_11 : decode prog_7_method_1_code 11 = .ok (.putfield 13, 3) := by decide +kernel
theorem d9_14 : decode prog_7_method_1_code 14 = .ok (.aload_n 0, 1) := by decide +kernel
theorem d9_15 : decode prog_7_method_1_code 15 = .ok (.lload 5, 2) := by decide +kernel
theorem d9_17 : decode prog_7_method_1_code 17 = .ok (.putfield 16, 3) := by decide +kernel
theorem d9_20 : decode prog_7_method_1_code 20 = .ok (.aload_n 0, 1) := by decide +kernel
theorem d9_21 : decode prog_7_method_1_code 21 = .ok (.lload 7, 2) := by decide +kernel
theorem d9_23 : decode prog_7_method_1_code 23 = .ok (.putfield 19, 3) := by decide +kernel
theorem d9_26 : decode prog_7_method_1_code 26 = .ok (.aload_n 0, 1) := by decide +kernel
theorem d9_27 : decode prog_7_method_1_code 27 = .ok (.lload 9, 2) := by decide +kernel
theorem d9_29 : decode prog_7_method_1_code 29 = .ok (.putfield 22, 3) := by decide +kernel
theorem d9_32 : decode prog_7_method_1_code 32 = .ok (.aload_n 0, 1) := by decide +kernel
theorem d9_33 : decode prog_7_method_1_code 33 = .ok (.lload 11, 2) := by decide +kernel
theorem d9_35 : decode prog_7_method_1_code 35 = .ok (.putfield 25, 3) := by decide +kernel
theorem d9_38 : decode prog_7_method_1_code 38 = .ok (.aload_n 0, 1) := by decide +kernel
theorem d9_39 : decode prog_7_method_1_code 39 = .ok (.lload 13, 2) := by decide +kernel
theorem d9_41 : decode prog_7_method_1_code 41 = .ok (.putfield 28, 3) := by decide +kernel
theorem d9_44 : decode prog_7_method_1_code 44 = .ok (.aload_n 0, 1) := by decide +kernel
theorem d9_45 : decode prog_7_method_1_code 45 = .ok (.lload 15, 2) := by decide +kernel
theorem d9_47 : decode prog_7_method_1_code 47 = .ok (.putfield 31, 3) := by decide +kernel
theorem d9_50 : decode prog_7_method_1_code 50 = .ok (.return_, 1) := by decide +kernel
theorem d10_0 : decode jdk_30_method_1_code 0 = .ok (.aload_n 0, 1) := by decide +kernel
theorem d10_1 : decode jdk_30_method_1_code 1 = .ok (.invokespecial 1, 3) := by decide +kernel
theorem d10_4 : decode jdk_30_method_1_code 4 = .ok (.return_, 1) := by decide +kernel
theorem d11_0 : decode prog_7_method_2_code 0 = .ok (.new 34, 3) := by decide +kernel
theorem d11_3 : decode prog_7_method_2_code 3 = .ok (.dup, 1) := by decide +kernel
theorem d11_4 : decode prog_7_method_2_code 4 = .ok (.invokespecial 36, 3) := by decide +kernel
theorem d11_7 : decode prog_7_method_2_code 7 = .ok (.ldc 37, 2) := by decide +kernel
theorem d11_9 : decode prog_7_method_2_code 9 = .ok (.invokevirtual 39, 3) := by decide +kernel
theorem d11_12 : decode prog_7_method_2_code 12 = .ok (.aload_n 0, 1) := by decide +kernel
theorem d11_13 : decode prog_7_method_2_code 13 = .ok (.getfield 7, 3) := by decide +kernel
theorem d11_16 : decode prog_7_method_2_code 16 = .ok (.invokevirtual 43, 3) := by decide +kernel
theorem d11_19 : decode prog_7_method_2_code 19 = .ok (.ldc 46, 2) := by decide +kernel
theorem d11_21 : decode prog_7_method_2_code 21 = .ok (.invokevirtual 39, 3) := by decide +kernel
theorem d11_24 : decode prog_7_method_2_code 24 = .ok (.aload_n 0, 1) := by decide +kernel
theorem d11_25 : decode prog_7_method_2_code 25 = .ok (.getfield 13, 3) := by decide +kernel
theorem d11_28 : decode prog_7_method_2_code 28 = .ok (.invokevirtual 43, 3) := by decide +kernel
theorem d11_31 : decode prog_7_method_2_code 31 = .ok (.ldc 48, 2) := by decide +kernel
theorem d11_33 : decode prog_7_method_2_code 33 = .ok (.invokevirtual 39, 3) := by decide +kernel
theorem d11_36 : decode prog_7_method_2_code 36 = .ok (.aload_n 0, 1) := by decide +kernel
theorem d11_37 : decode prog_7_method_2_code 37 = .ok (.getfield 16, 3) := by decide +kernel
theorem d11_40 : decode prog_7_method_2_code 40 = .ok (.invokevirtual 43, 3) := by decide +kernel
theorem d11_43 : decode prog_7_method_2_code 43 = .ok (.ldc 50, 2) := by decide +kernel
theorem d11_45 : decode prog_7_method_2_code 45 = .ok (.invokevirtual 39, 3) := by decide +kernel
theorem d11_48 : decode prog_7_method_2_code 48 = .ok (.aload_n 0, 1) := by decide +kernel
theorem d11_49 : decode prog_7_method_2_code 49 = .ok (.getfield 19, 3) := by decide +kernel
theorem d11_52 : decode prog_7_method_2_code 52 = .ok (.invokevirtual 43, 3) := by decide +kernel
theorem d11_55 : decode prog_7_method_2_code 55 = .ok (.ldc 52, 2) := by decide +kernel
theorem d11_57 : decode prog_7_method_2_code 57 = .ok (.invokevirtual 39, 3) := by decide +kernel
theorem d11_60 : decode prog_7_method_2_code 60 = .ok (.aload_n 0, 1) := by decide +kernel
theorem d11_61 : decode prog_7_method_2_code 61 = .ok (.getfield 22, 3) := by decide +kernel
theorem d11_64 : decode prog_7_method_2_code 64 = .ok (.invokevirtual 43, 3) := by decide +kernel
theorem d11_67 : decode prog_7_method_2_code 67 = .ok (.ldc 54, 2) := by decide +kernel
theorem d11_69 : decode prog_7_method_2_code 69 = .ok (.invokevirtual 39, 3) := by decide +kernel
theorem d11_72 : decode prog_7_method_2_code 72 = .ok (.aload_n 0, 1) := by decide +kernel
theorem d11_73 : decode prog_7_method_2_code 73 = .ok (.getfield 25, 3) := by decide +kernel
theorem d11_76 : decode prog_7_method_2_code 76 = .ok (.invokevirtual 43, 3) := by decide +kernel
theorem d11_79 : decode prog_7_method_2_code 79 = .ok (.ldc 56, 2) := by decide +kernel
theorem d11_81 : decode prog_7_method_2_code 81 = .ok (.invokevirtual 39, 3) := by decide +kernel
theorem d11_84 : decode prog_7_method_2_code 84 = .ok (.aload_n 0, 1) := by decide +kernel
theorem d11_85 : decode prog_7_method_2_code 85 = .ok (.getfield 28, 3) := by decide +kernel
theorem d11_88 : decode prog_7_method_2_code 88 = .ok (.invokevirtual 43, 3) := by decide +kernel
theorem d11_91 : decode prog_7_method_2_code 91 = .ok (.ldc 58, 2) := by decide +kernel
theorem d11_93 : decode prog_7_method_2_code 93 = .ok (.invokevirtual 39, 3) := by decide +kernel
theorem d11_96 : decode prog_7_method_2_code 96 = .ok (.aload_n 0, 1) := by decide +kernel
theorem d11_97 : decode prog_7_method_2_code 97 = .ok (.getfield 31, 3) := by decide +kernel
theorem d11_100 : decode prog_7_method_2_code 100 = .ok (.invokevirtual 43, 3) := by decide +kernel
theorem d11_103 : decode prog_7_method_2_code 103 = .ok (.invokevirtual 60, 3) := by decide +kernel
theorem d11_106 : decode prog_7_method_2_code 106 = .ok (.areturn, 1) := by decide +kernel
theorem d12_0 : decode jdk_67_method_1_code 0 = .ok (.aload_n 0, 1) := by decide +kernel
theorem d12_1 : decode jdk_67_method_1_code 1 = .ok (.bipush 16, 2) := by decide +kernel
theorem d12_3 : decode jdk_67_method_1_code 3 = .ok (.invokespecial 1, 3) := by decide +kernel
theorem d12_6 : decode jdk_67_method_1_code 6 = .ok (.return_, 1) := by decide +kernel
theorem d13_0 : decode jdk_68_method_2_code 0 = .ok (.aload_n 0, 1) := by decide +kernel
theorem d13_1 : decode jdk_68_method_2_code 1 = .ok (.invokespecial 3, 3) := by decide +kernel
theorem d13_4 : decode jdk_68_method_2_code 4 = .ok (.getstatic 18, 3) := by decide +kernel
theorem d13_7 : decode jdk_68_method_2_code 7 = .ok (.ifCond .eq 18, 3) := by decide +kernel
theorem d13_10 : decode jdk_68_method_2_code 10 = .ok (.aload_n 0, 1) := by decide +kernel
theorem d13_11 : decode jdk_68_method_2_code 11 = .ok (.iload_n 1, 1) := by decide +kernel
theorem d13_12 : decode jdk_68_method_2_code 12 = .ok (.newarray .byte, 2) := by decide +kernel
theorem d13_14 : decode jdk_68_method_2_code 14 = .ok (.putfield 15, 3) := by decide +kernel
theorem d13_17 : decode jdk_68_method_2_code 17 = .ok (.aload_n 0, 1) := by decide +kernel
theorem d13_18 : decode jdk_68_method_2_code 18 = .ok (.iconst 0, 1) := by decide +kernel
theorem d13_19 : decode jdk_68_method_2_code 19 = .ok (.putfield 22, 3) := by decide +kernel
theorem d13_22 : decode jdk_68_method_2_code 22 = .ok (.goto 16, 3) := by decide +kernel
theorem d13_38 : decode jdk_68_method_2_code 38 = .ok (.return_, 1) := by decide +kernel
theorem d14_0 : decode jdk_67_method_7_code 0 = .ok (.aload_n 0, 1) := by decide +kernel
theorem d14_1 : decode jdk_67_method_7_code 1 = .ok (.aload_n 1, 1) := by decide +kernel
theorem d14_2 : decode jdk_67_method_7_code 2 = .ok (.invokespecial 29, 3) := by decide +kernel
theorem d14_5 : decode jdk_67_method_7_code 5 = .ok (.pop, 1) := by decide +kernel
theorem d14_6 : decode jdk_67_method_7_code 6 = .ok (.aload_n 0, 1) := by decide +kernel
theorem d14_7 : decode jdk_67_method_7_code 7 = .ok (.areturn, 1) := by decide +kernel
theorem d15_0 : decode jdk_68_method_22_code 0 = .ok (.aload_n 1, 1) := by decide +kernel
theorem d15_1 : decode jdk_68_method_22_code 1 = .ok (.ifnonnull 8, 3) := by decide +kernel
theorem d15_9 : decode jdk_68_method_22_code 9 = .ok (.aload_n 1, 1) := by decide +kernel
theorem d15_10 : decode jdk_68_method_22_code 10 = .ok (.invokevirtual 32, 3) := by decide +kernel
theorem d15_13 : decode jdk_68_method_22_code 13 = .ok (.istore_n 2, 1) := by decide +kernel
theorem d15_14 : decode jdk_68_method_22_code 14 = .ok (.aload_n 0, 1) := by decide +kernel
theorem d15_15 : decode jdk_68_method_22_code 15 = .ok (.aload_n 0, 1) := by decide +kernel
theorem d15_16 : decode jdk_68_method_22_code 16 = .ok (.getfield 79, 3) := by decide +kernel
theorem d15_19 : decode jdk_68_method_22_code 19 = .ok (.iload_n 2, 1) := by decide +kernel
theorem d15_20 : decode jdk_68_method_22_code 20 = .ok (.iadd, 1) := by decide +kernel
theorem d15_21 : decode jdk_68_method_22_code 21 = .ok (.invokevirtual 100, 3) := by decide +kernel
theorem d15_24 : decode jdk_68_method_22_code 24 = .ok (.aload_n 0, 1) := by decide +kernel
theorem d15_25 : decode jdk_68_method_22_code 25 = .ok (.aload_n 0, 1) := by decide +kernel
theorem d15_26 : decode jdk_68_method_22_code 26 = .ok (.getfield 79, 3) := by decide +kernel
theorem d15_29 : decode jdk_68_method_22_code 29 = .ok (.aload_n 1, 1) := by decide +kernel
theorem d15_30 : decode jdk_68_method_22_code 30 = .ok (.invokevirtual 208, 3) := by decide +kernel
theorem d15_33 : decode jdk_68_method_22_code 33 = .ok (.aload_n 0, 1) := by decide +kernel
theorem d15_34 : decode jdk_68_method_22_code 34 = .ok (.dup, 1) := by decide +kernel
theorem d15_35 : decode jdk_68_method_22_code 35 = .ok (.getfield 79, 3) := by decide +kernel
theorem d15_38 : decode jdk_68_method_22_code 38 = .ok (.iload_n 2, 1) := by decide +kernel
theorem d15_39 : decode jdk_68_method_22_code 39 = .ok (.iadd, 1) := by decide +kernel
theorem d15_40 : decode jdk_68_method_22_code 40 = .ok (.putfield 79, 3) := by decide +kernel
theorem d15_43 : decode jdk_68_method_22_code 43 = .ok (.aload_n 0, 1) := by decide +kernel
theorem d15_44 : decode jdk_68_method_22_code 44 = .ok (.areturn, 1) := by decide +kernel
theorem d17_0 : decode jdk_42_method_152_code 0 = .ok (.getstatic 38, 3) := by decide +kernel
theorem d17_3 : decode jdk_42_method_152_code 3 = .ok (.ifCond .eq 10, 3) := by decide +kernel
theorem d17_6 : decode jdk_42_method_152_code 6 = .ok (.aload_n 0, 1) := by decide +kernel
theorem d17_7 : decode jdk_42_method_152_code 7 = .ok (.getfield 15, 3) := by decide +kernel
theorem d17_10 : decode jdk_42_method_152_code 10 = .ok (.goto 4, 3) := by decide +kernel
theorem d17_14 : decode jdk_42_method_152_code 14 = .ok (.ireturn, 1) := by decide +kernel
theorem d18_0 : decode jdk_68_method_9_code 0 = .ok (.aload_n 0, 1) := by decide +kernel
theorem d18_1 : decode jdk_68_method_9_code 1 = .ok (.getfield 15, 3) := by decide +kernel
theorem d18_4 : decode jdk_68_method_9_code 4 = .ok (.arraylength, 1) := by decide +kernel
theorem d18_5 : decode jdk_68_method_9_code 5 = .ok (.aload_n 0, 1) := by decide +kernel
theorem d18_6 : decode jdk_68_method_9_code 6 = .ok (.getfield 22, 3) := by decide +kernel
theorem d18_9 : decode jdk_68_method_9_code 9 = .ok (.ishr, 1) := by decide +kernel
theorem d18_10 : decode jdk_68_method_9_code 10 = .ok (.istore_n 2, 1) := by decide +kernel
theorem d18_11 : decode jdk_68_method_9_code 11 = .ok (.iload_n 1, 1) := by decide +kernel
theorem d18_12 : decode jdk_68_method_9_code 12 = .ok (.iload_n 2, 1) := by decide +kernel
theorem d18_13 : decode jdk_68_method_9_code 13 = .ok (.isub, 1) := by decide +kernel
theorem d18_14 : decode jdk_68_method_9_code 14 = .ok (.ifCond .le 24, 3) := by decide +kernel
theorem d18_17 : decode jdk_68_method_9_code 17 = .ok (.aload_n 0, 1) := by decide +kernel
theorem d18_18 : decode jdk_68_method_9_code 18 = .ok (.aload_n 0, 1) := by decide +kernel
theorem d18_19 : decode jdk_68_method_9_code 19 = .ok (.getfield 15, 3) := by decide +kernel
theorem d18_22 : decode jdk_68_method_9_code 22 = .ok (.aload_n 0, 1) := by decide +kernel
theorem d18_23 : decode jdk_68_method_9_code 23 = .ok (.iload_n 1, 1) := by decide +kernel
theorem d18_24 : decode jdk_68_method_9_code 24 = .ok (.invokevirtual 104, 3) := by decide +kernel
theorem d18_27 : decode jdk_68_method_9_code 27 = .ok (.aload_n 0, 1) := by decide +kernel
theorem d18_28 : decode jdk_68_method_9_code 28 = .ok (.getfield 22, 3) := by decide +kernel
theorem d18_31 : decode jdk_68_method_9_code 31 = .ok (.ishl, 1) := by decide +kernel
theorem d18_32 : decode jdk_68_method_9_code 32 = .ok (.invokestatic 108, 3) := by decide +kernel
theorem d18_35 : decode jdk_68_method_9_code 35 = .ok (.putfield 15, 3) := by decide +kernel
theorem d18_38 : decode jdk_68_method_9_code 38 = .ok (.return_, 1) := by decide +kernel
theorem d19_0 : decode jdk_68_method_73_code 0 = .ok (.aload_n 0, 1) := by decide +kernel
theorem d19_1 : decode jdk_68_method_73_code 1 = .ok (.aload_n 2, 1) := by decide +kernel
theorem d19_2 : decode jdk_68_method_73_code 2 = .ok (.invokevirtual 397, 3) := by decide +kernel
theorem d19_5 : decode jdk_68_method_73_code 5 = .ok (.aload_n 2, 1) := by decide +kernel
theorem d19_6 : decode jdk_68_method_73_code 6 = .ok (.aload_n 0, 1) := by decide +kernel
theorem d19_7 : decode jdk_68_method_73_code 7 = .ok (.getfield 15, 3) := by decide +kernel
theorem d19_10 : decode jdk_68_method_73_code 10 = .ok (.iload_n 1, 1) := by decide +kernel
theorem d19_11 : decode jdk_68_method_73_code 11 = .ok (.aload_n 0, 1) := by decide +kernel
theorem d19_12 : decode jdk_68_method_73_code 12 = .ok (.getfield 22, 3) := by decide +kernel
theorem d19_15 : decode jdk_68_method_73_code 15 = .ok (.invokevirtual 399, 3) := by decide +kernel
theorem d19_18 : decode jdk_68_method_73_code 18 = .ok (.return_, 1) := by decide +kernel
theorem d20_0 : decode jdk_68_method_71_code 0 = .ok (.getstatic 18, 3) := by decide +kernel
theorem d20_3 : decode jdk_68_method_71_code 3 = .ok (.ifCond .eq 18, 3) := by decide +kernel
theorem d20_6 : decode jdk_68_method_71_code 6 = .ok (.aload_n 0, 1) := by decide +kernel
theorem d20_7 : decode jdk_68_method_71_code 7 = .ok (.getfield 22, 3) := by decide +kernel
theorem d20_10 : decode jdk_68_method_71_code 10 = .ok (.aload_n 1, 1) := by decide +kernel
theorem d20_11 : decode jdk_68_method_71_code 11 = .ok (.invokevirtual 40, 3) := by decide +kernel
theorem d20_14 : decode jdk_68_method_71_code 14 = .ok (.if_icmp .eq 7, 3) := by decide +kernel
theorem d20_21 : decode jdk_68_method_71_code 21 = .ok (.return_, 1) := by decide +kernel
theorem d21_0 : decode jdk_42_method_147_code 0 = .ok (.aload_n 0, 1) := by decide +kernel
theorem d21_1 : decode jdk_42_method_147_code 1 = .ok (.invokevirtual 335, 3) := by decide +kernel
theorem d21_4 : decode jdk_42_method_147_code 4 = .ok (.iload_n 3, 1) := by decide +kernel
theorem d21_5 : decode jdk_42_method_147_code 5 = .ok (.if_icmp .ne 23, 3) := by decide +kernel
theorem d21_8 : decode jdk_42_method_147_code 8 = .ok (.aload_n 0, 1) := by decide +kernel
theorem d21_9 : decode jdk_42_method_147_code 9 = .ok (.getfield 9, 3) := by decide +kernel
theorem d21_12 : decode jdk_42_method_147_code 12 = .ok (.iconst 0, 1) := by decide +kernel
theorem d21_13 : decode jdk_42_method_147_code 13 = .ok (.aload_n 1, 1) := by decide +kernel
theorem d21_14 : decode jdk_42_method_147_code 14 = .ok (.iload_n 2, 1) := by decide +kernel
theorem d21_15 : decode jdk_42_method_147_code 15 = .ok (.iload_n 3, 1) := by decide +kernel
theorem d21_16 : decode jdk_42_method_147_code 16 = .ok (.ishl, 1) := by decide +kernel
theorem d21_17 : decode jdk_42_method_147_code 17 = .ok (.aload_n 0, 1) := by decide +kernel
theorem d21_18 : decode jdk_42_method_147_code 18 = .ok (.getfield 9, 3) := by decide +kernel
theorem d21_21 : decode jdk_42_method_147_code 21 = .ok (.arraylength, 1) := by decide +kernel
theorem d21_22 : decode jdk_42_method_147_code 22 = .ok (.invokestatic 212, 3) := by decide +kernel
theorem d21_25 : decode jdk_42_method_147_code 25 = .ok (.goto 18, 3) := by decide +kernel
theorem d21_43 : decode jdk_42_method_147_code 43 = .ok (.return_, 1) := by decide +kernel
theorem d22_0 : decode jdk_67_method_16_code 0 = .ok (.aload_n 0, 1) := by decide +kernel
theorem d22_1 : decode jdk_67_method_16_code 1 = .ok (.lload_n 1, 1) := by decide +kernel
theorem d22_2 : decode jdk_67_method_16_code 2 = .ok (.invokespecial 56, 3) := by decide +kernel
theorem d22_5 : decode jdk_67_method_16_code 5 = .ok (.pop, 1) := by decide +kernel
theorem d22_6 : decode jdk_67_method_16_code 6 = .ok (.aload_n 0, 1) := by decide +kernel
theorem d22_7 : decode jdk_67_method_16_code 7 = .ok (.areturn, 1) := by decide +kernel
theorem d23_0 : decode jdk_68_method_33_code 0 = .ok (.aload_n 0, 1) := by decide +kernel
theorem d23_1 : decode jdk_68_method_33_code 1 = .ok (.getfield 79, 3) := by decide +kernel
theorem d23_4 : decode jdk_68_method_33_code 4 = .ok (.istore_n 3, 1) := by decide +kernel
theorem d23_5 : decode jdk_68_method_33_code 5 = .ok (.iload_n 3, 1) := by decide +kernel
theorem d23_6 : decode jdk_68_method_33_code 6 = .ok (.lload_n 1, 1) := by decide +kernel
theorem d23_7 : decode jdk_68_method_33_code 7 = .ok (.invokestatic 254, 3) := by decide +kernel
theorem d23_10 : decode jdk_68_method_33_code 10 = .ok (.iadd, 1) := by decide +kernel
theorem d23_11 : decode jdk_68_method_33_code 11 = .ok (.istore 4, 2) := by decide +kernel
theorem d23_13 : decode jdk_68_method_33_code 13 = .ok (.aload_n 0, 1) := by decide +kernel
theorem d23_14 : decode jdk_68_method_33_code 14 = .ok (.iload 4, 2) := by decide +kernel
theorem d23_16 : decode jdk_68_method_33_code 16 = .ok (.invokevirtual 100, 3) := by decide +kernel
theorem d23_19 : decode jdk_68_method_33_code 19 = .ok (.aload_n 0, 1) := by decide +kernel
theorem d23_20 : decode jdk_68_method_33_code 20 = .ok (.invokevirtual 83, 3) := by decide +kernel
theorem d23_23 : decode jdk_68_method_33_code 23 = .ok (.ifCond .eq 17, 3) := by decide +kernel
theorem d23_26 : decode jdk_68_method_33_code 26 = .ok (.lload_n 1, 1) := by decide +kernel
theorem d23_27 : decode jdk_68_method_33_code 27 = .ok (.iload 4, 2) := by decide +kernel
theorem d23_29 : decode jdk_68_method_33_code 29 = .ok (.aload_n 0, 1) := by decide +kernel
theorem d23_30 : decode jdk_68_method_33_code 30 = .ok (.getfield 15, 3) := by decide +kernel
theorem d23_33 : decode jdk_68_method_33_code 33 = .ok (.invokestatic 259, 3) := by decide +kernel
theorem d23_36 : decode jdk_68_method_33_code 36 = .ok (.pop, 1) := by decide +kernel
theorem d23_37 : decode jdk_68_method_33_code 37 = .ok (.goto 15, 3) := by decide +kernel
theorem d23_52 : decode jdk_68_method_33_code 52 = .ok (.aload_n 0, 1) := by decide +kernel
theorem d23_53 : decode jdk_68_method_33_code 53 = .ok (.iload 4, 2) := by decide +kernel
theorem d23_55 : decode jdk_68_method_33_code 55 = .ok (.putfield 79, 3) := by decide +kernel
theorem d23_58 : decode jdk_68_method_33_code 58 = .ok (.aload_n 0, 1) := by decide +kernel
theorem d23_59 : decode jdk_68_method_33_code 59 = .ok (.areturn, 1) := by decide +kernel
theorem d24_0 : decode jdk_35_method_15_code 0 = .ok (.iconst 1, 1) := by decide +kernel
theorem d24_1 : decode jdk_35_method_15_code 1 = .ok (.istore_n 2, 1) := by decide +kernel
theorem d24_2 : decode jdk_35_method_15_code 2 = .ok (.lload_n 0, 1) := by decide +kernel
theorem d24_3 : decode jdk_35_method_15_code 3 = .ok (.lconst 0, 1) := by decide +kernel
theorem d24_4 : decode jdk_35_method_15_code 4 = .ok (.lcmp, 1) := by decide +kernel
theorem d24_5 : decode jdk_35_method_15_code 5 = .ok (.ifCond .lt 8, 3) := by decide +kernel
theorem d24_8 : decode jdk_35_method_15_code 8 = .ok (.iconst 0, 1) := by decide +kernel
theorem d24_9 : decode jdk_35_method_15_code 9 = .ok (.istore_n 2, 1) := by decide +kernel
theorem d24_10 : decode jdk_35_method_15_code 10 = .ok (.lload_n 0, 1) := by decide +kernel
theorem d24_11 : decode jdk_35_method_15_code 11 = .ok (.lneg, 1) := by decide +kernel
theorem d24_12 : decode jdk_35_method_15_code 12 = .ok (.lstore_n 0, 1) := by decide +kernel
theorem d24_13 : decode jdk_35_method_15_code 13 = .ok (.ldc2_w 140, 3) := by decide +kernel
theorem d24_16 : decode jdk_35_method_15_code 16 = .ok (.lstore_n 3, 1) := by decide +kernel
theorem d24_17 : decode jdk_35_method_15_code 17 = .ok (.iconst 1, 1) := by decide +kernel
theorem d24_18 : decode jdk_35_method_15_code 18 = .ok (.istore 5, 2) := by decide +kernel
theorem d24_20 : decode jdk_35_method_15_code 20 = .ok (.iload 5, 2) := by decide +kernel
theorem d24_22 : decode jdk_35_method_15_code 22 = .ok (.bipush 19, 2) := by decide +kernel
theorem d24_24 : decode jdk_35_method_15_code 24 = .ok (.if_icmp .ge 26, 3) := by decide +kernel
theorem d24_27 : decode jdk_35_method_15_code 27 = .ok (.lload_n 0, 1) := by decide +kernel
theorem d24_28 : decode jdk_35_method_15_code 28 = .ok (.lload_n 3, 1) := by decide +kernel
theorem d24_29 : decode jdk_35_method_15_code 29 = .ok (.lcmp, 1) := by decide +kernel
theorem d24_30 : decode jdk_35_method_15_code 30 = .ok (.ifCond .le 8, 3) := by decide +kernel
theorem d24_33 : decode jdk_35_method_15_code 33 = .ok (.iload 5, 2) := by decide +kernel
theorem d24_35 : decode jdk_35_method_15_code 35 = .ok (.iload_n 2, 1) := by decide +kernel
theorem d24_36 : decode jdk_35_method_15_code 36 = .ok (.iadd, 1) := by decide +kernel
theorem d24_37 : decode jdk_35_method_15_code 37 = .ok (.ireturn, 1) := by decide +kernel
theorem d24_38 : decode jdk_35_method_15_code 38 = .ok (.ldc2_w 53, 3) := by decide +kernel
theorem d24_41 : decode jdk_35_method_15_code 41 = .ok (.lload_n 3, 1) := by decide +kernel
theorem d24_42 : decode jdk_35_method_15_code 42 = .ok (.lmul, 1) := by decide +kernel
theorem d24_43 : decode jdk_35_method_15_code 43 = .ok (.lstore_n 3, 1) := by decide +kernel
theorem d24_44 : decode jdk_35_method_15_code 44 = .ok (.iinc 5 1, 3) := by decide +kernel
theorem d24_47 : decode jdk_35_method_15_code 47 = .ok (.goto (-27), 3) := by decide +kernel
theorem d24_50 : decode jdk_35_method_15_code 50 = .ok (.bipush 19, 2) := by decide +kernel
theorem d24_52 : decode jdk_35_method_15_code 52 = .ok (.iload_n 2, 1) := by decide +kernel
theorem d24_53 : decode jdk_35_method_15_code 53 = .ok (.iadd, 1) := by decide +kernel
theorem d24_54 : decode jdk_35_method_15_code 54 = .ok (.ireturn, 1) := by decide +kernel
theorem d25_0 : decode jdk_68_method_68_code 0 = .ok (.getstatic 18, 3) := by decide +kernel
theorem d25_3 : decode jdk_68_method_68_code 3 = .ok (.ifCond .eq 14, 3) := by decide +kernel
theorem d25_6 : decode jdk_68_method_68_code 6 = .ok (.aload_n 0, 1) := by decide +kernel
theorem d25_7 : decode jdk_68_method_68_code 7 = .ok (.getfield 22, 3) := by decide +kernel
theorem d25_10 : decode jdk_68_method_68_code 10 = .ok (.ifCond .ne 7, 3) := by decide +kernel
theorem d25_13 : decode jdk_68_method_68_code 13 = .ok (.iconst 1, 1) := by decide +kernel
theorem d25_14 : decode jdk_68_method_68_code 14 = .ok (.goto 4, 3) := by decide +kernel
theorem d25_18 : decode jdk_68_method_68_code 18 = .ok (.ireturn, 1) := by decide +kernel
theorem d26_0 : decode jdk_35_method_14_code 0 = .ok (.iload_n 2, 1) := by decide +kernel
theorem d26_1 : decode jdk_35_method_14_code 1 = .ok (.istore 7, 2) := by decide +kernel
theorem d26_3 : decode jdk_35_method_14_code 3 = .ok (.lload_n 0, 1) := by decide +kernel
theorem d26_4 : decode jdk_35_method_14_code 4 = .ok (.lconst 0, 1) := by decide +kernel
theorem d26_5 : decode jdk_35_method_14_code 5 = .ok (.lcmp, 1) := by decide +kernel
theorem d26_6 : decode jdk_35_method_14_code 6 = .ok (.ifCond .ge 7, 3) := by decide +kernel
theorem d26_9 : decode jdk_35_method_14_code 9 = .ok (.iconst 1, 1) := by decide +kernel
theorem d26_10 : decode jdk_35_method_14_code 10 = .ok (.goto 4, 3) := by decide +kernel
theorem d26_13 : decode jdk_35_method_14_code 13 = .ok (.iconst 0, 1) := by decide +kernel
theorem d26_14 : decode jdk_35_method_14_code 14 = .ok (.istore 8, 2) := by decide +kernel
theorem d26_16 : decode jdk_35_method_14_code 16 = .ok (.iload 8, 2) := by decide +kernel
theorem d26_18 : decode jdk_35_method_14_code 18 = .ok (.ifCond .ne 6, 3) := by decide +kernel
theorem d26_21 : decode jdk_35_method_14_code 21 = .ok (.lload_n 0, 1) := by decide +kernel
theorem d26_22 : decode jdk_35_method_14_code 22 = .ok (.lneg, 1) := by decide +kernel
theorem d26_23 : decode jdk_35_method_14_code 23 = .ok (.lstore_n 0, 1) := by decide +kernel
theorem d26_24 : decode jdk_35_method_14_code 24 = .ok (.lload_n 0, 1) := by decide +kernel
theorem d26_25 : decode jdk_35_method_14_code 25 = .ok (.ldc2_w 129, 3) := by decide +kernel
theorem d26_28 : decode jdk_35_method_14_code 28 = .ok (.lcmp, 1) := by decide +kernel
theorem d26_29 : decode jdk_35_method_14_code 29 = .ok (.ifCond .gt 53, 3) := by decide +kernel
theorem d26_32 : decode jdk_35_method_14_code 32 = .ok (.lload_n 0, 1) := by decide +kernel
theorem d26_33 : decode jdk_35_method_14_code 33 = .ok (.ldc2_w 131, 3) := by decide +kernel
theorem d26_36 : decode jdk_35_method_14_code 36 = .ok (.ldiv, 1) := by decide +kernel
theorem d26_37 : decode jdk_35_method_14_code 37 = .ok (.lstore 4, 2) := by decide +kernel
theorem d26_39 : decode jdk_35_method_14_code 39 = .ok (.lload 4, 2) := by decide +kernel
theorem d26_41 : decode jdk_35_method_14_code 41 = .ok (.ldc2_w 131, 3) := by decide +kernel
theorem d26_44 : decode jdk_35_method_14_code 44 = .ok (.lmul, 1) := by decide +kernel
theorem d26_45 : decode jdk_35_method_14_code 45 = .ok (.lload_n 0, 1) := by decide +kernel
theorem d26_46 : decode jdk_35_method_14_code 46 = .ok (.lsub, 1) := by decide +kernel
theorem d26_47 : decode jdk_35_method_14_code 47 = .ok (.l2i, 1) := by decide +kernel
theorem d26_48 : decode jdk_35_method_14_code 48 = .ok (.istore 6, 2) := by decide +kernel
theorem d26_50 : decode jdk_35_method_14_code 50 = .ok (.lload 4, 2) := by decide +kernel
theorem d26_52 : decode jdk_35_method_14_code 52 = .ok (.lstore_n 0, 1) := by decide +kernel
theorem d26_53 : decode jdk_35_method_14_code 53 = .ok (.aload_n 3, 1) := by decide +kernel
theorem d26_54 : decode jdk_35_method_14_code 54 = .ok (.iinc 7 (-1), 3) := by decide +kernel
theorem d26_57 : decode jdk_35_method_14_code 57 = .ok (.iload 7, 2) := by decide +kernel
theorem d26_59 : decode jdk_35_method_14_code 59 = .ok (.getstatic 133, 3) := by decide +kernel
theorem d26_62 : decode jdk_35_method_14_code 62 = .ok (.iload 6, 2) := by decide +kernel
theorem d26_64 : decode jdk_35_method_14_code 64 = .ok (.baload, 1) := by decide +kernel
theorem d26_65 : decode jdk_35_method_14_code 65 = .ok (.bastore, 1) := by decide +kernel
theorem d26_66 : decode jdk_35_method_14_code 66 = .ok (.aload_n 3, 1) := by decide +kernel
theorem d26_67 : decode jdk_35_method_14_code 67 = .ok (.iinc 7 (-1), 3) := by decide +kernel
theorem d26_70 : decode jdk_35_method_14_code 70 = .ok (.iload 7, 2) := by decide +kernel
theorem d26_72 : decode jdk_35_method_14_code 72 = .ok (.getstatic 137, 3) := by decide +kernel
theorem d26_75 : decode jdk_35_method_14_code 75 = .ok (.iload 6, 2) := by decide +kernel
theorem d26_77 : decode jdk_35_method_14_code 77 = .ok (.baload, 1) := by decide +kernel
theorem d26_78 : decode jdk_35_method_14_code 78 = .ok (.bastore, 1) := by decide +kernel
theorem d26_79 : decode jdk_35_method_14_code 79 = .ok (.goto (-55), 3) := by decide +kernel
theorem d26_82 : decode jdk_35_method_14_code 82 = .ok (.lload_n 0, 1) := by decide +kernel
theorem d26_83 : decode jdk_35_method_14_code 83 = .ok (.l2i, 1) := by decide +kernel
theorem d26_84 : decode jdk_35_method_14_code 84 = .ok (.istore 10, 2) := by decide +kernel
theorem d26_86 : decode jdk_35_method_14_code 86 = .ok (.iload 10, 2) := by decide +kernel
theorem d26_88 : decode jdk_35_method_14_code 88 = .ok (.bipush (-100), 2) := by decide +kernel
theorem d26_90 : decode jdk_35_method_14_code 90 = .ok (.if_icmp .gt 53, 3) := by decide +kernel
theorem d26_93 : decode jdk_35_method_14_code 93 = .ok (.iload 10, 2) := by decide +kernel
theorem d26_95 : decode jdk_35_method_14_code 95 = .ok (.bipush 100, 2) := by decide +kernel
theorem d26_97 : decode jdk_35_method_14_code 97 = .ok (.idiv, 1) := by decide +kernel
theorem d26_98 : decode jdk_35_method_14_code 98 = .ok (.istore 9, 2) := by decide +kernel
theorem d26_100 : decode jdk_35_method_14_code 100 = .ok (.iload 9, 2) := by decide +kernel
theorem d26_102 : decode jdk_35_method_14_code 102 = .ok (.bipush 100, 2) := by decide +kernel
theorem d26_104 : decode jdk_35_method_14_code 104 = .ok (.imul, 1) := by decide +kernel
theorem d26_105 : decode jdk_35_method_14_code 105 = .ok (.iload 10, 2) := by decide +kernel
theorem d26_107 : decode jdk_35_method_14_code 107 = .ok (.isub, 1) := by decide +kernel
theorem d26_108 : decode jdk_35_method_14_code 108 = .ok (.istore 6, 2) := by decide +kernel
theorem d26_110 : decode jdk_35_method_14_code 110 = .ok (.iload 9, 2) := by decide +kernel
theorem d26_112 : decode jdk_35_method_14_code 112 = .ok (.istore 10, 2) := by decide +kernel
theorem d26_114 : decode jdk_35_method_14_code 114 = .ok (.aload_n 3, 1) := by decide +kernel
theorem d26_115 : decode jdk_35_method_14_code 115 = .ok (.iinc 7 (-1), 3) := by decide +kernel
theorem d26_118 : decode jdk_35_method_14_code 118 = .ok (.iload 7, 2) := by decide +kernel
theorem d26_120 : decode jdk_35_method_14_code 120 = .ok (.getstatic 133, 3) := by decide +kernel
theorem d26_123 : decode jdk_35_method_14_code 123 = .ok (.iload 6, 2) := by decide +kernel
theorem d26_125 : decode jdk_35_method_14_code 125 = .ok (.baload, 1) := by decide +kernel
theorem d26_126 : decode jdk_35_method_14_code 126 = .ok (.bastore, 1) := by decide +kernel
theorem d26_127 : decode jdk_35_method_14_code 127 = .ok (.aload_n 3, 1) := by decide +kernel
theorem d26_128 : decode jdk_35_method_14_code 128 = .ok (.iinc 7 (-1), 3) := by decide +kernel
theorem d26_131 : decode jdk_35_method_14_code 131 = .ok (.iload 7, 2) := by decide +kernel
theorem d26_133 : decode jdk_35_method_14_code 133 = .ok (.getstatic 137, 3) := by decide +kernel
theorem d26_136 : decode jdk_35_method_14_code 136 = .ok (.iload 6, 2) := by decide +kernel
theorem d26_138 : decode jdk_35_method_14_code 138 = .ok (.baload, 1) := by decide +kernel
theorem d26_139 : decode jdk_35_method_14_code 139 = .ok (.bastore, 1) := by decide +kernel
theorem d26_140 : decode jdk_35_method_14_code 140 = .ok (.goto (-54), 3) := by decide +kernel
theorem d26_143 : decode jdk_35_method_14_code 143 = .ok (.aload_n 3, 1) := by decide +kernel
theorem d26_144 : decode jdk_35_method_14_code 144 = .ok (.iinc 7 (-1), 3) := by decide +kernel
theorem d26_147 : decode jdk_35_method_14_code 147 = .ok (.iload 7, 2) := by decide +kernel
theorem d26_149 : decode jdk_35_method_14_code 149 = .ok (.getstatic 133, 3) := by decide +kernel
theorem d26_152 : decode jdk_35_method_14_code 152 = .ok (.iload 10, 2) := by decide +kernel
theorem d26_154 : decode jdk_35_method_14_code 154 = .ok (.ineg, 1) := by decide +kernel
theorem d26_155 : decode jdk_35_method_14_code 155 = .ok (.baload, 1) := by decide +kernel
theorem d26_156 : decode jdk_35_method_14_code 156 = .ok (.bastore, 1) := by decide +kernel
theorem d26_157 : decode jdk_35_method_14_code 157 = .ok (.iload 10, 2) := by decide +kernel
theorem d26_159 : decode jdk_35_method_14_code 159 = .ok (.bipush (-9), 2) := by decide +kernel
theorem d26_161 : decode jdk_35_method_14_code 161 = .ok (.if_icmp .ge 17, 3) := by decide +kernel
theorem d26_164 : decode jdk_35_method_14_code 164 = .ok (.aload_n 3, 1) := by decide +kernel
theorem d26_165 : decode jdk_35_method_14_code 165 = .ok (.iinc 7 (-1), 3) := by decide +kernel
theorem d26_168 : decode jdk_35_method_14_code 168 = .ok (.iload 7, 2) := by decide +kernel
theorem d26_170 : decode jdk_35_method_14_code 170 = .ok (.getstatic 137, 3) := by decide +kernel
theorem d26_173 : decode jdk_35_method_14_code 173 = .ok (.iload 10, 2) := by decide +kernel
theorem d26_175 : decode jdk_35_method_14_code 175 = .ok (.ineg, 1) := by decide +kernel
theorem d26_176 : decode jdk_35_method_14_code 176 = .ok (.baload, 1) := by decide +kernel
theorem d26_177 : decode jdk_35_method_14_code 177 = .ok (.bastore, 1) := by decide +kernel
theorem d26_178 : decode jdk_35_method_14_code 178 = .ok (.iload 8, 2) := by decide +kernel
theorem d26_180 : decode jdk_35_method_14_code 180 = .ok (.ifCond .eq 12, 3) := by decide +kernel
theorem d26_183 : decode jdk_35_method_14_code 183 = .ok (.aload_n 3, 1) := by decide +kernel
theorem d26_184 : decode jdk_35_method_14_code 184 = .ok (.iinc 7 (-1), 3) := by decide +kernel
theorem d26_187 : decode jdk_35_method_14_code 187 = .ok (.iload 7, 2) := by decide +kernel
theorem d26_189 : decode jdk_35_method_14_code 189 = .ok (.bipush 45, 2) := by decide +kernel
theorem d26_191 : decode jdk_35_method_14_code 191 = .ok (.bastore, 1) := by decide +kernel
theorem d26_192 : decode jdk_35_method_14_code 192 = .ok (.iload 7, 2) := by decide +kernel
theorem d26_194 : decode jdk_35_method_14_code 194 = .ok (.ireturn, 1) := by decide +kernel
theorem d27_0 : decode jdk_68_method_10_code 0 = .ok (.aload_n 0, 1) := by decide +kernel
theorem d27_1 : decode jdk_68_method_10_code 1 = .ok (.getfield 15, 3) := by decide +kernel
theorem d27_4 : decode jdk_68_method_10_code 4 = .ok (.arraylength, 1) := by decide +kernel
theorem d27_5 : decode jdk_68_method_10_code 5 = .ok (.istore_n 2, 1) := by decide +kernel
theorem d27_6 : decode jdk_68_method_10_code 6 = .ok (.iload_n 1, 1) := by decide +kernel
theorem d27_7 : decode jdk_68_method_10_code 7 = .ok (.aload_n 0, 1) := by decide +kernel
theorem d27_8 : decode jdk_68_method_10_code 8 = .ok (.getfield 22, 3) := by decide +kernel
theorem d27_11 : decode jdk_68_method_10_code 11 = .ok (.ishl, 1) := by decide +kernel
theorem d27_12 : decode jdk_68_method_10_code 12 = .ok (.istore_n 3, 1) := by decide +kernel
theorem d27_13 : decode jdk_68_method_10_code 13 = .ok (.iload_n 3, 1) := by decide +kernel
theorem d27_14 : decode jdk_68_method_10_code 14 = .ok (.iload_n 2, 1) := by decide +kernel
theorem d27_15 : decode jdk_68_method_10_code 15 = .ok (.isub, 1) := by decide +kernel
theorem d27_16 : decode jdk_68_method_10_code 16 = .ok (.istore 4, 2) := by decide +kernel
theorem d27_18 : decode jdk_68_method_10_code 18 = .ok (.iload_n 2, 1) := by decide +kernel
theorem d27_19 : decode jdk_68_method_10_code 19 = .ok (.iload 4, 2) := by decide +kernel
theorem d27_21 : decode jdk_68_method_10_code 21 = .ok (.iload_n 2, 1) := by decide +kernel
theorem d27_22 : decode jdk_68_method_10_code 22 = .ok (.iconst 2, 1) := by decide +kernel
theorem d27_23 : decode jdk_68_method_10_code 23 = .ok (.aload_n 0, 1) := by decide +kernel
theorem d27_24 : decode jdk_68_method_10_code 24 = .ok (.getfield 22, 3) := by decide +kernel
theorem d27_27 : decode jdk_68_method_10_code 27 = .ok (.ishl, 1) := by decide +kernel
theorem d27_28 : decode jdk_68_method_10_code 28 = .ok (.iadd, 1) := by decide +kernel
theorem d27_29 : decode jdk_68_method_10_code 29 = .ok (.invokestatic 114, 3) := by decide +kernel
theorem d27_32 : decode jdk_68_method_10_code 32 = .ok (.istore 5, 2) := by decide +kernel
theorem d27_34 : decode jdk_68_method_10_code 34 = .ok (.iload 5, 2) := by decide +kernel
theorem d27_36 : decode jdk_68_method_10_code 36 = .ok (.ldc 39, 2) := by decide +kernel
theorem d27_38 : decode jdk_68_method_10_code 38 = .ok (.if_icmp .ne 13, 3) := by decide +kernel
theorem d27_51 : decode jdk_68_method_10_code 51 = .ok (.iload 5, 2) := by decide +kernel
theorem d27_53 : decode jdk_68_method_10_code 53 = .ok (.aload_n 0, 1) := by decide +kernel
theorem d27_54 : decode jdk_68_method_10_code 54 = .ok (.getfield 22, 3) := by decide +kernel
theorem d27_57 : decode jdk_68_method_10_code 57 = .ok (.ishr, 1) := by decide +kernel
theorem d27_58 : decode jdk_68_method_10_code 58 = .ok (.ireturn, 1) := by decide +kernel
theorem d28_0 : decode jdk_48_method_27_code 0 = .ok (.iload_n 0, 1) := by decide +kernel
theorem d28_1 : decode jdk_48_method_27_code 1 = .ok (.iload_n 1, 1) := by decide +kernel
theorem d28_2 : decode jdk_48_method_27_code 2 = .ok (.iload_n 2, 1) := by decide +kernel
theorem d28_3 : decode jdk_48_method_27_code 3 = .ok (.invokestatic 194, 3) := by decide +kernel
theorem d28_6 : decode jdk_48_method_27_code 6 = .ok (.iadd, 1) := by decide +kernel
theorem d28_7 : decode jdk_48_method_27_code 7 = .ok (.istore_n 3, 1) := by decide +kernel
theorem d28_8 : decode jdk_48_method_27_code 8 = .ok (.iconst 0, 1) := by decide +kernel
theorem d28_9 : decode jdk_48_method_27_code 9 = .ok (.iload_n 3, 1) := by decide +kernel
theorem d28_10 : decode jdk_48_method_27_code 10 = .ok (.if_icmp .ge 11, 3) := by decide +kernel
theorem d28_13 : decode jdk_48_method_27_code 13 = .ok (.iload_n 3, 1) := by decide +kernel
theorem d28_14 : decode jdk_48_method_27_code 14 = .ok (.ldc 200, 2) := by decide +kernel
theorem d28_16 : decode jdk_48_method_27_code 16 = .ok (.if_icmp .gt 5, 3) := by decide +kernel
theorem d28_19 : decode jdk_48_method_27_code 19 = .ok (.iload_n 3, 1) := by decide +kernel
theorem d28_20 : decode jdk_48_method_27_code 20 = .ok (.ireturn, 1) := by decide +kernel
theorem d29_0 : decode jdk_29_method_65_code 0 = .ok (.iload_n 0, 1) := by decide +kernel
theorem d29_1 : decode jdk_29_method_65_code 1 = .ok (.iload_n 1, 1) := by decide +kernel
theorem d29_2 : decode jdk_29_method_65_code 2 = .ok (.if_icmp .lt 7, 3) := by decide +kernel
theorem d29_9 : decode jdk_29_method_65_code 9 = .ok (.iload_n 1, 1) := by decide +kernel
theorem d29_10 : decode jdk_29_method_65_code 10 = .ok (.ireturn, 1) := by decide +kernel
theorem d30_0 : decode jdk_65_method_121_code 0 = .ok (.iload_n 1, 1) := by decide +kernel
theorem d30_1 : decode jdk_65_method_121_code 1 = .ok (.aload_n 0, 1) := by decide +kernel
theorem d30_2 : decode jdk_65_method_121_code 2 = .ok (.arraylength, 1) := by decide +kernel
theorem d30_3 : decode jdk_65_method_121_code 3 = .ok (.if_icmp .ne 11, 3) := by decide +kernel
theorem d30_14 : decode jdk_65_method_121_code 14 = .ok (.iload_n 1, 1) := by decide +kernel
theorem d30_15 : decode jdk_65_method_121_code 15 = .ok (.newarray .byte, 2) := by decide +kernel
theorem d30_17 : decode jdk_65_method_121_code 17 = .ok (.astore_n 2, 1) := by decide +kernel
theorem d30_18 : decode jdk_65_method_121_code 18 = .ok (.aload_n 0, 1) := by decide +kernel
theorem d30_19 : decode jdk_65_method_121_code 19 = .ok (.iconst 0, 1) := by decide +kernel
theorem d30_20 : decode jdk_65_method_121_code 20 = .ok (.aload_n 2, 1) := by decide +kernel
theorem d30_21 : decode jdk_65_method_121_code 21 = .ok (.iconst 0, 1) := by decide +kernel
theorem d30_22 : decode jdk_65_method_121_code 22 = .ok (.aload_n 0, 1) := by decide +kernel
theorem d30_23 : decode jdk_65_method_121_code 23 = .ok (.arraylength, 1) := by decide +kernel
theorem d30_24 : decode jdk_65_method_121_code 24 = .ok (.iload_n 1, 1) := by decide +kernel
theorem d30_25 : decode jdk_65_method_121_code 25 = .ok (.invokestatic 304, 3) := by decide +kernel
theorem d30_28 : decode jdk_65_method_121_code 28 = .ok (.invokestatic 150, 3) := by decide +kernel
theorem d30_31 : decode jdk_65_method_121_code 31 = .ok (.aload_n 2, 1) := by decide +kernel
theorem d30_32 : decode jdk_65_method_121_code 32 = .ok (.areturn, 1) := by decide +kernel
theorem d31_0 : decode jdk_29_method_69_code 0 = .ok (.iload_n 0, 1) := by decide +kernel
theorem d31_1 : decode jdk_29_method_69_code 1 = .ok (.iload_n 1, 1) := by decide +kernel
theorem d31_2 : decode jdk_29_method_69_code 2 = .ok (.if_icmp .gt 7, 3) := by decide +kernel
theorem d31_5 : decode jdk_29_method_69_code 5 = .ok (.iload_n 0, 1) := by decide +kernel
theorem d31_6 : decode jdk_29_method_69_code 6 = .ok (.goto 4, 3) := by decide +kernel
theorem d31_9 : decode jdk_29_method_69_code 9 = .ok (.iload_n 1, 1) := by decide +kernel
theorem d31_10 : decode jdk_29_method_69_code 10 = .ok (.ireturn, 1) := by decide +kernel
theorem d32_0 : decode jdk_67_method_42_code 0 = .ok (.new 18, 3) := by decide +kernel
theorem d32_3 : decode jdk_67_method_42_code 3 = .ok (.dup, 1) := by decide +kernel
theorem d32_4 : decode jdk_67_method_42_code 4 = .ok (.aload_n 0, 1) := by decide +kernel
theorem d32_5 : decode jdk_67_method_42_code 5 = .ok (.invokespecial 137, 3) := by decide +kernel
theorem d32_8 : decode jdk_67_method_42_code 8 = .ok (.areturn, 1) := by decide +kernel
theorem d33_0 : decode jdk_42_method_53_code 0 = .ok (.aload_n 0, 1) := by decide +kernel
theorem d33_1 : decode jdk_42_method_53_code 1 = .ok (.aload_n 1, 1) := by decide +kernel
theorem d33_2 : decode jdk_42_method_53_code 2 = .ok (.aconst_null, 1) := by decide +kernel
theorem d33_3 : decode jdk_42_method_53_code 3 = .ok (.invokespecial 489, 3) := by decide +kernel
theorem d33_6 : decode jdk_42_method_53_code 6 = .ok (.return_, 1) := by decide +kernel
theorem d34_0 : decode jdk_42_method_150_code 0 = .ok (.aload_n 0, 1) := by decide +kernel
theorem d34_1 : decode jdk_42_method_150_code 1 = .ok (.invokespecial 1, 3) := by decide +kernel
theorem d34_4 : decode jdk_42_method_150_code 4 = .ok (.aload_n 1, 1) := by decide +kernel
theorem d34_5 : decode jdk_42_method_150_code 5 = .ok (.invokevirtual 552, 3) := by decide +kernel
theorem d34_8 : decode jdk_42_method_150_code 8 = .ok (.astore_n 3, 1) := by decide +kernel
theorem d34_9 : decode jdk_42_method_150_code 9 = .ok (.aload_n 1, 1) := by decide +kernel
theorem d34_10 : decode jdk_42_method_150_code 10 = .ok (.invokevirtual 549, 3) := by decide +kernel
theorem d34_13 : decode jdk_42_method_150_code 13 = .ok (.istore 4, 2) := by decide +kernel
theorem d34_15 : decode jdk_42_method_150_code 15 = .ok (.aload_n 1, 1) := by decide +kernel
theorem d34_16 : decode jdk_42_method_150_code 16 = .ok (.invokevirtual 1047, 3) := by decide +kernel
theorem d34_19 : decode jdk_42_method_150_code 19 = .ok (.ifCond .eq 22, 3) := by decide +kernel
theorem d34_22 : decode jdk_42_method_150_code 22 = .ok (.aload_n 0, 1) := by decide +kernel
theorem d34_23 : decode jdk_42_method_150_code 23 = .ok (.iconst 0, 1) := by decide +kernel
theorem d34_24 : decode jdk_42_method_150_code 24 = .ok (.putfield 15, 3) := by decide +kernel
theorem d34_27 : decode jdk_42_method_150_code 27 = .ok (.aload_n 0, 1) := by decide +kernel
theorem d34_28 : decode jdk_42_method_150_code 28 = .ok (.aload_n 3, 1) := by decide +kernel
theorem d34_29 : decode jdk_42_method_150_code 29 = .ok (.iconst 0, 1) := by decide +kernel
theorem d34_30 : decode jdk_42_method_150_code 30 = .ok (.iload 4, 2) := by decide +kernel
theorem d34_32 : decode jdk_42_method_150_code 32 = .ok (.invokestatic 54, 3) := by decide +kernel
theorem d34_35 : decode jdk_42_method_150_code 35 = .ok (.putfield 9, 3) := by decide +kernel
theorem d34_38 : decode jdk_42_method_150_code 38 = .ok (.goto 59, 3) := by decide +kernel
theorem d34_97 : decode jdk_42_method_150_code 97 = .ok (.return_, 1) := by decide +kernel
theorem d35_0 : decode jdk_68_method_64_code 0 = .ok (.aload_n 0, 1) := by decide +kernel
theorem d35_1 : decode jdk_68_method_64_code 1 = .ok (.getfield 15, 3) := by decide +kernel
theorem d35_4 : decode jdk_68_method_64_code 4 = .ok (.areturn, 1) := by decide +kernel
theorem d36_0 : decode jdk_67_method_93_code 0 = .ok (.aload_n 0, 1) := by decide +kernel
theorem d36_1 : decode jdk_67_method_93_code 1 = .ok (.invokespecial 343, 3) := by decide +kernel
theorem d36_4 : decode jdk_67_method_93_code 4 = .ok (.ireturn, 1) := by decide +kernel
theorem d37_0 : decode jdk_68_method_6_code 0 = .ok (.aload_n 0, 1) := by decide +kernel
theorem d37_1 : decode jdk_68_method_6_code 1 = .ok (.getfield 79, 3) := by decide +kernel
theorem d37_4 : decode jdk_68_method_6_code 4 = .ok (.ireturn, 1) := by decide +kernel
theorem d38_0 : decode jdk_65_method_132_code 0 = .ok (.iload_n 1, 1) := by decide +kernel
theorem d38_1 : decode jdk_65_method_132_code 1 = .ok (.ifCond .ne 9, 3) := by decide +kernel
theorem d38_4 : decode jdk_65_method_132_code 4 = .ok (.iload_n 2, 1) := by decide +kernel
theorem d38_5 : decode jdk_65_method_132_code 5 = .ok (.aload_n 0, 1) := by decide +kernel
theorem d38_6 : decode jdk_65_method_132_code 6 = .ok (.arraylength, 1) := by decide +kernel
theorem d38_7 : decode jdk_65_method_132_code 7 = .ok (.if_icmp .eq 10, 3) := by decide +kernel
theorem d38_10 : decode jdk_65_method_132_code 10 = .ok (.aload_n 0, 1) := by decide +kernel
theorem d38_11 : decode jdk_65_method_132_code 11 = .ok (.iload_n 1, 1) := by decide +kernel
theorem d38_12 : decode jdk_65_method_132_code 12 = .ok (.iload_n 2, 1) := by decide +kernel
theorem d38_13 : decode jdk_65_method_132_code 13 = .ok (.invokestatic 339, 3) := by decide +kernel
theorem d38_16 : decode jdk_65_method_132_code 16 = .ok (.areturn, 1) := by decide +kernel
theorem d39_0 : decode jdk_65_method_133_code 0 = .ok (.iload_n 1, 1) := by decide +kernel
theorem d39_1 : decode jdk_65_method_133_code 1 = .ok (.iload_n 2, 1) := by decide +kernel
theorem d39_2 : decode jdk_65_method_133_code 2 = .ok (.invokestatic 343, 3) := by decide +kernel
theorem d39_5 : decode jdk_65_method_133_code 5 = .ok (.iload_n 2, 1) := by decide +kernel
theorem d39_6 : decode jdk_65_method_133_code 6 = .ok (.iload_n 1, 1) := by decide +kernel
theorem d39_7 : decode jdk_65_method_133_code 7 = .ok (.isub, 1) := by decide +kernel
theorem d39_8 : decode jdk_65_method_133_code 8 = .ok (.istore_n 3, 1) := by decide +kernel
theorem d39_9 : decode jdk_65_method_133_code 9 = .ok (.iload_n 3, 1) := by decide +kernel
theorem d39_10 : decode jdk_65_method_133_code 10 = .ok (.newarray .byte, 2) := by decide +kernel
theorem d39_12 : decode jdk_65_method_133_code 12 = .ok (.astore 4, 2) := by decide +kernel
theorem d39_14 : decode jdk_65_method_133_code 14 = .ok (.aload_n 0, 1) := by decide +kernel
theorem d39_15 : decode jdk_65_method_133_code 15 = .ok (.iload_n 1, 1) := by decide +kernel
theorem d39_16 : decode jdk_65_method_133_code 16 = .ok (.aload 4, 2) := by decide +kernel
theorem d39_18 : decode jdk_65_method_133_code 18 = .ok (.iconst 0, 1) := by decide +kernel
theorem d39_19 : decode jdk_65_method_133_code 19 = .ok (.aload_n 0, 1) := by decide +kernel
theorem d39_20 : decode jdk_65_method_133_code 20 = .ok (.arraylength, 1) := by decide +kernel
theorem d39_21 : decode jdk_65_method_133_code 21 = .ok (.iload_n 1, 1) := by decide +kernel
theorem d39_22 : decode jdk_65_method_133_code 22 = .ok (.isub, 1) := by decide +kernel
theorem d39_23 : decode jdk_65_method_133_code 23 = .ok (.iload_n 3, 1) := by decide +kernel
theorem d39_24 : decode jdk_65_method_133_code 24 = .ok (.invokestatic 304, 3) := by decide +kernel
theorem d39_27 : decode jdk_65_method_133_code 27 = .ok (.invokestatic 150, 3) := by decide +kernel
theorem d39_30 : decode jdk_65_method_133_code 30 = .ok (.aload 4, 2) := by decide +kernel
theorem d39_32 : decode jdk_65_method_133_code 32 = .ok (.areturn, 1) := by decide +kernel
theorem d40_0 : decode jdk_65_method_131_code 0 = .ok (.iload_n 1, 1) := by decide +kernel
theorem d40_1 : decode jdk_65_method_131_code 1 = .ok (.iload_n 0, 1) := by decide +kernel
theorem d40_2 : decode jdk_65_method_131_code 2 = .ok (.if_icmp .ge 35, 3) := by decide +kernel
theorem d40_37 : decode jdk_65_method_131_code 37 = .ok (.return_, 1) := by decide +kernel
theorem pd_0 : parseMethodDescriptor "(I)V" = some ⟨[.int], none⟩ := by decide +kernel
theorem pd_1 : parseMethodDescriptor "()B" = some ⟨[], some .byte⟩ := by decide +kernel
theorem pd_2 : parseMethodDescriptor "(Ljava/lang/String;)V" = some ⟨[(.object "java/lang/String")], none⟩ := by decide +kernel
theorem pd_3 : parseMethodDescriptor "([BIB)V" = some ⟨[(.array .byte), .int, .byte], none⟩ := by decide +kernel
theorem pd_4 : parseMethodDescriptor "()I" = some ⟨[], some .int⟩ := by decide +kernel
theorem pd_5 : parseMethodDescriptor "(ILjava/lang/String;)V" = some ⟨[.int, (.object "java/lang/String")], none⟩ := by decide +kernel
theorem pd_6 : parseMethodDescriptor "(Ljava/lang/String;)Ljava/lang/AbstractStringBuilder;" = some ⟨[(.object "java/lang/String")], some (.object "java/lang/AbstractStringBuilder")⟩ := by decide +kernel
theorem pd_7 : parseMethodDescriptor "(II)V" = some ⟨[.int, .int], none⟩ := by decide +kernel
theorem pd_8 : parseMethodDescriptor "(II)I" = some ⟨[.int, .int], some .int⟩ := by decide +kernel
theorem pd_9 : parseMethodDescriptor "([BII)[B" = some ⟨[(.array .byte), .int, .int], some (.array .byte)⟩ := by decide +kernel
theorem pd_10 : parseMethodDescriptor "()[B" = some ⟨[], some (.array .byte)⟩ := by decide +kernel
theorem pd_11 : parseMethodDescriptor "()Z" = some ⟨[], some .boolean⟩ := by decide +kernel
theorem pd_12 : parseMethodDescriptor "(Ljava/lang/AbstractStringBuilder;Ljava/lang/Void;)V" = some ⟨[(.object "java/lang/AbstractStringBuilder"), (.object "java/lang/Void")], none⟩ := by decide +kernel
theorem pd_13 : parseMethodDescriptor "(Ljava/lang/StringBuilder;)V" = some ⟨[(.object "java/lang/StringBuilder")], none⟩ := by decide +kernel
theorem pd_14 : parseMethodDescriptor "(III)I" = some ⟨[.int, .int, .int], some .int⟩ := by decide +kernel
theorem pd_15 : parseMethodDescriptor "(I)I" = some ⟨[.int], some .int⟩ := by decide +kernel
theorem pd_16 : parseMethodDescriptor "([BI)[B" = some ⟨[(.array .byte), .int], some (.array .byte)⟩ := by decide +kernel
theorem pd_17 : parseMethodDescriptor "(J)I" = some ⟨[.long], some .int⟩ := by decide +kernel
theorem pd_18 : parseMethodDescriptor "(JI[B)I" = some ⟨[.long, .int, (.array .byte)], some .int⟩ := by decide +kernel
theorem pd_19 : parseMethodDescriptor "(J)Ljava/lang/AbstractStringBuilder;" = some ⟨[.long], some (.object "java/lang/AbstractStringBuilder")⟩ := by decide +kernel
theorem pd_20 : parseMethodDescriptor "()V" = some ⟨[], none⟩ := by decide +kernel
theorem pd_21 : parseMethodDescriptor "(Ljava/lang/String;)Ljava/lang/StringBuilder;" = some ⟨[(.object "java/lang/String")], some (.object "java/lang/StringBuilder")⟩ := by decide +kernel
theorem pd_22 : parseMethodDescriptor "(J)Ljava/lang/StringBuilder;" = some ⟨[.long], some (.object "java/lang/StringBuilder")⟩ := by decide +kernel
theorem pd_23 : parseMethodDescriptor "()Ljava/lang/String;" = some ⟨[], some (.object "java/lang/String")⟩ := by decide +kernel
theorem pd_24 : parseMethodDescriptor "([CII)V" = some ⟨[(.array .char), .int, .int], none⟩ := by decide +kernel
theorem pd_25 : parseMethodDescriptor "([C)V" = some ⟨[(.array .char)], none⟩ := by decide +kernel
theorem pd_26 : parseMethodDescriptor "(I)J" = some ⟨[.int], some .long⟩ := by decide +kernel
theorem pd_27 : parseMethodDescriptor "(JJJJJJJJ)V" = some ⟨[.long, .long, .long, .long, .long, .long, .long, .long], none⟩ := by decide +kernel
theorem pd_28 : parseMethodDescriptor "(Ljava/lang/Object;)Z" = some ⟨[(.object "java/lang/Object")], some .boolean⟩ := by decide +kernel
theorem pn_0 : plainName "com/example/couplet/couplet/core/EventCountsToStringPinLaw" = true := by first | (simp [plainName, overriddenIn]; done) | decide +kernel
theorem pn_1 : plainName "java/lang/Long" = true := by first | (simp [plainName, overriddenIn]; done) | decide +kernel
theorem pn_2 : plainName "java/lang/AbstractStringBuilder" = true := by first | (simp [plainName, overriddenIn]; done) | decide +kernel
theorem pn_3 : plainName "java/lang/StringBuilder" = true := by first | (simp [plainName, overriddenIn]; done) | decide +kernel
theorem pn_4 : plainName "java/lang/String" = true := by first | (simp [plainName, overriddenIn]; done) | decide +kernel
theorem pn_5 : plainName "java/util/Arrays" = true := by first | (simp [plainName, overriddenIn]; done) | decide +kernel
theorem pn_6 : plainName "jdk/internal/util/ArraysSupport" = true := by first | (simp [plainName, overriddenIn]; done) | decide +kernel
theorem pn_7 : plainName "java/lang/Record" = true := by first | (simp [plainName, overriddenIn]; done) | decide +kernel
theorem pn_8 : plainName "com/example/couplet/couplet/core/EventCounts" = true := by first | (simp [plainName, overriddenIn]; done) | decide +kernel
theorem ef_bPut7 (m : MethodId) (t : Addr) (pp : Int32) (k : Int32) : entryFrame m #[(.ref t), (.int pp), (.int k)] 4 = mkF m 0 #[.val (.ref t), .val (.int pp), .val (.int k), .unset] [] := by first | (simp [entryFrame, mkF, argsToLocals, Value.category]; done) | rfl
theorem ef_bPut19 (m : MethodId) (t : Addr) (pp : Int32) (k : Int32) : entryFrame m #[(.ref t), (.int pp), (.int k)] 4 = mkF m 0 #[.val (.ref t), .val (.int pp), .val (.int k), .unset] [] := by first | (simp [entryFrame, mkF, argsToLocals, Value.category]; done) | rfl
theorem ef_bPut30 (m : MethodId) (t : Addr) (pp : Int32) (k : Int32) : entryFrame m #[(.ref t), (.int pp), (.int k)] 4 = mkF m 0 #[.val (.ref t), .val (.int pp), .val (.int k), .unset] [] := by first | (simp [entryFrame, mkF, argsToLocals, Value.category]; done) | rfl
theorem ef_bPut42 (m : MethodId) (t : Addr) (pp : Int32) (k : Int32) : entryFrame m #[(.ref t), (.int pp), (.int k)] 4 = mkF m 0 #[.val (.ref t), .val (.int pp), .val (.int k), .unset] [] := by first | (simp [entryFrame, mkF, argsToLocals, Value.category]; done) | rfl
theorem ef_bPut53 (m : MethodId) (t : Addr) (pp : Int32) (k : Int32) : entryFrame m #[(.ref t), (.int pp), (.int k)] 4 = mkF m 0 #[.val (.ref t), .val (.int pp), .val (.int k), .unset] [] := by first | (simp [entryFrame, mkF, argsToLocals, Value.category]; done) | rfl
theorem ef_bPut66 (m : MethodId) (t : Addr) (pp : Int32) (k : Int32) : entryFrame m #[(.ref t), (.int pp), (.int k)] 4 = mkF m 0 #[.val (.ref t), .val (.int pp), .val (.int k), .unset] [] := by first | (simp [entryFrame, mkF, argsToLocals, Value.category]; done) | rfl
theorem ef_bPut75 (m : MethodId) (t : Addr) (pp : Int32) (k : Int32) : entryFrame m #[(.ref t), (.int pp), (.int k)] 4 = mkF m 0 #[.val (.ref t), .val (.int pp), .val (.int k), .unset] [] := by first | (simp [entryFrame, mkF, argsToLocals, Value.category]; done) | rfl
theorem ef_bPut86 (m : MethodId) (t : Addr) (pp : Int32) (k : Int32) : entryFrame m #[(.ref t), (.int pp), (.int k)] 4 = mkF m 0 #[.val (.ref t), .val (.int pp), .val (.int k), .unset] [] := by first | (simp [entryFrame, mkF, argsToLocals, Value.category]; done) | rfl
theorem ef_bVal (m : MethodId) (k : Int32) : entryFrame m #[(.int k)] 1 = mkF m 0 #[.val (.int k)] [] := by first | (simp [entryFrame, mkF, argsToLocals, Value.category]; done) | rfl
theorem ef_bSs (m : MethodId) (x : Int64) : entryFrame m #[(.long x)] 6 = mkF m 0 #[.val (.long x), .second, .unset, .unset, .unset, .unset] [] := by first | (simp [entryFrame, mkF, argsToLocals, Value.category]; done) | rfl
theorem ef_bGc (m : MethodId) (x : Int64) (ix : Int32) (b : Addr) : entryFrame m #[(.long x), (.int ix), (.ref b)] 11 = mkF m 0 #[.val (.long x), .second, .val (.int ix), .val (.ref b), .unset, .unset, .unset, .unset, .unset, .unset, .unset] [] := by first | (simp [entryFrame, mkF, argsToLocals, Value.category]; done) | rfl
theorem ef_bAi (m : MethodId) (sb : Addr) (k : Int32) : entryFrame m #[(.ref sb), (.int k)] 2 = mkF m 0 #[.val (.ref sb), .val (.int k)] [] := by first | (simp [entryFrame, mkF, argsToLocals, Value.category]; done) | rfl
theorem ef_bSi (m : MethodId) (sb : Addr) : entryFrame m #[(.ref sb)] 1 = mkF m 0 #[.val (.ref sb)] [] := by first | (simp [entryFrame, mkF, argsToLocals, Value.category]; done) | rfl
theorem ef_bCdr (m : MethodId) (x : Addr) : entryFrame m #[(.ref x)] 1 = mkF m 0 #[.val (.ref x)] [] := by first | (simp [entryFrame, mkF, argsToLocals, Value.category]; done) | rfl
theorem ef_bEns (m : MethodId) (sb : Addr) (mn : Int32) : entryFrame m #[(.ref sb), (.int mn)] 3 = mkF m 0 #[.val (.ref sb), .val (.int mn), .unset] [] := by first | (simp [entryFrame, mkF, argsToLocals, Value.category]; done) | rfl
theorem ef_bInf (m : MethodId) (sb : Addr) (x : Addr) : entryFrame m #[(.ref sb), (.ref x)] 2 = mkF m 0 #[.val (.ref sb), .val (.ref x)] [] := by first | (simp [entryFrame, mkF, argsToLocals, Value.category]; done) | rfl
theorem ef_bGb (m : MethodId) (x : Addr) (b : Addr) (dp : Int32) (cd : Int32) : entryFrame m #[(.ref x), (.ref b), (.int dp), (.int cd)] 4 = mkF m 0 #[.val (.ref x), .val (.ref b), .val (.int dp), .val (.int cd)] [] := by first | (simp [entryFrame, mkF, argsToLocals, Value.category]; done) | rfl
theorem ef_bPsa (m : MethodId) (sb : Addr) (i : Int32) (x : Addr) : entryFrame m #[(.ref sb), (.int i), (.ref x)] 3 = mkF m 0 #[.val (.ref sb), .val (.int i), .val (.ref x)] [] := by first | (simp [entryFrame, mkF, argsToLocals, Value.category]; done) | rfl
theorem ef_bAap (m : MethodId) (sb : Addr) (x : Addr) : entryFrame m #[(.ref sb), (.ref x)] 3 = mkF m 0 #[.val (.ref sb), .val (.ref x), .unset] [] := by first | (simp [entryFrame, mkF, argsToLocals, Value.category]; done) | rfl
theorem ef_bApp (m : MethodId) (sb : Addr) (x : Addr) : entryFrame m #[(.ref sb), (.ref x)] 2 = mkF m 0 #[.val (.ref sb), .val (.ref x)] [] := by first | (simp [entryFrame, mkF, argsToLocals, Value.category]; done) | rfl
theorem ef_bGv (m : MethodId) (sb : Addr) : entryFrame m #[(.ref sb)] 1 = mkF m 0 #[.val (.ref sb)] [] := by first | (simp [entryFrame, mkF, argsToLocals, Value.category]; done) | rfl
theorem ef_bAsl (m : MethodId) (sb : Addr) : entryFrame m #[(.ref sb)] 1 = mkF m 0 #[.val (.ref sb)] [] := by first | (simp [entryFrame, mkF, argsToLocals, Value.category]; done) | rfl
theorem ef_bSbl (m : MethodId) (sb : Addr) : entryFrame m #[(.ref sb)] 1 = mkF m 0 #[.val (.ref sb)] [] := by first | (simp [entryFrame, mkF, argsToLocals, Value.category]; done) | rfl
theorem ef_bIl (m : MethodId) (sb : Addr) : entryFrame m #[(.ref sb)] 1 = mkF m 0 #[.val (.ref sb)] [] := by first | (simp [entryFrame, mkF, argsToLocals, Value.category]; done) | rfl
theorem ef_bChk (m : MethodId) (i : Int32) (j : Int32) : entryFrame m #[(.int i), (.int j)] 2 = mkF m 0 #[.val (.int i), .val (.int j)] [] := by first | (simp [entryFrame, mkF, argsToLocals, Value.category]; done) | rfl
theorem ef_bMin (m : MethodId) (i : Int32) (j : Int32) : entryFrame m #[(.int i), (.int j)] 2 = mkF m 0 #[.val (.int i), .val (.int j)] [] := by first | (simp [entryFrame, mkF, argsToLocals, Value.category]; done) | rfl
theorem ef_bCrb (m : MethodId) (a : Addr) (fr : Int32) (to : Int32) : entryFrame m #[(.ref a), (.int fr), (.int to)] 5 = mkF m 0 #[.val (.ref a), .val (.int fr), .val (.int to), .unset, .unset] [] := by first | (simp [entryFrame, mkF, argsToLocals, Value.category]; done) | rfl
theorem ef_bCor (m : MethodId) (a : Addr) (fr : Int32) (to : Int32) : entryFrame m #[(.ref a), (.int fr), (.int to)] 3 = mkF m 0 #[.val (.ref a), .val (.int fr), .val (.int to)] [] := by first | (simp [entryFrame, mkF, argsToLocals, Value.category]; done) | rfl
theorem ef_bN2 (m : MethodId) (x : Addr) (sb : Addr) : entryFrame m #[(.ref x), (.ref sb), .null] 5 = mkF m 0 #[.val (.ref x), .val (.ref sb), .val .null, .unset, .unset] [] := by first | (simp [entryFrame, mkF, argsToLocals, Value.category]; done) | rfl
theorem ef_bN1 (m : MethodId) (x : Addr) (sb : Addr) : entryFrame m #[(.ref x), (.ref sb)] 2 = mkF m 0 #[.val (.ref x), .val (.ref sb)] [] := by first | (simp [entryFrame, mkF, argsToLocals, Value.category]; done) | rfl
theorem ef_bTos (m : MethodId) (sb : Addr) : entryFrame m #[(.ref sb)] 1 = mkF m 0 #[.val (.ref sb)] [] := by first | (simp [entryFrame, mkF, argsToLocals, Value.category]; done) | rfl
theorem ef_bMax (m : MethodId) (i : Int32) (j : Int32) : entryFrame m #[(.int i), (.int j)] 2 = mkF m 0 #[.val (.int i), .val (.int j)] [] := by first | (simp [entryFrame, mkF, argsToLocals, Value.category]; done) | rfl
theorem ef_bNl (m : MethodId) (a : Int32) (b : Int32) (c : Int32) : entryFrame m #[(.int a), (.int b), (.int c)] 4 = mkF m 0 #[.val (.int a), .val (.int b), .val (.int c), .unset] [] := by first | (simp [entryFrame, mkF, argsToLocals, Value.category]; done) | rfl
theorem ef_bNcap (m : MethodId) (sb : Addr) (mn : Int32) : entryFrame m #[(.ref sb), (.int mn)] 6 = mkF m 0 #[.val (.ref sb), .val (.int mn), .unset, .unset, .unset, .unset] [] := by first | (simp [entryFrame, mkF, argsToLocals, Value.category]; done) | rfl
theorem ef_bCpo (m : MethodId) (a : Addr) (nn : Int32) : entryFrame m #[(.ref a), (.int nn)] 3 = mkF m 0 #[.val (.ref a), .val (.int nn), .unset] [] := by first | (simp [entryFrame, mkF, argsToLocals, Value.category]; done) | rfl
theorem ef_bEnsG (m : MethodId) (sb : Addr) (mn : Int32) : entryFrame m #[(.ref sb), (.int mn)] 3 = mkF m 0 #[.val (.ref sb), .val (.int mn), .unset] [] := by first | (simp [entryFrame, mkF, argsToLocals, Value.category]; done) | rfl
theorem ef_bAapG (m : MethodId) (sb : Addr) (x : Addr) : entryFrame m #[(.ref sb), (.ref x)] 3 = mkF m 0 #[.val (.ref sb), .val (.ref x), .unset] [] := by first | (simp [entryFrame, mkF, argsToLocals, Value.category]; done) | rfl
theorem ef_bAppG (m : MethodId) (sb : Addr) (x : Addr) : entryFrame m #[(.ref sb), (.ref x)] 2 = mkF m 0 #[.val (.ref sb), .val (.ref x)] [] := by first | (simp [entryFrame, mkF, argsToLocals, Value.category]; done) | rfl
theorem ef_bAaj (m : MethodId) (sb : Addr) (x : Int64) : entryFrame m #[(.ref sb), (.long x)] 5 = mkF m 0 #[.val (.ref sb), .val (.long x), .second, .unset, .unset] [] := by first | (simp [entryFrame, mkF, argsToLocals, Value.category]; done) | rfl
theorem ef_bApj (m : MethodId) (sb : Addr) (x : Int64) : entryFrame m #[(.ref sb), (.long x)] 3 = mkF m 0 #[.val (.ref sb), .val (.long x), .second] [] := by first | (simp [entryFrame, mkF, argsToLocals, Value.category]; done) | rfl
theorem ef_bAajG (m : MethodId) (sb : Addr) (x : Int64) : entryFrame m #[(.ref sb), (.long x)] 5 = mkF m 0 #[.val (.ref sb), .val (.long x), .second, .unset, .unset] [] := by first | (simp [entryFrame, mkF, argsToLocals, Value.category]; done) | rfl
theorem ef_bApjG (m : MethodId) (sb : Addr) (x : Int64) : entryFrame m #[(.ref sb), (.long x)] 3 = mkF m 0 #[.val (.ref sb), .val (.long x), .second] [] := by first | (simp [entryFrame, mkF, argsToLocals, Value.category]; done) | rfl
theorem ef_bRec (m : MethodId) (a : Addr) : entryFrame m #[(.ref a)] 1 = mkF m 0 #[.val (.ref a)] [] := by first | (simp [entryFrame, mkF, argsToLocals, Value.category]; done) | rfl
theorem ef_bEc (m : MethodId) (a : Addr) (x0 : Int64) (x1 : Int64) (x2 : Int64) (x3 : Int64) (x4 : Int64) (x5 : Int64) (x6 : Int64) (x7 : Int64) : entryFrame m #[(.ref a), (.long x0), (.long x1), (.long x2), (.long x3), (.long x4), (.long x5), (.long x6), (.long x7)] 17 = mkF m 0 #[.val (.ref a), .val (.long x0), .second, .val (.long x1), .second, .val (.long x2), .second, .val (.long x3), .second, .val (.long x4), .second, .val (.long x5), .second, .val (.long x6), .second, .val (.long x7), .second] [] := by first | (simp [entryFrame, mkF, argsToLocals, Value.category]; done) | rfl
theorem ef_bTsD (m : MethodId) (a : Addr) : entryFrame m #[(.ref a)] 1 = mkF m 0 #[.val (.ref a)] [] := by first | (simp [entryFrame, mkF, argsToLocals, Value.category]; done) | rfl
theorem ef_bTsE (m : MethodId) (a : Addr) : entryFrame m #[(.ref a)] 1 = mkF m 0 #[.val (.ref a)] [] := by first | (simp [entryFrame, mkF, argsToLocals, Value.category]; done) | rfl
theorem ef_law (m : MethodId) (p0 : Int32) (p1 : Int32) (p2 : Int32) (p3 : Int32) : entryFrame m #[(.int p0), (.int p1), (.int p2), (.int p3)] maxLocals = mkF m 0 #[.val (.int p0), .val (.int p1), .val (.int p2), .val (.int p3), .unset, .unset, .unset, .unset, .unset, .unset, .unset, .unset, .unset, .unset, .unset, .unset, .unset, .unset] [] := by first | (simp [entryFrame, mkF, argsToLocals, Value.category, maxLocals]; done) | rfl
def kA (a : Int32) : Int32 := (a &&& 65535) % 99
def kB (a : Int32) : Int32 := ((a.toUInt32 >>> ((16 : Int32) &&& 31).toUInt32).toInt32) % 99
def K99 (k : Int32) : Prop := 0 ≤ k.toInt ∧ k.toInt ≤ 98
theorem kA_ok (a : Int32) : K99 (kA a) := by
  have h1 := c_and a 65535 (by decide)
  have h3 : (kA a).toInt = (a &&& 65535).toInt % 99 := (c_irem (a &&& 65535) 99 99 (by decide)).1 h1.1
  unfold K99; omega
theorem kB_ok (a : Int32) : K99 (kB a) := by
  have h1 := c_iushr a 16 16 (by decide) (by decide)
  rw [show ((2 ^ 16 : Nat) : Int) = 65536 from rfl] at h1
  have h2 : 0 ≤ ((a.toUInt32 >>> ((16 : Int32) &&& 31).toUInt32).toInt32).toInt := by rw [h1]; omega
  have h3 : (kB a).toInt = ((a.toUInt32 >>> ((16 : Int32) &&& 31).toUInt32).toInt32).toInt % 99 := (c_irem _ 99 99 (by decide)).1 h2
  unfold K99; omega
theorem fin99 {P : Int32 → Prop} (h : ∀ i : Fin 99, P (Int32.ofNat i.val)) {k : Int32} (hk : K99 k) : P k := by
  unfold K99 at hk
  have e : k = Int32.ofNat k.toInt.toNat := by apply Int32.toInt_inj.mp; rw [Int32.toInt_ofNat_of_lt (by omega)]; omega
  rw [e]; exact h ⟨k.toInt.toNat, by omega⟩
def chr16 (x : Int32) : Int32 := x.toUInt32.toUInt16.toUInt32.toInt32
def cA (k : Int32) : Int32 := if k < 9 then 45 else chr16 (48 + (k + 1) / 10)
def cB (k : Int32) : Int32 := if k < 9 then chr16 (48 + k + 1) else chr16 (48 + (k + 1) % 10)
def valF (k : Int32) : Int64 := if k < 9 then -(k.toInt64 + 1) else k.toInt64 + 1
def iN (k : Int32) : Int32 := (valF k).toInt32
def iP (k : Int32) : Int32 := (-(valF k)).toInt32
theorem narX (x : Int32) : nar .char (chr16 x) = chr16 x := by
  have q := c_i2c x
  have e := Own.chr_id (x := chr16 x) (by unfold chr16; omega) (by unfold chr16; omega)
  exact Value.int.inj (show narrow .char (.int (chr16 x)) = .int (chr16 x) from (show Value.int (Own.chr (chr16 x)) = .int (chr16 x) by rw [e]))
theorem cA_n {k : Int32} (h : k < 9) : cA k = 45 := by rw [cA, if_pos h]
theorem rgS {c : Int32} {cs : List Int32} (h : ¬ c < 0 ∧ ¬ (255 : Int32) < c) (k : ∀ c ∈ cs, ¬ c < 0 ∧ ¬ (255 : Int32) < c) : ∀ x ∈ c :: cs, ¬ x < 0 ∧ ¬ (255 : Int32) < x := by
  intro x hx; rcases List.mem_cons.mp hx with rfl | q; exact h; exact k x q
theorem rg0 : ∀ x ∈ ([] : List Int32), ¬ x < 0 ∧ ¬ (255 : Int32) < x := by intro x hx; cases hx
theorem s0n {k : Int32} (hk : K99 k) : k < 9 → XT.cmpL (valF k) 0 < 0 := fin99 (P := fun k => k < 9 → XT.cmpL (valF k) 0 < 0) (by decide +kernel) hk
theorem s0p {k : Int32} (hk : K99 k) : ¬ k < 9 → ¬ XT.cmpL (valF k) 0 < 0 := fin99 (P := fun k => ¬ k < 9 → ¬ XT.cmpL (valF k) 0 < 0) (by decide +kernel) hk
theorem s1n {k : Int32} (hk : K99 k) : k < 9 → 0 < XT.cmpL (valF k) (-10) := fin99 (P := fun k => k < 9 → 0 < XT.cmpL (valF k) (-10)) (by decide +kernel) hk
theorem s1p {k : Int32} (hk : K99 k) : ¬ k < 9 → ¬ 0 < XT.cmpL (-(valF k)) (-10) := fin99 (P := fun k => ¬ k < 9 → ¬ 0 < XT.cmpL (-(valF k)) (-10)) (by decide +kernel) hk
theorem s2p {k : Int32} (hk : K99 k) : ¬ k < 9 → 0 < XT.cmpL (-(valF k)) (-100) := fin99 (P := fun k => ¬ k < 9 → 0 < XT.cmpL (-(valF k)) (-100)) (by decide +kernel) hk
theorem mn {k : Int32} (hk : K99 k) : k < 9 → 0 < XT.cmpL (valF k) (-2147483648) := fin99 (P := fun k => k < 9 → 0 < XT.cmpL (valF k) (-2147483648)) (by decide +kernel) hk
theorem mp {k : Int32} (hk : K99 k) : ¬ k < 9 → 0 < XT.cmpL (-(valF k)) (-2147483648) := fin99 (P := fun k => ¬ k < 9 → 0 < XT.cmpL (-(valF k)) (-2147483648)) (by decide +kernel) hk
theorem hun {k : Int32} (hk : K99 k) : k < 9 → (-100 : Int32) < iN k := fin99 (P := fun k => k < 9 → (-100 : Int32) < iN k) (by decide +kernel) hk
theorem hup {k : Int32} (hk : K99 k) : ¬ k < 9 → (-100 : Int32) < iP k := fin99 (P := fun k => ¬ k < 9 → (-100 : Int32) < iP k) (by decide +kernel) hk
theorem jn {k : Int32} (hk : K99 k) : k < 9 → ¬ -(iN k) < 0 ∧ -(iN k) < 100 := fin99 (P := fun k => k < 9 → ¬ -(iN k) < 0 ∧ -(iN k) < 100) (by decide +kernel) hk
theorem jp {k : Int32} (hk : K99 k) : ¬ k < 9 → ¬ -(iP k) < 0 ∧ -(iP k) < 100 := fin99 (P := fun k => ¬ k < 9 → ¬ -(iP k) < 0 ∧ -(iP k) < 100) (by decide +kernel) hk
theorem on {k : Int32} (hk : K99 k) : k < 9 → 48 + -(iN k) % 10 = cB k := fin99 (P := fun k => k < 9 → 48 + -(iN k) % 10 = cB k) (by decide +kernel) hk
theorem op {k : Int32} (hk : K99 k) : ¬ k < 9 → 48 + -(iP k) % 10 = cB k := fin99 (P := fun k => ¬ k < 9 → 48 + -(iP k) % 10 = cB k) (by decide +kernel) hk
theorem tp {k : Int32} (hk : K99 k) : ¬ k < 9 → 48 + -(iP k) / 10 = cA k := fin99 (P := fun k => ¬ k < 9 → 48 + -(iP k) / 10 = cA k) (by decide +kernel) hk
theorem nn {k : Int32} (hk : K99 k) : k < 9 → ¬ iN k < -9 := fin99 (P := fun k => k < 9 → ¬ iN k < -9) (by decide +kernel) hk
theorem np {k : Int32} (hk : K99 k) : ¬ k < 9 → iP k < -9 := fin99 (P := fun k => ¬ k < 9 → iP k < -9) (by decide +kernel) hk
theorem rgA {k : Int32} (hk : K99 k) : ¬ cA k < 0 ∧ ¬ (255 : Int32) < cA k := fin99 (P := fun k => ¬ cA k < 0 ∧ ¬ (255 : Int32) < cA k) (by decide +kernel) hk
theorem rgB {k : Int32} (hk : K99 k) : ¬ cB k < 0 ∧ ¬ (255 : Int32) < cB k := fin99 (P := fun k => ¬ cB k < 0 ∧ ¬ (255 : Int32) < cB k) (by decide +kernel) hk
abbrev bPut7 : Own.Bo := (⟨"com/example/couplet/couplet/core/EventCountsToStringPinLaw", "put", "([CII)V"⟩, method_3_code, 4, none, ({ frames := 0, cells := 0, slots := 0, locals := 0 } : Room))
abbrev bPut19 : Own.Bo := (⟨"com/example/couplet/couplet/core/EventCountsToStringPinLaw", "put", "([CII)V"⟩, method_3_code, 4, none, ({ frames := 0, cells := 0, slots := 0, locals := 0 } : Room))
abbrev bPut30 : Own.Bo := (⟨"com/example/couplet/couplet/core/EventCountsToStringPinLaw", "put", "([CII)V"⟩, method_3_code, 4, none, ({ frames := 0, cells := 0, slots := 0, locals := 0 } : Room))
abbrev bPut42 : Own.Bo := (⟨"com/example/couplet/couplet/core/EventCountsToStringPinLaw", "put", "([CII)V"⟩, method_3_code, 4, none, ({ frames := 0, cells := 0, slots := 0, locals := 0 } : Room))
abbrev bPut53 : Own.Bo := (⟨"com/example/couplet/couplet/core/EventCountsToStringPinLaw", "put", "([CII)V"⟩, method_3_code, 4, none, ({ frames := 0, cells := 0, slots := 0, locals := 0 } : Room))
abbrev bPut66 : Own.Bo := (⟨"com/example/couplet/couplet/core/EventCountsToStringPinLaw", "put", "([CII)V"⟩, method_3_code, 4, none, ({ frames := 0, cells := 0, slots := 0, locals := 0 } : Room))
abbrev bPut75 : Own.Bo := (⟨"com/example/couplet/couplet/core/EventCountsToStringPinLaw", "put", "([CII)V"⟩, method_3_code, 4, none, ({ frames := 0, cells := 0, slots := 0, locals := 0 } : Room))
abbrev bPut86 : Own.Bo := (⟨"com/example/couplet/couplet/core/EventCountsToStringPinLaw", "put", "([CII)V"⟩, method_3_code, 4, none, ({ frames := 0, cells := 0, slots := 0, locals := 0 } : Room))
abbrev bVal : Own.Bo := (⟨"com/example/couplet/couplet/core/EventCountsToStringPinLaw", "val", "(I)J"⟩, method_2_code, 1, (some .long), ({ frames := 0, cells := 0, slots := 0, locals := 0 } : Room))
abbrev bSs : Own.Bo := (⟨"java/lang/Long", "stringSize", "(J)I"⟩, jdk_35_method_15_code, 6, (some .int), ({ frames := 0, cells := 0, slots := 0, locals := 0 } : Room))
abbrev bGc : Own.Bo := (⟨"java/lang/Long", "getChars", "(JI[B)I"⟩, jdk_35_method_14_code, 11, (some .int), ({ frames := 0, cells := 0, slots := 0, locals := 0 } : Room))
abbrev bAi : Own.Bo := (⟨"java/lang/AbstractStringBuilder", "<init>", "(I)V"⟩, jdk_68_method_2_code, 2, none, ({ frames := 1, cells := 1, slots := 16, locals := 12 } : Room))
abbrev bSi : Own.Bo := (⟨"java/lang/StringBuilder", "<init>", "()V"⟩, jdk_67_method_1_code, 1, none, ({ frames := 2, cells := 1, slots := 16, locals := 26 } : Room))
abbrev bCdr : Own.Bo := (⟨"java/lang/String", "coder", "()B"⟩, jdk_42_method_152_code, 1, (some .byte), ({ frames := 0, cells := 0, slots := 0, locals := 0 } : Room))
abbrev bEns : Own.Bo := (⟨"java/lang/AbstractStringBuilder", "ensureCapacityInternal", "(I)V"⟩, jdk_68_method_9_code, 3, none, ({ frames := 0, cells := 0, slots := 0, locals := 0 } : Room))
abbrev bInf : Own.Bo := (⟨"java/lang/AbstractStringBuilder", "inflateIfNeededFor", "(Ljava/lang/String;)V"⟩, jdk_68_method_71_code, 2, none, ({ frames := 1, cells := 0, slots := 0, locals := 14 } : Room))
abbrev bGb : Own.Bo := (⟨"java/lang/String", "getBytes", "([BIB)V"⟩, jdk_42_method_147_code, 4, none, ({ frames := 1, cells := 0, slots := 0, locals := 20 } : Room))
abbrev bPsa : Own.Bo := (⟨"java/lang/AbstractStringBuilder", "putStringAt", "(ILjava/lang/String;)V"⟩, jdk_68_method_73_code, 3, none, ({ frames := 2, cells := 0, slots := 0, locals := 40 } : Room))
abbrev bAap : Own.Bo := (⟨"java/lang/AbstractStringBuilder", "append", "(Ljava/lang/String;)Ljava/lang/AbstractStringBuilder;"⟩, jdk_68_method_22_code, 3, (some (.object "java/lang/AbstractStringBuilder")), ({ frames := 3, cells := 0, slots := 0, locals := 58 } : Room))
abbrev bApp : Own.Bo := (⟨"java/lang/StringBuilder", "append", "(Ljava/lang/String;)Ljava/lang/StringBuilder;"⟩, jdk_67_method_7_code, 2, (some (.object "java/lang/StringBuilder")), ({ frames := 4, cells := 0, slots := 0, locals := 74 } : Room))
abbrev bGv : Own.Bo := (⟨"java/lang/AbstractStringBuilder", "getValue", "()[B"⟩, jdk_68_method_64_code, 1, (some (.array .byte)), ({ frames := 0, cells := 0, slots := 0, locals := 0 } : Room))
abbrev bAsl : Own.Bo := (⟨"java/lang/AbstractStringBuilder", "length", "()I"⟩, jdk_68_method_6_code, 1, (some .int), ({ frames := 0, cells := 0, slots := 0, locals := 0 } : Room))
abbrev bSbl : Own.Bo := (⟨"java/lang/StringBuilder", "length", "()I"⟩, jdk_67_method_93_code, 1, (some .int), ({ frames := 1, cells := 0, slots := 0, locals := 14 } : Room))
abbrev bIl : Own.Bo := (⟨"java/lang/AbstractStringBuilder", "isLatin1", "()Z"⟩, jdk_68_method_68_code, 1, (some .boolean), ({ frames := 0, cells := 0, slots := 0, locals := 0 } : Room))
abbrev bChk : Own.Bo := (⟨"java/util/Arrays", "checkLength", "(II)V"⟩, jdk_65_method_131_code, 2, none, ({ frames := 0, cells := 0, slots := 0, locals := 0 } : Room))
abbrev bMin : Own.Bo := (⟨"java/lang/Math", "min", "(II)I"⟩, jdk_29_method_69_code, 2, (some .int), ({ frames := 0, cells := 0, slots := 0, locals := 0 } : Room))
abbrev bCrb : Own.Bo := (⟨"java/util/Arrays", "copyOfRangeByte", "([BII)[B"⟩, jdk_65_method_133_code, 5, (some (.array .byte)), ({ frames := 1, cells := 1, slots := 142, locals := 26 } : Room))
abbrev bCor : Own.Bo := (⟨"java/util/Arrays", "copyOfRange", "([BII)[B"⟩, jdk_65_method_132_code, 3, (some (.array .byte)), ({ frames := 2, cells := 1, slots := 142, locals := 44 } : Room))
abbrev bN2 : Own.Bo := (⟨"java/lang/String", "<init>", "(Ljava/lang/AbstractStringBuilder;Ljava/lang/Void;)V"⟩, jdk_42_method_150_code, 5, none, ({ frames := 3, cells := 1, slots := 142, locals := 62 } : Room))
abbrev bN1 : Own.Bo := (⟨"java/lang/String", "<init>", "(Ljava/lang/StringBuilder;)V"⟩, jdk_42_method_53_code, 2, none, ({ frames := 4, cells := 1, slots := 142, locals := 80 } : Room))
abbrev bTos : Own.Bo := (⟨"java/lang/StringBuilder", "toString", "()Ljava/lang/String;"⟩, jdk_67_method_42_code, 1, (some (.object "java/lang/String")), ({ frames := 5, cells := 2, slots := 146, locals := 96 } : Room))
abbrev bMax : Own.Bo := (⟨"java/lang/Math", "max", "(II)I"⟩, jdk_29_method_65_code, 2, (some .int), ({ frames := 0, cells := 0, slots := 0, locals := 0 } : Room))
abbrev bNl : Own.Bo := (⟨"jdk/internal/util/ArraysSupport", "newLength", "(III)I"⟩, jdk_48_method_27_code, 4, (some .int), ({ frames := 1, cells := 0, slots := 0, locals := 20 } : Room))
abbrev bNcap : Own.Bo := (⟨"java/lang/AbstractStringBuilder", "newCapacity", "(I)I"⟩, jdk_68_method_10_code, 6, (some .int), ({ frames := 2, cells := 0, slots := 0, locals := 45 } : Room))
abbrev bCpo : Own.Bo := (⟨"java/util/Arrays", "copyOf", "([BI)[B"⟩, jdk_65_method_121_code, 3, (some (.array .byte)), ({ frames := 1, cells := 1, slots := 142, locals := 26 } : Room))
abbrev bEnsG : Own.Bo := (⟨"java/lang/AbstractStringBuilder", "ensureCapacityInternal", "(I)V"⟩, jdk_68_method_9_code, 3, none, ({ frames := 3, cells := 1, slots := 142, locals := 75 } : Room))
abbrev bAapG : Own.Bo := (⟨"java/lang/AbstractStringBuilder", "append", "(Ljava/lang/String;)Ljava/lang/AbstractStringBuilder;"⟩, jdk_68_method_22_code, 3, (some (.object "java/lang/AbstractStringBuilder")), ({ frames := 4, cells := 1, slots := 142, locals := 100 } : Room))
abbrev bAppG : Own.Bo := (⟨"java/lang/StringBuilder", "append", "(Ljava/lang/String;)Ljava/lang/StringBuilder;"⟩, jdk_67_method_7_code, 2, (some (.object "java/lang/StringBuilder")), ({ frames := 5, cells := 1, slots := 142, locals := 116 } : Room))
abbrev bAaj : Own.Bo := (⟨"java/lang/AbstractStringBuilder", "append", "(J)Ljava/lang/AbstractStringBuilder;"⟩, jdk_68_method_33_code, 5, (some (.object "java/lang/AbstractStringBuilder")), ({ frames := 1, cells := 0, slots := 0, locals := 30 } : Room))
abbrev bApj : Own.Bo := (⟨"java/lang/StringBuilder", "append", "(J)Ljava/lang/StringBuilder;"⟩, jdk_67_method_16_code, 3, (some (.object "java/lang/StringBuilder")), ({ frames := 2, cells := 0, slots := 0, locals := 50 } : Room))
abbrev bAajG : Own.Bo := (⟨"java/lang/AbstractStringBuilder", "append", "(J)Ljava/lang/AbstractStringBuilder;"⟩, jdk_68_method_33_code, 5, (some (.object "java/lang/AbstractStringBuilder")), ({ frames := 4, cells := 1, slots := 142, locals := 100 } : Room))
abbrev bApjG : Own.Bo := (⟨"java/lang/StringBuilder", "append", "(J)Ljava/lang/StringBuilder;"⟩, jdk_67_method_16_code, 3, (some (.object "java/lang/StringBuilder")), ({ frames := 5, cells := 1, slots := 142, locals := 120 } : Room))
abbrev bRec : Own.Bo := (⟨"java/lang/Record", "<init>", "()V"⟩, jdk_30_method_1_code, 1, none, ({ frames := 1, cells := 0, slots := 0, locals := 12 } : Room))
abbrev bEc : Own.Bo := (⟨"com/example/couplet/couplet/core/EventCounts", "<init>", "(JJJJJJJJ)V"⟩, prog_7_method_1_code, 17, none, ({ frames := 2, cells := 0, slots := 0, locals := 30 } : Room))
abbrev bTsD : Own.Bo := (⟨"com/example/couplet/couplet/core/EventCounts", "toString", "()Ljava/lang/String;"⟩, prog_7_method_2_code, 1, (some (.object "java/lang/String")), ({ frames := 6, cells := 23, slots := 980, locals := 150 } : Room))
abbrev bTsE : Own.Bo := (⟨"com/example/couplet/couplet/core/EventCounts", "toString", "()Ljava/lang/String;"⟩, prog_7_method_2_code, 1, (some (.object "java/lang/String")), ({ frames := 6, cells := 23, slots := 980, locals := 150 } : Room))
abbrev bLaw : Own.Bo := (x, code, maxLocals, ret, room_1)
set_option maxRecDepth 65536 in
set_option maxHeartbeats 40000000 in
theorem con_put7 {G : Own.Gl} (hw : ∀ d ∈ tables_1, d.before G.a0 G.Z = true) (hEL : EW G.Z G.a0 G.EL) {t : Addr} {pp : Int32} (hpp : pp = 7) (k : Int32) {h : Heap} (hO : Old G.Z G.n0 h) (hn_t : G.n0 ≤ t) {kC : ClassId} {vs : List Value} {dv : Value} (hvs : vs.length = 88) (Ac : Arv G.Z h t kC .char 88 vs dv) :
    Own.Con G [] bPut7 #[.ref t, .int pp, .int k] h [] (fun v h' => v = none ∧ Keep h h' [t] ∧ Arv G.Z h' t kC .char 88 ((vs.set 7 (.int (cA k))).set 8 (.int (cB k))) dv) := by
  refine Own.Con.intro (plainFor_of_name pn_0) hO hEL _ (fun m => ef_bPut7 m t pp k) ?_
  intro X T0 W0 sf
  subst hpp
  refine Own.iloadN W0 d1_0 1 rfl k rfl ?_
  refine Own.bipush W0 d1_1 3 rfl 9 rfl ?_
  by_cases e : k < (9 : Int32)
  · skip
    refine Own.icmpNo W0 d1_3 6 (XT.ii_ge_f e) rfl ?_
    refine Own.aloadN W0 d1_6 7 rfl (.ref t) rfl rfl ?_
    refine Own.iloadN W0 d1_7 8 rfl 7 rfl ?_
    refine Own.bipush W0 d1_8 10 rfl 45 rfl ?_
    refine Own.castore W0 Ac 7 (by decide) (by decide) (by rw [hvs]; decide) hn_t (x' := (45 : Int32)) (by decide) d1_10 11 rfl ?_
    intro T1 h1 W1 Q1 A1 k1
    refine Own.aloadN W1 d1_11 12 rfl (.ref t) rfl rfl ?_
    refine Own.iloadN W1 d1_12 13 rfl 7 rfl ?_
    refine Own.iconst W1 d1_13 14 rfl 1 rfl ?_
    refine Own.iadd W1 d1_14 15 rfl ?_
    refine Own.bipush W1 d1_15 17 rfl 48 rfl ?_
    refine Own.iloadN W1 d1_17 18 rfl k rfl ?_
    refine Own.iadd W1 d1_18 19 rfl ?_
    refine Own.iconst W1 d1_19 20 rfl 1 rfl ?_
    refine Own.iadd W1 d1_20 21 rfl ?_
    refine Own.i2c W1 d1_21 22 rfl ?_
    refine Own.castore W1 A1 8 (by decide) (by decide) (by rw [List.length_set, hvs]; decide) hn_t (x' := (chr16 ((48 : Int32) + k + 1))) (narX _) d1_22 23 rfl ?_
    intro T2 h2 W2 Q2 A2 k2
    refine Own.goto W2 d1_23 54 (by decide) (by decide) ?_
    exact Own.retV W2 (by decide) (by decide) rfl d1_54 ⟨rfl, (Keep.wr (Keep.wr (Keep.refl h [t]) Q1 (Or.inl (by simp))) Q2 (Or.inl (by simp))), by rw [cA, if_pos e, cB, if_pos e]; exact A2⟩
  · skip
    refine Own.icmpYes W0 d1_3 26 (XT.ii_ge_t e) (by decide) (by decide) ?_
    refine Own.iloadN W0 d1_26 27 rfl k rfl ?_
    refine Own.iconst W0 d1_27 28 rfl 1 rfl ?_
    refine Own.iadd W0 d1_28 29 rfl ?_
    refine Own.istoreN W0 d1_29 30 rfl #[.val (.ref t), .val (.int 7), .val (.int k), .val (.int (k + (1 : Int32)))] rfl ?_
    refine Own.aloadN W0 d1_30 31 rfl (.ref t) rfl rfl ?_
    refine Own.iloadN W0 d1_31 32 rfl 7 rfl ?_
    refine Own.bipush W0 d1_32 34 rfl 48 rfl ?_
    refine Own.iloadN W0 d1_34 35 rfl (k + (1 : Int32)) rfl ?_
    refine Own.bipush W0 d1_35 37 rfl 10 rfl ?_
    refine Own.idiv W0 d1_37 38 rfl (by decide) ?_
    refine Own.iadd W0 d1_38 39 rfl ?_
    refine Own.i2c W0 d1_39 40 rfl ?_
    refine Own.castore W0 Ac 7 (by decide) (by decide) (by rw [hvs]; decide) hn_t (x' := (chr16 ((48 : Int32) + (k + 1) / 10))) (narX _) d1_40 41 rfl ?_
    intro T3 h3 W3 Q3 A3 k3
    refine Own.aloadN W3 d1_41 42 rfl (.ref t) rfl rfl ?_
    refine Own.iloadN W3 d1_42 43 rfl 7 rfl ?_
    refine Own.iconst W3 d1_43 44 rfl 1 rfl ?_
    refine Own.iadd W3 d1_44 45 rfl ?_
    refine Own.bipush W3 d1_45 47 rfl 48 rfl ?_
    refine Own.iloadN W3 d1_47 48 rfl (k + (1 : Int32)) rfl ?_
    refine Own.bipush W3 d1_48 50 rfl 10 rfl ?_
    refine Own.irem W3 d1_50 51 rfl (by decide) ?_
    refine Own.iadd W3 d1_51 52 rfl ?_
    refine Own.i2c W3 d1_52 53 rfl ?_
    refine Own.castore W3 A3 8 (by decide) (by decide) (by rw [List.length_set, hvs]; decide) hn_t (x' := (chr16 ((48 : Int32) + (k + 1) % 10))) (narX _) d1_53 54 rfl ?_
    intro T4 h4 W4 Q4 A4 k4
    exact Own.retV W4 (by decide) (by decide) rfl d1_54 ⟨rfl, (Keep.wr (Keep.wr (Keep.refl h [t]) Q3 (Or.inl (by simp))) Q4 (Or.inl (by simp))), by rw [cA, if_neg e, cB, if_neg e]; exact A4⟩
set_option maxRecDepth 65536 in
set_option maxHeartbeats 40000000 in
theorem con_put19 {G : Own.Gl} (hw : ∀ d ∈ tables_1, d.before G.a0 G.Z = true) (hEL : EW G.Z G.a0 G.EL) {t : Addr} {pp : Int32} (hpp : pp = 19) (k : Int32) {h : Heap} (hO : Old G.Z G.n0 h) (hn_t : G.n0 ≤ t) {kC : ClassId} {vs : List Value} {dv : Value} (hvs : vs.length = 88) (Ac : Arv G.Z h t kC .char 88 vs dv) :
    Own.Con G [] bPut19 #[.ref t, .int pp, .int k] h [] (fun v h' => v = none ∧ Keep h h' [t] ∧ Arv G.Z h' t kC .char 88 ((vs.set 19 (.int (cA k))).set 20 (.int (cB k))) dv) := by
  refine Own.Con.intro (plainFor_of_name pn_0) hO hEL _ (fun m => ef_bPut19 m t pp k) ?_
  intro X T0 W0 sf
  subst hpp
  refine Own.iloadN W0 d1_0 1 rfl k rfl ?_
  refine Own.bipush W0 d1_1 3 rfl 9 rfl ?_
  by_cases e : k < (9 : Int32)
  · skip
    refine Own.icmpNo W0 d1_3 6 (XT.ii_ge_f e) rfl ?_
    refine Own.aloadN W0 d1_6 7 rfl (.ref t) rfl rfl ?_
    refine Own.iloadN W0 d1_7 8 rfl 19 rfl ?_
    refine Own.bipush W0 d1_8 10 rfl 45 rfl ?_
    refine Own.castore W0 Ac 19 (by decide) (by decide) (by rw [hvs]; decide) hn_t (x' := (45 : Int32)) (by decide) d1_10 11 rfl ?_
    intro T1 h1 W1 Q1 A1 k1
    refine Own.aloadN W1 d1_11 12 rfl (.ref t) rfl rfl ?_
    refine Own.iloadN W1 d1_12 13 rfl 19 rfl ?_
    refine Own.iconst W1 d1_13 14 rfl 1 rfl ?_
    refine Own.iadd W1 d1_14 15 rfl ?_
    refine Own.bipush W1 d1_15 17 rfl 48 rfl ?_
    refine Own.iloadN W1 d1_17 18 rfl k rfl ?_
    refine Own.iadd W1 d1_18 19 rfl ?_
    refine Own.iconst W1 d1_19 20 rfl 1 rfl ?_
    refine Own.iadd W1 d1_20 21 rfl ?_
    refine Own.i2c W1 d1_21 22 rfl ?_
    refine Own.castore W1 A1 20 (by decide) (by decide) (by rw [List.length_set, hvs]; decide) hn_t (x' := (chr16 ((48 : Int32) + k + 1))) (narX _) d1_22 23 rfl ?_
    intro T2 h2 W2 Q2 A2 k2
    refine Own.goto W2 d1_23 54 (by decide) (by decide) ?_
    exact Own.retV W2 (by decide) (by decide) rfl d1_54 ⟨rfl, (Keep.wr (Keep.wr (Keep.refl h [t]) Q1 (Or.inl (by simp))) Q2 (Or.inl (by simp))), by rw [cA, if_pos e, cB, if_pos e]; exact A2⟩
  · skip
    refine Own.icmpYes W0 d1_3 26 (XT.ii_ge_t e) (by decide) (by decide) ?_
    refine Own.iloadN W0 d1_26 27 rfl k rfl ?_
    refine Own.iconst W0 d1_27 28 rfl 1 rfl ?_
    refine Own.iadd W0 d1_28 29 rfl ?_
    refine Own.istoreN W0 d1_29 30 rfl #[.val (.ref t), .val (.int 19), .val (.int k), .val (.int (k + (1 : Int32)))] rfl ?_
    refine Own.aloadN W0 d1_30 31 rfl (.ref t) rfl rfl ?_
    refine Own.iloadN W0 d1_31 32 rfl 19 rfl ?_
    refine Own.bipush W0 d1_32 34 rfl 48 rfl ?_
    refine Own.iloadN W0 d1_34 35 rfl (k + (1 : Int32)) rfl ?_
    refine Own.bipush W0 d1_35 37 rfl 10 rfl ?_
    refine Own.idiv W0 d1_37 38 rfl (by decide) ?_
    refine Own.iadd W0 d1_38 39 rfl ?_
    refine Own.i2c W0 d1_39 40 rfl ?_
    refine Own.castore W0 Ac 19 (by decide) (by decide) (by rw [hvs]; decide) hn_t (x' := (chr16 ((48 : Int32) + (k + 1) / 10))) (narX _) d1_40 41 rfl ?_
    intro T3 h3 W3 Q3 A3 k3
    refine Own.aloadN W3 d1_41 42 rfl (.ref t) rfl rfl ?_
    refine Own.iloadN W3 d1_42 43 rfl 19 rfl ?_
    refine Own.iconst W3 d1_43 44 rfl 1 rfl ?_
    refine Own.iadd W3 d1_44 45 rfl ?_
    refine Own.bipush W3 d1_45 47 rfl 48 rfl ?_
    refine Own.iloadN W3 d1_47 48 rfl (k + (1 : Int32)) rfl ?_
    refine Own.bipush W3 d1_48 50 rfl 10 rfl ?_
    refine Own.irem W3 d1_50 51 rfl (by decide) ?_
    refine Own.iadd W3 d1_51 52 rfl ?_
    refine Own.i2c W3 d1_52 53 rfl ?_
    refine Own.castore W3 A3 20 (by decide) (by decide) (by rw [List.length_set, hvs]; decide) hn_t (x' := (chr16 ((48 : Int32) + (k + 1) % 10))) (narX _) d1_53 54 rfl ?_
    intro T4 h4 W4 Q4 A4 k4
    exact Own.retV W4 (by decide) (by decide) rfl d1_54 ⟨rfl, (Keep.wr (Keep.wr (Keep.refl h [t]) Q3 (Or.inl (by simp))) Q4 (Or.inl (by simp))), by rw [cA, if_neg e, cB, if_neg e]; exact A4⟩
set_option maxRecDepth 65536 in
set_option maxHeartbeats 40000000 in
theorem con_put30 {G : Own.Gl} (hw : ∀ d ∈ tables_1, d.before G.a0 G.Z = true) (hEL : EW G.Z G.a0 G.EL) {t : Addr} {pp : Int32} (hpp : pp = 30) (k : Int32) {h : Heap} (hO : Old G.Z G.n0 h) (hn_t : G.n0 ≤ t) {kC : ClassId} {vs : List Value} {dv : Value} (hvs : vs.length = 88) (Ac : Arv G.Z h t kC .char 88 vs dv) :
    Own.Con G [] bPut30 #[.ref t, .int pp, .int k] h [] (fun v h' => v = none ∧ Keep h h' [t] ∧ Arv G.Z h' t kC .char 88 ((vs.set 30 (.int (cA k))).set 31 (.int (cB k))) dv) := by
  refine Own.Con.intro (plainFor_of_name pn_0) hO hEL _ (fun m => ef_bPut30 m t pp k) ?_
  intro X T0 W0 sf
  subst hpp
  refine Own.iloadN W0 d1_0 1 rfl k rfl ?_
  refine Own.bipush W0 d1_1 3 rfl 9 rfl ?_
  by_cases e : k < (9 : Int32)
  · skip
    refine Own.icmpNo W0 d1_3 6 (XT.ii_ge_f e) rfl ?_
    refine Own.aloadN W0 d1_6 7 rfl (.ref t) rfl rfl ?_
    refine Own.iloadN W0 d1_7 8 rfl 30 rfl ?_
    refine Own.bipush W0 d1_8 10 rfl 45 rfl ?_
    refine Own.castore W0 Ac 30 (by decide) (by decide) (by rw [hvs]; decide) hn_t (x' := (45 : Int32)) (by decide) d1_10 11 rfl ?_
    intro T1 h1 W1 Q1 A1 k1
    refine Own.aloadN W1 d1_11 12 rfl (.ref t) rfl rfl ?_
    refine Own.iloadN W1 d1_12 13 rfl 30 rfl ?_
    refine Own.iconst W1 d1_13 14 rfl 1 rfl ?_
    refine Own.iadd W1 d1_14 15 rfl ?_
    refine Own.bipush W1 d1_15 17 rfl 48 rfl ?_
    refine Own.iloadN W1 d1_17 18 rfl k rfl ?_
    refine Own.iadd W1 d1_18 19 rfl ?_
    refine Own.iconst W1 d1_19 20 rfl 1 rfl ?_
    refine Own.iadd W1 d1_20 21 rfl ?_
    refine Own.i2c W1 d1_21 22 rfl ?_
    refine Own.castore W1 A1 31 (by decide) (by decide) (by rw [List.length_set, hvs]; decide) hn_t (x' := (chr16 ((48 : Int32) + k + 1))) (narX _) d1_22 23 rfl ?_
    intro T2 h2 W2 Q2 A2 k2
    refine Own.goto W2 d1_23 54 (by decide) (by decide) ?_
    exact Own.retV W2 (by decide) (by decide) rfl d1_54 ⟨rfl, (Keep.wr (Keep.wr (Keep.refl h [t]) Q1 (Or.inl (by simp))) Q2 (Or.inl (by simp))), by rw [cA, if_pos e, cB, if_pos e]; exact A2⟩
  · skip
    refine Own.icmpYes W0 d1_3 26 (XT.ii_ge_t e) (by decide) (by decide) ?_
    refine Own.iloadN W0 d1_26 27 rfl k rfl ?_
    refine Own.iconst W0 d1_27 28 rfl 1 rfl ?_
    refine Own.iadd W0 d1_28 29 rfl ?_
    refine Own.istoreN W0 d1_29 30 rfl #[.val (.ref t), .val (.int 30), .val (.int k), .val (.int (k + (1 : Int32)))] rfl ?_
    refine Own.aloadN W0 d1_30 31 rfl (.ref t) rfl rfl ?_
    refine Own.iloadN W0 d1_31 32 rfl 30 rfl ?_
    refine Own.bipush W0 d1_32 34 rfl 48 rfl ?_
    refine Own.iloadN W0 d1_34 35 rfl (k + (1 : Int32)) rfl ?_
    refine Own.bipush W0 d1_35 37 rfl 10 rfl ?_
    refine Own.idiv W0 d1_37 38 rfl (by decide) ?_
    refine Own.iadd W0 d1_38 39 rfl ?_
    refine Own.i2c W0 d1_39 40 rfl ?_
    refine Own.castore W0 Ac 30 (by decide) (by decide) (by rw [hvs]; decide) hn_t (x' := (chr16 ((48 : Int32) + (k + 1) / 10))) (narX _) d1_40 41 rfl ?_
    intro T3 h3 W3 Q3 A3 k3
    refine Own.aloadN W3 d1_41 42 rfl (.ref t) rfl rfl ?_
    refine Own.iloadN W3 d1_42 43 rfl 30 rfl ?_
    refine Own.iconst W3 d1_43 44 rfl 1 rfl ?_
    refine Own.iadd W3 d1_44 45 rfl ?_
    refine Own.bipush W3 d1_45 47 rfl 48 rfl ?_
    refine Own.iloadN W3 d1_47 48 rfl (k + (1 : Int32)) rfl ?_
    refine Own.bipush W3 d1_48 50 rfl 10 rfl ?_
    refine Own.irem W3 d1_50 51 rfl (by decide) ?_
    refine Own.iadd W3 d1_51 52 rfl ?_
    refine Own.i2c W3 d1_52 53 rfl ?_
    refine Own.castore W3 A3 31 (by decide) (by decide) (by rw [List.length_set, hvs]; decide) hn_t (x' := (chr16 ((48 : Int32) + (k + 1) % 10))) (narX _) d1_53 54 rfl ?_
    intro T4 h4 W4 Q4 A4 k4
    exact Own.retV W4 (by decide) (by decide) rfl d1_54 ⟨rfl, (Keep.wr (Keep.wr (Keep.refl h [t]) Q3 (Or.inl (by simp))) Q4 (Or.inl (by simp))), by rw [cA, if_neg e, cB, if_neg e]; exact A4⟩
set_option maxRecDepth 65536 in
set_option maxHeartbeats 40000000 in
theorem con_put42 {G : Own.Gl} (hw : ∀ d ∈ tables_1, d.before G.a0 G.Z = true) (hEL : EW G.Z G.a0 G.EL) {t : Addr} {pp : Int32} (hpp : pp = 42) (k : Int32) {h : Heap} (hO : Old G.Z G.n0 h) (hn_t : G.n0 ≤ t) {kC : ClassId} {vs : List Value} {dv : Value} (hvs : vs.length = 88) (Ac : Arv G.Z h t kC .char 88 vs dv) :
    Own.Con G [] bPut42 #[.ref t, .int pp, .int k] h [] (fun v h' => v = none ∧ Keep h h' [t] ∧ Arv G.Z h' t kC .char 88 ((vs.set 42 (.int (cA k))).set 43 (.int (cB k))) dv) := by
  refine Own.Con.intro (plainFor_of_name pn_0) hO hEL _ (fun m => ef_bPut42 m t pp k) ?_
  intro X T0 W0 sf
  subst hpp
  refine Own.iloadN W0 d1_0 1 rfl k rfl ?_
  refine Own.bipush W0 d1_1 3 rfl 9 rfl ?_
  by_cases e : k < (9 : Int32)
  · skip
    refine Own.icmpNo W0 d1_3 6 (XT.ii_ge_f e) rfl ?_
    refine Own.aloadN W0 d1_6 7 rfl (.ref t) rfl rfl ?_
    refine Own.iloadN W0 d1_7 8 rfl 42 rfl ?_
    refine Own.bipush W0 d1_8 10 rfl 45 rfl ?_
    refine Own.castore W0 Ac 42 (by decide) (by decide) (by rw [hvs]; decide) hn_t (x' := (45 : Int32)) (by decide) d1_10 11 rfl ?_
    intro T1 h1 W1 Q1 A1 k1
    refine Own.aloadN W1 d1_11 12 rfl (.ref t) rfl rfl ?_
    refine Own.iloadN W1 d1_12 13 rfl 42 rfl ?_
    refine Own.iconst W1 d1_13 14 rfl 1 rfl ?_
    refine Own.iadd W1 d1_14 15 rfl ?_
    refine Own.bipush W1 d1_15 17 rfl 48 rfl ?_
    refine Own.iloadN W1 d1_17 18 rfl k rfl ?_
    refine Own.iadd W1 d1_18 19 rfl ?_
    refine Own.iconst W1 d1_19 20 rfl 1 rfl ?_
    refine Own.iadd W1 d1_20 21 rfl ?_
    refine Own.i2c W1 d1_21 22 rfl ?_
    refine Own.castore W1 A1 43 (by decide) (by decide) (by rw [List.length_set, hvs]; decide) hn_t (x' := (chr16 ((48 : Int32) + k + 1))) (narX _) d1_22 23 rfl ?_
    intro T2 h2 W2 Q2 A2 k2
    refine Own.goto W2 d1_23 54 (by decide) (by decide) ?_
    exact Own.retV W2 (by decide) (by decide) rfl d1_54 ⟨rfl, (Keep.wr (Keep.wr (Keep.refl h [t]) Q1 (Or.inl (by simp))) Q2 (Or.inl (by simp))), by rw [cA, if_pos e, cB, if_pos e]; exact A2⟩
  · skip
    refine Own.icmpYes W0 d1_3 26 (XT.ii_ge_t e) (by decide) (by decide) ?_
    refine Own.iloadN W0 d1_26 27 rfl k rfl ?_
    refine Own.iconst W0 d1_27 28 rfl 1 rfl ?_
    refine Own.iadd W0 d1_28 29 rfl ?_
    refine Own.istoreN W0 d1_29 30 rfl #[.val (.ref t), .val (.int 42), .val (.int k), .val (.int (k + (1 : Int32)))] rfl ?_
    refine Own.aloadN W0 d1_30 31 rfl (.ref t) rfl rfl ?_
    refine Own.iloadN W0 d1_31 32 rfl 42 rfl ?_
    refine Own.bipush W0 d1_32 34 rfl 48 rfl ?_
    refine Own.iloadN W0 d1_34 35 rfl (k + (1 : Int32)) rfl ?_
    refine Own.bipush W0 d1_35 37 rfl 10 rfl ?_
    refine Own.idiv W0 d1_37 38 rfl (by decide) ?_
    refine Own.iadd W0 d1_38 39 rfl ?_
    refine Own.i2c W0 d1_39 40 rfl ?_
    refine Own.castore W0 Ac 42 (by decide) (by decide) (by rw [hvs]; decide) hn_t (x' := (chr16 ((48 : Int32) + (k + 1) / 10))) (narX _) d1_40 41 rfl ?_
    intro T3 h3 W3 Q3 A3 k3
    refine Own.aloadN W3 d1_41 42 rfl (.ref t) rfl rfl ?_
    refine Own.iloadN W3 d1_42 43 rfl 42 rfl ?_
    refine Own.iconst W3 d1_43 44 rfl 1 rfl ?_
    refine Own.iadd W3 d1_44 45 rfl ?_
    refine Own.bipush W3 d1_45 47 rfl 48 rfl ?_
    refine Own.iloadN W3 d1_47 48 rfl (k + (1 : Int32)) rfl ?_
    refine Own.bipush W3 d1_48 50 rfl 10 rfl ?_
    refine Own.irem W3 d1_50 51 rfl (by decide) ?_
    refine Own.iadd W3 d1_51 52 rfl ?_
    refine Own.i2c W3 d1_52 53 rfl ?_
    refine Own.castore W3 A3 43 (by decide) (by decide) (by rw [List.length_set, hvs]; decide) hn_t (x' := (chr16 ((48 : Int32) + (k + 1) % 10))) (narX _) d1_53 54 rfl ?_
    intro T4 h4 W4 Q4 A4 k4
    exact Own.retV W4 (by decide) (by decide) rfl d1_54 ⟨rfl, (Keep.wr (Keep.wr (Keep.refl h [t]) Q3 (Or.inl (by simp))) Q4 (Or.inl (by simp))), by rw [cA, if_neg e, cB, if_neg e]; exact A4⟩
set_option maxRecDepth 65536 in
set_option maxHeartbeats 40000000 in
theorem con_put53 {G : Own.Gl} (hw : ∀ d ∈ tables_1, d.before G.a0 G.Z = true) (hEL : EW G.Z G.a0 G.EL) {t : Addr} {pp : Int32} (hpp : pp = 53) (k : Int32) {h : Heap} (hO : Old G.Z G.n0 h) (hn_t : G.n0 ≤ t) {kC : ClassId} {vs : List Value} {dv : Value} (hvs : vs.length = 88) (Ac : Arv G.Z h t kC .char 88 vs dv) :
    Own.Con G [] bPut53 #[.ref t, .int pp, .int k] h [] (fun v h' => v = none ∧ Keep h h' [t] ∧ Arv G.Z h' t kC .char 88 ((vs.set 53 (.int (cA k))).set 54 (.int (cB k))) dv) := by
  refine Own.Con.intro (plainFor_of_name pn_0) hO hEL _ (fun m => ef_bPut53 m t pp k) ?_
  intro X T0 W0 sf
  subst hpp
  refine Own.iloadN W0 d1_0 1 rfl k rfl ?_
  refine Own.bipush W0 d1_1 3 rfl 9 rfl ?_
  by_cases e : k < (9 : Int32)
  · skip
    refine Own.icmpNo W0 d1_3 6 (XT.ii_ge_f e) rfl ?_
    refine Own.aloadN W0 d1_6 7 rfl (.ref t) rfl rfl ?_
    refine Own.iloadN W0 d1_7 8 rfl 53 rfl ?_
    refine Own.bipush W0 d1_8 10 rfl 45 rfl ?_
    refine Own.castore W0 Ac 53 (by decide) (by decide) (by rw [hvs]; decide) hn_t (x' := (45 : Int32)) (by decide) d1_10 11 rfl ?_
    intro T1 h1 W1 Q1 A1 k1
    refine Own.aloadN W1 d1_11 12 rfl (.ref t) rfl rfl ?_
    refine Own.iloadN W1 d1_12 13 rfl 53 rfl ?_
    refine Own.iconst W1 d1_13 14 rfl 1 rfl ?_
    refine Own.iadd W1 d1_14 15 rfl ?_
    refine Own.bipush W1 d1_15 17 rfl 48 rfl ?_
    refine Own.iloadN W1 d1_17 18 rfl k rfl ?_
    refine Own.iadd W1 d1_18 19 rfl ?_
    refine Own.iconst W1 d1_19 20 rfl 1 rfl ?_
    refine Own.iadd W1 d1_20 21 rfl ?_
    refine Own.i2c W1 d1_21 22 rfl ?_
    refine Own.castore W1 A1 54 (by decide) (by decide) (by rw [List.length_set, hvs]; decide) hn_t (x' := (chr16 ((48 : Int32) + k + 1))) (narX _) d1_22 23 rfl ?_
    intro T2 h2 W2 Q2 A2 k2
    refine Own.goto W2 d1_23 54 (by decide) (by decide) ?_
    exact Own.retV W2 (by decide) (by decide) rfl d1_54 ⟨rfl, (Keep.wr (Keep.wr (Keep.refl h [t]) Q1 (Or.inl (by simp))) Q2 (Or.inl (by simp))), by rw [cA, if_pos e, cB, if_pos e]; exact A2⟩
  · skip
    refine Own.icmpYes W0 d1_3 26 (XT.ii_ge_t e) (by decide) (by decide) ?_
    refine Own.iloadN W0 d1_26 27 rfl k rfl ?_
    refine Own.iconst W0 d1_27 28 rfl 1 rfl ?_
    refine Own.iadd W0 d1_28 29 rfl ?_
    refine Own.istoreN W0 d1_29 30 rfl #[.val (.ref t), .val (.int 53), .val (.int k), .val (.int (k + (1 : Int32)))] rfl ?_
    refine Own.aloadN W0 d1_30 31 rfl (.ref t) rfl rfl ?_
    refine Own.iloadN W0 d1_31 32 rfl 53 rfl ?_
    refine Own.bipush W0 d1_32 34 rfl 48 rfl ?_
    refine Own.iloadN W0 d1_34 35 rfl (k + (1 : Int32)) rfl ?_
    refine Own.bipush W0 d1_35 37 rfl 10 rfl ?_
    refine Own.idiv W0 d1_37 38 rfl (by decide) ?_
    refine Own.iadd W0 d1_38 39 rfl ?_
    refine Own.i2c W0 d1_39 40 rfl ?_
    refine Own.castore W0 Ac 53 (by decide) (by decide) (by rw [hvs]; decide) hn_t (x' := (chr16 ((48 : Int32) + (k + 1) / 10))) (narX _) d1_40 41 rfl ?_
    intro T3 h3 W3 Q3 A3 k3
    refine Own.aloadN W3 d1_41 42 rfl (.ref t) rfl rfl ?_
    refine Own.iloadN W3 d1_42 43 rfl 53 rfl ?_
    refine Own.iconst W3 d1_43 44 rfl 1 rfl ?_
    refine Own.iadd W3 d1_44 45 rfl ?_
    refine Own.bipush W3 d1_45 47 rfl 48 rfl ?_
    refine Own.iloadN W3 d1_47 48 rfl (k + (1 : Int32)) rfl ?_
    refine Own.bipush W3 d1_48 50 rfl 10 rfl ?_
    refine Own.irem W3 d1_50 51 rfl (by decide) ?_
    refine Own.iadd W3 d1_51 52 rfl ?_
    refine Own.i2c W3 d1_52 53 rfl ?_
    refine Own.castore W3 A3 54 (by decide) (by decide) (by rw [List.length_set, hvs]; decide) hn_t (x' := (chr16 ((48 : Int32) + (k + 1) % 10))) (narX _) d1_53 54 rfl ?_
    intro T4 h4 W4 Q4 A4 k4
    exact Own.retV W4 (by decide) (by decide) rfl d1_54 ⟨rfl, (Keep.wr (Keep.wr (Keep.refl h [t]) Q3 (Or.inl (by simp))) Q4 (Or.inl (by simp))), by rw [cA, if_neg e, cB, if_neg e]; exact A4⟩
set_option maxRecDepth 65536 in
set_option maxHeartbeats 40000000 in
theorem con_put66 {G : Own.Gl} (hw : ∀ d ∈ tables_1, d.before G.a0 G.Z = true) (hEL : EW G.Z G.a0 G.EL) {t : Addr} {pp : Int32} (hpp : pp = 66) (k : Int32) {h : Heap} (hO : Old G.Z G.n0 h) (hn_t : G.n0 ≤ t) {kC : ClassId} {vs : List Value} {dv : Value} (hvs : vs.length = 88) (Ac : Arv G.Z h t kC .char 88 vs dv) :
    Own.Con G [] bPut66 #[.ref t, .int pp, .int k] h [] (fun v h' => v = none ∧ Keep h h' [t] ∧ Arv G.Z h' t kC .char 88 ((vs.set 66 (.int (cA k))).set 67 (.int (cB k))) dv) := by
  refine Own.Con.intro (plainFor_of_name pn_0) hO hEL _ (fun m => ef_bPut66 m t pp k) ?_
  intro X T0 W0 sf
  subst hpp
  refine Own.iloadN W0 d1_0 1 rfl k rfl ?_
  refine Own.bipush W0 d1_1 3 rfl 9 rfl ?_
  by_cases e : k < (9 : Int32)
  · skip
    refine Own.icmpNo W0 d1_3 6 (XT.ii_ge_f e) rfl ?_
    refine Own.aloadN W0 d1_6 7 rfl (.ref t) rfl rfl ?_
    refine Own.iloadN W0 d1_7 8 rfl 66 rfl ?_
    refine Own.bipush W0 d1_8 10 rfl 45 rfl ?_
    refine Own.castore W0 Ac 66 (by decide) (by decide) (by rw [hvs]; decide) hn_t (x' := (45 : Int32)) (by decide) d1_10 11 rfl ?_
    intro T1 h1 W1 Q1 A1 k1
    refine Own.aloadN W1 d1_11 12 rfl (.ref t) rfl rfl ?_
    refine Own.iloadN W1 d1_12 13 rfl 66 rfl ?_
    refine Own.iconst W1 d1_13 14 rfl 1 rfl ?_
    refine Own.iadd W1 d1_14 15 rfl ?_
    refine Own.bipush W1 d1_15 17 rfl 48 rfl ?_
    refine Own.iloadN W1 d1_17 18 rfl k rfl ?_
    refine Own.iadd W1 d1_18 19 rfl ?_
    refine Own.iconst W1 d1_19 20 rfl 1 rfl ?_
    refine Own.iadd W1 d1_20 21 rfl ?_
    refine Own.i2c W1 d1_21 22 rfl ?_
    refine Own.castore W1 A1 67 (by decide) (by decide) (by rw [List.length_set, hvs]; decide) hn_t (x' := (chr16 ((48 : Int32) + k + 1))) (narX _) d1_22 23 rfl ?_
    intro T2 h2 W2 Q2 A2 k2
    refine Own.goto W2 d1_23 54 (by decide) (by decide) ?_
    exact Own.retV W2 (by decide) (by decide) rfl d1_54 ⟨rfl, (Keep.wr (Keep.wr (Keep.refl h [t]) Q1 (Or.inl (by simp))) Q2 (Or.inl (by simp))), by rw [cA, if_pos e, cB, if_pos e]; exact A2⟩
  · skip
    refine Own.icmpYes W0 d1_3 26 (XT.ii_ge_t e) (by decide) (by decide) ?_
    refine Own.iloadN W0 d1_26 27 rfl k rfl ?_
    refine Own.iconst W0 d1_27 28 rfl 1 rfl ?_
    refine Own.iadd W0 d1_28 29 rfl ?_
    refine Own.istoreN W0 d1_29 30 rfl #[.val (.ref t), .val (.int 66), .val (.int k), .val (.int (k + (1 : Int32)))] rfl ?_
    refine Own.aloadN W0 d1_30 31 rfl (.ref t) rfl rfl ?_
    refine Own.iloadN W0 d1_31 32 rfl 66 rfl ?_
    refine Own.bipush W0 d1_32 34 rfl 48 rfl ?_
    refine Own.iloadN W0 d1_34 35 rfl (k + (1 : Int32)) rfl ?_
    refine Own.bipush W0 d1_35 37 rfl 10 rfl ?_
    refine Own.idiv W0 d1_37 38 rfl (by decide) ?_
    refine Own.iadd W0 d1_38 39 rfl ?_
    refine Own.i2c W0 d1_39 40 rfl ?_
    refine Own.castore W0 Ac 66 (by decide) (by decide) (by rw [hvs]; decide) hn_t (x' := (chr16 ((48 : Int32) + (k + 1) / 10))) (narX _) d1_40 41 rfl ?_
    intro T3 h3 W3 Q3 A3 k3
    refine Own.aloadN W3 d1_41 42 rfl (.ref t) rfl rfl ?_
    refine Own.iloadN W3 d1_42 43 rfl 66 rfl ?_
    refine Own.iconst W3 d1_43 44 rfl 1 rfl ?_
    refine Own.iadd W3 d1_44 45 rfl ?_
    refine Own.bipush W3 d1_45 47 rfl 48 rfl ?_
    refine Own.iloadN W3 d1_47 48 rfl (k + (1 : Int32)) rfl ?_
    refine Own.bipush W3 d1_48 50 rfl 10 rfl ?_
    refine Own.irem W3 d1_50 51 rfl (by decide) ?_
    refine Own.iadd W3 d1_51 52 rfl ?_
    refine Own.i2c W3 d1_52 53 rfl ?_
    refine Own.castore W3 A3 67 (by decide) (by decide) (by rw [List.length_set, hvs]; decide) hn_t (x' := (chr16 ((48 : Int32) + (k + 1) % 10))) (narX _) d1_53 54 rfl ?_
    intro T4 h4 W4 Q4 A4 k4
    exact Own.retV W4 (by decide) (by decide) rfl d1_54 ⟨rfl, (Keep.wr (Keep.wr (Keep.refl h [t]) Q3 (Or.inl (by simp))) Q4 (Or.inl (by simp))), by rw [cA, if_neg e, cB, if_neg e]; exact A4⟩
set_option maxRecDepth 65536 in
set_option maxHeartbeats 40000000 in
theorem con_put75 {G : Own.Gl} (hw : ∀ d ∈ tables_1, d.before G.a0 G.Z = true) (hEL : EW G.Z G.a0 G.EL) {t : Addr} {pp : Int32} (hpp : pp = 75) (k : Int32) {h : Heap} (hO : Old G.Z G.n0 h) (hn_t : G.n0 ≤ t) {kC : ClassId} {vs : List Value} {dv : Value} (hvs : vs.length = 88) (Ac : Arv G.Z h t kC .char 88 vs dv) :
    Own.Con G [] bPut75 #[.ref t, .int pp, .int k] h [] (fun v h' => v = none ∧ Keep h h' [t] ∧ Arv G.Z h' t kC .char 88 ((vs.set 75 (.int (cA k))).set 76 (.int (cB k))) dv) := by
  refine Own.Con.intro (plainFor_of_name pn_0) hO hEL _ (fun m => ef_bPut75 m t pp k) ?_
  intro X T0 W0 sf
  subst hpp
  refine Own.iloadN W0 d1_0 1 rfl k rfl ?_
  refine Own.bipush W0 d1_1 3 rfl 9 rfl ?_
  by_cases e : k < (9 : Int32)
  · skip
    refine Own.icmpNo W0 d1_3 6 (XT.ii_ge_f e) rfl ?_
    refine Own.aloadN W0 d1_6 7 rfl (.ref t) rfl rfl ?_
    refine Own.iloadN W0 d1_7 8 rfl 75 rfl ?_
    refine Own.bipush W0 d1_8 10 rfl 45 rfl ?_
    refine Own.castore W0 Ac 75 (by decide) (by decide) (by rw [hvs]; decide) hn_t (x' := (45 : Int32)) (by decide) d1_10 11 rfl ?_
    intro T1 h1 W1 Q1 A1 k1
    refine Own.aloadN W1 d1_11 12 rfl (.ref t) rfl rfl ?_
    refine Own.iloadN W1 d1_12 13 rfl 75 rfl ?_
    refine Own.iconst W1 d1_13 14 rfl 1 rfl ?_
    refine Own.iadd W1 d1_14 15 rfl ?_
    refine Own.bipush W1 d1_15 17 rfl 48 rfl ?_
    refine Own.iloadN W1 d1_17 18 rfl k rfl ?_
    refine Own.iadd W1 d1_18 19 rfl ?_
    refine Own.iconst W1 d1_19 20 rfl 1 rfl ?_
    refine Own.iadd W1 d1_20 21 rfl ?_
    refine Own.i2c W1 d1_21 22 rfl ?_
    refine Own.castore W1 A1 76 (by decide) (by decide) (by rw [List.length_set, hvs]; decide) hn_t (x' := (chr16 ((48 : Int32) + k + 1))) (narX _) d1_22 23 rfl ?_
    intro T2 h2 W2 Q2 A2 k2
    refine Own.goto W2 d1_23 54 (by decide) (by decide) ?_
    exact Own.retV W2 (by decide) (by decide) rfl d1_54 ⟨rfl, (Keep.wr (Keep.wr (Keep.refl h [t]) Q1 (Or.inl (by simp))) Q2 (Or.inl (by simp))), by rw [cA, if_pos e, cB, if_pos e]; exact A2⟩
  · skip
    refine Own.icmpYes W0 d1_3 26 (XT.ii_ge_t e) (by decide) (by decide) ?_
    refine Own.iloadN W0 d1_26 27 rfl k rfl ?_
    refine Own.iconst W0 d1_27 28 rfl 1 rfl ?_
    refine Own.iadd W0 d1_28 29 rfl ?_
    refine Own.istoreN W0 d1_29 30 rfl #[.val (.ref t), .val (.int 75), .val (.int k), .val (.int (k + (1 : Int32)))] rfl ?_
    refine Own.aloadN W0 d1_30 31 rfl (.ref t) rfl rfl ?_
    refine Own.iloadN W0 d1_31 32 rfl 75 rfl ?_
    refine Own.bipush W0 d1_32 34 rfl 48 rfl ?_
    refine Own.iloadN W0 d1_34 35 rfl (k + (1 : Int32)) rfl ?_
    refine Own.bipush W0 d1_35 37 rfl 10 rfl ?_
    refine Own.idiv W0 d1_37 38 rfl (by decide) ?_
    refine Own.iadd W0 d1_38 39 rfl ?_
    refine Own.i2c W0 d1_39 40 rfl ?_
    refine Own.castore W0 Ac 75 (by decide) (by decide) (by rw [hvs]; decide) hn_t (x' := (chr16 ((48 : Int32) + (k + 1) / 10))) (narX _) d1_40 41 rfl ?_
    intro T3 h3 W3 Q3 A3 k3
    refine Own.aloadN W3 d1_41 42 rfl (.ref t) rfl rfl ?_
    refine Own.iloadN W3 d1_42 43 rfl 75 rfl ?_
    refine Own.iconst W3 d1_43 44 rfl 1 rfl ?_
    refine Own.iadd W3 d1_44 45 rfl ?_
    refine Own.bipush W3 d1_45 47 rfl 48 rfl ?_
    refine Own.iloadN W3 d1_47 48 rfl (k + (1 : Int32)) rfl ?_
    refine Own.bipush W3 d1_48 50 rfl 10 rfl ?_
    refine Own.irem W3 d1_50 51 rfl (by decide) ?_
    refine Own.iadd W3 d1_51 52 rfl ?_
    refine Own.i2c W3 d1_52 53 rfl ?_
    refine Own.castore W3 A3 76 (by decide) (by decide) (by rw [List.length_set, hvs]; decide) hn_t (x' := (chr16 ((48 : Int32) + (k + 1) % 10))) (narX _) d1_53 54 rfl ?_
    intro T4 h4 W4 Q4 A4 k4
    exact Own.retV W4 (by decide) (by decide) rfl d1_54 ⟨rfl, (Keep.wr (Keep.wr (Keep.refl h [t]) Q3 (Or.inl (by simp))) Q4 (Or.inl (by simp))), by rw [cA, if_neg e, cB, if_neg e]; exact A4⟩
set_option maxRecDepth 65536 in
set_option maxHeartbeats 40000000 in
theorem con_put86 {G : Own.Gl} (hw : ∀ d ∈ tables_1, d.before G.a0 G.Z = true) (hEL : EW G.Z G.a0 G.EL) {t : Addr} {pp : Int32} (hpp : pp = 86) (k : Int32) {h : Heap} (hO : Old G.Z G.n0 h) (hn_t : G.n0 ≤ t) {kC : ClassId} {vs : List Value} {dv : Value} (hvs : vs.length = 88) (Ac : Arv G.Z h t kC .char 88 vs dv) :
    Own.Con G [] bPut86 #[.ref t, .int pp, .int k] h [] (fun v h' => v = none ∧ Keep h h' [t] ∧ Arv G.Z h' t kC .char 88 ((vs.set 86 (.int (cA k))).set 87 (.int (cB k))) dv) := by
  refine Own.Con.intro (plainFor_of_name pn_0) hO hEL _ (fun m => ef_bPut86 m t pp k) ?_
  intro X T0 W0 sf
  subst hpp
  refine Own.iloadN W0 d1_0 1 rfl k rfl ?_
  refine Own.bipush W0 d1_1 3 rfl 9 rfl ?_
  by_cases e : k < (9 : Int32)
  · skip
    refine Own.icmpNo W0 d1_3 6 (XT.ii_ge_f e) rfl ?_
    refine Own.aloadN W0 d1_6 7 rfl (.ref t) rfl rfl ?_
    refine Own.iloadN W0 d1_7 8 rfl 86 rfl ?_
    refine Own.bipush W0 d1_8 10 rfl 45 rfl ?_
    refine Own.castore W0 Ac 86 (by decide) (by decide) (by rw [hvs]; decide) hn_t (x' := (45 : Int32)) (by decide) d1_10 11 rfl ?_
    intro T1 h1 W1 Q1 A1 k1
    refine Own.aloadN W1 d1_11 12 rfl (.ref t) rfl rfl ?_
    refine Own.iloadN W1 d1_12 13 rfl 86 rfl ?_
    refine Own.iconst W1 d1_13 14 rfl 1 rfl ?_
    refine Own.iadd W1 d1_14 15 rfl ?_
    refine Own.bipush W1 d1_15 17 rfl 48 rfl ?_
    refine Own.iloadN W1 d1_17 18 rfl k rfl ?_
    refine Own.iadd W1 d1_18 19 rfl ?_
    refine Own.iconst W1 d1_19 20 rfl 1 rfl ?_
    refine Own.iadd W1 d1_20 21 rfl ?_
    refine Own.i2c W1 d1_21 22 rfl ?_
    refine Own.castore W1 A1 87 (by decide) (by decide) (by rw [List.length_set, hvs]; decide) hn_t (x' := (chr16 ((48 : Int32) + k + 1))) (narX _) d1_22 23 rfl ?_
    intro T2 h2 W2 Q2 A2 k2
    refine Own.goto W2 d1_23 54 (by decide) (by decide) ?_
    exact Own.retV W2 (by decide) (by decide) rfl d1_54 ⟨rfl, (Keep.wr (Keep.wr (Keep.refl h [t]) Q1 (Or.inl (by simp))) Q2 (Or.inl (by simp))), by rw [cA, if_pos e, cB, if_pos e]; exact A2⟩
  · skip
    refine Own.icmpYes W0 d1_3 26 (XT.ii_ge_t e) (by decide) (by decide) ?_
    refine Own.iloadN W0 d1_26 27 rfl k rfl ?_
    refine Own.iconst W0 d1_27 28 rfl 1 rfl ?_
    refine Own.iadd W0 d1_28 29 rfl ?_
    refine Own.istoreN W0 d1_29 30 rfl #[.val (.ref t), .val (.int 86), .val (.int k), .val (.int (k + (1 : Int32)))] rfl ?_
    refine Own.aloadN W0 d1_30 31 rfl (.ref t) rfl rfl ?_
    refine Own.iloadN W0 d1_31 32 rfl 86 rfl ?_
    refine Own.bipush W0 d1_32 34 rfl 48 rfl ?_
    refine Own.iloadN W0 d1_34 35 rfl (k + (1 : Int32)) rfl ?_
    refine Own.bipush W0 d1_35 37 rfl 10 rfl ?_
    refine Own.idiv W0 d1_37 38 rfl (by decide) ?_
    refine Own.iadd W0 d1_38 39 rfl ?_
    refine Own.i2c W0 d1_39 40 rfl ?_
    refine Own.castore W0 Ac 86 (by decide) (by decide) (by rw [hvs]; decide) hn_t (x' := (chr16 ((48 : Int32) + (k + 1) / 10))) (narX _) d1_40 41 rfl ?_
    intro T3 h3 W3 Q3 A3 k3
    refine Own.aloadN W3 d1_41 42 rfl (.ref t) rfl rfl ?_
    refine Own.iloadN W3 d1_42 43 rfl 86 rfl ?_
    refine Own.iconst W3 d1_43 44 rfl 1 rfl ?_
    refine Own.iadd W3 d1_44 45 rfl ?_
    refine Own.bipush W3 d1_45 47 rfl 48 rfl ?_
    refine Own.iloadN W3 d1_47 48 rfl (k + (1 : Int32)) rfl ?_
    refine Own.bipush W3 d1_48 50 rfl 10 rfl ?_
    refine Own.irem W3 d1_50 51 rfl (by decide) ?_
    refine Own.iadd W3 d1_51 52 rfl ?_
    refine Own.i2c W3 d1_52 53 rfl ?_
    refine Own.castore W3 A3 87 (by decide) (by decide) (by rw [List.length_set, hvs]; decide) hn_t (x' := (chr16 ((48 : Int32) + (k + 1) % 10))) (narX _) d1_53 54 rfl ?_
    intro T4 h4 W4 Q4 A4 k4
    exact Own.retV W4 (by decide) (by decide) rfl d1_54 ⟨rfl, (Keep.wr (Keep.wr (Keep.refl h [t]) Q3 (Or.inl (by simp))) Q4 (Or.inl (by simp))), by rw [cA, if_neg e, cB, if_neg e]; exact A4⟩
set_option maxRecDepth 65536 in
set_option maxHeartbeats 40000000 in
theorem con_val {G : Own.Gl} (hw : ∀ d ∈ tables_1, d.before G.a0 G.Z = true) (hEL : EW G.Z G.a0 G.EL) (k : Int32) {h : Heap} (hO : Old G.Z G.n0 h) :
    Own.Con G [] bVal #[.int k] h [] (fun v h' => v = some (.long (valF k)) ∧ h' = h) := by
  refine Own.Con.intro (plainFor_of_name pn_0) hO hEL _ (fun m => ef_bVal m k) ?_
  intro X T0 W0 sf
  refine Own.iloadN W0 d8_0 1 rfl k rfl ?_
  refine Own.bipush W0 d8_1 3 rfl 9 rfl ?_
  by_cases e : k < (9 : Int32)
  · skip
    refine Own.icmpNo W0 d8_3 6 (XT.ii_ge_f e) rfl ?_
    refine Own.iloadN W0 d8_6 7 rfl k rfl ?_
    refine Own.i2l W0 d8_7 8 rfl ?_
    refine Own.lconst W0 d8_8 9 rfl (1 : Int64) rfl ?_
    refine Own.ladd W0 d8_9 10 rfl ?_
    refine Own.lneg W0 d8_10 11 rfl ?_
    exact Own.retL W0 (by decide) (by decide) rfl d8_11 ⟨by rw [valF, if_pos e], rfl⟩
  · skip
    refine Own.icmpYes W0 d8_3 12 (XT.ii_ge_t e) (by decide) (by decide) ?_
    refine Own.iloadN W0 d8_12 13 rfl k rfl ?_
    refine Own.i2l W0 d8_13 14 rfl ?_
    refine Own.lconst W0 d8_14 15 rfl (1 : Int64) rfl ?_
    refine Own.ladd W0 d8_15 16 rfl ?_
    exact Own.retL W0 (by decide) (by decide) rfl d8_16 ⟨by rw [valF, if_neg e], rfl⟩
def LT (G : Own.Gl) (x : Int64) (cs : List Int32) : Prop := (∀ c ∈ cs, ¬ c < 0 ∧ ¬ (255 : Int32) < c) ∧ (∀ {h : Heap}, Old G.Z G.n0 h → Own.Con G [] bSs #[.long x] h [] (fun v h' => v = some (.int (Int32.ofNat cs.length)) ∧ h' = h)) ∧
  ∀ {h : Heap} {cap p : Nat} {b : Addr} {kb : ClassId} {vs : List Value}, Old G.Z G.n0 h → Own.EN G.Z G.a0 G.EL cap → cap ≤ 4000 → p + cs.length ≤ cap → G.n0 ≤ b → Arv G.Z h b kb .byte (Int32.ofNat cap) vs (.int 0) → vs.length = cap →
    Own.Con G [] bGc #[.long x, .int (Int32.ofNat (p + cs.length)), .ref b] h [] (fun v h' => (∃ r : Int32, v = some (.int r)) ∧ Keep h h' [b] ∧ Arv G.Z h' b kb .byte (Int32.ofNat cap) (Own.mid vs p cs) (.int 0))
set_option maxRecDepth 65536 in
set_option maxHeartbeats 40000000 in
theorem con_ss2 {G : Own.Gl} (hw : ∀ d ∈ tables_1, d.before G.a0 G.Z = true) (hEL : EW G.Z G.a0 G.EL) {k : Int32} (hk : K99 k) {x : Int64} (hx : x = valF k) {h : Heap} (hO : Old G.Z G.n0 h) :
    Own.Con G [] bSs #[.long x] h [] (fun v h' => v = some (.int (Int32.ofNat 2)) ∧ h' = h) := by
  refine Own.Con.intro (plainFor_of_name pn_1) hO hEL _ (fun m => ef_bSs m x) ?_
  intro X T0 W0 sf
  subst hx
  by_cases e : k < 9
  · skip
    refine Own.iconst W0 d24_0 1 rfl 1 rfl ?_
    refine Own.istoreN W0 d24_1 2 rfl #[.val (.long (valF k)), .second, .val (.int 1), .unset, .unset, .unset] rfl ?_
    refine Own.lloadN W0 d24_2 3 rfl (valF k) rfl ?_
    refine Own.lconst W0 d24_3 4 rfl (0 : Int64) rfl ?_
    refine Own.lcmp W0 d24_4 5 rfl ?_
    refine Own.ifYes W0 d24_5 13 (XT.i0_lt_t (s0n hk e)) (by decide) (by decide) ?_
    refine Own.ldc2 W0 (tw hw 152 rfl) d24_13 16 rfl ?_
    refine Own.lstoreN W0 d24_16 17 rfl #[.val (.long (valF k)), .second, .val (.int 1), .val (.long (-10)), .second, .unset] rfl ?_
    refine Own.iconst W0 d24_17 18 rfl 1 rfl ?_
    refine Own.istore W0 d24_18 20 rfl #[.val (.long (valF k)), .second, .val (.int 1), .val (.long (-10)), .second, .val (.int 1)] rfl ?_
    refine Own.iload W0 d24_20 22 rfl 1 rfl ?_
    refine Own.bipush W0 d24_22 24 rfl 19 rfl ?_
    refine Own.icmpNo W0 d24_24 27 (by decide) rfl ?_
    refine Own.lloadN W0 d24_27 28 rfl (valF k) rfl ?_
    refine Own.lloadN W0 d24_28 29 rfl (-10 : Int64) rfl ?_
    refine Own.lcmp W0 d24_29 30 rfl ?_
    refine Own.ifNo W0 d24_30 33 (XT.i0_le_f (s1n hk e)) rfl ?_
    refine Own.iload W0 d24_33 35 rfl 1 rfl ?_
    refine Own.iloadN W0 d24_35 36 rfl 1 rfl ?_
    refine Own.iadd W0 d24_36 37 rfl ?_
    exact Own.retI W0 (by decide) (by decide) rfl d24_37 ⟨rfl, rfl⟩
  · skip
    refine Own.iconst W0 d24_0 1 rfl 1 rfl ?_
    refine Own.istoreN W0 d24_1 2 rfl #[.val (.long (valF k)), .second, .val (.int 1), .unset, .unset, .unset] rfl ?_
    refine Own.lloadN W0 d24_2 3 rfl (valF k) rfl ?_
    refine Own.lconst W0 d24_3 4 rfl (0 : Int64) rfl ?_
    refine Own.lcmp W0 d24_4 5 rfl ?_
    refine Own.ifNo W0 d24_5 8 (XT.i0_lt_f (s0p hk e)) rfl ?_
    refine Own.iconst W0 d24_8 9 rfl 0 rfl ?_
    refine Own.istoreN W0 d24_9 10 rfl #[.val (.long (valF k)), .second, .val (.int 0), .unset, .unset, .unset] rfl ?_
    refine Own.lloadN W0 d24_10 11 rfl (valF k) rfl ?_
    refine Own.lneg W0 d24_11 12 rfl ?_
    refine Own.lstoreN W0 d24_12 13 rfl #[.val (.long ((-(valF k)))), .second, .val (.int 0), .unset, .unset, .unset] rfl ?_
    refine Own.ldc2 W0 (tw hw 152 rfl) d24_13 16 rfl ?_
    refine Own.lstoreN W0 d24_16 17 rfl #[.val (.long ((-(valF k)))), .second, .val (.int 0), .val (.long (-10)), .second, .unset] rfl ?_
    refine Own.iconst W0 d24_17 18 rfl 1 rfl ?_
    refine Own.istore W0 d24_18 20 rfl #[.val (.long ((-(valF k)))), .second, .val (.int 0), .val (.long (-10)), .second, .val (.int 1)] rfl ?_
    refine Own.iload W0 d24_20 22 rfl 1 rfl ?_
    refine Own.bipush W0 d24_22 24 rfl 19 rfl ?_
    refine Own.icmpNo W0 d24_24 27 (by decide) rfl ?_
    refine Own.lloadN W0 d24_27 28 rfl ((-(valF k))) rfl ?_
    refine Own.lloadN W0 d24_28 29 rfl (-10 : Int64) rfl ?_
    refine Own.lcmp W0 d24_29 30 rfl ?_
    refine Own.ifYes W0 d24_30 38 (XT.i0_le_t (s1p hk e)) (by decide) (by decide) ?_
    refine Own.ldc2 W0 (tw hw 246 rfl) d24_38 41 rfl ?_
    refine Own.lloadN W0 d24_41 42 rfl (-10 : Int64) rfl ?_
    refine Own.lmulV W0 (v := (-100 : Int64)) d24_42 43 rfl (by decide +kernel) ?_
    refine Own.lstoreN W0 d24_43 44 rfl #[.val (.long ((-(valF k)))), .second, .val (.int 0), .val (.long (-100)), .second, .val (.int 1)] rfl ?_
    refine Own.iinc W0 d24_44 47 rfl rfl #[.val (.long ((-(valF k)))), .second, .val (.int 0), .val (.long (-100)), .second, .val (.int 2)] rfl ?_
    refine Own.goto W0 d24_47 20 (by decide) (by decide) ?_
    refine Own.iload W0 d24_20 22 rfl 2 rfl ?_
    refine Own.bipush W0 d24_22 24 rfl 19 rfl ?_
    refine Own.icmpNo W0 d24_24 27 (by decide) rfl ?_
    refine Own.lloadN W0 d24_27 28 rfl ((-(valF k))) rfl ?_
    refine Own.lloadN W0 d24_28 29 rfl (-100 : Int64) rfl ?_
    refine Own.lcmp W0 d24_29 30 rfl ?_
    refine Own.ifNo W0 d24_30 33 (XT.i0_le_f (s2p hk e)) rfl ?_
    refine Own.iload W0 d24_33 35 rfl 2 rfl ?_
    refine Own.iloadN W0 d24_35 36 rfl 0 rfl ?_
    refine Own.iadd W0 d24_36 37 rfl ?_
    exact Own.retI W0 (by decide) (by decide) rfl d24_37 ⟨rfl, rfl⟩
set_option maxRecDepth 65536 in
set_option maxHeartbeats 40000000 in
theorem con_gc2 {G : Own.Gl} (hw : ∀ d ∈ tables_1, d.before G.a0 G.Z = true) (hEL : EW G.Z G.a0 G.EL) {dg1 : Addr} {kg1 : ClassId} (SDO : Sta G.Z G.Z.heap "java/lang/Integer" "DigitOnes" "[B" (.ref dg1)) (DG1 : Arv G.Z G.Z.heap dg1 kg1 .byte 100 (Own.digL Own.onesF) (.int 0)) {dg2 : Addr} {kg2 : ClassId} (SDT : Sta G.Z G.Z.heap "java/lang/Integer" "DigitTens" "[B" (.ref dg2)) (DG2 : Arv G.Z G.Z.heap dg2 kg2 .byte 100 (Own.digL Own.tensF) (.int 0)) {k : Int32} (hk : K99 k) {cap p : Nat} (hEN : Own.EN G.Z G.a0 G.EL cap) (hc : cap ≤ 4000) (hp : p + 2 ≤ cap) {b : Addr} (hn_b : G.n0 ≤ b) {kb : ClassId} {vs : List Value} {h : Heap} (hO : Old G.Z G.n0 h) (A : Arv G.Z h b kb .byte (Int32.ofNat cap) vs (.int 0)) (hl : vs.length = cap) {x : Int64} {ix : Int32} (hx : x = valF k) (hix : ix = Int32.ofNat (p + 2)) :
    Own.Con G [] bGc #[.long x, .int ix, .ref b] h [] (fun v h' => (∃ r : Int32, v = some (.int r)) ∧ Keep h h' [b] ∧ Arv G.Z h' b kb .byte (Int32.ofNat cap) (Own.mid vs p [(cA k), (cB k)]) (.int 0)) := by
  refine Own.Con.intro (plainFor_of_name pn_1) hO hEL _ (fun m => ef_bGc m x ix b) ?_
  intro X T0 W0 sf
  subst hx; subst hix
  have V0 : Arv G.Z h b kb .byte (Int32.ofNat cap) (Own.mid vs (p + 2) []) (.int 0) := by rw [Own.mid_nil]; exact A
  by_cases e : k < 9
  · skip
    refine Own.iloadN W0 d26_0 1 rfl (Int32.ofNat (p + 2)) rfl ?_
    refine Own.istore W0 d26_1 3 rfl #[.val (.long (valF k)), .second, .val (.int (Int32.ofNat (p + 2))), .val (.ref b), .unset, .unset, .unset, .val (.int (Int32.ofNat (p + 2))), .unset, .unset, .unset] rfl ?_
    refine Own.lloadN W0 d26_3 4 rfl (valF k) rfl ?_
    refine Own.lconst W0 d26_4 5 rfl (0 : Int64) rfl ?_
    refine Own.lcmp W0 d26_5 6 rfl ?_
    refine Own.ifNo W0 d26_6 9 (XT.i0_ge_f (s0n hk e)) rfl ?_
    refine Own.iconst W0 d26_9 10 rfl 1 rfl ?_
    refine Own.goto W0 d26_10 14 (by decide) (by decide) ?_
    refine Own.istore W0 d26_14 16 rfl #[.val (.long (valF k)), .second, .val (.int (Int32.ofNat (p + 2))), .val (.ref b), .unset, .unset, .unset, .val (.int (Int32.ofNat (p + 2))), .val (.int 1), .unset, .unset] rfl ?_
    refine Own.iload W0 d26_16 18 rfl 1 rfl ?_
    refine Own.ifYes W0 d26_18 24 (by decide) (by decide) (by decide) ?_
    refine Own.lloadN W0 d26_24 25 rfl (valF k) rfl ?_
    refine Own.ldc2 W0 (tw hw 161 rfl) d26_25 28 rfl ?_
    refine Own.lcmp W0 d26_28 29 rfl ?_
    refine Own.ifYes W0 d26_29 82 (XT.i0_gt_t (mn hk e)) (by decide) (by decide) ?_
    refine Own.lloadN W0 d26_82 83 rfl (valF k) rfl ?_
    refine Own.l2i W0 d26_83 84 rfl ?_
    refine Own.istore W0 d26_84 86 rfl #[.val (.long (valF k)), .second, .val (.int (Int32.ofNat (p + 2))), .val (.ref b), .unset, .unset, .unset, .val (.int (Int32.ofNat (p + 2))), .val (.int 1), .unset, .val (.int (iN k))] rfl ?_
    refine Own.iload W0 d26_86 88 rfl (iN k) rfl ?_
    refine Own.bipush W0 d26_88 90 rfl (-100 : Int32) rfl ?_
    refine Own.icmpYes W0 d26_90 143 (XT.ii_gt_t (hun hk e)) (by decide) (by decide) ?_
    refine Own.aloadN W0 d26_143 144 rfl (.ref b) rfl rfl ?_
    refine Own.iincD W0 (n := p + 1) d26_144 147 rfl rfl #[.val (.long (valF k)), .second, .val (.int (Int32.ofNat (p + 2))), .val (.ref b), .unset, .unset, .unset, .val (.int (Int32.ofNat (p + 1))), .val (.int 1), .unset, .val (.int (iN k))] rfl ?_
    refine Own.iload W0 d26_147 149 rfl (Int32.ofNat (p + 1)) rfl ?_
    refine Own.getS W0 (tw hw 162 rfl) Via.refl (W0.sta SDO) d26_149 152 rfl ?_
    intro T1 W1
    refine Own.iload W1 d26_152 154 rfl (iN k) rfl ?_
    refine Own.ineg W1 d26_154 155 rfl ?_
    refine Own.digLoad W1 DG1 (v := (cB k)) (jn hk e) (Own.ones_v (jn hk e) (on hk e)) d26_155 156 rfl ?_
    refine Own.bst W1 (q := p + 1) (cs := []) V0 hl (by show p + 1 + 1 + 0 ≤ cap; omega) hc hEN hn_b d26_156 157 rfl ?_
    intro T2 h2 W2 Q2 V2 k2
    refine Own.iload W2 d26_157 159 rfl (iN k) rfl ?_
    refine Own.bipush W2 d26_159 161 rfl (-9 : Int32) rfl ?_
    refine Own.icmpYes W2 d26_161 178 (XT.ii_ge_t (nn hk e)) (by decide) (by decide) ?_
    refine Own.iload W2 d26_178 180 rfl 1 rfl ?_
    refine Own.ifNo W2 d26_180 183 (by decide) rfl ?_
    refine Own.aloadN W2 d26_183 184 rfl (.ref b) rfl rfl ?_
    refine Own.iincD W2 (n := p + 0) d26_184 187 rfl rfl #[.val (.long (valF k)), .second, .val (.int (Int32.ofNat (p + 2))), .val (.ref b), .unset, .unset, .unset, .val (.int (Int32.ofNat (p + 0))), .val (.int 1), .unset, .val (.int (iN k))] rfl ?_
    refine Own.iload W2 d26_187 189 rfl (Int32.ofNat (p + 0)) rfl ?_
    refine Own.bipush W2 d26_189 191 rfl 45 rfl ?_
    refine Own.bst W2 (q := p + 0) (cs := [(cB k)]) V2 hl (by show p + 0 + 1 + 1 ≤ cap; omega) hc hEN hn_b d26_191 192 rfl ?_
    intro T3 h3 W3 Q3 V3 k3
    refine Own.iload W3 d26_192 194 rfl (Int32.ofNat (p + 0)) rfl ?_
    exact Own.retI W3 (by decide) (by decide) rfl d26_194 ⟨⟨_, rfl⟩, (Keep.wr (Keep.wr (Keep.refl h [b]) Q2 (Or.inl (by simp))) Q3 (Or.inl (by simp))), by rw [cA_n e]; exact V3⟩
  · skip
    refine Own.iloadN W0 d26_0 1 rfl (Int32.ofNat (p + 2)) rfl ?_
    refine Own.istore W0 d26_1 3 rfl #[.val (.long (valF k)), .second, .val (.int (Int32.ofNat (p + 2))), .val (.ref b), .unset, .unset, .unset, .val (.int (Int32.ofNat (p + 2))), .unset, .unset, .unset] rfl ?_
    refine Own.lloadN W0 d26_3 4 rfl (valF k) rfl ?_
    refine Own.lconst W0 d26_4 5 rfl (0 : Int64) rfl ?_
    refine Own.lcmp W0 d26_5 6 rfl ?_
    refine Own.ifYes W0 d26_6 13 (XT.i0_ge_t (s0p hk e)) (by decide) (by decide) ?_
    refine Own.iconst W0 d26_13 14 rfl 0 rfl ?_
    refine Own.istore W0 d26_14 16 rfl #[.val (.long (valF k)), .second, .val (.int (Int32.ofNat (p + 2))), .val (.ref b), .unset, .unset, .unset, .val (.int (Int32.ofNat (p + 2))), .val (.int 0), .unset, .unset] rfl ?_
    refine Own.iload W0 d26_16 18 rfl 0 rfl ?_
    refine Own.ifNo W0 d26_18 21 (by decide) rfl ?_
    refine Own.lloadN W0 d26_21 22 rfl (valF k) rfl ?_
    refine Own.lneg W0 d26_22 23 rfl ?_
    refine Own.lstoreN W0 d26_23 24 rfl #[.val (.long ((-(valF k)))), .second, .val (.int (Int32.ofNat (p + 2))), .val (.ref b), .unset, .unset, .unset, .val (.int (Int32.ofNat (p + 2))), .val (.int 0), .unset, .unset] rfl ?_
    refine Own.lloadN W0 d26_24 25 rfl ((-(valF k))) rfl ?_
    refine Own.ldc2 W0 (tw hw 161 rfl) d26_25 28 rfl ?_
    refine Own.lcmp W0 d26_28 29 rfl ?_
    refine Own.ifYes W0 d26_29 82 (XT.i0_gt_t (mp hk e)) (by decide) (by decide) ?_
    refine Own.lloadN W0 d26_82 83 rfl ((-(valF k))) rfl ?_
    refine Own.l2i W0 d26_83 84 rfl ?_
    refine Own.istore W0 d26_84 86 rfl #[.val (.long ((-(valF k)))), .second, .val (.int (Int32.ofNat (p + 2))), .val (.ref b), .unset, .unset, .unset, .val (.int (Int32.ofNat (p + 2))), .val (.int 0), .unset, .val (.int (iP k))] rfl ?_
    refine Own.iload W0 d26_86 88 rfl (iP k) rfl ?_
    refine Own.bipush W0 d26_88 90 rfl (-100 : Int32) rfl ?_
    refine Own.icmpYes W0 d26_90 143 (XT.ii_gt_t (hup hk e)) (by decide) (by decide) ?_
    refine Own.aloadN W0 d26_143 144 rfl (.ref b) rfl rfl ?_
    refine Own.iincD W0 (n := p + 1) d26_144 147 rfl rfl #[.val (.long ((-(valF k)))), .second, .val (.int (Int32.ofNat (p + 2))), .val (.ref b), .unset, .unset, .unset, .val (.int (Int32.ofNat (p + 1))), .val (.int 0), .unset, .val (.int (iP k))] rfl ?_
    refine Own.iload W0 d26_147 149 rfl (Int32.ofNat (p + 1)) rfl ?_
    refine Own.getS W0 (tw hw 162 rfl) Via.refl (W0.sta SDO) d26_149 152 rfl ?_
    intro T4 W4
    refine Own.iload W4 d26_152 154 rfl (iP k) rfl ?_
    refine Own.ineg W4 d26_154 155 rfl ?_
    refine Own.digLoad W4 DG1 (v := (cB k)) (jp hk e) (Own.ones_v (jp hk e) (op hk e)) d26_155 156 rfl ?_
    refine Own.bst W4 (q := p + 1) (cs := []) V0 hl (by show p + 1 + 1 + 0 ≤ cap; omega) hc hEN hn_b d26_156 157 rfl ?_
    intro T5 h5 W5 Q5 V5 k5
    refine Own.iload W5 d26_157 159 rfl (iP k) rfl ?_
    refine Own.bipush W5 d26_159 161 rfl (-9 : Int32) rfl ?_
    refine Own.icmpNo W5 d26_161 164 (XT.ii_ge_f (np hk e)) rfl ?_
    refine Own.aloadN W5 d26_164 165 rfl (.ref b) rfl rfl ?_
    refine Own.iincD W5 (n := p + 0) d26_165 168 rfl rfl #[.val (.long ((-(valF k)))), .second, .val (.int (Int32.ofNat (p + 2))), .val (.ref b), .unset, .unset, .unset, .val (.int (Int32.ofNat (p + 0))), .val (.int 0), .unset, .val (.int (iP k))] rfl ?_
    refine Own.iload W5 d26_168 170 rfl (Int32.ofNat (p + 0)) rfl ?_
    refine Own.getS W5 (tw hw 248 rfl) Via.refl (W5.sta SDT) d26_170 173 rfl ?_
    intro T6 W6
    refine Own.iload W6 d26_173 175 rfl (iP k) rfl ?_
    refine Own.ineg W6 d26_175 176 rfl ?_
    refine Own.digLoad W6 DG2 (v := (cA k)) (jp hk e) (Own.tens_v (jp hk e) (tp hk e)) d26_176 177 rfl ?_
    refine Own.bst W6 (q := p + 0) (cs := [(cB k)]) V5 hl (by show p + 0 + 1 + 1 ≤ cap; omega) hc hEN hn_b d26_177 178 rfl ?_
    intro T7 h7 W7 Q7 V7 k7
    refine Own.iload W7 d26_178 180 rfl 0 rfl ?_
    refine Own.ifYes W7 d26_180 192 (by decide) (by decide) (by decide) ?_
    refine Own.iload W7 d26_192 194 rfl (Int32.ofNat (p + 0)) rfl ?_
    exact Own.retI W7 (by decide) (by decide) rfl d26_194 ⟨⟨_, rfl⟩, (Keep.wr (Keep.wr (Keep.refl h [b]) Q5 (Or.inl (by simp))) Q7 (Or.inl (by simp))), V7⟩
theorem lt2 {G : Own.Gl} (hw : ∀ d ∈ tables_1, d.before G.a0 G.Z = true) (hEL : EW G.Z G.a0 G.EL) {dg1 : Addr} {kg1 : ClassId} (SDO : Sta G.Z G.Z.heap "java/lang/Integer" "DigitOnes" "[B" (.ref dg1)) (DG1 : Arv G.Z G.Z.heap dg1 kg1 .byte 100 (Own.digL Own.onesF) (.int 0)) {dg2 : Addr} {kg2 : ClassId} (SDT : Sta G.Z G.Z.heap "java/lang/Integer" "DigitTens" "[B" (.ref dg2)) (DG2 : Arv G.Z G.Z.heap dg2 kg2 .byte 100 (Own.digL Own.tensF) (.int 0)) {k : Int32} (hk : K99 k) : LT G (valF k) [(cA k), (cB k)] := ⟨rgS (rgA hk) (rgS (rgB hk) rg0), fun hO => con_ss2 hw hEL hk rfl hO, fun hO hEN hc hp hb A hl => con_gc2 hw hEL SDO DG1 SDT DG2 hk hEN hc hp hb hO A hl rfl rfl⟩
set_option maxRecDepth 65536 in
set_option maxHeartbeats 40000000 in
theorem con_ss_min {G : Own.Gl} (hw : ∀ d ∈ tables_1, d.before G.a0 G.Z = true) (hEL : EW G.Z G.a0 G.EL) {x : Int64} (hx : x = (-9223372036854775808 : Int64)) {h : Heap} (hO : Old G.Z G.n0 h) :
    Own.Con G [] bSs #[.long x] h [] (fun v h' => v = some (.int (Int32.ofNat 20)) ∧ h' = h) := by
  refine Own.Con.intro (plainFor_of_name pn_1) hO hEL _ (fun m => ef_bSs m x) ?_
  intro X T0 W0 sf
  subst hx
  refine Own.iconst W0 d24_0 1 rfl 1 rfl ?_
  refine Own.istoreN W0 d24_1 2 rfl #[.val (.long (-9223372036854775808)), .second, .val (.int 1), .unset, .unset, .unset] rfl ?_
  refine Own.lloadN W0 d24_2 3 rfl (-9223372036854775808 : Int64) rfl ?_
  refine Own.lconst W0 d24_3 4 rfl (0 : Int64) rfl ?_
  refine Own.lcmpV W0 (v := (-1 : Int32)) d24_4 5 rfl (by decide +kernel) ?_
  refine Own.ifYes W0 d24_5 13 (by decide) (by decide) (by decide) ?_
  refine Own.ldc2 W0 (tw hw 152 rfl) d24_13 16 rfl ?_
  refine Own.lstoreN W0 d24_16 17 rfl #[.val (.long (-9223372036854775808)), .second, .val (.int 1), .val (.long (-10)), .second, .unset] rfl ?_
  refine Own.iconst W0 d24_17 18 rfl 1 rfl ?_
  refine Own.istore W0 d24_18 20 rfl #[.val (.long (-9223372036854775808)), .second, .val (.int 1), .val (.long (-10)), .second, .val (.int 1)] rfl ?_
  refine Own.iload W0 d24_20 22 rfl 1 rfl ?_
  refine Own.bipush W0 d24_22 24 rfl 19 rfl ?_
  refine Own.icmpNo W0 d24_24 27 (by decide) rfl ?_
  refine Own.lloadN W0 d24_27 28 rfl (-9223372036854775808 : Int64) rfl ?_
  refine Own.lloadN W0 d24_28 29 rfl (-10 : Int64) rfl ?_
  refine Own.lcmpV W0 (v := (-1 : Int32)) d24_29 30 rfl (by decide +kernel) ?_
  refine Own.ifYes W0 d24_30 38 (by decide) (by decide) (by decide) ?_
  refine Own.ldc2 W0 (tw hw 246 rfl) d24_38 41 rfl ?_
  refine Own.lloadN W0 d24_41 42 rfl (-10 : Int64) rfl ?_
  refine Own.lmulV W0 (v := (-100 : Int64)) d24_42 43 rfl (by decide +kernel) ?_
  refine Own.lstoreN W0 d24_43 44 rfl #[.val (.long (-9223372036854775808)), .second, .val (.int 1), .val (.long (-100)), .second, .val (.int 1)] rfl ?_
  refine Own.iinc W0 d24_44 47 rfl rfl #[.val (.long (-9223372036854775808)), .second, .val (.int 1), .val (.long (-100)), .second, .val (.int 2)] rfl ?_
  refine Own.goto W0 d24_47 20 (by decide) (by decide) ?_
  refine Own.iload W0 d24_20 22 rfl 2 rfl ?_
  refine Own.bipush W0 d24_22 24 rfl 19 rfl ?_
  refine Own.icmpNo W0 d24_24 27 (by decide) rfl ?_
  refine Own.lloadN W0 d24_27 28 rfl (-9223372036854775808 : Int64) rfl ?_
  refine Own.lloadN W0 d24_28 29 rfl (-100 : Int64) rfl ?_
  refine Own.lcmpV W0 (v := (-1 : Int32)) d24_29 30 rfl (by decide +kernel) ?_
  refine Own.ifYes W0 d24_30 38 (by decide) (by decide) (by decide) ?_
  refine Own.ldc2 W0 (tw hw 246 rfl) d24_38 41 rfl ?_
  refine Own.lloadN W0 d24_41 42 rfl (-100 : Int64) rfl ?_
  refine Own.lmulV W0 (v := (-1000 : Int64)) d24_42 43 rfl (by decide +kernel) ?_
  refine Own.lstoreN W0 d24_43 44 rfl #[.val (.long (-9223372036854775808)), .second, .val (.int 1), .val (.long (-1000)), .second, .val (.int 2)] rfl ?_
  refine Own.iinc W0 d24_44 47 rfl rfl #[.val (.long (-9223372036854775808)), .second, .val (.int 1), .val (.long (-1000)), .second, .val (.int 3)] rfl ?_
  refine Own.goto W0 d24_47 20 (by decide) (by decide) ?_
  refine Own.iload W0 d24_20 22 rfl 3 rfl ?_
  refine Own.bipush W0 d24_22 24 rfl 19 rfl ?_
  refine Own.icmpNo W0 d24_24 27 (by decide) rfl ?_
  refine Own.lloadN W0 d24_27 28 rfl (-9223372036854775808 : Int64) rfl ?_
  refine Own.lloadN W0 d24_28 29 rfl (-1000 : Int64) rfl ?_
  refine Own.lcmpV W0 (v := (-1 : Int32)) d24_29 30 rfl (by decide +kernel) ?_
  refine Own.ifYes W0 d24_30 38 (by decide) (by decide) (by decide) ?_
  refine Own.ldc2 W0 (tw hw 246 rfl) d24_38 41 rfl ?_
  refine Own.lloadN W0 d24_41 42 rfl (-1000 : Int64) rfl ?_
  refine Own.lmulV W0 (v := (-10000 : Int64)) d24_42 43 rfl (by decide +kernel) ?_
  refine Own.lstoreN W0 d24_43 44 rfl #[.val (.long (-9223372036854775808)), .second, .val (.int 1), .val (.long (-10000)), .second, .val (.int 3)] rfl ?_
  refine Own.iinc W0 d24_44 47 rfl rfl #[.val (.long (-9223372036854775808)), .second, .val (.int 1), .val (.long (-10000)), .second, .val (.int 4)] rfl ?_
  refine Own.goto W0 d24_47 20 (by decide) (by decide) ?_
  refine Own.iload W0 d24_20 22 rfl 4 rfl ?_
  refine Own.bipush W0 d24_22 24 rfl 19 rfl ?_
  refine Own.icmpNo W0 d24_24 27 (by decide) rfl ?_
  refine Own.lloadN W0 d24_27 28 rfl (-9223372036854775808 : Int64) rfl ?_
  refine Own.lloadN W0 d24_28 29 rfl (-10000 : Int64) rfl ?_
  refine Own.lcmpV W0 (v := (-1 : Int32)) d24_29 30 rfl (by decide +kernel) ?_
  refine Own.ifYes W0 d24_30 38 (by decide) (by decide) (by decide) ?_
  refine Own.ldc2 W0 (tw hw 246 rfl) d24_38 41 rfl ?_
  refine Own.lloadN W0 d24_41 42 rfl (-10000 : Int64) rfl ?_
  refine Own.lmulV W0 (v := (-100000 : Int64)) d24_42 43 rfl (by decide +kernel) ?_
  refine Own.lstoreN W0 d24_43 44 rfl #[.val (.long (-9223372036854775808)), .second, .val (.int 1), .val (.long (-100000)), .second, .val (.int 4)] rfl ?_
  refine Own.iinc W0 d24_44 47 rfl rfl #[.val (.long (-9223372036854775808)), .second, .val (.int 1), .val (.long (-100000)), .second, .val (.int 5)] rfl ?_
  refine Own.goto W0 d24_47 20 (by decide) (by decide) ?_
  refine Own.iload W0 d24_20 22 rfl 5 rfl ?_
  refine Own.bipush W0 d24_22 24 rfl 19 rfl ?_
  refine Own.icmpNo W0 d24_24 27 (by decide) rfl ?_
  refine Own.lloadN W0 d24_27 28 rfl (-9223372036854775808 : Int64) rfl ?_
  refine Own.lloadN W0 d24_28 29 rfl (-100000 : Int64) rfl ?_
  refine Own.lcmpV W0 (v := (-1 : Int32)) d24_29 30 rfl (by decide +kernel) ?_
  refine Own.ifYes W0 d24_30 38 (by decide) (by decide) (by decide) ?_
  refine Own.ldc2 W0 (tw hw 246 rfl) d24_38 41 rfl ?_
  refine Own.lloadN W0 d24_41 42 rfl (-100000 : Int64) rfl ?_
  refine Own.lmulV W0 (v := (-1000000 : Int64)) d24_42 43 rfl (by decide +kernel) ?_
  refine Own.lstoreN W0 d24_43 44 rfl #[.val (.long (-9223372036854775808)), .second, .val (.int 1), .val (.long (-1000000)), .second, .val (.int 5)] rfl ?_
  refine Own.iinc W0 d24_44 47 rfl rfl #[.val (.long (-9223372036854775808)), .second, .val (.int 1), .val (.long (-1000000)), .second, .val (.int 6)] rfl ?_
  refine Own.goto W0 d24_47 20 (by decide) (by decide) ?_
  refine Own.iload W0 d24_20 22 rfl 6 rfl ?_
  refine Own.bipush W0 d24_22 24 rfl 19 rfl ?_
  refine Own.icmpNo W0 d24_24 27 (by decide) rfl ?_
  refine Own.lloadN W0 d24_27 28 rfl (-9223372036854775808 : Int64) rfl ?_
  refine Own.lloadN W0 d24_28 29 rfl (-1000000 : Int64) rfl ?_
  refine Own.lcmpV W0 (v := (-1 : Int32)) d24_29 30 rfl (by decide +kernel) ?_
  refine Own.ifYes W0 d24_30 38 (by decide) (by decide) (by decide) ?_
  refine Own.ldc2 W0 (tw hw 246 rfl) d24_38 41 rfl ?_
  refine Own.lloadN W0 d24_41 42 rfl (-1000000 : Int64) rfl ?_
  refine Own.lmulV W0 (v := (-10000000 : Int64)) d24_42 43 rfl (by decide +kernel) ?_
  refine Own.lstoreN W0 d24_43 44 rfl #[.val (.long (-9223372036854775808)), .second, .val (.int 1), .val (.long (-10000000)), .second, .val (.int 6)] rfl ?_
  refine Own.iinc W0 d24_44 47 rfl rfl #[.val (.long (-9223372036854775808)), .second, .val (.int 1), .val (.long (-10000000)), .second, .val (.int 7)] rfl ?_
  refine Own.goto W0 d24_47 20 (by decide) (by decide) ?_
  refine Own.iload W0 d24_20 22 rfl 7 rfl ?_
  refine Own.bipush W0 d24_22 24 rfl 19 rfl ?_
  refine Own.icmpNo W0 d24_24 27 (by decide) rfl ?_
  refine Own.lloadN W0 d24_27 28 rfl (-9223372036854775808 : Int64) rfl ?_
  refine Own.lloadN W0 d24_28 29 rfl (-10000000 : Int64) rfl ?_
  refine Own.lcmpV W0 (v := (-1 : Int32)) d24_29 30 rfl (by decide +kernel) ?_
  refine Own.ifYes W0 d24_30 38 (by decide) (by decide) (by decide) ?_
  refine Own.ldc2 W0 (tw hw 246 rfl) d24_38 41 rfl ?_
  refine Own.lloadN W0 d24_41 42 rfl (-10000000 : Int64) rfl ?_
  refine Own.lmulV W0 (v := (-100000000 : Int64)) d24_42 43 rfl (by decide +kernel) ?_
  refine Own.lstoreN W0 d24_43 44 rfl #[.val (.long (-9223372036854775808)), .second, .val (.int 1), .val (.long (-100000000)), .second, .val (.int 7)] rfl ?_
  refine Own.iinc W0 d24_44 47 rfl rfl #[.val (.long (-9223372036854775808)), .second, .val (.int 1), .val (.long (-100000000)), .second, .val (.int 8)] rfl ?_
  refine Own.goto W0 d24_47 20 (by decide) (by decide) ?_
  refine Own.iload W0 d24_20 22 rfl 8 rfl ?_
  refine Own.bipush W0 d24_22 24 rfl 19 rfl ?_
  refine Own.icmpNo W0 d24_24 27 (by decide) rfl ?_
  refine Own.lloadN W0 d24_27 28 rfl (-9223372036854775808 : Int64) rfl ?_
  refine Own.lloadN W0 d24_28 29 rfl (-100000000 : Int64) rfl ?_
  refine Own.lcmpV W0 (v := (-1 : Int32)) d24_29 30 rfl (by decide +kernel) ?_
  refine Own.ifYes W0 d24_30 38 (by decide) (by decide) (by decide) ?_
  refine Own.ldc2 W0 (tw hw 246 rfl) d24_38 41 rfl ?_
  refine Own.lloadN W0 d24_41 42 rfl (-100000000 : Int64) rfl ?_
  refine Own.lmulV W0 (v := (-1000000000 : Int64)) d24_42 43 rfl (by decide +kernel) ?_
  refine Own.lstoreN W0 d24_43 44 rfl #[.val (.long (-9223372036854775808)), .second, .val (.int 1), .val (.long (-1000000000)), .second, .val (.int 8)] rfl ?_
  refine Own.iinc W0 d24_44 47 rfl rfl #[.val (.long (-9223372036854775808)), .second, .val (.int 1), .val (.long (-1000000000)), .second, .val (.int 9)] rfl ?_
  refine Own.goto W0 d24_47 20 (by decide) (by decide) ?_
  refine Own.iload W0 d24_20 22 rfl 9 rfl ?_
  refine Own.bipush W0 d24_22 24 rfl 19 rfl ?_
  refine Own.icmpNo W0 d24_24 27 (by decide) rfl ?_
  refine Own.lloadN W0 d24_27 28 rfl (-9223372036854775808 : Int64) rfl ?_
  refine Own.lloadN W0 d24_28 29 rfl (-1000000000 : Int64) rfl ?_
  refine Own.lcmpV W0 (v := (-1 : Int32)) d24_29 30 rfl (by decide +kernel) ?_
  refine Own.ifYes W0 d24_30 38 (by decide) (by decide) (by decide) ?_
  refine Own.ldc2 W0 (tw hw 246 rfl) d24_38 41 rfl ?_
  refine Own.lloadN W0 d24_41 42 rfl (-1000000000 : Int64) rfl ?_
  refine Own.lmulV W0 (v := (-10000000000 : Int64)) d24_42 43 rfl (by decide +kernel) ?_
  refine Own.lstoreN W0 d24_43 44 rfl #[.val (.long (-9223372036854775808)), .second, .val (.int 1), .val (.long (-10000000000)), .second, .val (.int 9)] rfl ?_
  refine Own.iinc W0 d24_44 47 rfl rfl #[.val (.long (-9223372036854775808)), .second, .val (.int 1), .val (.long (-10000000000)), .second, .val (.int 10)] rfl ?_
  refine Own.goto W0 d24_47 20 (by decide) (by decide) ?_
  refine Own.iload W0 d24_20 22 rfl 10 rfl ?_
  refine Own.bipush W0 d24_22 24 rfl 19 rfl ?_
  refine Own.icmpNo W0 d24_24 27 (by decide) rfl ?_
  refine Own.lloadN W0 d24_27 28 rfl (-9223372036854775808 : Int64) rfl ?_
  refine Own.lloadN W0 d24_28 29 rfl (-10000000000 : Int64) rfl ?_
  refine Own.lcmpV W0 (v := (-1 : Int32)) d24_29 30 rfl (by decide +kernel) ?_
  refine Own.ifYes W0 d24_30 38 (by decide) (by decide) (by decide) ?_
  refine Own.ldc2 W0 (tw hw 246 rfl) d24_38 41 rfl ?_
  refine Own.lloadN W0 d24_41 42 rfl (-10000000000 : Int64) rfl ?_
  refine Own.lmulV W0 (v := (-100000000000 : Int64)) d24_42 43 rfl (by decide +kernel) ?_
  refine Own.lstoreN W0 d24_43 44 rfl #[.val (.long (-9223372036854775808)), .second, .val (.int 1), .val (.long (-100000000000)), .second, .val (.int 10)] rfl ?_
  refine Own.iinc W0 d24_44 47 rfl rfl #[.val (.long (-9223372036854775808)), .second, .val (.int 1), .val (.long (-100000000000)), .second, .val (.int 11)] rfl ?_
  refine Own.goto W0 d24_47 20 (by decide) (by decide) ?_
  refine Own.iload W0 d24_20 22 rfl 11 rfl ?_
  refine Own.bipush W0 d24_22 24 rfl 19 rfl ?_
  refine Own.icmpNo W0 d24_24 27 (by decide) rfl ?_
  refine Own.lloadN W0 d24_27 28 rfl (-9223372036854775808 : Int64) rfl ?_
  refine Own.lloadN W0 d24_28 29 rfl (-100000000000 : Int64) rfl ?_
  refine Own.lcmpV W0 (v := (-1 : Int32)) d24_29 30 rfl (by decide +kernel) ?_
  refine Own.ifYes W0 d24_30 38 (by decide) (by decide) (by decide) ?_
  refine Own.ldc2 W0 (tw hw 246 rfl) d24_38 41 rfl ?_
  refine Own.lloadN W0 d24_41 42 rfl (-100000000000 : Int64) rfl ?_
  refine Own.lmulV W0 (v := (-1000000000000 : Int64)) d24_42 43 rfl (by decide +kernel) ?_
  refine Own.lstoreN W0 d24_43 44 rfl #[.val (.long (-9223372036854775808)), .second, .val (.int 1), .val (.long (-1000000000000)), .second, .val (.int 11)] rfl ?_
  refine Own.iinc W0 d24_44 47 rfl rfl #[.val (.long (-9223372036854775808)), .second, .val (.int 1), .val (.long (-1000000000000)), .second, .val (.int 12)] rfl ?_
  refine Own.goto W0 d24_47 20 (by decide) (by decide) ?_
  refine Own.iload W0 d24_20 22 rfl 12 rfl ?_
  refine Own.bipush W0 d24_22 24 rfl 19 rfl ?_
  refine Own.icmpNo W0 d24_24 27 (by decide) rfl ?_
  refine Own.lloadN W0 d24_27 28 rfl (-9223372036854775808 : Int64) rfl ?_
  refine Own.lloadN W0 d24_28 29 rfl (-1000000000000 : Int64) rfl ?_
  refine Own.lcmpV W0 (v := (-1 : Int32)) d24_29 30 rfl (by decide +kernel) ?_
  refine Own.ifYes W0 d24_30 38 (by decide) (by decide) (by decide) ?_
  refine Own.ldc2 W0 (tw hw 246 rfl) d24_38 41 rfl ?_
  refine Own.lloadN W0 d24_41 42 rfl (-1000000000000 : Int64) rfl ?_
  refine Own.lmulV W0 (v := (-10000000000000 : Int64)) d24_42 43 rfl (by decide +kernel) ?_
  refine Own.lstoreN W0 d24_43 44 rfl #[.val (.long (-9223372036854775808)), .second, .val (.int 1), .val (.long (-10000000000000)), .second, .val (.int 12)] rfl ?_
  refine Own.iinc W0 d24_44 47 rfl rfl #[.val (.long (-9223372036854775808)), .second, .val (.int 1), .val (.long (-10000000000000)), .second, .val (.int 13)] rfl ?_
  refine Own.goto W0 d24_47 20 (by decide) (by decide) ?_
  refine Own.iload W0 d24_20 22 rfl 13 rfl ?_
  refine Own.bipush W0 d24_22 24 rfl 19 rfl ?_
  refine Own.icmpNo W0 d24_24 27 (by decide) rfl ?_
  refine Own.lloadN W0 d24_27 28 rfl (-9223372036854775808 : Int64) rfl ?_
  refine Own.lloadN W0 d24_28 29 rfl (-10000000000000 : Int64) rfl ?_
  refine Own.lcmpV W0 (v := (-1 : Int32)) d24_29 30 rfl (by decide +kernel) ?_
  refine Own.ifYes W0 d24_30 38 (by decide) (by decide) (by decide) ?_
  refine Own.ldc2 W0 (tw hw 246 rfl) d24_38 41 rfl ?_
  refine Own.lloadN W0 d24_41 42 rfl (-10000000000000 : Int64) rfl ?_
  refine Own.lmulV W0 (v := (-100000000000000 : Int64)) d24_42 43 rfl (by decide +kernel) ?_
  refine Own.lstoreN W0 d24_43 44 rfl #[.val (.long (-9223372036854775808)), .second, .val (.int 1), .val (.long (-100000000000000)), .second, .val (.int 13)] rfl ?_
  refine Own.iinc W0 d24_44 47 rfl rfl #[.val (.long (-9223372036854775808)), .second, .val (.int 1), .val (.long (-100000000000000)), .second, .val (.int 14)] rfl ?_
  refine Own.goto W0 d24_47 20 (by decide) (by decide) ?_
  refine Own.iload W0 d24_20 22 rfl 14 rfl ?_
  refine Own.bipush W0 d24_22 24 rfl 19 rfl ?_
  refine Own.icmpNo W0 d24_24 27 (by decide) rfl ?_
  refine Own.lloadN W0 d24_27 28 rfl (-9223372036854775808 : Int64) rfl ?_
  refine Own.lloadN W0 d24_28 29 rfl (-100000000000000 : Int64) rfl ?_
  refine Own.lcmpV W0 (v := (-1 : Int32)) d24_29 30 rfl (by decide +kernel) ?_
  refine Own.ifYes W0 d24_30 38 (by decide) (by decide) (by decide) ?_
  refine Own.ldc2 W0 (tw hw 246 rfl) d24_38 41 rfl ?_
  refine Own.lloadN W0 d24_41 42 rfl (-100000000000000 : Int64) rfl ?_
  refine Own.lmulV W0 (v := (-1000000000000000 : Int64)) d24_42 43 rfl (by decide +kernel) ?_
  refine Own.lstoreN W0 d24_43 44 rfl #[.val (.long (-9223372036854775808)), .second, .val (.int 1), .val (.long (-1000000000000000)), .second, .val (.int 14)] rfl ?_
  refine Own.iinc W0 d24_44 47 rfl rfl #[.val (.long (-9223372036854775808)), .second, .val (.int 1), .val (.long (-1000000000000000)), .second, .val (.int 15)] rfl ?_
  refine Own.goto W0 d24_47 20 (by decide) (by decide) ?_
  refine Own.iload W0 d24_20 22 rfl 15 rfl ?_
  refine Own.bipush W0 d24_22 24 rfl 19 rfl ?_
  refine Own.icmpNo W0 d24_24 27 (by decide) rfl ?_
  refine Own.lloadN W0 d24_27 28 rfl (-9223372036854775808 : Int64) rfl ?_
  refine Own.lloadN W0 d24_28 29 rfl (-1000000000000000 : Int64) rfl ?_
  refine Own.lcmpV W0 (v := (-1 : Int32)) d24_29 30 rfl (by decide +kernel) ?_
  refine Own.ifYes W0 d24_30 38 (by decide) (by decide) (by decide) ?_
  refine Own.ldc2 W0 (tw hw 246 rfl) d24_38 41 rfl ?_
  refine Own.lloadN W0 d24_41 42 rfl (-1000000000000000 : Int64) rfl ?_
  refine Own.lmulV W0 (v := (-10000000000000000 : Int64)) d24_42 43 rfl (by decide +kernel) ?_
  refine Own.lstoreN W0 d24_43 44 rfl #[.val (.long (-9223372036854775808)), .second, .val (.int 1), .val (.long (-10000000000000000)), .second, .val (.int 15)] rfl ?_
  refine Own.iinc W0 d24_44 47 rfl rfl #[.val (.long (-9223372036854775808)), .second, .val (.int 1), .val (.long (-10000000000000000)), .second, .val (.int 16)] rfl ?_
  refine Own.goto W0 d24_47 20 (by decide) (by decide) ?_
  refine Own.iload W0 d24_20 22 rfl 16 rfl ?_
  refine Own.bipush W0 d24_22 24 rfl 19 rfl ?_
  refine Own.icmpNo W0 d24_24 27 (by decide) rfl ?_
  refine Own.lloadN W0 d24_27 28 rfl (-9223372036854775808 : Int64) rfl ?_
  refine Own.lloadN W0 d24_28 29 rfl (-10000000000000000 : Int64) rfl ?_
  refine Own.lcmpV W0 (v := (-1 : Int32)) d24_29 30 rfl (by decide +kernel) ?_
  refine Own.ifYes W0 d24_30 38 (by decide) (by decide) (by decide) ?_
  refine Own.ldc2 W0 (tw hw 246 rfl) d24_38 41 rfl ?_
  refine Own.lloadN W0 d24_41 42 rfl (-10000000000000000 : Int64) rfl ?_
  refine Own.lmulV W0 (v := (-100000000000000000 : Int64)) d24_42 43 rfl (by decide +kernel) ?_
  refine Own.lstoreN W0 d24_43 44 rfl #[.val (.long (-9223372036854775808)), .second, .val (.int 1), .val (.long (-100000000000000000)), .second, .val (.int 16)] rfl ?_
  refine Own.iinc W0 d24_44 47 rfl rfl #[.val (.long (-9223372036854775808)), .second, .val (.int 1), .val (.long (-100000000000000000)), .second, .val (.int 17)] rfl ?_
  refine Own.goto W0 d24_47 20 (by decide) (by decide) ?_
  refine Own.iload W0 d24_20 22 rfl 17 rfl ?_
  refine Own.bipush W0 d24_22 24 rfl 19 rfl ?_
  refine Own.icmpNo W0 d24_24 27 (by decide) rfl ?_
  refine Own.lloadN W0 d24_27 28 rfl (-9223372036854775808 : Int64) rfl ?_
  refine Own.lloadN W0 d24_28 29 rfl (-100000000000000000 : Int64) rfl ?_
  refine Own.lcmpV W0 (v := (-1 : Int32)) d24_29 30 rfl (by decide +kernel) ?_
  refine Own.ifYes W0 d24_30 38 (by decide) (by decide) (by decide) ?_
  refine Own.ldc2 W0 (tw hw 246 rfl) d24_38 41 rfl ?_
  refine Own.lloadN W0 d24_41 42 rfl (-100000000000000000 : Int64) rfl ?_
  refine Own.lmulV W0 (v := (-1000000000000000000 : Int64)) d24_42 43 rfl (by decide +kernel) ?_
  refine Own.lstoreN W0 d24_43 44 rfl #[.val (.long (-9223372036854775808)), .second, .val (.int 1), .val (.long (-1000000000000000000)), .second, .val (.int 17)] rfl ?_
  refine Own.iinc W0 d24_44 47 rfl rfl #[.val (.long (-9223372036854775808)), .second, .val (.int 1), .val (.long (-1000000000000000000)), .second, .val (.int 18)] rfl ?_
  refine Own.goto W0 d24_47 20 (by decide) (by decide) ?_
  refine Own.iload W0 d24_20 22 rfl 18 rfl ?_
  refine Own.bipush W0 d24_22 24 rfl 19 rfl ?_
  refine Own.icmpNo W0 d24_24 27 (by decide) rfl ?_
  refine Own.lloadN W0 d24_27 28 rfl (-9223372036854775808 : Int64) rfl ?_
  refine Own.lloadN W0 d24_28 29 rfl (-1000000000000000000 : Int64) rfl ?_
  refine Own.lcmpV W0 (v := (-1 : Int32)) d24_29 30 rfl (by decide +kernel) ?_
  refine Own.ifYes W0 d24_30 38 (by decide) (by decide) (by decide) ?_
  refine Own.ldc2 W0 (tw hw 246 rfl) d24_38 41 rfl ?_
  refine Own.lloadN W0 d24_41 42 rfl (-1000000000000000000 : Int64) rfl ?_
  refine Own.lmulV W0 (v := (8446744073709551616 : Int64)) d24_42 43 rfl (by decide +kernel) ?_
  refine Own.lstoreN W0 d24_43 44 rfl #[.val (.long (-9223372036854775808)), .second, .val (.int 1), .val (.long 8446744073709551616), .second, .val (.int 18)] rfl ?_
  refine Own.iinc W0 d24_44 47 rfl rfl #[.val (.long (-9223372036854775808)), .second, .val (.int 1), .val (.long 8446744073709551616), .second, .val (.int 19)] rfl ?_
  refine Own.goto W0 d24_47 20 (by decide) (by decide) ?_
  refine Own.iload W0 d24_20 22 rfl 19 rfl ?_
  refine Own.bipush W0 d24_22 24 rfl 19 rfl ?_
  refine Own.icmpYes W0 d24_24 50 (by decide) (by decide) (by decide) ?_
  refine Own.bipush W0 d24_50 52 rfl 19 rfl ?_
  refine Own.iloadN W0 d24_52 53 rfl 1 rfl ?_
  refine Own.iadd W0 d24_53 54 rfl ?_
  exact Own.retI W0 (by decide) (by decide) rfl d24_54 ⟨rfl, rfl⟩
set_option maxRecDepth 65536 in
set_option maxHeartbeats 40000000 in
theorem con_gc_min {G : Own.Gl} (hw : ∀ d ∈ tables_1, d.before G.a0 G.Z = true) (hEL : EW G.Z G.a0 G.EL) {dg1 : Addr} {kg1 : ClassId} (SDO : Sta G.Z G.Z.heap "java/lang/Integer" "DigitOnes" "[B" (.ref dg1)) (DG1 : Arv G.Z G.Z.heap dg1 kg1 .byte 100 (Own.digL Own.onesF) (.int 0)) {dg2 : Addr} {kg2 : ClassId} (SDT : Sta G.Z G.Z.heap "java/lang/Integer" "DigitTens" "[B" (.ref dg2)) (DG2 : Arv G.Z G.Z.heap dg2 kg2 .byte 100 (Own.digL Own.tensF) (.int 0)) {cap p : Nat} (hEN : Own.EN G.Z G.a0 G.EL cap) (hc : cap ≤ 4000) (hp : p + 20 ≤ cap) {b : Addr} (hn_b : G.n0 ≤ b) {kb : ClassId} {vs : List Value} {h : Heap} (hO : Old G.Z G.n0 h) (A : Arv G.Z h b kb .byte (Int32.ofNat cap) vs (.int 0)) (hl : vs.length = cap) {x : Int64} {ix : Int32} (hx : x = (-9223372036854775808 : Int64)) (hix : ix = Int32.ofNat (p + 20)) :
    Own.Con G [] bGc #[.long x, .int ix, .ref b] h [] (fun v h' => (∃ r : Int32, v = some (.int r)) ∧ Keep h h' [b] ∧ Arv G.Z h' b kb .byte (Int32.ofNat cap) (Own.mid vs p [45, 57, 50, 50, 51, 51, 55, 50, 48, 51, 54, 56, 53, 52, 55, 55, 53, 56, 48, 56]) (.int 0)) := by
  refine Own.Con.intro (plainFor_of_name pn_1) hO hEL _ (fun m => ef_bGc m x ix b) ?_
  intro X T0 W0 sf
  subst hx; subst hix
  have V0 : Arv G.Z h b kb .byte (Int32.ofNat cap) (Own.mid vs (p + 20) []) (.int 0) := by rw [Own.mid_nil]; exact A
  refine Own.iloadN W0 d26_0 1 rfl (Int32.ofNat (p + 20)) rfl ?_
  refine Own.istore W0 d26_1 3 rfl #[.val (.long (-9223372036854775808)), .second, .val (.int (Int32.ofNat (p + 20))), .val (.ref b), .unset, .unset, .unset, .val (.int (Int32.ofNat (p + 20))), .unset, .unset, .unset] rfl ?_
  refine Own.lloadN W0 d26_3 4 rfl (-9223372036854775808 : Int64) rfl ?_
  refine Own.lconst W0 d26_4 5 rfl (0 : Int64) rfl ?_
  refine Own.lcmpV W0 (v := (-1 : Int32)) d26_5 6 rfl (by decide +kernel) ?_
  refine Own.ifNo W0 d26_6 9 (by decide) rfl ?_
  refine Own.iconst W0 d26_9 10 rfl 1 rfl ?_
  refine Own.goto W0 d26_10 14 (by decide) (by decide) ?_
  refine Own.istore W0 d26_14 16 rfl #[.val (.long (-9223372036854775808)), .second, .val (.int (Int32.ofNat (p + 20))), .val (.ref b), .unset, .unset, .unset, .val (.int (Int32.ofNat (p + 20))), .val (.int 1), .unset, .unset] rfl ?_
  refine Own.iload W0 d26_16 18 rfl 1 rfl ?_
  refine Own.ifYes W0 d26_18 24 (by decide) (by decide) (by decide) ?_
  refine Own.lloadN W0 d26_24 25 rfl (-9223372036854775808 : Int64) rfl ?_
  refine Own.ldc2 W0 (tw hw 161 rfl) d26_25 28 rfl ?_
  refine Own.lcmpV W0 (v := (-1 : Int32)) d26_28 29 rfl (by decide +kernel) ?_
  refine Own.ifNo W0 d26_29 32 (by decide) rfl ?_
  refine Own.lloadN W0 d26_32 33 rfl (-9223372036854775808 : Int64) rfl ?_
  refine Own.ldc2 W0 (tw hw 247 rfl) d26_33 36 rfl ?_
  refine Own.ldivV W0 (v := (-92233720368547758 : Int64)) d26_36 37 rfl (by decide) (by decide +kernel) ?_
  refine Own.lstore W0 d26_37 39 rfl #[.val (.long (-9223372036854775808)), .second, .val (.int (Int32.ofNat (p + 20))), .val (.ref b), .val (.long (-92233720368547758)), .second, .unset, .val (.int (Int32.ofNat (p + 20))), .val (.int 1), .unset, .unset] rfl ?_
  refine Own.lload W0 d26_39 41 rfl (-92233720368547758 : Int64) rfl ?_
  refine Own.ldc2 W0 (tw hw 247 rfl) d26_41 44 rfl ?_
  refine Own.lmulV W0 (v := (-9223372036854775800 : Int64)) d26_44 45 rfl (by decide +kernel) ?_
  refine Own.lloadN W0 d26_45 46 rfl (-9223372036854775808 : Int64) rfl ?_
  refine Own.lsubV W0 (v := (8 : Int64)) d26_46 47 rfl (by decide +kernel) ?_
  refine Own.l2iV W0 (v := (8 : Int32)) d26_47 48 rfl (by decide +kernel) ?_
  refine Own.istore W0 d26_48 50 rfl #[.val (.long (-9223372036854775808)), .second, .val (.int (Int32.ofNat (p + 20))), .val (.ref b), .val (.long (-92233720368547758)), .second, .val (.int 8), .val (.int (Int32.ofNat (p + 20))), .val (.int 1), .unset, .unset] rfl ?_
  refine Own.lload W0 d26_50 52 rfl (-92233720368547758 : Int64) rfl ?_
  refine Own.lstoreN W0 d26_52 53 rfl #[.val (.long (-92233720368547758)), .second, .val (.int (Int32.ofNat (p + 20))), .val (.ref b), .val (.long (-92233720368547758)), .second, .val (.int 8), .val (.int (Int32.ofNat (p + 20))), .val (.int 1), .unset, .unset] rfl ?_
  refine Own.aloadN W0 d26_53 54 rfl (.ref b) rfl rfl ?_
  refine Own.iincD W0 (n := p + 19) d26_54 57 rfl rfl #[.val (.long (-92233720368547758)), .second, .val (.int (Int32.ofNat (p + 20))), .val (.ref b), .val (.long (-92233720368547758)), .second, .val (.int 8), .val (.int (Int32.ofNat (p + 19))), .val (.int 1), .unset, .unset] rfl ?_
  refine Own.iload W0 d26_57 59 rfl (Int32.ofNat (p + 19)) rfl ?_
  refine Own.getS W0 (tw hw 162 rfl) Via.refl (W0.sta SDO) d26_59 62 rfl ?_
  intro T1 W1
  refine Own.iload W1 d26_62 64 rfl 8 rfl ?_
  refine Own.digLoad W1 DG1 (v := (56 : Int32)) ⟨by decide, by decide⟩ (Own.ones_v ⟨by decide, by decide⟩ (by decide)) d26_64 65 rfl ?_
  refine Own.bst W1 (q := p + 19) (cs := []) V0 hl (by show p + 19 + 1 + 0 ≤ cap; omega) hc hEN hn_b d26_65 66 rfl ?_
  intro T2 h2 W2 Q2 V2 k2
  refine Own.aloadN W2 d26_66 67 rfl (.ref b) rfl rfl ?_
  refine Own.iincD W2 (n := p + 18) d26_67 70 rfl rfl #[.val (.long (-92233720368547758)), .second, .val (.int (Int32.ofNat (p + 20))), .val (.ref b), .val (.long (-92233720368547758)), .second, .val (.int 8), .val (.int (Int32.ofNat (p + 18))), .val (.int 1), .unset, .unset] rfl ?_
  refine Own.iload W2 d26_70 72 rfl (Int32.ofNat (p + 18)) rfl ?_
  refine Own.getS W2 (tw hw 248 rfl) Via.refl (W2.sta SDT) d26_72 75 rfl ?_
  intro T3 W3
  refine Own.iload W3 d26_75 77 rfl 8 rfl ?_
  refine Own.digLoad W3 DG2 (v := (48 : Int32)) ⟨by decide, by decide⟩ (Own.tens_v ⟨by decide, by decide⟩ (by decide)) d26_77 78 rfl ?_
  refine Own.bst W3 (q := p + 18) (cs := [56]) V2 hl (by show p + 18 + 1 + 1 ≤ cap; omega) hc hEN hn_b d26_78 79 rfl ?_
  intro T4 h4 W4 Q4 V4 k4
  refine Own.goto W4 d26_79 24 (by decide) (by decide) ?_
  refine Own.lloadN W4 d26_24 25 rfl (-92233720368547758 : Int64) rfl ?_
  refine Own.ldc2 W4 (tw hw 161 rfl) d26_25 28 rfl ?_
  refine Own.lcmpV W4 (v := (-1 : Int32)) d26_28 29 rfl (by decide +kernel) ?_
  refine Own.ifNo W4 d26_29 32 (by decide) rfl ?_
  refine Own.lloadN W4 d26_32 33 rfl (-92233720368547758 : Int64) rfl ?_
  refine Own.ldc2 W4 (tw hw 247 rfl) d26_33 36 rfl ?_
  refine Own.ldivV W4 (v := (-922337203685477 : Int64)) d26_36 37 rfl (by decide) (by decide +kernel) ?_
  refine Own.lstore W4 d26_37 39 rfl #[.val (.long (-92233720368547758)), .second, .val (.int (Int32.ofNat (p + 20))), .val (.ref b), .val (.long (-922337203685477)), .second, .val (.int 8), .val (.int (Int32.ofNat (p + 18))), .val (.int 1), .unset, .unset] rfl ?_
  refine Own.lload W4 d26_39 41 rfl (-922337203685477 : Int64) rfl ?_
  refine Own.ldc2 W4 (tw hw 247 rfl) d26_41 44 rfl ?_
  refine Own.lmulV W4 (v := (-92233720368547700 : Int64)) d26_44 45 rfl (by decide +kernel) ?_
  refine Own.lloadN W4 d26_45 46 rfl (-92233720368547758 : Int64) rfl ?_
  refine Own.lsubV W4 (v := (58 : Int64)) d26_46 47 rfl (by decide +kernel) ?_
  refine Own.l2iV W4 (v := (58 : Int32)) d26_47 48 rfl (by decide +kernel) ?_
  refine Own.istore W4 d26_48 50 rfl #[.val (.long (-92233720368547758)), .second, .val (.int (Int32.ofNat (p + 20))), .val (.ref b), .val (.long (-922337203685477)), .second, .val (.int 58), .val (.int (Int32.ofNat (p + 18))), .val (.int 1), .unset, .unset] rfl ?_
  refine Own.lload W4 d26_50 52 rfl (-922337203685477 : Int64) rfl ?_
  refine Own.lstoreN W4 d26_52 53 rfl #[.val (.long (-922337203685477)), .second, .val (.int (Int32.ofNat (p + 20))), .val (.ref b), .val (.long (-922337203685477)), .second, .val (.int 58), .val (.int (Int32.ofNat (p + 18))), .val (.int 1), .unset, .unset] rfl ?_
  refine Own.aloadN W4 d26_53 54 rfl (.ref b) rfl rfl ?_
  refine Own.iincD W4 (n := p + 17) d26_54 57 rfl rfl #[.val (.long (-922337203685477)), .second, .val (.int (Int32.ofNat (p + 20))), .val (.ref b), .val (.long (-922337203685477)), .second, .val (.int 58), .val (.int (Int32.ofNat (p + 17))), .val (.int 1), .unset, .unset] rfl ?_
  refine Own.iload W4 d26_57 59 rfl (Int32.ofNat (p + 17)) rfl ?_
  refine Own.getS W4 (tw hw 162 rfl) Via.refl (W4.sta SDO) d26_59 62 rfl ?_
  intro T5 W5
  refine Own.iload W5 d26_62 64 rfl 58 rfl ?_
  refine Own.digLoad W5 DG1 (v := (56 : Int32)) ⟨by decide, by decide⟩ (Own.ones_v ⟨by decide, by decide⟩ (by decide)) d26_64 65 rfl ?_
  refine Own.bst W5 (q := p + 17) (cs := [48, 56]) V4 hl (by show p + 17 + 1 + 2 ≤ cap; omega) hc hEN hn_b d26_65 66 rfl ?_
  intro T6 h6 W6 Q6 V6 k6
  refine Own.aloadN W6 d26_66 67 rfl (.ref b) rfl rfl ?_
  refine Own.iincD W6 (n := p + 16) d26_67 70 rfl rfl #[.val (.long (-922337203685477)), .second, .val (.int (Int32.ofNat (p + 20))), .val (.ref b), .val (.long (-922337203685477)), .second, .val (.int 58), .val (.int (Int32.ofNat (p + 16))), .val (.int 1), .unset, .unset] rfl ?_
  refine Own.iload W6 d26_70 72 rfl (Int32.ofNat (p + 16)) rfl ?_
  refine Own.getS W6 (tw hw 248 rfl) Via.refl (W6.sta SDT) d26_72 75 rfl ?_
  intro T7 W7
  refine Own.iload W7 d26_75 77 rfl 58 rfl ?_
  refine Own.digLoad W7 DG2 (v := (53 : Int32)) ⟨by decide, by decide⟩ (Own.tens_v ⟨by decide, by decide⟩ (by decide)) d26_77 78 rfl ?_
  refine Own.bst W7 (q := p + 16) (cs := [56, 48, 56]) V6 hl (by show p + 16 + 1 + 3 ≤ cap; omega) hc hEN hn_b d26_78 79 rfl ?_
  intro T8 h8 W8 Q8 V8 k8
  refine Own.goto W8 d26_79 24 (by decide) (by decide) ?_
  refine Own.lloadN W8 d26_24 25 rfl (-922337203685477 : Int64) rfl ?_
  refine Own.ldc2 W8 (tw hw 161 rfl) d26_25 28 rfl ?_
  refine Own.lcmpV W8 (v := (-1 : Int32)) d26_28 29 rfl (by decide +kernel) ?_
  refine Own.ifNo W8 d26_29 32 (by decide) rfl ?_
  refine Own.lloadN W8 d26_32 33 rfl (-922337203685477 : Int64) rfl ?_
  refine Own.ldc2 W8 (tw hw 247 rfl) d26_33 36 rfl ?_
  refine Own.ldivV W8 (v := (-9223372036854 : Int64)) d26_36 37 rfl (by decide) (by decide +kernel) ?_
  refine Own.lstore W8 d26_37 39 rfl #[.val (.long (-922337203685477)), .second, .val (.int (Int32.ofNat (p + 20))), .val (.ref b), .val (.long (-9223372036854)), .second, .val (.int 58), .val (.int (Int32.ofNat (p + 16))), .val (.int 1), .unset, .unset] rfl ?_
  refine Own.lload W8 d26_39 41 rfl (-9223372036854 : Int64) rfl ?_
  refine Own.ldc2 W8 (tw hw 247 rfl) d26_41 44 rfl ?_
  refine Own.lmulV W8 (v := (-922337203685400 : Int64)) d26_44 45 rfl (by decide +kernel) ?_
  refine Own.lloadN W8 d26_45 46 rfl (-922337203685477 : Int64) rfl ?_
  refine Own.lsubV W8 (v := (77 : Int64)) d26_46 47 rfl (by decide +kernel) ?_
  refine Own.l2iV W8 (v := (77 : Int32)) d26_47 48 rfl (by decide +kernel) ?_
  refine Own.istore W8 d26_48 50 rfl #[.val (.long (-922337203685477)), .second, .val (.int (Int32.ofNat (p + 20))), .val (.ref b), .val (.long (-9223372036854)), .second, .val (.int 77), .val (.int (Int32.ofNat (p + 16))), .val (.int 1), .unset, .unset] rfl ?_
  refine Own.lload W8 d26_50 52 rfl (-9223372036854 : Int64) rfl ?_
  refine Own.lstoreN W8 d26_52 53 rfl #[.val (.long (-9223372036854)), .second, .val (.int (Int32.ofNat (p + 20))), .val (.ref b), .val (.long (-9223372036854)), .second, .val (.int 77), .val (.int (Int32.ofNat (p + 16))), .val (.int 1), .unset, .unset] rfl ?_
  refine Own.aloadN W8 d26_53 54 rfl (.ref b) rfl rfl ?_
  refine Own.iincD W8 (n := p + 15) d26_54 57 rfl rfl #[.val (.long (-9223372036854)), .second, .val (.int (Int32.ofNat (p + 20))), .val (.ref b), .val (.long (-9223372036854)), .second, .val (.int 77), .val (.int (Int32.ofNat (p + 15))), .val (.int 1), .unset, .unset] rfl ?_
  refine Own.iload W8 d26_57 59 rfl (Int32.ofNat (p + 15)) rfl ?_
  refine Own.getS W8 (tw hw 162 rfl) Via.refl (W8.sta SDO) d26_59 62 rfl ?_
  intro T9 W9
  refine Own.iload W9 d26_62 64 rfl 77 rfl ?_
  refine Own.digLoad W9 DG1 (v := (55 : Int32)) ⟨by decide, by decide⟩ (Own.ones_v ⟨by decide, by decide⟩ (by decide)) d26_64 65 rfl ?_
  refine Own.bst W9 (q := p + 15) (cs := [53, 56, 48, 56]) V8 hl (by show p + 15 + 1 + 4 ≤ cap; omega) hc hEN hn_b d26_65 66 rfl ?_
  intro T10 h10 W10 Q10 V10 k10
  refine Own.aloadN W10 d26_66 67 rfl (.ref b) rfl rfl ?_
  refine Own.iincD W10 (n := p + 14) d26_67 70 rfl rfl #[.val (.long (-9223372036854)), .second, .val (.int (Int32.ofNat (p + 20))), .val (.ref b), .val (.long (-9223372036854)), .second, .val (.int 77), .val (.int (Int32.ofNat (p + 14))), .val (.int 1), .unset, .unset] rfl ?_
  refine Own.iload W10 d26_70 72 rfl (Int32.ofNat (p + 14)) rfl ?_
  refine Own.getS W10 (tw hw 248 rfl) Via.refl (W10.sta SDT) d26_72 75 rfl ?_
  intro T11 W11
  refine Own.iload W11 d26_75 77 rfl 77 rfl ?_
  refine Own.digLoad W11 DG2 (v := (55 : Int32)) ⟨by decide, by decide⟩ (Own.tens_v ⟨by decide, by decide⟩ (by decide)) d26_77 78 rfl ?_
  refine Own.bst W11 (q := p + 14) (cs := [55, 53, 56, 48, 56]) V10 hl (by show p + 14 + 1 + 5 ≤ cap; omega) hc hEN hn_b d26_78 79 rfl ?_
  intro T12 h12 W12 Q12 V12 k12
  refine Own.goto W12 d26_79 24 (by decide) (by decide) ?_
  refine Own.lloadN W12 d26_24 25 rfl (-9223372036854 : Int64) rfl ?_
  refine Own.ldc2 W12 (tw hw 161 rfl) d26_25 28 rfl ?_
  refine Own.lcmpV W12 (v := (-1 : Int32)) d26_28 29 rfl (by decide +kernel) ?_
  refine Own.ifNo W12 d26_29 32 (by decide) rfl ?_
  refine Own.lloadN W12 d26_32 33 rfl (-9223372036854 : Int64) rfl ?_
  refine Own.ldc2 W12 (tw hw 247 rfl) d26_33 36 rfl ?_
  refine Own.ldivV W12 (v := (-92233720368 : Int64)) d26_36 37 rfl (by decide) (by decide +kernel) ?_
  refine Own.lstore W12 d26_37 39 rfl #[.val (.long (-9223372036854)), .second, .val (.int (Int32.ofNat (p + 20))), .val (.ref b), .val (.long (-92233720368)), .second, .val (.int 77), .val (.int (Int32.ofNat (p + 14))), .val (.int 1), .unset, .unset] rfl ?_
  refine Own.lload W12 d26_39 41 rfl (-92233720368 : Int64) rfl ?_
  refine Own.ldc2 W12 (tw hw 247 rfl) d26_41 44 rfl ?_
  refine Own.lmulV W12 (v := (-9223372036800 : Int64)) d26_44 45 rfl (by decide +kernel) ?_
  refine Own.lloadN W12 d26_45 46 rfl (-9223372036854 : Int64) rfl ?_
  refine Own.lsubV W12 (v := (54 : Int64)) d26_46 47 rfl (by decide +kernel) ?_
  refine Own.l2iV W12 (v := (54 : Int32)) d26_47 48 rfl (by decide +kernel) ?_
  refine Own.istore W12 d26_48 50 rfl #[.val (.long (-9223372036854)), .second, .val (.int (Int32.ofNat (p + 20))), .val (.ref b), .val (.long (-92233720368)), .second, .val (.int 54), .val (.int (Int32.ofNat (p + 14))), .val (.int 1), .unset, .unset] rfl ?_
  refine Own.lload W12 d26_50 52 rfl (-92233720368 : Int64) rfl ?_
  refine Own.lstoreN W12 d26_52 53 rfl #[.val (.long (-92233720368)), .second, .val (.int (Int32.ofNat (p + 20))), .val (.ref b), .val (.long (-92233720368)), .second, .val (.int 54), .val (.int (Int32.ofNat (p + 14))), .val (.int 1), .unset, .unset] rfl ?_
  refine Own.aloadN W12 d26_53 54 rfl (.ref b) rfl rfl ?_
  refine Own.iincD W12 (n := p + 13) d26_54 57 rfl rfl #[.val (.long (-92233720368)), .second, .val (.int (Int32.ofNat (p + 20))), .val (.ref b), .val (.long (-92233720368)), .second, .val (.int 54), .val (.int (Int32.ofNat (p + 13))), .val (.int 1), .unset, .unset] rfl ?_
  refine Own.iload W12 d26_57 59 rfl (Int32.ofNat (p + 13)) rfl ?_
  refine Own.getS W12 (tw hw 162 rfl) Via.refl (W12.sta SDO) d26_59 62 rfl ?_
  intro T13 W13
  refine Own.iload W13 d26_62 64 rfl 54 rfl ?_
  refine Own.digLoad W13 DG1 (v := (52 : Int32)) ⟨by decide, by decide⟩ (Own.ones_v ⟨by decide, by decide⟩ (by decide)) d26_64 65 rfl ?_
  refine Own.bst W13 (q := p + 13) (cs := [55, 55, 53, 56, 48, 56]) V12 hl (by show p + 13 + 1 + 6 ≤ cap; omega) hc hEN hn_b d26_65 66 rfl ?_
  intro T14 h14 W14 Q14 V14 k14
  refine Own.aloadN W14 d26_66 67 rfl (.ref b) rfl rfl ?_
  refine Own.iincD W14 (n := p + 12) d26_67 70 rfl rfl #[.val (.long (-92233720368)), .second, .val (.int (Int32.ofNat (p + 20))), .val (.ref b), .val (.long (-92233720368)), .second, .val (.int 54), .val (.int (Int32.ofNat (p + 12))), .val (.int 1), .unset, .unset] rfl ?_
  refine Own.iload W14 d26_70 72 rfl (Int32.ofNat (p + 12)) rfl ?_
  refine Own.getS W14 (tw hw 248 rfl) Via.refl (W14.sta SDT) d26_72 75 rfl ?_
  intro T15 W15
  refine Own.iload W15 d26_75 77 rfl 54 rfl ?_
  refine Own.digLoad W15 DG2 (v := (53 : Int32)) ⟨by decide, by decide⟩ (Own.tens_v ⟨by decide, by decide⟩ (by decide)) d26_77 78 rfl ?_
  refine Own.bst W15 (q := p + 12) (cs := [52, 55, 55, 53, 56, 48, 56]) V14 hl (by show p + 12 + 1 + 7 ≤ cap; omega) hc hEN hn_b d26_78 79 rfl ?_
  intro T16 h16 W16 Q16 V16 k16
  refine Own.goto W16 d26_79 24 (by decide) (by decide) ?_
  refine Own.lloadN W16 d26_24 25 rfl (-92233720368 : Int64) rfl ?_
  refine Own.ldc2 W16 (tw hw 161 rfl) d26_25 28 rfl ?_
  refine Own.lcmpV W16 (v := (-1 : Int32)) d26_28 29 rfl (by decide +kernel) ?_
  refine Own.ifNo W16 d26_29 32 (by decide) rfl ?_
  refine Own.lloadN W16 d26_32 33 rfl (-92233720368 : Int64) rfl ?_
  refine Own.ldc2 W16 (tw hw 247 rfl) d26_33 36 rfl ?_
  refine Own.ldivV W16 (v := (-922337203 : Int64)) d26_36 37 rfl (by decide) (by decide +kernel) ?_
  refine Own.lstore W16 d26_37 39 rfl #[.val (.long (-92233720368)), .second, .val (.int (Int32.ofNat (p + 20))), .val (.ref b), .val (.long (-922337203)), .second, .val (.int 54), .val (.int (Int32.ofNat (p + 12))), .val (.int 1), .unset, .unset] rfl ?_
  refine Own.lload W16 d26_39 41 rfl (-922337203 : Int64) rfl ?_
  refine Own.ldc2 W16 (tw hw 247 rfl) d26_41 44 rfl ?_
  refine Own.lmulV W16 (v := (-92233720300 : Int64)) d26_44 45 rfl (by decide +kernel) ?_
  refine Own.lloadN W16 d26_45 46 rfl (-92233720368 : Int64) rfl ?_
  refine Own.lsubV W16 (v := (68 : Int64)) d26_46 47 rfl (by decide +kernel) ?_
  refine Own.l2iV W16 (v := (68 : Int32)) d26_47 48 rfl (by decide +kernel) ?_
  refine Own.istore W16 d26_48 50 rfl #[.val (.long (-92233720368)), .second, .val (.int (Int32.ofNat (p + 20))), .val (.ref b), .val (.long (-922337203)), .second, .val (.int 68), .val (.int (Int32.ofNat (p + 12))), .val (.int 1), .unset, .unset] rfl ?_
  refine Own.lload W16 d26_50 52 rfl (-922337203 : Int64) rfl ?_
  refine Own.lstoreN W16 d26_52 53 rfl #[.val (.long (-922337203)), .second, .val (.int (Int32.ofNat (p + 20))), .val (.ref b), .val (.long (-922337203)), .second, .val (.int 68), .val (.int (Int32.ofNat (p + 12))), .val (.int 1), .unset, .unset] rfl ?_
  refine Own.aloadN W16 d26_53 54 rfl (.ref b) rfl rfl ?_
  refine Own.iincD W16 (n := p + 11) d26_54 57 rfl rfl #[.val (.long (-922337203)), .second, .val (.int (Int32.ofNat (p + 20))), .val (.ref b), .val (.long (-922337203)), .second, .val (.int 68), .val (.int (Int32.ofNat (p + 11))), .val (.int 1), .unset, .unset] rfl ?_
  refine Own.iload W16 d26_57 59 rfl (Int32.ofNat (p + 11)) rfl ?_
  refine Own.getS W16 (tw hw 162 rfl) Via.refl (W16.sta SDO) d26_59 62 rfl ?_
  intro T17 W17
  refine Own.iload W17 d26_62 64 rfl 68 rfl ?_
  refine Own.digLoad W17 DG1 (v := (56 : Int32)) ⟨by decide, by decide⟩ (Own.ones_v ⟨by decide, by decide⟩ (by decide)) d26_64 65 rfl ?_
  refine Own.bst W17 (q := p + 11) (cs := [53, 52, 55, 55, 53, 56, 48, 56]) V16 hl (by show p + 11 + 1 + 8 ≤ cap; omega) hc hEN hn_b d26_65 66 rfl ?_
  intro T18 h18 W18 Q18 V18 k18
  refine Own.aloadN W18 d26_66 67 rfl (.ref b) rfl rfl ?_
  refine Own.iincD W18 (n := p + 10) d26_67 70 rfl rfl #[.val (.long (-922337203)), .second, .val (.int (Int32.ofNat (p + 20))), .val (.ref b), .val (.long (-922337203)), .second, .val (.int 68), .val (.int (Int32.ofNat (p + 10))), .val (.int 1), .unset, .unset] rfl ?_
  refine Own.iload W18 d26_70 72 rfl (Int32.ofNat (p + 10)) rfl ?_
  refine Own.getS W18 (tw hw 248 rfl) Via.refl (W18.sta SDT) d26_72 75 rfl ?_
  intro T19 W19
  refine Own.iload W19 d26_75 77 rfl 68 rfl ?_
  refine Own.digLoad W19 DG2 (v := (54 : Int32)) ⟨by decide, by decide⟩ (Own.tens_v ⟨by decide, by decide⟩ (by decide)) d26_77 78 rfl ?_
  refine Own.bst W19 (q := p + 10) (cs := [56, 53, 52, 55, 55, 53, 56, 48, 56]) V18 hl (by show p + 10 + 1 + 9 ≤ cap; omega) hc hEN hn_b d26_78 79 rfl ?_
  intro T20 h20 W20 Q20 V20 k20
  refine Own.goto W20 d26_79 24 (by decide) (by decide) ?_
  refine Own.lloadN W20 d26_24 25 rfl (-922337203 : Int64) rfl ?_
  refine Own.ldc2 W20 (tw hw 161 rfl) d26_25 28 rfl ?_
  refine Own.lcmpV W20 (v := (1 : Int32)) d26_28 29 rfl (by decide +kernel) ?_
  refine Own.ifYes W20 d26_29 82 (by decide) (by decide) (by decide) ?_
  refine Own.lloadN W20 d26_82 83 rfl (-922337203 : Int64) rfl ?_
  refine Own.l2iV W20 (v := (-922337203 : Int32)) d26_83 84 rfl (by decide +kernel) ?_
  refine Own.istore W20 d26_84 86 rfl #[.val (.long (-922337203)), .second, .val (.int (Int32.ofNat (p + 20))), .val (.ref b), .val (.long (-922337203)), .second, .val (.int 68), .val (.int (Int32.ofNat (p + 10))), .val (.int 1), .unset, .val (.int (-922337203))] rfl ?_
  refine Own.iload W20 d26_86 88 rfl (-922337203 : Int32) rfl ?_
  refine Own.bipush W20 d26_88 90 rfl (-100 : Int32) rfl ?_
  refine Own.icmpNo W20 d26_90 93 (by decide) rfl ?_
  refine Own.iload W20 d26_93 95 rfl (-922337203 : Int32) rfl ?_
  refine Own.bipush W20 d26_95 97 rfl 100 rfl ?_
  refine Own.idivV W20 (v := (-9223372 : Int32)) d26_97 98 rfl (by decide) (by decide +kernel) ?_
  refine Own.istore W20 d26_98 100 rfl #[.val (.long (-922337203)), .second, .val (.int (Int32.ofNat (p + 20))), .val (.ref b), .val (.long (-922337203)), .second, .val (.int 68), .val (.int (Int32.ofNat (p + 10))), .val (.int 1), .val (.int (-9223372)), .val (.int (-922337203))] rfl ?_
  refine Own.iload W20 d26_100 102 rfl (-9223372 : Int32) rfl ?_
  refine Own.bipush W20 d26_102 104 rfl 100 rfl ?_
  refine Own.imulV W20 (v := (-922337200 : Int32)) d26_104 105 rfl (by decide +kernel) ?_
  refine Own.iload W20 d26_105 107 rfl (-922337203 : Int32) rfl ?_
  refine Own.isubV W20 (v := (3 : Int32)) d26_107 108 rfl (by decide +kernel) ?_
  refine Own.istore W20 d26_108 110 rfl #[.val (.long (-922337203)), .second, .val (.int (Int32.ofNat (p + 20))), .val (.ref b), .val (.long (-922337203)), .second, .val (.int 3), .val (.int (Int32.ofNat (p + 10))), .val (.int 1), .val (.int (-9223372)), .val (.int (-922337203))] rfl ?_
  refine Own.iload W20 d26_110 112 rfl (-9223372 : Int32) rfl ?_
  refine Own.istore W20 d26_112 114 rfl #[.val (.long (-922337203)), .second, .val (.int (Int32.ofNat (p + 20))), .val (.ref b), .val (.long (-922337203)), .second, .val (.int 3), .val (.int (Int32.ofNat (p + 10))), .val (.int 1), .val (.int (-9223372)), .val (.int (-9223372))] rfl ?_
  refine Own.aloadN W20 d26_114 115 rfl (.ref b) rfl rfl ?_
  refine Own.iincD W20 (n := p + 9) d26_115 118 rfl rfl #[.val (.long (-922337203)), .second, .val (.int (Int32.ofNat (p + 20))), .val (.ref b), .val (.long (-922337203)), .second, .val (.int 3), .val (.int (Int32.ofNat (p + 9))), .val (.int 1), .val (.int (-9223372)), .val (.int (-9223372))] rfl ?_
  refine Own.iload W20 d26_118 120 rfl (Int32.ofNat (p + 9)) rfl ?_
  refine Own.getS W20 (tw hw 162 rfl) Via.refl (W20.sta SDO) d26_120 123 rfl ?_
  intro T21 W21
  refine Own.iload W21 d26_123 125 rfl 3 rfl ?_
  refine Own.digLoad W21 DG1 (v := (51 : Int32)) ⟨by decide, by decide⟩ (Own.ones_v ⟨by decide, by decide⟩ (by decide)) d26_125 126 rfl ?_
  refine Own.bst W21 (q := p + 9) (cs := [54, 56, 53, 52, 55, 55, 53, 56, 48, 56]) V20 hl (by show p + 9 + 1 + 10 ≤ cap; omega) hc hEN hn_b d26_126 127 rfl ?_
  intro T22 h22 W22 Q22 V22 k22
  refine Own.aloadN W22 d26_127 128 rfl (.ref b) rfl rfl ?_
  refine Own.iincD W22 (n := p + 8) d26_128 131 rfl rfl #[.val (.long (-922337203)), .second, .val (.int (Int32.ofNat (p + 20))), .val (.ref b), .val (.long (-922337203)), .second, .val (.int 3), .val (.int (Int32.ofNat (p + 8))), .val (.int 1), .val (.int (-9223372)), .val (.int (-9223372))] rfl ?_
  refine Own.iload W22 d26_131 133 rfl (Int32.ofNat (p + 8)) rfl ?_
  refine Own.getS W22 (tw hw 248 rfl) Via.refl (W22.sta SDT) d26_133 136 rfl ?_
  intro T23 W23
  refine Own.iload W23 d26_136 138 rfl 3 rfl ?_
  refine Own.digLoad W23 DG2 (v := (48 : Int32)) ⟨by decide, by decide⟩ (Own.tens_v ⟨by decide, by decide⟩ (by decide)) d26_138 139 rfl ?_
  refine Own.bst W23 (q := p + 8) (cs := [51, 54, 56, 53, 52, 55, 55, 53, 56, 48, 56]) V22 hl (by show p + 8 + 1 + 11 ≤ cap; omega) hc hEN hn_b d26_139 140 rfl ?_
  intro T24 h24 W24 Q24 V24 k24
  refine Own.goto W24 d26_140 86 (by decide) (by decide) ?_
  refine Own.iload W24 d26_86 88 rfl (-9223372 : Int32) rfl ?_
  refine Own.bipush W24 d26_88 90 rfl (-100 : Int32) rfl ?_
  refine Own.icmpNo W24 d26_90 93 (by decide) rfl ?_
  refine Own.iload W24 d26_93 95 rfl (-9223372 : Int32) rfl ?_
  refine Own.bipush W24 d26_95 97 rfl 100 rfl ?_
  refine Own.idivV W24 (v := (-92233 : Int32)) d26_97 98 rfl (by decide) (by decide +kernel) ?_
  refine Own.istore W24 d26_98 100 rfl #[.val (.long (-922337203)), .second, .val (.int (Int32.ofNat (p + 20))), .val (.ref b), .val (.long (-922337203)), .second, .val (.int 3), .val (.int (Int32.ofNat (p + 8))), .val (.int 1), .val (.int (-92233)), .val (.int (-9223372))] rfl ?_
  refine Own.iload W24 d26_100 102 rfl (-92233 : Int32) rfl ?_
  refine Own.bipush W24 d26_102 104 rfl 100 rfl ?_
  refine Own.imulV W24 (v := (-9223300 : Int32)) d26_104 105 rfl (by decide +kernel) ?_
  refine Own.iload W24 d26_105 107 rfl (-9223372 : Int32) rfl ?_
  refine Own.isubV W24 (v := (72 : Int32)) d26_107 108 rfl (by decide +kernel) ?_
  refine Own.istore W24 d26_108 110 rfl #[.val (.long (-922337203)), .second, .val (.int (Int32.ofNat (p + 20))), .val (.ref b), .val (.long (-922337203)), .second, .val (.int 72), .val (.int (Int32.ofNat (p + 8))), .val (.int 1), .val (.int (-92233)), .val (.int (-9223372))] rfl ?_
  refine Own.iload W24 d26_110 112 rfl (-92233 : Int32) rfl ?_
  refine Own.istore W24 d26_112 114 rfl #[.val (.long (-922337203)), .second, .val (.int (Int32.ofNat (p + 20))), .val (.ref b), .val (.long (-922337203)), .second, .val (.int 72), .val (.int (Int32.ofNat (p + 8))), .val (.int 1), .val (.int (-92233)), .val (.int (-92233))] rfl ?_
  refine Own.aloadN W24 d26_114 115 rfl (.ref b) rfl rfl ?_
  refine Own.iincD W24 (n := p + 7) d26_115 118 rfl rfl #[.val (.long (-922337203)), .second, .val (.int (Int32.ofNat (p + 20))), .val (.ref b), .val (.long (-922337203)), .second, .val (.int 72), .val (.int (Int32.ofNat (p + 7))), .val (.int 1), .val (.int (-92233)), .val (.int (-92233))] rfl ?_
  refine Own.iload W24 d26_118 120 rfl (Int32.ofNat (p + 7)) rfl ?_
  refine Own.getS W24 (tw hw 162 rfl) Via.refl (W24.sta SDO) d26_120 123 rfl ?_
  intro T25 W25
  refine Own.iload W25 d26_123 125 rfl 72 rfl ?_
  refine Own.digLoad W25 DG1 (v := (50 : Int32)) ⟨by decide, by decide⟩ (Own.ones_v ⟨by decide, by decide⟩ (by decide)) d26_125 126 rfl ?_
  refine Own.bst W25 (q := p + 7) (cs := [48, 51, 54, 56, 53, 52, 55, 55, 53, 56, 48, 56]) V24 hl (by show p + 7 + 1 + 12 ≤ cap; omega) hc hEN hn_b d26_126 127 rfl ?_
  intro T26 h26 W26 Q26 V26 k26
  refine Own.aloadN W26 d26_127 128 rfl (.ref b) rfl rfl ?_
  refine Own.iincD W26 (n := p + 6) d26_128 131 rfl rfl #[.val (.long (-922337203)), .second, .val (.int (Int32.ofNat (p + 20))), .val (.ref b), .val (.long (-922337203)), .second, .val (.int 72), .val (.int (Int32.ofNat (p + 6))), .val (.int 1), .val (.int (-92233)), .val (.int (-92233))] rfl ?_
  refine Own.iload W26 d26_131 133 rfl (Int32.ofNat (p + 6)) rfl ?_
  refine Own.getS W26 (tw hw 248 rfl) Via.refl (W26.sta SDT) d26_133 136 rfl ?_
  intro T27 W27
  refine Own.iload W27 d26_136 138 rfl 72 rfl ?_
  refine Own.digLoad W27 DG2 (v := (55 : Int32)) ⟨by decide, by decide⟩ (Own.tens_v ⟨by decide, by decide⟩ (by decide)) d26_138 139 rfl ?_
  refine Own.bst W27 (q := p + 6) (cs := [50, 48, 51, 54, 56, 53, 52, 55, 55, 53, 56, 48, 56]) V26 hl (by show p + 6 + 1 + 13 ≤ cap; omega) hc hEN hn_b d26_139 140 rfl ?_
  intro T28 h28 W28 Q28 V28 k28
  refine Own.goto W28 d26_140 86 (by decide) (by decide) ?_
  refine Own.iload W28 d26_86 88 rfl (-92233 : Int32) rfl ?_
  refine Own.bipush W28 d26_88 90 rfl (-100 : Int32) rfl ?_
  refine Own.icmpNo W28 d26_90 93 (by decide) rfl ?_
  refine Own.iload W28 d26_93 95 rfl (-92233 : Int32) rfl ?_
  refine Own.bipush W28 d26_95 97 rfl 100 rfl ?_
  refine Own.idivV W28 (v := (-922 : Int32)) d26_97 98 rfl (by decide) (by decide +kernel) ?_
  refine Own.istore W28 d26_98 100 rfl #[.val (.long (-922337203)), .second, .val (.int (Int32.ofNat (p + 20))), .val (.ref b), .val (.long (-922337203)), .second, .val (.int 72), .val (.int (Int32.ofNat (p + 6))), .val (.int 1), .val (.int (-922)), .val (.int (-92233))] rfl ?_
  refine Own.iload W28 d26_100 102 rfl (-922 : Int32) rfl ?_
  refine Own.bipush W28 d26_102 104 rfl 100 rfl ?_
  refine Own.imulV W28 (v := (-92200 : Int32)) d26_104 105 rfl (by decide +kernel) ?_
  refine Own.iload W28 d26_105 107 rfl (-92233 : Int32) rfl ?_
  refine Own.isubV W28 (v := (33 : Int32)) d26_107 108 rfl (by decide +kernel) ?_
  refine Own.istore W28 d26_108 110 rfl #[.val (.long (-922337203)), .second, .val (.int (Int32.ofNat (p + 20))), .val (.ref b), .val (.long (-922337203)), .second, .val (.int 33), .val (.int (Int32.ofNat (p + 6))), .val (.int 1), .val (.int (-922)), .val (.int (-92233))] rfl ?_
  refine Own.iload W28 d26_110 112 rfl (-922 : Int32) rfl ?_
  refine Own.istore W28 d26_112 114 rfl #[.val (.long (-922337203)), .second, .val (.int (Int32.ofNat (p + 20))), .val (.ref b), .val (.long (-922337203)), .second, .val (.int 33), .val (.int (Int32.ofNat (p + 6))), .val (.int 1), .val (.int (-922)), .val (.int (-922))] rfl ?_
  refine Own.aloadN W28 d26_114 115 rfl (.ref b) rfl rfl ?_
  refine Own.iincD W28 (n := p + 5) d26_115 118 rfl rfl #[.val (.long (-922337203)), .second, .val (.int (Int32.ofNat (p + 20))), .val (.ref b), .val (.long (-922337203)), .second, .val (.int 33), .val (.int (Int32.ofNat (p + 5))), .val (.int 1), .val (.int (-922)), .val (.int (-922))] rfl ?_
  refine Own.iload W28 d26_118 120 rfl (Int32.ofNat (p + 5)) rfl ?_
  refine Own.getS W28 (tw hw 162 rfl) Via.refl (W28.sta SDO) d26_120 123 rfl ?_
  intro T29 W29
  refine Own.iload W29 d26_123 125 rfl 33 rfl ?_
  refine Own.digLoad W29 DG1 (v := (51 : Int32)) ⟨by decide, by decide⟩ (Own.ones_v ⟨by decide, by decide⟩ (by decide)) d26_125 126 rfl ?_
  refine Own.bst W29 (q := p + 5) (cs := [55, 50, 48, 51, 54, 56, 53, 52, 55, 55, 53, 56, 48, 56]) V28 hl (by show p + 5 + 1 + 14 ≤ cap; omega) hc hEN hn_b d26_126 127 rfl ?_
  intro T30 h30 W30 Q30 V30 k30
  refine Own.aloadN W30 d26_127 128 rfl (.ref b) rfl rfl ?_
  refine Own.iincD W30 (n := p + 4) d26_128 131 rfl rfl #[.val (.long (-922337203)), .second, .val (.int (Int32.ofNat (p + 20))), .val (.ref b), .val (.long (-922337203)), .second, .val (.int 33), .val (.int (Int32.ofNat (p + 4))), .val (.int 1), .val (.int (-922)), .val (.int (-922))] rfl ?_
  refine Own.iload W30 d26_131 133 rfl (Int32.ofNat (p + 4)) rfl ?_
  refine Own.getS W30 (tw hw 248 rfl) Via.refl (W30.sta SDT) d26_133 136 rfl ?_
  intro T31 W31
  refine Own.iload W31 d26_136 138 rfl 33 rfl ?_
  refine Own.digLoad W31 DG2 (v := (51 : Int32)) ⟨by decide, by decide⟩ (Own.tens_v ⟨by decide, by decide⟩ (by decide)) d26_138 139 rfl ?_
  refine Own.bst W31 (q := p + 4) (cs := [51, 55, 50, 48, 51, 54, 56, 53, 52, 55, 55, 53, 56, 48, 56]) V30 hl (by show p + 4 + 1 + 15 ≤ cap; omega) hc hEN hn_b d26_139 140 rfl ?_
  intro T32 h32 W32 Q32 V32 k32
  refine Own.goto W32 d26_140 86 (by decide) (by decide) ?_
  refine Own.iload W32 d26_86 88 rfl (-922 : Int32) rfl ?_
  refine Own.bipush W32 d26_88 90 rfl (-100 : Int32) rfl ?_
  refine Own.icmpNo W32 d26_90 93 (by decide) rfl ?_
  refine Own.iload W32 d26_93 95 rfl (-922 : Int32) rfl ?_
  refine Own.bipush W32 d26_95 97 rfl 100 rfl ?_
  refine Own.idivV W32 (v := (-9 : Int32)) d26_97 98 rfl (by decide) (by decide +kernel) ?_
  refine Own.istore W32 d26_98 100 rfl #[.val (.long (-922337203)), .second, .val (.int (Int32.ofNat (p + 20))), .val (.ref b), .val (.long (-922337203)), .second, .val (.int 33), .val (.int (Int32.ofNat (p + 4))), .val (.int 1), .val (.int (-9)), .val (.int (-922))] rfl ?_
  refine Own.iload W32 d26_100 102 rfl (-9 : Int32) rfl ?_
  refine Own.bipush W32 d26_102 104 rfl 100 rfl ?_
  refine Own.imulV W32 (v := (-900 : Int32)) d26_104 105 rfl (by decide +kernel) ?_
  refine Own.iload W32 d26_105 107 rfl (-922 : Int32) rfl ?_
  refine Own.isubV W32 (v := (22 : Int32)) d26_107 108 rfl (by decide +kernel) ?_
  refine Own.istore W32 d26_108 110 rfl #[.val (.long (-922337203)), .second, .val (.int (Int32.ofNat (p + 20))), .val (.ref b), .val (.long (-922337203)), .second, .val (.int 22), .val (.int (Int32.ofNat (p + 4))), .val (.int 1), .val (.int (-9)), .val (.int (-922))] rfl ?_
  refine Own.iload W32 d26_110 112 rfl (-9 : Int32) rfl ?_
  refine Own.istore W32 d26_112 114 rfl #[.val (.long (-922337203)), .second, .val (.int (Int32.ofNat (p + 20))), .val (.ref b), .val (.long (-922337203)), .second, .val (.int 22), .val (.int (Int32.ofNat (p + 4))), .val (.int 1), .val (.int (-9)), .val (.int (-9))] rfl ?_
  refine Own.aloadN W32 d26_114 115 rfl (.ref b) rfl rfl ?_
  refine Own.iincD W32 (n := p + 3) d26_115 118 rfl rfl #[.val (.long (-922337203)), .second, .val (.int (Int32.ofNat (p + 20))), .val (.ref b), .val (.long (-922337203)), .second, .val (.int 22), .val (.int (Int32.ofNat (p + 3))), .val (.int 1), .val (.int (-9)), .val (.int (-9))] rfl ?_
  refine Own.iload W32 d26_118 120 rfl (Int32.ofNat (p + 3)) rfl ?_
  refine Own.getS W32 (tw hw 162 rfl) Via.refl (W32.sta SDO) d26_120 123 rfl ?_
  intro T33 W33
  refine Own.iload W33 d26_123 125 rfl 22 rfl ?_
  refine Own.digLoad W33 DG1 (v := (50 : Int32)) ⟨by decide, by decide⟩ (Own.ones_v ⟨by decide, by decide⟩ (by decide)) d26_125 126 rfl ?_
  refine Own.bst W33 (q := p + 3) (cs := [51, 51, 55, 50, 48, 51, 54, 56, 53, 52, 55, 55, 53, 56, 48, 56]) V32 hl (by show p + 3 + 1 + 16 ≤ cap; omega) hc hEN hn_b d26_126 127 rfl ?_
  intro T34 h34 W34 Q34 V34 k34
  refine Own.aloadN W34 d26_127 128 rfl (.ref b) rfl rfl ?_
  refine Own.iincD W34 (n := p + 2) d26_128 131 rfl rfl #[.val (.long (-922337203)), .second, .val (.int (Int32.ofNat (p + 20))), .val (.ref b), .val (.long (-922337203)), .second, .val (.int 22), .val (.int (Int32.ofNat (p + 2))), .val (.int 1), .val (.int (-9)), .val (.int (-9))] rfl ?_
  refine Own.iload W34 d26_131 133 rfl (Int32.ofNat (p + 2)) rfl ?_
  refine Own.getS W34 (tw hw 248 rfl) Via.refl (W34.sta SDT) d26_133 136 rfl ?_
  intro T35 W35
  refine Own.iload W35 d26_136 138 rfl 22 rfl ?_
  refine Own.digLoad W35 DG2 (v := (50 : Int32)) ⟨by decide, by decide⟩ (Own.tens_v ⟨by decide, by decide⟩ (by decide)) d26_138 139 rfl ?_
  refine Own.bst W35 (q := p + 2) (cs := [50, 51, 51, 55, 50, 48, 51, 54, 56, 53, 52, 55, 55, 53, 56, 48, 56]) V34 hl (by show p + 2 + 1 + 17 ≤ cap; omega) hc hEN hn_b d26_139 140 rfl ?_
  intro T36 h36 W36 Q36 V36 k36
  refine Own.goto W36 d26_140 86 (by decide) (by decide) ?_
  refine Own.iload W36 d26_86 88 rfl (-9 : Int32) rfl ?_
  refine Own.bipush W36 d26_88 90 rfl (-100 : Int32) rfl ?_
  refine Own.icmpYes W36 d26_90 143 (by decide) (by decide) (by decide) ?_
  refine Own.aloadN W36 d26_143 144 rfl (.ref b) rfl rfl ?_
  refine Own.iincD W36 (n := p + 1) d26_144 147 rfl rfl #[.val (.long (-922337203)), .second, .val (.int (Int32.ofNat (p + 20))), .val (.ref b), .val (.long (-922337203)), .second, .val (.int 22), .val (.int (Int32.ofNat (p + 1))), .val (.int 1), .val (.int (-9)), .val (.int (-9))] rfl ?_
  refine Own.iload W36 d26_147 149 rfl (Int32.ofNat (p + 1)) rfl ?_
  refine Own.getS W36 (tw hw 162 rfl) Via.refl (W36.sta SDO) d26_149 152 rfl ?_
  intro T37 W37
  refine Own.iload W37 d26_152 154 rfl (-9 : Int32) rfl ?_
  refine Own.inegV W37 (v := (9 : Int32)) d26_154 155 rfl (by decide +kernel) ?_
  refine Own.digLoad W37 DG1 (v := (57 : Int32)) ⟨by decide, by decide⟩ (Own.ones_v ⟨by decide, by decide⟩ (by decide)) d26_155 156 rfl ?_
  refine Own.bst W37 (q := p + 1) (cs := [50, 50, 51, 51, 55, 50, 48, 51, 54, 56, 53, 52, 55, 55, 53, 56, 48, 56]) V36 hl (by show p + 1 + 1 + 18 ≤ cap; omega) hc hEN hn_b d26_156 157 rfl ?_
  intro T38 h38 W38 Q38 V38 k38
  refine Own.iload W38 d26_157 159 rfl (-9 : Int32) rfl ?_
  refine Own.bipush W38 d26_159 161 rfl (-9 : Int32) rfl ?_
  refine Own.icmpYes W38 d26_161 178 (by decide) (by decide) (by decide) ?_
  refine Own.iload W38 d26_178 180 rfl 1 rfl ?_
  refine Own.ifNo W38 d26_180 183 (by decide) rfl ?_
  refine Own.aloadN W38 d26_183 184 rfl (.ref b) rfl rfl ?_
  refine Own.iincD W38 (n := p + 0) d26_184 187 rfl rfl #[.val (.long (-922337203)), .second, .val (.int (Int32.ofNat (p + 20))), .val (.ref b), .val (.long (-922337203)), .second, .val (.int 22), .val (.int (Int32.ofNat (p + 0))), .val (.int 1), .val (.int (-9)), .val (.int (-9))] rfl ?_
  refine Own.iload W38 d26_187 189 rfl (Int32.ofNat (p + 0)) rfl ?_
  refine Own.bipush W38 d26_189 191 rfl 45 rfl ?_
  refine Own.bst W38 (q := p + 0) (cs := [57, 50, 50, 51, 51, 55, 50, 48, 51, 54, 56, 53, 52, 55, 55, 53, 56, 48, 56]) V38 hl (by show p + 0 + 1 + 19 ≤ cap; omega) hc hEN hn_b d26_191 192 rfl ?_
  intro T39 h39 W39 Q39 V39 k39
  refine Own.iload W39 d26_192 194 rfl (Int32.ofNat (p + 0)) rfl ?_
  exact Own.retI W39 (by decide) (by decide) rfl d26_194 ⟨⟨_, rfl⟩, (Keep.wr (Keep.wr (Keep.wr (Keep.wr (Keep.wr (Keep.wr (Keep.wr (Keep.wr (Keep.wr (Keep.wr (Keep.wr (Keep.wr (Keep.wr (Keep.wr (Keep.wr (Keep.wr (Keep.wr (Keep.wr (Keep.wr (Keep.wr (Keep.refl h [b]) Q2 (Or.inl (by simp))) Q4 (Or.inl (by simp))) Q6 (Or.inl (by simp))) Q8 (Or.inl (by simp))) Q10 (Or.inl (by simp))) Q12 (Or.inl (by simp))) Q14 (Or.inl (by simp))) Q16 (Or.inl (by simp))) Q18 (Or.inl (by simp))) Q20 (Or.inl (by simp))) Q22 (Or.inl (by simp))) Q24 (Or.inl (by simp))) Q26 (Or.inl (by simp))) Q28 (Or.inl (by simp))) Q30 (Or.inl (by simp))) Q32 (Or.inl (by simp))) Q34 (Or.inl (by simp))) Q36 (Or.inl (by simp))) Q38 (Or.inl (by simp))) Q39 (Or.inl (by simp))), V39⟩
theorem lt_min {G : Own.Gl} (hw : ∀ d ∈ tables_1, d.before G.a0 G.Z = true) (hEL : EW G.Z G.a0 G.EL) {dg1 : Addr} {kg1 : ClassId} (SDO : Sta G.Z G.Z.heap "java/lang/Integer" "DigitOnes" "[B" (.ref dg1)) (DG1 : Arv G.Z G.Z.heap dg1 kg1 .byte 100 (Own.digL Own.onesF) (.int 0)) {dg2 : Addr} {kg2 : ClassId} (SDT : Sta G.Z G.Z.heap "java/lang/Integer" "DigitTens" "[B" (.ref dg2)) (DG2 : Arv G.Z G.Z.heap dg2 kg2 .byte 100 (Own.digL Own.tensF) (.int 0)) : LT G (-9223372036854775808 : Int64) [45, 57, 50, 50, 51, 51, 55, 50, 48, 51, 54, 56, 53, 52, 55, 55, 53, 56, 48, 56] := ⟨by decide, fun hO => con_ss_min hw hEL rfl hO, fun hO hEN hc hp hb A hl => con_gc_min hw hEL SDO DG1 SDT DG2 hEN hc hp hb hO A hl rfl rfl⟩
set_option maxRecDepth 65536 in
set_option maxHeartbeats 40000000 in
theorem con_ss_max {G : Own.Gl} (hw : ∀ d ∈ tables_1, d.before G.a0 G.Z = true) (hEL : EW G.Z G.a0 G.EL) {x : Int64} (hx : x = (9223372036854775807 : Int64)) {h : Heap} (hO : Old G.Z G.n0 h) :
    Own.Con G [] bSs #[.long x] h [] (fun v h' => v = some (.int (Int32.ofNat 19)) ∧ h' = h) := by
  refine Own.Con.intro (plainFor_of_name pn_1) hO hEL _ (fun m => ef_bSs m x) ?_
  intro X T0 W0 sf
  subst hx
  refine Own.iconst W0 d24_0 1 rfl 1 rfl ?_
  refine Own.istoreN W0 d24_1 2 rfl #[.val (.long 9223372036854775807), .second, .val (.int 1), .unset, .unset, .unset] rfl ?_
  refine Own.lloadN W0 d24_2 3 rfl (9223372036854775807 : Int64) rfl ?_
  refine Own.lconst W0 d24_3 4 rfl (0 : Int64) rfl ?_
  refine Own.lcmpV W0 (v := (1 : Int32)) d24_4 5 rfl (by decide +kernel) ?_
  refine Own.ifNo W0 d24_5 8 (by decide) rfl ?_
  refine Own.iconst W0 d24_8 9 rfl 0 rfl ?_
  refine Own.istoreN W0 d24_9 10 rfl #[.val (.long 9223372036854775807), .second, .val (.int 0), .unset, .unset, .unset] rfl ?_
  refine Own.lloadN W0 d24_10 11 rfl (9223372036854775807 : Int64) rfl ?_
  refine Own.lnegV W0 (v := (-9223372036854775807 : Int64)) d24_11 12 rfl (by decide +kernel) ?_
  refine Own.lstoreN W0 d24_12 13 rfl #[.val (.long (-9223372036854775807)), .second, .val (.int 0), .unset, .unset, .unset] rfl ?_
  refine Own.ldc2 W0 (tw hw 152 rfl) d24_13 16 rfl ?_
  refine Own.lstoreN W0 d24_16 17 rfl #[.val (.long (-9223372036854775807)), .second, .val (.int 0), .val (.long (-10)), .second, .unset] rfl ?_
  refine Own.iconst W0 d24_17 18 rfl 1 rfl ?_
  refine Own.istore W0 d24_18 20 rfl #[.val (.long (-9223372036854775807)), .second, .val (.int 0), .val (.long (-10)), .second, .val (.int 1)] rfl ?_
  refine Own.iload W0 d24_20 22 rfl 1 rfl ?_
  refine Own.bipush W0 d24_22 24 rfl 19 rfl ?_
  refine Own.icmpNo W0 d24_24 27 (by decide) rfl ?_
  refine Own.lloadN W0 d24_27 28 rfl (-9223372036854775807 : Int64) rfl ?_
  refine Own.lloadN W0 d24_28 29 rfl (-10 : Int64) rfl ?_
  refine Own.lcmpV W0 (v := (-1 : Int32)) d24_29 30 rfl (by decide +kernel) ?_
  refine Own.ifYes W0 d24_30 38 (by decide) (by decide) (by decide) ?_
  refine Own.ldc2 W0 (tw hw 246 rfl) d24_38 41 rfl ?_
  refine Own.lloadN W0 d24_41 42 rfl (-10 : Int64) rfl ?_
  refine Own.lmulV W0 (v := (-100 : Int64)) d24_42 43 rfl (by decide +kernel) ?_
  refine Own.lstoreN W0 d24_43 44 rfl #[.val (.long (-9223372036854775807)), .second, .val (.int 0), .val (.long (-100)), .second, .val (.int 1)] rfl ?_
  refine Own.iinc W0 d24_44 47 rfl rfl #[.val (.long (-9223372036854775807)), .second, .val (.int 0), .val (.long (-100)), .second, .val (.int 2)] rfl ?_
  refine Own.goto W0 d24_47 20 (by decide) (by decide) ?_
  refine Own.iload W0 d24_20 22 rfl 2 rfl ?_
  refine Own.bipush W0 d24_22 24 rfl 19 rfl ?_
  refine Own.icmpNo W0 d24_24 27 (by decide) rfl ?_
  refine Own.lloadN W0 d24_27 28 rfl (-9223372036854775807 : Int64) rfl ?_
  refine Own.lloadN W0 d24_28 29 rfl (-100 : Int64) rfl ?_
  refine Own.lcmpV W0 (v := (-1 : Int32)) d24_29 30 rfl (by decide +kernel) ?_
  refine Own.ifYes W0 d24_30 38 (by decide) (by decide) (by decide) ?_
  refine Own.ldc2 W0 (tw hw 246 rfl) d24_38 41 rfl ?_
  refine Own.lloadN W0 d24_41 42 rfl (-100 : Int64) rfl ?_
  refine Own.lmulV W0 (v := (-1000 : Int64)) d24_42 43 rfl (by decide +kernel) ?_
  refine Own.lstoreN W0 d24_43 44 rfl #[.val (.long (-9223372036854775807)), .second, .val (.int 0), .val (.long (-1000)), .second, .val (.int 2)] rfl ?_
  refine Own.iinc W0 d24_44 47 rfl rfl #[.val (.long (-9223372036854775807)), .second, .val (.int 0), .val (.long (-1000)), .second, .val (.int 3)] rfl ?_
  refine Own.goto W0 d24_47 20 (by decide) (by decide) ?_
  refine Own.iload W0 d24_20 22 rfl 3 rfl ?_
  refine Own.bipush W0 d24_22 24 rfl 19 rfl ?_
  refine Own.icmpNo W0 d24_24 27 (by decide) rfl ?_
  refine Own.lloadN W0 d24_27 28 rfl (-9223372036854775807 : Int64) rfl ?_
  refine Own.lloadN W0 d24_28 29 rfl (-1000 : Int64) rfl ?_
  refine Own.lcmpV W0 (v := (-1 : Int32)) d24_29 30 rfl (by decide +kernel) ?_
  refine Own.ifYes W0 d24_30 38 (by decide) (by decide) (by decide) ?_
  refine Own.ldc2 W0 (tw hw 246 rfl) d24_38 41 rfl ?_
  refine Own.lloadN W0 d24_41 42 rfl (-1000 : Int64) rfl ?_
  refine Own.lmulV W0 (v := (-10000 : Int64)) d24_42 43 rfl (by decide +kernel) ?_
  refine Own.lstoreN W0 d24_43 44 rfl #[.val (.long (-9223372036854775807)), .second, .val (.int 0), .val (.long (-10000)), .second, .val (.int 3)] rfl ?_
  refine Own.iinc W0 d24_44 47 rfl rfl #[.val (.long (-9223372036854775807)), .second, .val (.int 0), .val (.long (-10000)), .second, .val (.int 4)] rfl ?_
  refine Own.goto W0 d24_47 20 (by decide) (by decide) ?_
  refine Own.iload W0 d24_20 22 rfl 4 rfl ?_
  refine Own.bipush W0 d24_22 24 rfl 19 rfl ?_
  refine Own.icmpNo W0 d24_24 27 (by decide) rfl ?_
  refine Own.lloadN W0 d24_27 28 rfl (-9223372036854775807 : Int64) rfl ?_
  refine Own.lloadN W0 d24_28 29 rfl (-10000 : Int64) rfl ?_
  refine Own.lcmpV W0 (v := (-1 : Int32)) d24_29 30 rfl (by decide +kernel) ?_
  refine Own.ifYes W0 d24_30 38 (by decide) (by decide) (by decide) ?_
  refine Own.ldc2 W0 (tw hw 246 rfl) d24_38 41 rfl ?_
  refine Own.lloadN W0 d24_41 42 rfl (-10000 : Int64) rfl ?_
  refine Own.lmulV W0 (v := (-100000 : Int64)) d24_42 43 rfl (by decide +kernel) ?_
  refine Own.lstoreN W0 d24_43 44 rfl #[.val (.long (-9223372036854775807)), .second, .val (.int 0), .val (.long (-100000)), .second, .val (.int 4)] rfl ?_
  refine Own.iinc W0 d24_44 47 rfl rfl #[.val (.long (-9223372036854775807)), .second, .val (.int 0), .val (.long (-100000)), .second, .val (.int 5)] rfl ?_
  refine Own.goto W0 d24_47 20 (by decide) (by decide) ?_
  refine Own.iload W0 d24_20 22 rfl 5 rfl ?_
  refine Own.bipush W0 d24_22 24 rfl 19 rfl ?_
  refine Own.icmpNo W0 d24_24 27 (by decide) rfl ?_
  refine Own.lloadN W0 d24_27 28 rfl (-9223372036854775807 : Int64) rfl ?_
  refine Own.lloadN W0 d24_28 29 rfl (-100000 : Int64) rfl ?_
  refine Own.lcmpV W0 (v := (-1 : Int32)) d24_29 30 rfl (by decide +kernel) ?_
  refine Own.ifYes W0 d24_30 38 (by decide) (by decide) (by decide) ?_
  refine Own.ldc2 W0 (tw hw 246 rfl) d24_38 41 rfl ?_
  refine Own.lloadN W0 d24_41 42 rfl (-100000 : Int64) rfl ?_
  refine Own.lmulV W0 (v := (-1000000 : Int64)) d24_42 43 rfl (by decide +kernel) ?_
  refine Own.lstoreN W0 d24_43 44 rfl #[.val (.long (-9223372036854775807)), .second, .val (.int 0), .val (.long (-1000000)), .second, .val (.int 5)] rfl ?_
  refine Own.iinc W0 d24_44 47 rfl rfl #[.val (.long (-9223372036854775807)), .second, .val (.int 0), .val (.long (-1000000)), .second, .val (.int 6)] rfl ?_
  refine Own.goto W0 d24_47 20 (by decide) (by decide) ?_
  refine Own.iload W0 d24_20 22 rfl 6 rfl ?_
  refine Own.bipush W0 d24_22 24 rfl 19 rfl ?_
  refine Own.icmpNo W0 d24_24 27 (by decide) rfl ?_
  refine Own.lloadN W0 d24_27 28 rfl (-9223372036854775807 : Int64) rfl ?_
  refine Own.lloadN W0 d24_28 29 rfl (-1000000 : Int64) rfl ?_
  refine Own.lcmpV W0 (v := (-1 : Int32)) d24_29 30 rfl (by decide +kernel) ?_
  refine Own.ifYes W0 d24_30 38 (by decide) (by decide) (by decide) ?_
  refine Own.ldc2 W0 (tw hw 246 rfl) d24_38 41 rfl ?_
  refine Own.lloadN W0 d24_41 42 rfl (-1000000 : Int64) rfl ?_
  refine Own.lmulV W0 (v := (-10000000 : Int64)) d24_42 43 rfl (by decide +kernel) ?_
  refine Own.lstoreN W0 d24_43 44 rfl #[.val (.long (-9223372036854775807)), .second, .val (.int 0), .val (.long (-10000000)), .second, .val (.int 6)] rfl ?_
  refine Own.iinc W0 d24_44 47 rfl rfl #[.val (.long (-9223372036854775807)), .second, .val (.int 0), .val (.long (-10000000)), .second, .val (.int 7)] rfl ?_
  refine Own.goto W0 d24_47 20 (by decide) (by decide) ?_
  refine Own.iload W0 d24_20 22 rfl 7 rfl ?_
  refine Own.bipush W0 d24_22 24 rfl 19 rfl ?_
  refine Own.icmpNo W0 d24_24 27 (by decide) rfl ?_
  refine Own.lloadN W0 d24_27 28 rfl (-9223372036854775807 : Int64) rfl ?_
  refine Own.lloadN W0 d24_28 29 rfl (-10000000 : Int64) rfl ?_
  refine Own.lcmpV W0 (v := (-1 : Int32)) d24_29 30 rfl (by decide +kernel) ?_
  refine Own.ifYes W0 d24_30 38 (by decide) (by decide) (by decide) ?_
  refine Own.ldc2 W0 (tw hw 246 rfl) d24_38 41 rfl ?_
  refine Own.lloadN W0 d24_41 42 rfl (-10000000 : Int64) rfl ?_
  refine Own.lmulV W0 (v := (-100000000 : Int64)) d24_42 43 rfl (by decide +kernel) ?_
  refine Own.lstoreN W0 d24_43 44 rfl #[.val (.long (-9223372036854775807)), .second, .val (.int 0), .val (.long (-100000000)), .second, .val (.int 7)] rfl ?_
  refine Own.iinc W0 d24_44 47 rfl rfl #[.val (.long (-9223372036854775807)), .second, .val (.int 0), .val (.long (-100000000)), .second, .val (.int 8)] rfl ?_
  refine Own.goto W0 d24_47 20 (by decide) (by decide) ?_
  refine Own.iload W0 d24_20 22 rfl 8 rfl ?_
  refine Own.bipush W0 d24_22 24 rfl 19 rfl ?_
  refine Own.icmpNo W0 d24_24 27 (by decide) rfl ?_
  refine Own.lloadN W0 d24_27 28 rfl (-9223372036854775807 : Int64) rfl ?_
  refine Own.lloadN W0 d24_28 29 rfl (-100000000 : Int64) rfl ?_
  refine Own.lcmpV W0 (v := (-1 : Int32)) d24_29 30 rfl (by decide +kernel) ?_
  refine Own.ifYes W0 d24_30 38 (by decide) (by decide) (by decide) ?_
  refine Own.ldc2 W0 (tw hw 246 rfl) d24_38 41 rfl ?_
  refine Own.lloadN W0 d24_41 42 rfl (-100000000 : Int64) rfl ?_
  refine Own.lmulV W0 (v := (-1000000000 : Int64)) d24_42 43 rfl (by decide +kernel) ?_
  refine Own.lstoreN W0 d24_43 44 rfl #[.val (.long (-9223372036854775807)), .second, .val (.int 0), .val (.long (-1000000000)), .second, .val (.int 8)] rfl ?_
  refine Own.iinc W0 d24_44 47 rfl rfl #[.val (.long (-9223372036854775807)), .second, .val (.int 0), .val (.long (-1000000000)), .second, .val (.int 9)] rfl ?_
  refine Own.goto W0 d24_47 20 (by decide) (by decide) ?_
  refine Own.iload W0 d24_20 22 rfl 9 rfl ?_
  refine Own.bipush W0 d24_22 24 rfl 19 rfl ?_
  refine Own.icmpNo W0 d24_24 27 (by decide) rfl ?_
  refine Own.lloadN W0 d24_27 28 rfl (-9223372036854775807 : Int64) rfl ?_
  refine Own.lloadN W0 d24_28 29 rfl (-1000000000 : Int64) rfl ?_
  refine Own.lcmpV W0 (v := (-1 : Int32)) d24_29 30 rfl (by decide +kernel) ?_
  refine Own.ifYes W0 d24_30 38 (by decide) (by decide) (by decide) ?_
  refine Own.ldc2 W0 (tw hw 246 rfl) d24_38 41 rfl ?_
  refine Own.lloadN W0 d24_41 42 rfl (-1000000000 : Int64) rfl ?_
  refine Own.lmulV W0 (v := (-10000000000 : Int64)) d24_42 43 rfl (by decide +kernel) ?_
  refine Own.lstoreN W0 d24_43 44 rfl #[.val (.long (-9223372036854775807)), .second, .val (.int 0), .val (.long (-10000000000)), .second, .val (.int 9)] rfl ?_
  refine Own.iinc W0 d24_44 47 rfl rfl #[.val (.long (-9223372036854775807)), .second, .val (.int 0), .val (.long (-10000000000)), .second, .val (.int 10)] rfl ?_
  refine Own.goto W0 d24_47 20 (by decide) (by decide) ?_
  refine Own.iload W0 d24_20 22 rfl 10 rfl ?_
  refine Own.bipush W0 d24_22 24 rfl 19 rfl ?_
  refine Own.icmpNo W0 d24_24 27 (by decide) rfl ?_
  refine Own.lloadN W0 d24_27 28 rfl (-9223372036854775807 : Int64) rfl ?_
  refine Own.lloadN W0 d24_28 29 rfl (-10000000000 : Int64) rfl ?_
  refine Own.lcmpV W0 (v := (-1 : Int32)) d24_29 30 rfl (by decide +kernel) ?_
  refine Own.ifYes W0 d24_30 38 (by decide) (by decide) (by decide) ?_
  refine Own.ldc2 W0 (tw hw 246 rfl) d24_38 41 rfl ?_
  refine Own.lloadN W0 d24_41 42 rfl (-10000000000 : Int64) rfl ?_
  refine Own.lmulV W0 (v := (-100000000000 : Int64)) d24_42 43 rfl (by decide +kernel) ?_
  refine Own.lstoreN W0 d24_43 44 rfl #[.val (.long (-9223372036854775807)), .second, .val (.int 0), .val (.long (-100000000000)), .second, .val (.int 10)] rfl ?_
  refine Own.iinc W0 d24_44 47 rfl rfl #[.val (.long (-9223372036854775807)), .second, .val (.int 0), .val (.long (-100000000000)), .second, .val (.int 11)] rfl ?_
  refine Own.goto W0 d24_47 20 (by decide) (by decide) ?_
  refine Own.iload W0 d24_20 22 rfl 11 rfl ?_
  refine Own.bipush W0 d24_22 24 rfl 19 rfl ?_
  refine Own.icmpNo W0 d24_24 27 (by decide) rfl ?_
  refine Own.lloadN W0 d24_27 28 rfl (-9223372036854775807 : Int64) rfl ?_
  refine Own.lloadN W0 d24_28 29 rfl (-100000000000 : Int64) rfl ?_
  refine Own.lcmpV W0 (v := (-1 : Int32)) d24_29 30 rfl (by decide +kernel) ?_
  refine Own.ifYes W0 d24_30 38 (by decide) (by decide) (by decide) ?_
  refine Own.ldc2 W0 (tw hw 246 rfl) d24_38 41 rfl ?_
  refine Own.lloadN W0 d24_41 42 rfl (-100000000000 : Int64) rfl ?_
  refine Own.lmulV W0 (v := (-1000000000000 : Int64)) d24_42 43 rfl (by decide +kernel) ?_
  refine Own.lstoreN W0 d24_43 44 rfl #[.val (.long (-9223372036854775807)), .second, .val (.int 0), .val (.long (-1000000000000)), .second, .val (.int 11)] rfl ?_
  refine Own.iinc W0 d24_44 47 rfl rfl #[.val (.long (-9223372036854775807)), .second, .val (.int 0), .val (.long (-1000000000000)), .second, .val (.int 12)] rfl ?_
  refine Own.goto W0 d24_47 20 (by decide) (by decide) ?_
  refine Own.iload W0 d24_20 22 rfl 12 rfl ?_
  refine Own.bipush W0 d24_22 24 rfl 19 rfl ?_
  refine Own.icmpNo W0 d24_24 27 (by decide) rfl ?_
  refine Own.lloadN W0 d24_27 28 rfl (-9223372036854775807 : Int64) rfl ?_
  refine Own.lloadN W0 d24_28 29 rfl (-1000000000000 : Int64) rfl ?_
  refine Own.lcmpV W0 (v := (-1 : Int32)) d24_29 30 rfl (by decide +kernel) ?_
  refine Own.ifYes W0 d24_30 38 (by decide) (by decide) (by decide) ?_
  refine Own.ldc2 W0 (tw hw 246 rfl) d24_38 41 rfl ?_
  refine Own.lloadN W0 d24_41 42 rfl (-1000000000000 : Int64) rfl ?_
  refine Own.lmulV W0 (v := (-10000000000000 : Int64)) d24_42 43 rfl (by decide +kernel) ?_
  refine Own.lstoreN W0 d24_43 44 rfl #[.val (.long (-9223372036854775807)), .second, .val (.int 0), .val (.long (-10000000000000)), .second, .val (.int 12)] rfl ?_
  refine Own.iinc W0 d24_44 47 rfl rfl #[.val (.long (-9223372036854775807)), .second, .val (.int 0), .val (.long (-10000000000000)), .second, .val (.int 13)] rfl ?_
  refine Own.goto W0 d24_47 20 (by decide) (by decide) ?_
  refine Own.iload W0 d24_20 22 rfl 13 rfl ?_
  refine Own.bipush W0 d24_22 24 rfl 19 rfl ?_
  refine Own.icmpNo W0 d24_24 27 (by decide) rfl ?_
  refine Own.lloadN W0 d24_27 28 rfl (-9223372036854775807 : Int64) rfl ?_
  refine Own.lloadN W0 d24_28 29 rfl (-10000000000000 : Int64) rfl ?_
  refine Own.lcmpV W0 (v := (-1 : Int32)) d24_29 30 rfl (by decide +kernel) ?_
  refine Own.ifYes W0 d24_30 38 (by decide) (by decide) (by decide) ?_
  refine Own.ldc2 W0 (tw hw 246 rfl) d24_38 41 rfl ?_
  refine Own.lloadN W0 d24_41 42 rfl (-10000000000000 : Int64) rfl ?_
  refine Own.lmulV W0 (v := (-100000000000000 : Int64)) d24_42 43 rfl (by decide +kernel) ?_
  refine Own.lstoreN W0 d24_43 44 rfl #[.val (.long (-9223372036854775807)), .second, .val (.int 0), .val (.long (-100000000000000)), .second, .val (.int 13)] rfl ?_
  refine Own.iinc W0 d24_44 47 rfl rfl #[.val (.long (-9223372036854775807)), .second, .val (.int 0), .val (.long (-100000000000000)), .second, .val (.int 14)] rfl ?_
  refine Own.goto W0 d24_47 20 (by decide) (by decide) ?_
  refine Own.iload W0 d24_20 22 rfl 14 rfl ?_
  refine Own.bipush W0 d24_22 24 rfl 19 rfl ?_
  refine Own.icmpNo W0 d24_24 27 (by decide) rfl ?_
  refine Own.lloadN W0 d24_27 28 rfl (-9223372036854775807 : Int64) rfl ?_
  refine Own.lloadN W0 d24_28 29 rfl (-100000000000000 : Int64) rfl ?_
  refine Own.lcmpV W0 (v := (-1 : Int32)) d24_29 30 rfl (by decide +kernel) ?_
  refine Own.ifYes W0 d24_30 38 (by decide) (by decide) (by decide) ?_
  refine Own.ldc2 W0 (tw hw 246 rfl) d24_38 41 rfl ?_
  refine Own.lloadN W0 d24_41 42 rfl (-100000000000000 : Int64) rfl ?_
  refine Own.lmulV W0 (v := (-1000000000000000 : Int64)) d24_42 43 rfl (by decide +kernel) ?_
  refine Own.lstoreN W0 d24_43 44 rfl #[.val (.long (-9223372036854775807)), .second, .val (.int 0), .val (.long (-1000000000000000)), .second, .val (.int 14)] rfl ?_
  refine Own.iinc W0 d24_44 47 rfl rfl #[.val (.long (-9223372036854775807)), .second, .val (.int 0), .val (.long (-1000000000000000)), .second, .val (.int 15)] rfl ?_
  refine Own.goto W0 d24_47 20 (by decide) (by decide) ?_
  refine Own.iload W0 d24_20 22 rfl 15 rfl ?_
  refine Own.bipush W0 d24_22 24 rfl 19 rfl ?_
  refine Own.icmpNo W0 d24_24 27 (by decide) rfl ?_
  refine Own.lloadN W0 d24_27 28 rfl (-9223372036854775807 : Int64) rfl ?_
  refine Own.lloadN W0 d24_28 29 rfl (-1000000000000000 : Int64) rfl ?_
  refine Own.lcmpV W0 (v := (-1 : Int32)) d24_29 30 rfl (by decide +kernel) ?_
  refine Own.ifYes W0 d24_30 38 (by decide) (by decide) (by decide) ?_
  refine Own.ldc2 W0 (tw hw 246 rfl) d24_38 41 rfl ?_
  refine Own.lloadN W0 d24_41 42 rfl (-1000000000000000 : Int64) rfl ?_
  refine Own.lmulV W0 (v := (-10000000000000000 : Int64)) d24_42 43 rfl (by decide +kernel) ?_
  refine Own.lstoreN W0 d24_43 44 rfl #[.val (.long (-9223372036854775807)), .second, .val (.int 0), .val (.long (-10000000000000000)), .second, .val (.int 15)] rfl ?_
  refine Own.iinc W0 d24_44 47 rfl rfl #[.val (.long (-9223372036854775807)), .second, .val (.int 0), .val (.long (-10000000000000000)), .second, .val (.int 16)] rfl ?_
  refine Own.goto W0 d24_47 20 (by decide) (by decide) ?_
  refine Own.iload W0 d24_20 22 rfl 16 rfl ?_
  refine Own.bipush W0 d24_22 24 rfl 19 rfl ?_
  refine Own.icmpNo W0 d24_24 27 (by decide) rfl ?_
  refine Own.lloadN W0 d24_27 28 rfl (-9223372036854775807 : Int64) rfl ?_
  refine Own.lloadN W0 d24_28 29 rfl (-10000000000000000 : Int64) rfl ?_
  refine Own.lcmpV W0 (v := (-1 : Int32)) d24_29 30 rfl (by decide +kernel) ?_
  refine Own.ifYes W0 d24_30 38 (by decide) (by decide) (by decide) ?_
  refine Own.ldc2 W0 (tw hw 246 rfl) d24_38 41 rfl ?_
  refine Own.lloadN W0 d24_41 42 rfl (-10000000000000000 : Int64) rfl ?_
  refine Own.lmulV W0 (v := (-100000000000000000 : Int64)) d24_42 43 rfl (by decide +kernel) ?_
  refine Own.lstoreN W0 d24_43 44 rfl #[.val (.long (-9223372036854775807)), .second, .val (.int 0), .val (.long (-100000000000000000)), .second, .val (.int 16)] rfl ?_
  refine Own.iinc W0 d24_44 47 rfl rfl #[.val (.long (-9223372036854775807)), .second, .val (.int 0), .val (.long (-100000000000000000)), .second, .val (.int 17)] rfl ?_
  refine Own.goto W0 d24_47 20 (by decide) (by decide) ?_
  refine Own.iload W0 d24_20 22 rfl 17 rfl ?_
  refine Own.bipush W0 d24_22 24 rfl 19 rfl ?_
  refine Own.icmpNo W0 d24_24 27 (by decide) rfl ?_
  refine Own.lloadN W0 d24_27 28 rfl (-9223372036854775807 : Int64) rfl ?_
  refine Own.lloadN W0 d24_28 29 rfl (-100000000000000000 : Int64) rfl ?_
  refine Own.lcmpV W0 (v := (-1 : Int32)) d24_29 30 rfl (by decide +kernel) ?_
  refine Own.ifYes W0 d24_30 38 (by decide) (by decide) (by decide) ?_
  refine Own.ldc2 W0 (tw hw 246 rfl) d24_38 41 rfl ?_
  refine Own.lloadN W0 d24_41 42 rfl (-100000000000000000 : Int64) rfl ?_
  refine Own.lmulV W0 (v := (-1000000000000000000 : Int64)) d24_42 43 rfl (by decide +kernel) ?_
  refine Own.lstoreN W0 d24_43 44 rfl #[.val (.long (-9223372036854775807)), .second, .val (.int 0), .val (.long (-1000000000000000000)), .second, .val (.int 17)] rfl ?_
  refine Own.iinc W0 d24_44 47 rfl rfl #[.val (.long (-9223372036854775807)), .second, .val (.int 0), .val (.long (-1000000000000000000)), .second, .val (.int 18)] rfl ?_
  refine Own.goto W0 d24_47 20 (by decide) (by decide) ?_
  refine Own.iload W0 d24_20 22 rfl 18 rfl ?_
  refine Own.bipush W0 d24_22 24 rfl 19 rfl ?_
  refine Own.icmpNo W0 d24_24 27 (by decide) rfl ?_
  refine Own.lloadN W0 d24_27 28 rfl (-9223372036854775807 : Int64) rfl ?_
  refine Own.lloadN W0 d24_28 29 rfl (-1000000000000000000 : Int64) rfl ?_
  refine Own.lcmpV W0 (v := (-1 : Int32)) d24_29 30 rfl (by decide +kernel) ?_
  refine Own.ifYes W0 d24_30 38 (by decide) (by decide) (by decide) ?_
  refine Own.ldc2 W0 (tw hw 246 rfl) d24_38 41 rfl ?_
  refine Own.lloadN W0 d24_41 42 rfl (-1000000000000000000 : Int64) rfl ?_
  refine Own.lmulV W0 (v := (8446744073709551616 : Int64)) d24_42 43 rfl (by decide +kernel) ?_
  refine Own.lstoreN W0 d24_43 44 rfl #[.val (.long (-9223372036854775807)), .second, .val (.int 0), .val (.long 8446744073709551616), .second, .val (.int 18)] rfl ?_
  refine Own.iinc W0 d24_44 47 rfl rfl #[.val (.long (-9223372036854775807)), .second, .val (.int 0), .val (.long 8446744073709551616), .second, .val (.int 19)] rfl ?_
  refine Own.goto W0 d24_47 20 (by decide) (by decide) ?_
  refine Own.iload W0 d24_20 22 rfl 19 rfl ?_
  refine Own.bipush W0 d24_22 24 rfl 19 rfl ?_
  refine Own.icmpYes W0 d24_24 50 (by decide) (by decide) (by decide) ?_
  refine Own.bipush W0 d24_50 52 rfl 19 rfl ?_
  refine Own.iloadN W0 d24_52 53 rfl 0 rfl ?_
  refine Own.iadd W0 d24_53 54 rfl ?_
  exact Own.retI W0 (by decide) (by decide) rfl d24_54 ⟨rfl, rfl⟩
set_option maxRecDepth 65536 in
set_option maxHeartbeats 40000000 in
theorem con_gc_max {G : Own.Gl} (hw : ∀ d ∈ tables_1, d.before G.a0 G.Z = true) (hEL : EW G.Z G.a0 G.EL) {dg1 : Addr} {kg1 : ClassId} (SDO : Sta G.Z G.Z.heap "java/lang/Integer" "DigitOnes" "[B" (.ref dg1)) (DG1 : Arv G.Z G.Z.heap dg1 kg1 .byte 100 (Own.digL Own.onesF) (.int 0)) {dg2 : Addr} {kg2 : ClassId} (SDT : Sta G.Z G.Z.heap "java/lang/Integer" "DigitTens" "[B" (.ref dg2)) (DG2 : Arv G.Z G.Z.heap dg2 kg2 .byte 100 (Own.digL Own.tensF) (.int 0)) {cap p : Nat} (hEN : Own.EN G.Z G.a0 G.EL cap) (hc : cap ≤ 4000) (hp : p + 19 ≤ cap) {b : Addr} (hn_b : G.n0 ≤ b) {kb : ClassId} {vs : List Value} {h : Heap} (hO : Old G.Z G.n0 h) (A : Arv G.Z h b kb .byte (Int32.ofNat cap) vs (.int 0)) (hl : vs.length = cap) {x : Int64} {ix : Int32} (hx : x = (9223372036854775807 : Int64)) (hix : ix = Int32.ofNat (p + 19)) :
    Own.Con G [] bGc #[.long x, .int ix, .ref b] h [] (fun v h' => (∃ r : Int32, v = some (.int r)) ∧ Keep h h' [b] ∧ Arv G.Z h' b kb .byte (Int32.ofNat cap) (Own.mid vs p [57, 50, 50, 51, 51, 55, 50, 48, 51, 54, 56, 53, 52, 55, 55, 53, 56, 48, 55]) (.int 0)) := by
  refine Own.Con.intro (plainFor_of_name pn_1) hO hEL _ (fun m => ef_bGc m x ix b) ?_
  intro X T0 W0 sf
  subst hx; subst hix
  have V0 : Arv G.Z h b kb .byte (Int32.ofNat cap) (Own.mid vs (p + 19) []) (.int 0) := by rw [Own.mid_nil]; exact A
  refine Own.iloadN W0 d26_0 1 rfl (Int32.ofNat (p + 19)) rfl ?_
  refine Own.istore W0 d26_1 3 rfl #[.val (.long 9223372036854775807), .second, .val (.int (Int32.ofNat (p + 19))), .val (.ref b), .unset, .unset, .unset, .val (.int (Int32.ofNat (p + 19))), .unset, .unset, .unset] rfl ?_
  refine Own.lloadN W0 d26_3 4 rfl (9223372036854775807 : Int64) rfl ?_
  refine Own.lconst W0 d26_4 5 rfl (0 : Int64) rfl ?_
  refine Own.lcmpV W0 (v := (1 : Int32)) d26_5 6 rfl (by decide +kernel) ?_
  refine Own.ifYes W0 d26_6 13 (by decide) (by decide) (by decide) ?_
  refine Own.iconst W0 d26_13 14 rfl 0 rfl ?_
  refine Own.istore W0 d26_14 16 rfl #[.val (.long 9223372036854775807), .second, .val (.int (Int32.ofNat (p + 19))), .val (.ref b), .unset, .unset, .unset, .val (.int (Int32.ofNat (p + 19))), .val (.int 0), .unset, .unset] rfl ?_
  refine Own.iload W0 d26_16 18 rfl 0 rfl ?_
  refine Own.ifNo W0 d26_18 21 (by decide) rfl ?_
  refine Own.lloadN W0 d26_21 22 rfl (9223372036854775807 : Int64) rfl ?_
  refine Own.lnegV W0 (v := (-9223372036854775807 : Int64)) d26_22 23 rfl (by decide +kernel) ?_
  refine Own.lstoreN W0 d26_23 24 rfl #[.val (.long (-9223372036854775807)), .second, .val (.int (Int32.ofNat (p + 19))), .val (.ref b), .unset, .unset, .unset, .val (.int (Int32.ofNat (p + 19))), .val (.int 0), .unset, .unset] rfl ?_
  refine Own.lloadN W0 d26_24 25 rfl (-9223372036854775807 : Int64) rfl ?_
  refine Own.ldc2 W0 (tw hw 161 rfl) d26_25 28 rfl ?_
  refine Own.lcmpV W0 (v := (-1 : Int32)) d26_28 29 rfl (by decide +kernel) ?_
  refine Own.ifNo W0 d26_29 32 (by decide) rfl ?_
  refine Own.lloadN W0 d26_32 33 rfl (-9223372036854775807 : Int64) rfl ?_
  refine Own.ldc2 W0 (tw hw 247 rfl) d26_33 36 rfl ?_
  refine Own.ldivV W0 (v := (-92233720368547758 : Int64)) d26_36 37 rfl (by decide) (by decide +kernel) ?_
  refine Own.lstore W0 d26_37 39 rfl #[.val (.long (-9223372036854775807)), .second, .val (.int (Int32.ofNat (p + 19))), .val (.ref b), .val (.long (-92233720368547758)), .second, .unset, .val (.int (Int32.ofNat (p + 19))), .val (.int 0), .unset, .unset] rfl ?_
  refine Own.lload W0 d26_39 41 rfl (-92233720368547758 : Int64) rfl ?_
  refine Own.ldc2 W0 (tw hw 247 rfl) d26_41 44 rfl ?_
  refine Own.lmulV W0 (v := (-9223372036854775800 : Int64)) d26_44 45 rfl (by decide +kernel) ?_
  refine Own.lloadN W0 d26_45 46 rfl (-9223372036854775807 : Int64) rfl ?_
  refine Own.lsubV W0 (v := (7 : Int64)) d26_46 47 rfl (by decide +kernel) ?_
  refine Own.l2iV W0 (v := (7 : Int32)) d26_47 48 rfl (by decide +kernel) ?_
  refine Own.istore W0 d26_48 50 rfl #[.val (.long (-9223372036854775807)), .second, .val (.int (Int32.ofNat (p + 19))), .val (.ref b), .val (.long (-92233720368547758)), .second, .val (.int 7), .val (.int (Int32.ofNat (p + 19))), .val (.int 0), .unset, .unset] rfl ?_
  refine Own.lload W0 d26_50 52 rfl (-92233720368547758 : Int64) rfl ?_
  refine Own.lstoreN W0 d26_52 53 rfl #[.val (.long (-92233720368547758)), .second, .val (.int (Int32.ofNat (p + 19))), .val (.ref b), .val (.long (-92233720368547758)), .second, .val (.int 7), .val (.int (Int32.ofNat (p + 19))), .val (.int 0), .unset, .unset] rfl ?_
  refine Own.aloadN W0 d26_53 54 rfl (.ref b) rfl rfl ?_
  refine Own.iincD W0 (n := p + 18) d26_54 57 rfl rfl #[.val (.long (-92233720368547758)), .second, .val (.int (Int32.ofNat (p + 19))), .val (.ref b), .val (.long (-92233720368547758)), .second, .val (.int 7), .val (.int (Int32.ofNat (p + 18))), .val (.int 0), .unset, .unset] rfl ?_
  refine Own.iload W0 d26_57 59 rfl (Int32.ofNat (p + 18)) rfl ?_
  refine Own.getS W0 (tw hw 162 rfl) Via.refl (W0.sta SDO) d26_59 62 rfl ?_
  intro T1 W1
  refine Own.iload W1 d26_62 64 rfl 7 rfl ?_
  refine Own.digLoad W1 DG1 (v := (55 : Int32)) ⟨by decide, by decide⟩ (Own.ones_v ⟨by decide, by decide⟩ (by decide)) d26_64 65 rfl ?_
  refine Own.bst W1 (q := p + 18) (cs := []) V0 hl (by show p + 18 + 1 + 0 ≤ cap; omega) hc hEN hn_b d26_65 66 rfl ?_
  intro T2 h2 W2 Q2 V2 k2
  refine Own.aloadN W2 d26_66 67 rfl (.ref b) rfl rfl ?_
  refine Own.iincD W2 (n := p + 17) d26_67 70 rfl rfl #[.val (.long (-92233720368547758)), .second, .val (.int (Int32.ofNat (p + 19))), .val (.ref b), .val (.long (-92233720368547758)), .second, .val (.int 7), .val (.int (Int32.ofNat (p + 17))), .val (.int 0), .unset, .unset] rfl ?_
  refine Own.iload W2 d26_70 72 rfl (Int32.ofNat (p + 17)) rfl ?_
  refine Own.getS W2 (tw hw 248 rfl) Via.refl (W2.sta SDT) d26_72 75 rfl ?_
  intro T3 W3
  refine Own.iload W3 d26_75 77 rfl 7 rfl ?_
  refine Own.digLoad W3 DG2 (v := (48 : Int32)) ⟨by decide, by decide⟩ (Own.tens_v ⟨by decide, by decide⟩ (by decide)) d26_77 78 rfl ?_
  refine Own.bst W3 (q := p + 17) (cs := [55]) V2 hl (by show p + 17 + 1 + 1 ≤ cap; omega) hc hEN hn_b d26_78 79 rfl ?_
  intro T4 h4 W4 Q4 V4 k4
  refine Own.goto W4 d26_79 24 (by decide) (by decide) ?_
  refine Own.lloadN W4 d26_24 25 rfl (-92233720368547758 : Int64) rfl ?_
  refine Own.ldc2 W4 (tw hw 161 rfl) d26_25 28 rfl ?_
  refine Own.lcmpV W4 (v := (-1 : Int32)) d26_28 29 rfl (by decide +kernel) ?_
  refine Own.ifNo W4 d26_29 32 (by decide) rfl ?_
  refine Own.lloadN W4 d26_32 33 rfl (-92233720368547758 : Int64) rfl ?_
  refine Own.ldc2 W4 (tw hw 247 rfl) d26_33 36 rfl ?_
  refine Own.ldivV W4 (v := (-922337203685477 : Int64)) d26_36 37 rfl (by decide) (by decide +kernel) ?_
  refine Own.lstore W4 d26_37 39 rfl #[.val (.long (-92233720368547758)), .second, .val (.int (Int32.ofNat (p + 19))), .val (.ref b), .val (.long (-922337203685477)), .second, .val (.int 7), .val (.int (Int32.ofNat (p + 17))), .val (.int 0), .unset, .unset] rfl ?_
  refine Own.lload W4 d26_39 41 rfl (-922337203685477 : Int64) rfl ?_
  refine Own.ldc2 W4 (tw hw 247 rfl) d26_41 44 rfl ?_
  refine Own.lmulV W4 (v := (-92233720368547700 : Int64)) d26_44 45 rfl (by decide +kernel) ?_
  refine Own.lloadN W4 d26_45 46 rfl (-92233720368547758 : Int64) rfl ?_
  refine Own.lsubV W4 (v := (58 : Int64)) d26_46 47 rfl (by decide +kernel) ?_
  refine Own.l2iV W4 (v := (58 : Int32)) d26_47 48 rfl (by decide +kernel) ?_
  refine Own.istore W4 d26_48 50 rfl #[.val (.long (-92233720368547758)), .second, .val (.int (Int32.ofNat (p + 19))), .val (.ref b), .val (.long (-922337203685477)), .second, .val (.int 58), .val (.int (Int32.ofNat (p + 17))), .val (.int 0), .unset, .unset] rfl ?_
  refine Own.lload W4 d26_50 52 rfl (-922337203685477 : Int64) rfl ?_
  refine Own.lstoreN W4 d26_52 53 rfl #[.val (.long (-922337203685477)), .second, .val (.int (Int32.ofNat (p + 19))), .val (.ref b), .val (.long (-922337203685477)), .second, .val (.int 58), .val (.int (Int32.ofNat (p + 17))), .val (.int 0), .unset, .unset] rfl ?_
  refine Own.aloadN W4 d26_53 54 rfl (.ref b) rfl rfl ?_
  refine Own.iincD W4 (n := p + 16) d26_54 57 rfl rfl #[.val (.long (-922337203685477)), .second, .val (.int (Int32.ofNat (p + 19))), .val (.ref b), .val (.long (-922337203685477)), .second, .val (.int 58), .val (.int (Int32.ofNat (p + 16))), .val (.int 0), .unset, .unset] rfl ?_
  refine Own.iload W4 d26_57 59 rfl (Int32.ofNat (p + 16)) rfl ?_
  refine Own.getS W4 (tw hw 162 rfl) Via.refl (W4.sta SDO) d26_59 62 rfl ?_
  intro T5 W5
  refine Own.iload W5 d26_62 64 rfl 58 rfl ?_
  refine Own.digLoad W5 DG1 (v := (56 : Int32)) ⟨by decide, by decide⟩ (Own.ones_v ⟨by decide, by decide⟩ (by decide)) d26_64 65 rfl ?_
  refine Own.bst W5 (q := p + 16) (cs := [48, 55]) V4 hl (by show p + 16 + 1 + 2 ≤ cap; omega) hc hEN hn_b d26_65 66 rfl ?_
  intro T6 h6 W6 Q6 V6 k6
  refine Own.aloadN W6 d26_66 67 rfl (.ref b) rfl rfl ?_
  refine Own.iincD W6 (n := p + 15) d26_67 70 rfl rfl #[.val (.long (-922337203685477)), .second, .val (.int (Int32.ofNat (p + 19))), .val (.ref b), .val (.long (-922337203685477)), .second, .val (.int 58), .val (.int (Int32.ofNat (p + 15))), .val (.int 0), .unset, .unset] rfl ?_
  refine Own.iload W6 d26_70 72 rfl (Int32.ofNat (p + 15)) rfl ?_
  refine Own.getS W6 (tw hw 248 rfl) Via.refl (W6.sta SDT) d26_72 75 rfl ?_
  intro T7 W7
  refine Own.iload W7 d26_75 77 rfl 58 rfl ?_
  refine Own.digLoad W7 DG2 (v := (53 : Int32)) ⟨by decide, by decide⟩ (Own.tens_v ⟨by decide, by decide⟩ (by decide)) d26_77 78 rfl ?_
  refine Own.bst W7 (q := p + 15) (cs := [56, 48, 55]) V6 hl (by show p + 15 + 1 + 3 ≤ cap; omega) hc hEN hn_b d26_78 79 rfl ?_
  intro T8 h8 W8 Q8 V8 k8
  refine Own.goto W8 d26_79 24 (by decide) (by decide) ?_
  refine Own.lloadN W8 d26_24 25 rfl (-922337203685477 : Int64) rfl ?_
  refine Own.ldc2 W8 (tw hw 161 rfl) d26_25 28 rfl ?_
  refine Own.lcmpV W8 (v := (-1 : Int32)) d26_28 29 rfl (by decide +kernel) ?_
  refine Own.ifNo W8 d26_29 32 (by decide) rfl ?_
  refine Own.lloadN W8 d26_32 33 rfl (-922337203685477 : Int64) rfl ?_
  refine Own.ldc2 W8 (tw hw 247 rfl) d26_33 36 rfl ?_
  refine Own.ldivV W8 (v := (-9223372036854 : Int64)) d26_36 37 rfl (by decide) (by decide +kernel) ?_
  refine Own.lstore W8 d26_37 39 rfl #[.val (.long (-922337203685477)), .second, .val (.int (Int32.ofNat (p + 19))), .val (.ref b), .val (.long (-9223372036854)), .second, .val (.int 58), .val (.int (Int32.ofNat (p + 15))), .val (.int 0), .unset, .unset] rfl ?_
  refine Own.lload W8 d26_39 41 rfl (-9223372036854 : Int64) rfl ?_
  refine Own.ldc2 W8 (tw hw 247 rfl) d26_41 44 rfl ?_
  refine Own.lmulV W8 (v := (-922337203685400 : Int64)) d26_44 45 rfl (by decide +kernel) ?_
  refine Own.lloadN W8 d26_45 46 rfl (-922337203685477 : Int64) rfl ?_
  refine Own.lsubV W8 (v := (77 : Int64)) d26_46 47 rfl (by decide +kernel) ?_
  refine Own.l2iV W8 (v := (77 : Int32)) d26_47 48 rfl (by decide +kernel) ?_
  refine Own.istore W8 d26_48 50 rfl #[.val (.long (-922337203685477)), .second, .val (.int (Int32.ofNat (p + 19))), .val (.ref b), .val (.long (-9223372036854)), .second, .val (.int 77), .val (.int (Int32.ofNat (p + 15))), .val (.int 0), .unset, .unset] rfl ?_
  refine Own.lload W8 d26_50 52 rfl (-9223372036854 : Int64) rfl ?_
  refine Own.lstoreN W8 d26_52 53 rfl #[.val (.long (-9223372036854)), .second, .val (.int (Int32.ofNat (p + 19))), .val (.ref b), .val (.long (-9223372036854)), .second, .val (.int 77), .val (.int (Int32.ofNat (p + 15))), .val (.int 0), .unset, .unset] rfl ?_
  refine Own.aloadN W8 d26_53 54 rfl (.ref b) rfl rfl ?_
  refine Own.iincD W8 (n := p + 14) d26_54 57 rfl rfl #[.val (.long (-9223372036854)), .second, .val (.int (Int32.ofNat (p + 19))), .val (.ref b), .val (.long (-9223372036854)), .second, .val (.int 77), .val (.int (Int32.ofNat (p + 14))), .val (.int 0), .unset, .unset] rfl ?_
  refine Own.iload W8 d26_57 59 rfl (Int32.ofNat (p + 14)) rfl ?_
  refine Own.getS W8 (tw hw 162 rfl) Via.refl (W8.sta SDO) d26_59 62 rfl ?_
  intro T9 W9
  refine Own.iload W9 d26_62 64 rfl 77 rfl ?_
  refine Own.digLoad W9 DG1 (v := (55 : Int32)) ⟨by decide, by decide⟩ (Own.ones_v ⟨by decide, by decide⟩ (by decide)) d26_64 65 rfl ?_
  refine Own.bst W9 (q := p + 14) (cs := [53, 56, 48, 55]) V8 hl (by show p + 14 + 1 + 4 ≤ cap; omega) hc hEN hn_b d26_65 66 rfl ?_
  intro T10 h10 W10 Q10 V10 k10
  refine Own.aloadN W10 d26_66 67 rfl (.ref b) rfl rfl ?_
  refine Own.iincD W10 (n := p + 13) d26_67 70 rfl rfl #[.val (.long (-9223372036854)), .second, .val (.int (Int32.ofNat (p + 19))), .val (.ref b), .val (.long (-9223372036854)), .second, .val (.int 77), .val (.int (Int32.ofNat (p + 13))), .val (.int 0), .unset, .unset] rfl ?_
  refine Own.iload W10 d26_70 72 rfl (Int32.ofNat (p + 13)) rfl ?_
  refine Own.getS W10 (tw hw 248 rfl) Via.refl (W10.sta SDT) d26_72 75 rfl ?_
  intro T11 W11
  refine Own.iload W11 d26_75 77 rfl 77 rfl ?_
  refine Own.digLoad W11 DG2 (v := (55 : Int32)) ⟨by decide, by decide⟩ (Own.tens_v ⟨by decide, by decide⟩ (by decide)) d26_77 78 rfl ?_
  refine Own.bst W11 (q := p + 13) (cs := [55, 53, 56, 48, 55]) V10 hl (by show p + 13 + 1 + 5 ≤ cap; omega) hc hEN hn_b d26_78 79 rfl ?_
  intro T12 h12 W12 Q12 V12 k12
  refine Own.goto W12 d26_79 24 (by decide) (by decide) ?_
  refine Own.lloadN W12 d26_24 25 rfl (-9223372036854 : Int64) rfl ?_
  refine Own.ldc2 W12 (tw hw 161 rfl) d26_25 28 rfl ?_
  refine Own.lcmpV W12 (v := (-1 : Int32)) d26_28 29 rfl (by decide +kernel) ?_
  refine Own.ifNo W12 d26_29 32 (by decide) rfl ?_
  refine Own.lloadN W12 d26_32 33 rfl (-9223372036854 : Int64) rfl ?_
  refine Own.ldc2 W12 (tw hw 247 rfl) d26_33 36 rfl ?_
  refine Own.ldivV W12 (v := (-92233720368 : Int64)) d26_36 37 rfl (by decide) (by decide +kernel) ?_
  refine Own.lstore W12 d26_37 39 rfl #[.val (.long (-9223372036854)), .second, .val (.int (Int32.ofNat (p + 19))), .val (.ref b), .val (.long (-92233720368)), .second, .val (.int 77), .val (.int (Int32.ofNat (p + 13))), .val (.int 0), .unset, .unset] rfl ?_
  refine Own.lload W12 d26_39 41 rfl (-92233720368 : Int64) rfl ?_
  refine Own.ldc2 W12 (tw hw 247 rfl) d26_41 44 rfl ?_
  refine Own.lmulV W12 (v := (-9223372036800 : Int64)) d26_44 45 rfl (by decide +kernel) ?_
  refine Own.lloadN W12 d26_45 46 rfl (-9223372036854 : Int64) rfl ?_
  refine Own.lsubV W12 (v := (54 : Int64)) d26_46 47 rfl (by decide +kernel) ?_
  refine Own.l2iV W12 (v := (54 : Int32)) d26_47 48 rfl (by decide +kernel) ?_
  refine Own.istore W12 d26_48 50 rfl #[.val (.long (-9223372036854)), .second, .val (.int (Int32.ofNat (p + 19))), .val (.ref b), .val (.long (-92233720368)), .second, .val (.int 54), .val (.int (Int32.ofNat (p + 13))), .val (.int 0), .unset, .unset] rfl ?_
  refine Own.lload W12 d26_50 52 rfl (-92233720368 : Int64) rfl ?_
  refine Own.lstoreN W12 d26_52 53 rfl #[.val (.long (-92233720368)), .second, .val (.int (Int32.ofNat (p + 19))), .val (.ref b), .val (.long (-92233720368)), .second, .val (.int 54), .val (.int (Int32.ofNat (p + 13))), .val (.int 0), .unset, .unset] rfl ?_
  refine Own.aloadN W12 d26_53 54 rfl (.ref b) rfl rfl ?_
  refine Own.iincD W12 (n := p + 12) d26_54 57 rfl rfl #[.val (.long (-92233720368)), .second, .val (.int (Int32.ofNat (p + 19))), .val (.ref b), .val (.long (-92233720368)), .second, .val (.int 54), .val (.int (Int32.ofNat (p + 12))), .val (.int 0), .unset, .unset] rfl ?_
  refine Own.iload W12 d26_57 59 rfl (Int32.ofNat (p + 12)) rfl ?_
  refine Own.getS W12 (tw hw 162 rfl) Via.refl (W12.sta SDO) d26_59 62 rfl ?_
  intro T13 W13
  refine Own.iload W13 d26_62 64 rfl 54 rfl ?_
  refine Own.digLoad W13 DG1 (v := (52 : Int32)) ⟨by decide, by decide⟩ (Own.ones_v ⟨by decide, by decide⟩ (by decide)) d26_64 65 rfl ?_
  refine Own.bst W13 (q := p + 12) (cs := [55, 55, 53, 56, 48, 55]) V12 hl (by show p + 12 + 1 + 6 ≤ cap; omega) hc hEN hn_b d26_65 66 rfl ?_
  intro T14 h14 W14 Q14 V14 k14
  refine Own.aloadN W14 d26_66 67 rfl (.ref b) rfl rfl ?_
  refine Own.iincD W14 (n := p + 11) d26_67 70 rfl rfl #[.val (.long (-92233720368)), .second, .val (.int (Int32.ofNat (p + 19))), .val (.ref b), .val (.long (-92233720368)), .second, .val (.int 54), .val (.int (Int32.ofNat (p + 11))), .val (.int 0), .unset, .unset] rfl ?_
  refine Own.iload W14 d26_70 72 rfl (Int32.ofNat (p + 11)) rfl ?_
  refine Own.getS W14 (tw hw 248 rfl) Via.refl (W14.sta SDT) d26_72 75 rfl ?_
  intro T15 W15
  refine Own.iload W15 d26_75 77 rfl 54 rfl ?_
  refine Own.digLoad W15 DG2 (v := (53 : Int32)) ⟨by decide, by decide⟩ (Own.tens_v ⟨by decide, by decide⟩ (by decide)) d26_77 78 rfl ?_
  refine Own.bst W15 (q := p + 11) (cs := [52, 55, 55, 53, 56, 48, 55]) V14 hl (by show p + 11 + 1 + 7 ≤ cap; omega) hc hEN hn_b d26_78 79 rfl ?_
  intro T16 h16 W16 Q16 V16 k16
  refine Own.goto W16 d26_79 24 (by decide) (by decide) ?_
  refine Own.lloadN W16 d26_24 25 rfl (-92233720368 : Int64) rfl ?_
  refine Own.ldc2 W16 (tw hw 161 rfl) d26_25 28 rfl ?_
  refine Own.lcmpV W16 (v := (-1 : Int32)) d26_28 29 rfl (by decide +kernel) ?_
  refine Own.ifNo W16 d26_29 32 (by decide) rfl ?_
  refine Own.lloadN W16 d26_32 33 rfl (-92233720368 : Int64) rfl ?_
  refine Own.ldc2 W16 (tw hw 247 rfl) d26_33 36 rfl ?_
  refine Own.ldivV W16 (v := (-922337203 : Int64)) d26_36 37 rfl (by decide) (by decide +kernel) ?_
  refine Own.lstore W16 d26_37 39 rfl #[.val (.long (-92233720368)), .second, .val (.int (Int32.ofNat (p + 19))), .val (.ref b), .val (.long (-922337203)), .second, .val (.int 54), .val (.int (Int32.ofNat (p + 11))), .val (.int 0), .unset, .unset] rfl ?_
  refine Own.lload W16 d26_39 41 rfl (-922337203 : Int64) rfl ?_
  refine Own.ldc2 W16 (tw hw 247 rfl) d26_41 44 rfl ?_
  refine Own.lmulV W16 (v := (-92233720300 : Int64)) d26_44 45 rfl (by decide +kernel) ?_
  refine Own.lloadN W16 d26_45 46 rfl (-92233720368 : Int64) rfl ?_
  refine Own.lsubV W16 (v := (68 : Int64)) d26_46 47 rfl (by decide +kernel) ?_
  refine Own.l2iV W16 (v := (68 : Int32)) d26_47 48 rfl (by decide +kernel) ?_
  refine Own.istore W16 d26_48 50 rfl #[.val (.long (-92233720368)), .second, .val (.int (Int32.ofNat (p + 19))), .val (.ref b), .val (.long (-922337203)), .second, .val (.int 68), .val (.int (Int32.ofNat (p + 11))), .val (.int 0), .unset, .unset] rfl ?_
  refine Own.lload W16 d26_50 52 rfl (-922337203 : Int64) rfl ?_
  refine Own.lstoreN W16 d26_52 53 rfl #[.val (.long (-922337203)), .second, .val (.int (Int32.ofNat (p + 19))), .val (.ref b), .val (.long (-922337203)), .second, .val (.int 68), .val (.int (Int32.ofNat (p + 11))), .val (.int 0), .unset, .unset] rfl ?_
  refine Own.aloadN W16 d26_53 54 rfl (.ref b) rfl rfl ?_
  refine Own.iincD W16 (n := p + 10) d26_54 57 rfl rfl #[.val (.long (-922337203)), .second, .val (.int (Int32.ofNat (p + 19))), .val (.ref b), .val (.long (-922337203)), .second, .val (.int 68), .val (.int (Int32.ofNat (p + 10))), .val (.int 0), .unset, .unset] rfl ?_
  refine Own.iload W16 d26_57 59 rfl (Int32.ofNat (p + 10)) rfl ?_
  refine Own.getS W16 (tw hw 162 rfl) Via.refl (W16.sta SDO) d26_59 62 rfl ?_
  intro T17 W17
  refine Own.iload W17 d26_62 64 rfl 68 rfl ?_
  refine Own.digLoad W17 DG1 (v := (56 : Int32)) ⟨by decide, by decide⟩ (Own.ones_v ⟨by decide, by decide⟩ (by decide)) d26_64 65 rfl ?_
  refine Own.bst W17 (q := p + 10) (cs := [53, 52, 55, 55, 53, 56, 48, 55]) V16 hl (by show p + 10 + 1 + 8 ≤ cap; omega) hc hEN hn_b d26_65 66 rfl ?_
  intro T18 h18 W18 Q18 V18 k18
  refine Own.aloadN W18 d26_66 67 rfl (.ref b) rfl rfl ?_
  refine Own.iincD W18 (n := p + 9) d26_67 70 rfl rfl #[.val (.long (-922337203)), .second, .val (.int (Int32.ofNat (p + 19))), .val (.ref b), .val (.long (-922337203)), .second, .val (.int 68), .val (.int (Int32.ofNat (p + 9))), .val (.int 0), .unset, .unset] rfl ?_
  refine Own.iload W18 d26_70 72 rfl (Int32.ofNat (p + 9)) rfl ?_
  refine Own.getS W18 (tw hw 248 rfl) Via.refl (W18.sta SDT) d26_72 75 rfl ?_
  intro T19 W19
  refine Own.iload W19 d26_75 77 rfl 68 rfl ?_
  refine Own.digLoad W19 DG2 (v := (54 : Int32)) ⟨by decide, by decide⟩ (Own.tens_v ⟨by decide, by decide⟩ (by decide)) d26_77 78 rfl ?_
  refine Own.bst W19 (q := p + 9) (cs := [56, 53, 52, 55, 55, 53, 56, 48, 55]) V18 hl (by show p + 9 + 1 + 9 ≤ cap; omega) hc hEN hn_b d26_78 79 rfl ?_
  intro T20 h20 W20 Q20 V20 k20
  refine Own.goto W20 d26_79 24 (by decide) (by decide) ?_
  refine Own.lloadN W20 d26_24 25 rfl (-922337203 : Int64) rfl ?_
  refine Own.ldc2 W20 (tw hw 161 rfl) d26_25 28 rfl ?_
  refine Own.lcmpV W20 (v := (1 : Int32)) d26_28 29 rfl (by decide +kernel) ?_
  refine Own.ifYes W20 d26_29 82 (by decide) (by decide) (by decide) ?_
  refine Own.lloadN W20 d26_82 83 rfl (-922337203 : Int64) rfl ?_
  refine Own.l2iV W20 (v := (-922337203 : Int32)) d26_83 84 rfl (by decide +kernel) ?_
  refine Own.istore W20 d26_84 86 rfl #[.val (.long (-922337203)), .second, .val (.int (Int32.ofNat (p + 19))), .val (.ref b), .val (.long (-922337203)), .second, .val (.int 68), .val (.int (Int32.ofNat (p + 9))), .val (.int 0), .unset, .val (.int (-922337203))] rfl ?_
  refine Own.iload W20 d26_86 88 rfl (-922337203 : Int32) rfl ?_
  refine Own.bipush W20 d26_88 90 rfl (-100 : Int32) rfl ?_
  refine Own.icmpNo W20 d26_90 93 (by decide) rfl ?_
  refine Own.iload W20 d26_93 95 rfl (-922337203 : Int32) rfl ?_
  refine Own.bipush W20 d26_95 97 rfl 100 rfl ?_
  refine Own.idivV W20 (v := (-9223372 : Int32)) d26_97 98 rfl (by decide) (by decide +kernel) ?_
  refine Own.istore W20 d26_98 100 rfl #[.val (.long (-922337203)), .second, .val (.int (Int32.ofNat (p + 19))), .val (.ref b), .val (.long (-922337203)), .second, .val (.int 68), .val (.int (Int32.ofNat (p + 9))), .val (.int 0), .val (.int (-9223372)), .val (.int (-922337203))] rfl ?_
  refine Own.iload W20 d26_100 102 rfl (-9223372 : Int32) rfl ?_
  refine Own.bipush W20 d26_102 104 rfl 100 rfl ?_
  refine Own.imulV W20 (v := (-922337200 : Int32)) d26_104 105 rfl (by decide +kernel) ?_
  refine Own.iload W20 d26_105 107 rfl (-922337203 : Int32) rfl ?_
  refine Own.isubV W20 (v := (3 : Int32)) d26_107 108 rfl (by decide +kernel) ?_
  refine Own.istore W20 d26_108 110 rfl #[.val (.long (-922337203)), .second, .val (.int (Int32.ofNat (p + 19))), .val (.ref b), .val (.long (-922337203)), .second, .val (.int 3), .val (.int (Int32.ofNat (p + 9))), .val (.int 0), .val (.int (-9223372)), .val (.int (-922337203))] rfl ?_
  refine Own.iload W20 d26_110 112 rfl (-9223372 : Int32) rfl ?_
  refine Own.istore W20 d26_112 114 rfl #[.val (.long (-922337203)), .second, .val (.int (Int32.ofNat (p + 19))), .val (.ref b), .val (.long (-922337203)), .second, .val (.int 3), .val (.int (Int32.ofNat (p + 9))), .val (.int 0), .val (.int (-9223372)), .val (.int (-9223372))] rfl ?_
  refine Own.aloadN W20 d26_114 115 rfl (.ref b) rfl rfl ?_
  refine Own.iincD W20 (n := p + 8) d26_115 118 rfl rfl #[.val (.long (-922337203)), .second, .val (.int (Int32.ofNat (p + 19))), .val (.ref b), .val (.long (-922337203)), .second, .val (.int 3), .val (.int (Int32.ofNat (p + 8))), .val (.int 0), .val (.int (-9223372)), .val (.int (-9223372))] rfl ?_
  refine Own.iload W20 d26_118 120 rfl (Int32.ofNat (p + 8)) rfl ?_
  refine Own.getS W20 (tw hw 162 rfl) Via.refl (W20.sta SDO) d26_120 123 rfl ?_
  intro T21 W21
  refine Own.iload W21 d26_123 125 rfl 3 rfl ?_
  refine Own.digLoad W21 DG1 (v := (51 : Int32)) ⟨by decide, by decide⟩ (Own.ones_v ⟨by decide, by decide⟩ (by decide)) d26_125 126 rfl ?_
  refine Own.bst W21 (q := p + 8) (cs := [54, 56, 53, 52, 55, 55, 53, 56, 48, 55]) V20 hl (by show p + 8 + 1 + 10 ≤ cap; omega) hc hEN hn_b d26_126 127 rfl ?_
  intro T22 h22 W22 Q22 V22 k22
  refine Own.aloadN W22 d26_127 128 rfl (.ref b) rfl rfl ?_
  refine Own.iincD W22 (n := p + 7) d26_128 131 rfl rfl #[.val (.long (-922337203)), .second, .val (.int (Int32.ofNat (p + 19))), .val (.ref b), .val (.long (-922337203)), .second, .val (.int 3), .val (.int (Int32.ofNat (p + 7))), .val (.int 0), .val (.int (-9223372)), .val (.int (-9223372))] rfl ?_
  refine Own.iload W22 d26_131 133 rfl (Int32.ofNat (p + 7)) rfl ?_
  refine Own.getS W22 (tw hw 248 rfl) Via.refl (W22.sta SDT) d26_133 136 rfl ?_
  intro T23 W23
  refine Own.iload W23 d26_136 138 rfl 3 rfl ?_
  refine Own.digLoad W23 DG2 (v := (48 : Int32)) ⟨by decide, by decide⟩ (Own.tens_v ⟨by decide, by decide⟩ (by decide)) d26_138 139 rfl ?_
  refine Own.bst W23 (q := p + 7) (cs := [51, 54, 56, 53, 52, 55, 55, 53, 56, 48, 55]) V22 hl (by show p + 7 + 1 + 11 ≤ cap; omega) hc hEN hn_b d26_139 140 rfl ?_
  intro T24 h24 W24 Q24 V24 k24
  refine Own.goto W24 d26_140 86 (by decide) (by decide) ?_
  refine Own.iload W24 d26_86 88 rfl (-9223372 : Int32) rfl ?_
  refine Own.bipush W24 d26_88 90 rfl (-100 : Int32) rfl ?_
  refine Own.icmpNo W24 d26_90 93 (by decide) rfl ?_
  refine Own.iload W24 d26_93 95 rfl (-9223372 : Int32) rfl ?_
  refine Own.bipush W24 d26_95 97 rfl 100 rfl ?_
  refine Own.idivV W24 (v := (-92233 : Int32)) d26_97 98 rfl (by decide) (by decide +kernel) ?_
  refine Own.istore W24 d26_98 100 rfl #[.val (.long (-922337203)), .second, .val (.int (Int32.ofNat (p + 19))), .val (.ref b), .val (.long (-922337203)), .second, .val (.int 3), .val (.int (Int32.ofNat (p + 7))), .val (.int 0), .val (.int (-92233)), .val (.int (-9223372))] rfl ?_
  refine Own.iload W24 d26_100 102 rfl (-92233 : Int32) rfl ?_
  refine Own.bipush W24 d26_102 104 rfl 100 rfl ?_
  refine Own.imulV W24 (v := (-9223300 : Int32)) d26_104 105 rfl (by decide +kernel) ?_
  refine Own.iload W24 d26_105 107 rfl (-9223372 : Int32) rfl ?_
  refine Own.isubV W24 (v := (72 : Int32)) d26_107 108 rfl (by decide +kernel) ?_
  refine Own.istore W24 d26_108 110 rfl #[.val (.long (-922337203)), .second, .val (.int (Int32.ofNat (p + 19))), .val (.ref b), .val (.long (-922337203)), .second, .val (.int 72), .val (.int (Int32.ofNat (p + 7))), .val (.int 0), .val (.int (-92233)), .val (.int (-9223372))] rfl ?_
  refine Own.iload W24 d26_110 112 rfl (-92233 : Int32) rfl ?_
  refine Own.istore W24 d26_112 114 rfl #[.val (.long (-922337203)), .second, .val (.int (Int32.ofNat (p + 19))), .val (.ref b), .val (.long (-922337203)), .second, .val (.int 72), .val (.int (Int32.ofNat (p + 7))), .val (.int 0), .val (.int (-92233)), .val (.int (-92233))] rfl ?_
  refine Own.aloadN W24 d26_114 115 rfl (.ref b) rfl rfl ?_
  refine Own.iincD W24 (n := p + 6) d26_115 118 rfl rfl #[.val (.long (-922337203)), .second, .val (.int (Int32.ofNat (p + 19))), .val (.ref b), .val (.long (-922337203)), .second, .val (.int 72), .val (.int (Int32.ofNat (p + 6))), .val (.int 0), .val (.int (-92233)), .val (.int (-92233))] rfl ?_
  refine Own.iload W24 d26_118 120 rfl (Int32.ofNat (p + 6)) rfl ?_
  refine Own.getS W24 (tw hw 162 rfl) Via.refl (W24.sta SDO) d26_120 123 rfl ?_
  intro T25 W25
  refine Own.iload W25 d26_123 125 rfl 72 rfl ?_
  refine Own.digLoad W25 DG1 (v := (50 : Int32)) ⟨by decide, by decide⟩ (Own.ones_v ⟨by decide, by decide⟩ (by decide)) d26_125 126 rfl ?_
  refine Own.bst W25 (q := p + 6) (cs := [48, 51, 54, 56, 53, 52, 55, 55, 53, 56, 48, 55]) V24 hl (by show p + 6 + 1 + 12 ≤ cap; omega) hc hEN hn_b d26_126 127 rfl ?_
  intro T26 h26 W26 Q26 V26 k26
  refine Own.aloadN W26 d26_127 128 rfl (.ref b) rfl rfl ?_
  refine Own.iincD W26 (n := p + 5) d26_128 131 rfl rfl #[.val (.long (-922337203)), .second, .val (.int (Int32.ofNat (p + 19))), .val (.ref b), .val (.long (-922337203)), .second, .val (.int 72), .val (.int (Int32.ofNat (p + 5))), .val (.int 0), .val (.int (-92233)), .val (.int (-92233))] rfl ?_
  refine Own.iload W26 d26_131 133 rfl (Int32.ofNat (p + 5)) rfl ?_
  refine Own.getS W26 (tw hw 248 rfl) Via.refl (W26.sta SDT) d26_133 136 rfl ?_
  intro T27 W27
  refine Own.iload W27 d26_136 138 rfl 72 rfl ?_
  refine Own.digLoad W27 DG2 (v := (55 : Int32)) ⟨by decide, by decide⟩ (Own.tens_v ⟨by decide, by decide⟩ (by decide)) d26_138 139 rfl ?_
  refine Own.bst W27 (q := p + 5) (cs := [50, 48, 51, 54, 56, 53, 52, 55, 55, 53, 56, 48, 55]) V26 hl (by show p + 5 + 1 + 13 ≤ cap; omega) hc hEN hn_b d26_139 140 rfl ?_
  intro T28 h28 W28 Q28 V28 k28
  refine Own.goto W28 d26_140 86 (by decide) (by decide) ?_
  refine Own.iload W28 d26_86 88 rfl (-92233 : Int32) rfl ?_
  refine Own.bipush W28 d26_88 90 rfl (-100 : Int32) rfl ?_
  refine Own.icmpNo W28 d26_90 93 (by decide) rfl ?_
  refine Own.iload W28 d26_93 95 rfl (-92233 : Int32) rfl ?_
  refine Own.bipush W28 d26_95 97 rfl 100 rfl ?_
  refine Own.idivV W28 (v := (-922 : Int32)) d26_97 98 rfl (by decide) (by decide +kernel) ?_
  refine Own.istore W28 d26_98 100 rfl #[.val (.long (-922337203)), .second, .val (.int (Int32.ofNat (p + 19))), .val (.ref b), .val (.long (-922337203)), .second, .val (.int 72), .val (.int (Int32.ofNat (p + 5))), .val (.int 0), .val (.int (-922)), .val (.int (-92233))] rfl ?_
  refine Own.iload W28 d26_100 102 rfl (-922 : Int32) rfl ?_
  refine Own.bipush W28 d26_102 104 rfl 100 rfl ?_
  refine Own.imulV W28 (v := (-92200 : Int32)) d26_104 105 rfl (by decide +kernel) ?_
  refine Own.iload W28 d26_105 107 rfl (-92233 : Int32) rfl ?_
  refine Own.isubV W28 (v := (33 : Int32)) d26_107 108 rfl (by decide +kernel) ?_
  refine Own.istore W28 d26_108 110 rfl #[.val (.long (-922337203)), .second, .val (.int (Int32.ofNat (p + 19))), .val (.ref b), .val (.long (-922337203)), .second, .val (.int 33), .val (.int (Int32.ofNat (p + 5))), .val (.int 0), .val (.int (-922)), .val (.int (-92233))] rfl ?_
  refine Own.iload W28 d26_110 112 rfl (-922 : Int32) rfl ?_
  refine Own.istore W28 d26_112 114 rfl #[.val (.long (-922337203)), .second, .val (.int (Int32.ofNat (p + 19))), .val (.ref b), .val (.long (-922337203)), .second, .val (.int 33), .val (.int (Int32.ofNat (p + 5))), .val (.int 0), .val (.int (-922)), .val (.int (-922))] rfl ?_
  refine Own.aloadN W28 d26_114 115 rfl (.ref b) rfl rfl ?_
  refine Own.iincD W28 (n := p + 4) d26_115 118 rfl rfl #[.val (.long (-922337203)), .second, .val (.int (Int32.ofNat (p + 19))), .val (.ref b), .val (.long (-922337203)), .second, .val (.int 33), .val (.int (Int32.ofNat (p + 4))), .val (.int 0), .val (.int (-922)), .val (.int (-922))] rfl ?_
  refine Own.iload W28 d26_118 120 rfl (Int32.ofNat (p + 4)) rfl ?_
  refine Own.getS W28 (tw hw 162 rfl) Via.refl (W28.sta SDO) d26_120 123 rfl ?_
  intro T29 W29
  refine Own.iload W29 d26_123 125 rfl 33 rfl ?_
  refine Own.digLoad W29 DG1 (v := (51 : Int32)) ⟨by decide, by decide⟩ (Own.ones_v ⟨by decide, by decide⟩ (by decide)) d26_125 126 rfl ?_
  refine Own.bst W29 (q := p + 4) (cs := [55, 50, 48, 51, 54, 56, 53, 52, 55, 55, 53, 56, 48, 55]) V28 hl (by show p + 4 + 1 + 14 ≤ cap; omega) hc hEN hn_b d26_126 127 rfl ?_
  intro T30 h30 W30 Q30 V30 k30
  refine Own.aloadN W30 d26_127 128 rfl (.ref b) rfl rfl ?_
  refine Own.iincD W30 (n := p + 3) d26_128 131 rfl rfl #[.val (.long (-922337203)), .second, .val (.int (Int32.ofNat (p + 19))), .val (.ref b), .val (.long (-922337203)), .second, .val (.int 33), .val (.int (Int32.ofNat (p + 3))), .val (.int 0), .val (.int (-922)), .val (.int (-922))] rfl ?_
  refine Own.iload W30 d26_131 133 rfl (Int32.ofNat (p + 3)) rfl ?_
  refine Own.getS W30 (tw hw 248 rfl) Via.refl (W30.sta SDT) d26_133 136 rfl ?_
  intro T31 W31
  refine Own.iload W31 d26_136 138 rfl 33 rfl ?_
  refine Own.digLoad W31 DG2 (v := (51 : Int32)) ⟨by decide, by decide⟩ (Own.tens_v ⟨by decide, by decide⟩ (by decide)) d26_138 139 rfl ?_
  refine Own.bst W31 (q := p + 3) (cs := [51, 55, 50, 48, 51, 54, 56, 53, 52, 55, 55, 53, 56, 48, 55]) V30 hl (by show p + 3 + 1 + 15 ≤ cap; omega) hc hEN hn_b d26_139 140 rfl ?_
  intro T32 h32 W32 Q32 V32 k32
  refine Own.goto W32 d26_140 86 (by decide) (by decide) ?_
  refine Own.iload W32 d26_86 88 rfl (-922 : Int32) rfl ?_
  refine Own.bipush W32 d26_88 90 rfl (-100 : Int32) rfl ?_
  refine Own.icmpNo W32 d26_90 93 (by decide) rfl ?_
  refine Own.iload W32 d26_93 95 rfl (-922 : Int32) rfl ?_
  refine Own.bipush W32 d26_95 97 rfl 100 rfl ?_
  refine Own.idivV W32 (v := (-9 : Int32)) d26_97 98 rfl (by decide) (by decide +kernel) ?_
  refine Own.istore W32 d26_98 100 rfl #[.val (.long (-922337203)), .second, .val (.int (Int32.ofNat (p + 19))), .val (.ref b), .val (.long (-922337203)), .second, .val (.int 33), .val (.int (Int32.ofNat (p + 3))), .val (.int 0), .val (.int (-9)), .val (.int (-922))] rfl ?_
  refine Own.iload W32 d26_100 102 rfl (-9 : Int32) rfl ?_
  refine Own.bipush W32 d26_102 104 rfl 100 rfl ?_
  refine Own.imulV W32 (v := (-900 : Int32)) d26_104 105 rfl (by decide +kernel) ?_
  refine Own.iload W32 d26_105 107 rfl (-922 : Int32) rfl ?_
  refine Own.isubV W32 (v := (22 : Int32)) d26_107 108 rfl (by decide +kernel) ?_
  refine Own.istore W32 d26_108 110 rfl #[.val (.long (-922337203)), .second, .val (.int (Int32.ofNat (p + 19))), .val (.ref b), .val (.long (-922337203)), .second, .val (.int 22), .val (.int (Int32.ofNat (p + 3))), .val (.int 0), .val (.int (-9)), .val (.int (-922))] rfl ?_
  refine Own.iload W32 d26_110 112 rfl (-9 : Int32) rfl ?_
  refine Own.istore W32 d26_112 114 rfl #[.val (.long (-922337203)), .second, .val (.int (Int32.ofNat (p + 19))), .val (.ref b), .val (.long (-922337203)), .second, .val (.int 22), .val (.int (Int32.ofNat (p + 3))), .val (.int 0), .val (.int (-9)), .val (.int (-9))] rfl ?_
  refine Own.aloadN W32 d26_114 115 rfl (.ref b) rfl rfl ?_
  refine Own.iincD W32 (n := p + 2) d26_115 118 rfl rfl #[.val (.long (-922337203)), .second, .val (.int (Int32.ofNat (p + 19))), .val (.ref b), .val (.long (-922337203)), .second, .val (.int 22), .val (.int (Int32.ofNat (p + 2))), .val (.int 0), .val (.int (-9)), .val (.int (-9))] rfl ?_
  refine Own.iload W32 d26_118 120 rfl (Int32.ofNat (p + 2)) rfl ?_
  refine Own.getS W32 (tw hw 162 rfl) Via.refl (W32.sta SDO) d26_120 123 rfl ?_
  intro T33 W33
  refine Own.iload W33 d26_123 125 rfl 22 rfl ?_
  refine Own.digLoad W33 DG1 (v := (50 : Int32)) ⟨by decide, by decide⟩ (Own.ones_v ⟨by decide, by decide⟩ (by decide)) d26_125 126 rfl ?_
  refine Own.bst W33 (q := p + 2) (cs := [51, 51, 55, 50, 48, 51, 54, 56, 53, 52, 55, 55, 53, 56, 48, 55]) V32 hl (by show p + 2 + 1 + 16 ≤ cap; omega) hc hEN hn_b d26_126 127 rfl ?_
  intro T34 h34 W34 Q34 V34 k34
  refine Own.aloadN W34 d26_127 128 rfl (.ref b) rfl rfl ?_
  refine Own.iincD W34 (n := p + 1) d26_128 131 rfl rfl #[.val (.long (-922337203)), .second, .val (.int (Int32.ofNat (p + 19))), .val (.ref b), .val (.long (-922337203)), .second, .val (.int 22), .val (.int (Int32.ofNat (p + 1))), .val (.int 0), .val (.int (-9)), .val (.int (-9))] rfl ?_
  refine Own.iload W34 d26_131 133 rfl (Int32.ofNat (p + 1)) rfl ?_
  refine Own.getS W34 (tw hw 248 rfl) Via.refl (W34.sta SDT) d26_133 136 rfl ?_
  intro T35 W35
  refine Own.iload W35 d26_136 138 rfl 22 rfl ?_
  refine Own.digLoad W35 DG2 (v := (50 : Int32)) ⟨by decide, by decide⟩ (Own.tens_v ⟨by decide, by decide⟩ (by decide)) d26_138 139 rfl ?_
  refine Own.bst W35 (q := p + 1) (cs := [50, 51, 51, 55, 50, 48, 51, 54, 56, 53, 52, 55, 55, 53, 56, 48, 55]) V34 hl (by show p + 1 + 1 + 17 ≤ cap; omega) hc hEN hn_b d26_139 140 rfl ?_
  intro T36 h36 W36 Q36 V36 k36
  refine Own.goto W36 d26_140 86 (by decide) (by decide) ?_
  refine Own.iload W36 d26_86 88 rfl (-9 : Int32) rfl ?_
  refine Own.bipush W36 d26_88 90 rfl (-100 : Int32) rfl ?_
  refine Own.icmpYes W36 d26_90 143 (by decide) (by decide) (by decide) ?_
  refine Own.aloadN W36 d26_143 144 rfl (.ref b) rfl rfl ?_
  refine Own.iincD W36 (n := p + 0) d26_144 147 rfl rfl #[.val (.long (-922337203)), .second, .val (.int (Int32.ofNat (p + 19))), .val (.ref b), .val (.long (-922337203)), .second, .val (.int 22), .val (.int (Int32.ofNat (p + 0))), .val (.int 0), .val (.int (-9)), .val (.int (-9))] rfl ?_
  refine Own.iload W36 d26_147 149 rfl (Int32.ofNat (p + 0)) rfl ?_
  refine Own.getS W36 (tw hw 162 rfl) Via.refl (W36.sta SDO) d26_149 152 rfl ?_
  intro T37 W37
  refine Own.iload W37 d26_152 154 rfl (-9 : Int32) rfl ?_
  refine Own.inegV W37 (v := (9 : Int32)) d26_154 155 rfl (by decide +kernel) ?_
  refine Own.digLoad W37 DG1 (v := (57 : Int32)) ⟨by decide, by decide⟩ (Own.ones_v ⟨by decide, by decide⟩ (by decide)) d26_155 156 rfl ?_
  refine Own.bst W37 (q := p + 0) (cs := [50, 50, 51, 51, 55, 50, 48, 51, 54, 56, 53, 52, 55, 55, 53, 56, 48, 55]) V36 hl (by show p + 0 + 1 + 18 ≤ cap; omega) hc hEN hn_b d26_156 157 rfl ?_
  intro T38 h38 W38 Q38 V38 k38
  refine Own.iload W38 d26_157 159 rfl (-9 : Int32) rfl ?_
  refine Own.bipush W38 d26_159 161 rfl (-9 : Int32) rfl ?_
  refine Own.icmpYes W38 d26_161 178 (by decide) (by decide) (by decide) ?_
  refine Own.iload W38 d26_178 180 rfl 0 rfl ?_
  refine Own.ifYes W38 d26_180 192 (by decide) (by decide) (by decide) ?_
  refine Own.iload W38 d26_192 194 rfl (Int32.ofNat (p + 0)) rfl ?_
  exact Own.retI W38 (by decide) (by decide) rfl d26_194 ⟨⟨_, rfl⟩, (Keep.wr (Keep.wr (Keep.wr (Keep.wr (Keep.wr (Keep.wr (Keep.wr (Keep.wr (Keep.wr (Keep.wr (Keep.wr (Keep.wr (Keep.wr (Keep.wr (Keep.wr (Keep.wr (Keep.wr (Keep.wr (Keep.wr (Keep.refl h [b]) Q2 (Or.inl (by simp))) Q4 (Or.inl (by simp))) Q6 (Or.inl (by simp))) Q8 (Or.inl (by simp))) Q10 (Or.inl (by simp))) Q12 (Or.inl (by simp))) Q14 (Or.inl (by simp))) Q16 (Or.inl (by simp))) Q18 (Or.inl (by simp))) Q20 (Or.inl (by simp))) Q22 (Or.inl (by simp))) Q24 (Or.inl (by simp))) Q26 (Or.inl (by simp))) Q28 (Or.inl (by simp))) Q30 (Or.inl (by simp))) Q32 (Or.inl (by simp))) Q34 (Or.inl (by simp))) Q36 (Or.inl (by simp))) Q38 (Or.inl (by simp))), V38⟩
theorem lt_max {G : Own.Gl} (hw : ∀ d ∈ tables_1, d.before G.a0 G.Z = true) (hEL : EW G.Z G.a0 G.EL) {dg1 : Addr} {kg1 : ClassId} (SDO : Sta G.Z G.Z.heap "java/lang/Integer" "DigitOnes" "[B" (.ref dg1)) (DG1 : Arv G.Z G.Z.heap dg1 kg1 .byte 100 (Own.digL Own.onesF) (.int 0)) {dg2 : Addr} {kg2 : ClassId} (SDT : Sta G.Z G.Z.heap "java/lang/Integer" "DigitTens" "[B" (.ref dg2)) (DG2 : Arv G.Z G.Z.heap dg2 kg2 .byte 100 (Own.digL Own.tensF) (.int 0)) : LT G (9223372036854775807 : Int64) [57, 50, 50, 51, 51, 55, 50, 48, 51, 54, 56, 53, 52, 55, 55, 53, 56, 48, 55] := ⟨by decide, fun hO => con_ss_max hw hEL rfl hO, fun hO hEN hc hp hb A hl => con_gc_max hw hEL SDO DG1 SDT DG2 hEN hc hp hb hO A hl rfl rfl⟩
set_option maxRecDepth 65536 in
set_option maxHeartbeats 40000000 in
theorem con_ss_m1 {G : Own.Gl} (hw : ∀ d ∈ tables_1, d.before G.a0 G.Z = true) (hEL : EW G.Z G.a0 G.EL) {x : Int64} (hx : x = (-1 : Int64)) {h : Heap} (hO : Old G.Z G.n0 h) :
    Own.Con G [] bSs #[.long x] h [] (fun v h' => v = some (.int (Int32.ofNat 2)) ∧ h' = h) := by
  refine Own.Con.intro (plainFor_of_name pn_1) hO hEL _ (fun m => ef_bSs m x) ?_
  intro X T0 W0 sf
  subst hx
  refine Own.iconst W0 d24_0 1 rfl 1 rfl ?_
  refine Own.istoreN W0 d24_1 2 rfl #[.val (.long (-1)), .second, .val (.int 1), .unset, .unset, .unset] rfl ?_
  refine Own.lloadN W0 d24_2 3 rfl (-1 : Int64) rfl ?_
  refine Own.lconst W0 d24_3 4 rfl (0 : Int64) rfl ?_
  refine Own.lcmpV W0 (v := (-1 : Int32)) d24_4 5 rfl (by decide +kernel) ?_
  refine Own.ifYes W0 d24_5 13 (by decide) (by decide) (by decide) ?_
  refine Own.ldc2 W0 (tw hw 152 rfl) d24_13 16 rfl ?_
  refine Own.lstoreN W0 d24_16 17 rfl #[.val (.long (-1)), .second, .val (.int 1), .val (.long (-10)), .second, .unset] rfl ?_
  refine Own.iconst W0 d24_17 18 rfl 1 rfl ?_
  refine Own.istore W0 d24_18 20 rfl #[.val (.long (-1)), .second, .val (.int 1), .val (.long (-10)), .second, .val (.int 1)] rfl ?_
  refine Own.iload W0 d24_20 22 rfl 1 rfl ?_
  refine Own.bipush W0 d24_22 24 rfl 19 rfl ?_
  refine Own.icmpNo W0 d24_24 27 (by decide) rfl ?_
  refine Own.lloadN W0 d24_27 28 rfl (-1 : Int64) rfl ?_
  refine Own.lloadN W0 d24_28 29 rfl (-10 : Int64) rfl ?_
  refine Own.lcmpV W0 (v := (1 : Int32)) d24_29 30 rfl (by decide +kernel) ?_
  refine Own.ifNo W0 d24_30 33 (by decide) rfl ?_
  refine Own.iload W0 d24_33 35 rfl 1 rfl ?_
  refine Own.iloadN W0 d24_35 36 rfl 1 rfl ?_
  refine Own.iadd W0 d24_36 37 rfl ?_
  exact Own.retI W0 (by decide) (by decide) rfl d24_37 ⟨rfl, rfl⟩
set_option maxRecDepth 65536 in
set_option maxHeartbeats 40000000 in
theorem con_gc_m1 {G : Own.Gl} (hw : ∀ d ∈ tables_1, d.before G.a0 G.Z = true) (hEL : EW G.Z G.a0 G.EL) {dg1 : Addr} {kg1 : ClassId} (SDO : Sta G.Z G.Z.heap "java/lang/Integer" "DigitOnes" "[B" (.ref dg1)) (DG1 : Arv G.Z G.Z.heap dg1 kg1 .byte 100 (Own.digL Own.onesF) (.int 0)) {dg2 : Addr} {kg2 : ClassId} (SDT : Sta G.Z G.Z.heap "java/lang/Integer" "DigitTens" "[B" (.ref dg2)) (DG2 : Arv G.Z G.Z.heap dg2 kg2 .byte 100 (Own.digL Own.tensF) (.int 0)) {cap p : Nat} (hEN : Own.EN G.Z G.a0 G.EL cap) (hc : cap ≤ 4000) (hp : p + 2 ≤ cap) {b : Addr} (hn_b : G.n0 ≤ b) {kb : ClassId} {vs : List Value} {h : Heap} (hO : Old G.Z G.n0 h) (A : Arv G.Z h b kb .byte (Int32.ofNat cap) vs (.int 0)) (hl : vs.length = cap) {x : Int64} {ix : Int32} (hx : x = (-1 : Int64)) (hix : ix = Int32.ofNat (p + 2)) :
    Own.Con G [] bGc #[.long x, .int ix, .ref b] h [] (fun v h' => (∃ r : Int32, v = some (.int r)) ∧ Keep h h' [b] ∧ Arv G.Z h' b kb .byte (Int32.ofNat cap) (Own.mid vs p [45, 49]) (.int 0)) := by
  refine Own.Con.intro (plainFor_of_name pn_1) hO hEL _ (fun m => ef_bGc m x ix b) ?_
  intro X T0 W0 sf
  subst hx; subst hix
  have V0 : Arv G.Z h b kb .byte (Int32.ofNat cap) (Own.mid vs (p + 2) []) (.int 0) := by rw [Own.mid_nil]; exact A
  refine Own.iloadN W0 d26_0 1 rfl (Int32.ofNat (p + 2)) rfl ?_
  refine Own.istore W0 d26_1 3 rfl #[.val (.long (-1)), .second, .val (.int (Int32.ofNat (p + 2))), .val (.ref b), .unset, .unset, .unset, .val (.int (Int32.ofNat (p + 2))), .unset, .unset, .unset] rfl ?_
  refine Own.lloadN W0 d26_3 4 rfl (-1 : Int64) rfl ?_
  refine Own.lconst W0 d26_4 5 rfl (0 : Int64) rfl ?_
  refine Own.lcmpV W0 (v := (-1 : Int32)) d26_5 6 rfl (by decide +kernel) ?_
  refine Own.ifNo W0 d26_6 9 (by decide) rfl ?_
  refine Own.iconst W0 d26_9 10 rfl 1 rfl ?_
  refine Own.goto W0 d26_10 14 (by decide) (by decide) ?_
  refine Own.istore W0 d26_14 16 rfl #[.val (.long (-1)), .second, .val (.int (Int32.ofNat (p + 2))), .val (.ref b), .unset, .unset, .unset, .val (.int (Int32.ofNat (p + 2))), .val (.int 1), .unset, .unset] rfl ?_
  refine Own.iload W0 d26_16 18 rfl 1 rfl ?_
  refine Own.ifYes W0 d26_18 24 (by decide) (by decide) (by decide) ?_
  refine Own.lloadN W0 d26_24 25 rfl (-1 : Int64) rfl ?_
  refine Own.ldc2 W0 (tw hw 161 rfl) d26_25 28 rfl ?_
  refine Own.lcmpV W0 (v := (1 : Int32)) d26_28 29 rfl (by decide +kernel) ?_
  refine Own.ifYes W0 d26_29 82 (by decide) (by decide) (by decide) ?_
  refine Own.lloadN W0 d26_82 83 rfl (-1 : Int64) rfl ?_
  refine Own.l2iV W0 (v := (-1 : Int32)) d26_83 84 rfl (by decide +kernel) ?_
  refine Own.istore W0 d26_84 86 rfl #[.val (.long (-1)), .second, .val (.int (Int32.ofNat (p + 2))), .val (.ref b), .unset, .unset, .unset, .val (.int (Int32.ofNat (p + 2))), .val (.int 1), .unset, .val (.int (-1))] rfl ?_
  refine Own.iload W0 d26_86 88 rfl (-1 : Int32) rfl ?_
  refine Own.bipush W0 d26_88 90 rfl (-100 : Int32) rfl ?_
  refine Own.icmpYes W0 d26_90 143 (by decide) (by decide) (by decide) ?_
  refine Own.aloadN W0 d26_143 144 rfl (.ref b) rfl rfl ?_
  refine Own.iincD W0 (n := p + 1) d26_144 147 rfl rfl #[.val (.long (-1)), .second, .val (.int (Int32.ofNat (p + 2))), .val (.ref b), .unset, .unset, .unset, .val (.int (Int32.ofNat (p + 1))), .val (.int 1), .unset, .val (.int (-1))] rfl ?_
  refine Own.iload W0 d26_147 149 rfl (Int32.ofNat (p + 1)) rfl ?_
  refine Own.getS W0 (tw hw 162 rfl) Via.refl (W0.sta SDO) d26_149 152 rfl ?_
  intro T1 W1
  refine Own.iload W1 d26_152 154 rfl (-1 : Int32) rfl ?_
  refine Own.inegV W1 (v := (1 : Int32)) d26_154 155 rfl (by decide +kernel) ?_
  refine Own.digLoad W1 DG1 (v := (49 : Int32)) ⟨by decide, by decide⟩ (Own.ones_v ⟨by decide, by decide⟩ (by decide)) d26_155 156 rfl ?_
  refine Own.bst W1 (q := p + 1) (cs := []) V0 hl (by show p + 1 + 1 + 0 ≤ cap; omega) hc hEN hn_b d26_156 157 rfl ?_
  intro T2 h2 W2 Q2 V2 k2
  refine Own.iload W2 d26_157 159 rfl (-1 : Int32) rfl ?_
  refine Own.bipush W2 d26_159 161 rfl (-9 : Int32) rfl ?_
  refine Own.icmpYes W2 d26_161 178 (by decide) (by decide) (by decide) ?_
  refine Own.iload W2 d26_178 180 rfl 1 rfl ?_
  refine Own.ifNo W2 d26_180 183 (by decide) rfl ?_
  refine Own.aloadN W2 d26_183 184 rfl (.ref b) rfl rfl ?_
  refine Own.iincD W2 (n := p + 0) d26_184 187 rfl rfl #[.val (.long (-1)), .second, .val (.int (Int32.ofNat (p + 2))), .val (.ref b), .unset, .unset, .unset, .val (.int (Int32.ofNat (p + 0))), .val (.int 1), .unset, .val (.int (-1))] rfl ?_
  refine Own.iload W2 d26_187 189 rfl (Int32.ofNat (p + 0)) rfl ?_
  refine Own.bipush W2 d26_189 191 rfl 45 rfl ?_
  refine Own.bst W2 (q := p + 0) (cs := [49]) V2 hl (by show p + 0 + 1 + 1 ≤ cap; omega) hc hEN hn_b d26_191 192 rfl ?_
  intro T3 h3 W3 Q3 V3 k3
  refine Own.iload W3 d26_192 194 rfl (Int32.ofNat (p + 0)) rfl ?_
  exact Own.retI W3 (by decide) (by decide) rfl d26_194 ⟨⟨_, rfl⟩, (Keep.wr (Keep.wr (Keep.refl h [b]) Q2 (Or.inl (by simp))) Q3 (Or.inl (by simp))), V3⟩
theorem lt_m1 {G : Own.Gl} (hw : ∀ d ∈ tables_1, d.before G.a0 G.Z = true) (hEL : EW G.Z G.a0 G.EL) {dg1 : Addr} {kg1 : ClassId} (SDO : Sta G.Z G.Z.heap "java/lang/Integer" "DigitOnes" "[B" (.ref dg1)) (DG1 : Arv G.Z G.Z.heap dg1 kg1 .byte 100 (Own.digL Own.onesF) (.int 0)) {dg2 : Addr} {kg2 : ClassId} (SDT : Sta G.Z G.Z.heap "java/lang/Integer" "DigitTens" "[B" (.ref dg2)) (DG2 : Arv G.Z G.Z.heap dg2 kg2 .byte 100 (Own.digL Own.tensF) (.int 0)) : LT G (-1 : Int64) [45, 49] := ⟨by decide, fun hO => con_ss_m1 hw hEL rfl hO, fun hO hEN hc hp hb A hl => con_gc_m1 hw hEL SDO DG1 SDT DG2 hEN hc hp hb hO A hl rfl rfl⟩
set_option maxRecDepth 65536 in
set_option maxHeartbeats 40000000 in
theorem con_ss_i31 {G : Own.Gl} (hw : ∀ d ∈ tables_1, d.before G.a0 G.Z = true) (hEL : EW G.Z G.a0 G.EL) {x : Int64} (hx : x = (2147483648 : Int64)) {h : Heap} (hO : Old G.Z G.n0 h) :
    Own.Con G [] bSs #[.long x] h [] (fun v h' => v = some (.int (Int32.ofNat 10)) ∧ h' = h) := by
  refine Own.Con.intro (plainFor_of_name pn_1) hO hEL _ (fun m => ef_bSs m x) ?_
  intro X T0 W0 sf
  subst hx
  refine Own.iconst W0 d24_0 1 rfl 1 rfl ?_
  refine Own.istoreN W0 d24_1 2 rfl #[.val (.long 2147483648), .second, .val (.int 1), .unset, .unset, .unset] rfl ?_
  refine Own.lloadN W0 d24_2 3 rfl (2147483648 : Int64) rfl ?_
  refine Own.lconst W0 d24_3 4 rfl (0 : Int64) rfl ?_
  refine Own.lcmpV W0 (v := (1 : Int32)) d24_4 5 rfl (by decide +kernel) ?_
  refine Own.ifNo W0 d24_5 8 (by decide) rfl ?_
  refine Own.iconst W0 d24_8 9 rfl 0 rfl ?_
  refine Own.istoreN W0 d24_9 10 rfl #[.val (.long 2147483648), .second, .val (.int 0), .unset, .unset, .unset] rfl ?_
  refine Own.lloadN W0 d24_10 11 rfl (2147483648 : Int64) rfl ?_
  refine Own.lnegV W0 (v := (-2147483648 : Int64)) d24_11 12 rfl (by decide +kernel) ?_
  refine Own.lstoreN W0 d24_12 13 rfl #[.val (.long (-2147483648)), .second, .val (.int 0), .unset, .unset, .unset] rfl ?_
  refine Own.ldc2 W0 (tw hw 152 rfl) d24_13 16 rfl ?_
  refine Own.lstoreN W0 d24_16 17 rfl #[.val (.long (-2147483648)), .second, .val (.int 0), .val (.long (-10)), .second, .unset] rfl ?_
  refine Own.iconst W0 d24_17 18 rfl 1 rfl ?_
  refine Own.istore W0 d24_18 20 rfl #[.val (.long (-2147483648)), .second, .val (.int 0), .val (.long (-10)), .second, .val (.int 1)] rfl ?_
  refine Own.iload W0 d24_20 22 rfl 1 rfl ?_
  refine Own.bipush W0 d24_22 24 rfl 19 rfl ?_
  refine Own.icmpNo W0 d24_24 27 (by decide) rfl ?_
  refine Own.lloadN W0 d24_27 28 rfl (-2147483648 : Int64) rfl ?_
  refine Own.lloadN W0 d24_28 29 rfl (-10 : Int64) rfl ?_
  refine Own.lcmpV W0 (v := (-1 : Int32)) d24_29 30 rfl (by decide +kernel) ?_
  refine Own.ifYes W0 d24_30 38 (by decide) (by decide) (by decide) ?_
  refine Own.ldc2 W0 (tw hw 246 rfl) d24_38 41 rfl ?_
  refine Own.lloadN W0 d24_41 42 rfl (-10 : Int64) rfl ?_
  refine Own.lmulV W0 (v := (-100 : Int64)) d24_42 43 rfl (by decide +kernel) ?_
  refine Own.lstoreN W0 d24_43 44 rfl #[.val (.long (-2147483648)), .second, .val (.int 0), .val (.long (-100)), .second, .val (.int 1)] rfl ?_
  refine Own.iinc W0 d24_44 47 rfl rfl #[.val (.long (-2147483648)), .second, .val (.int 0), .val (.long (-100)), .second, .val (.int 2)] rfl ?_
  refine Own.goto W0 d24_47 20 (by decide) (by decide) ?_
  refine Own.iload W0 d24_20 22 rfl 2 rfl ?_
  refine Own.bipush W0 d24_22 24 rfl 19 rfl ?_
  refine Own.icmpNo W0 d24_24 27 (by decide) rfl ?_
  refine Own.lloadN W0 d24_27 28 rfl (-2147483648 : Int64) rfl ?_
  refine Own.lloadN W0 d24_28 29 rfl (-100 : Int64) rfl ?_
  refine Own.lcmpV W0 (v := (-1 : Int32)) d24_29 30 rfl (by decide +kernel) ?_
  refine Own.ifYes W0 d24_30 38 (by decide) (by decide) (by decide) ?_
  refine Own.ldc2 W0 (tw hw 246 rfl) d24_38 41 rfl ?_
  refine Own.lloadN W0 d24_41 42 rfl (-100 : Int64) rfl ?_
  refine Own.lmulV W0 (v := (-1000 : Int64)) d24_42 43 rfl (by decide +kernel) ?_
  refine Own.lstoreN W0 d24_43 44 rfl #[.val (.long (-2147483648)), .second, .val (.int 0), .val (.long (-1000)), .second, .val (.int 2)] rfl ?_
  refine Own.iinc W0 d24_44 47 rfl rfl #[.val (.long (-2147483648)), .second, .val (.int 0), .val (.long (-1000)), .second, .val (.int 3)] rfl ?_
  refine Own.goto W0 d24_47 20 (by decide) (by decide) ?_
  refine Own.iload W0 d24_20 22 rfl 3 rfl ?_
  refine Own.bipush W0 d24_22 24 rfl 19 rfl ?_
  refine Own.icmpNo W0 d24_24 27 (by decide) rfl ?_
  refine Own.lloadN W0 d24_27 28 rfl (-2147483648 : Int64) rfl ?_
  refine Own.lloadN W0 d24_28 29 rfl (-1000 : Int64) rfl ?_
  refine Own.lcmpV W0 (v := (-1 : Int32)) d24_29 30 rfl (by decide +kernel) ?_
  refine Own.ifYes W0 d24_30 38 (by decide) (by decide) (by decide) ?_
  refine Own.ldc2 W0 (tw hw 246 rfl) d24_38 41 rfl ?_
  refine Own.lloadN W0 d24_41 42 rfl (-1000 : Int64) rfl ?_
  refine Own.lmulV W0 (v := (-10000 : Int64)) d24_42 43 rfl (by decide +kernel) ?_
  refine Own.lstoreN W0 d24_43 44 rfl #[.val (.long (-2147483648)), .second, .val (.int 0), .val (.long (-10000)), .second, .val (.int 3)] rfl ?_
  refine Own.iinc W0 d24_44 47 rfl rfl #[.val (.long (-2147483648)), .second, .val (.int 0), .val (.long (-10000)), .second, .val (.int 4)] rfl ?_
  refine Own.goto W0 d24_47 20 (by decide) (by decide) ?_
  refine Own.iload W0 d24_20 22 rfl 4 rfl ?_
  refine Own.bipush W0 d24_22 24 rfl 19 rfl ?_
  refine Own.icmpNo W0 d24_24 27 (by decide) rfl ?_
  refine Own.lloadN W0 d24_27 28 rfl (-2147483648 : Int64) rfl ?_
  refine Own.lloadN W0 d24_28 29 rfl (-10000 : Int64) rfl ?_
  refine Own.lcmpV W0 (v := (-1 : Int32)) d24_29 30 rfl (by decide +kernel) ?_
  refine Own.ifYes W0 d24_30 38 (by decide) (by decide) (by decide) ?_
  refine Own.ldc2 W0 (tw hw 246 rfl) d24_38 41 rfl ?_
  refine Own.lloadN W0 d24_41 42 rfl (-10000 : Int64) rfl ?_
  refine Own.lmulV W0 (v := (-100000 : Int64)) d24_42 43 rfl (by decide +kernel) ?_
  refine Own.lstoreN W0 d24_43 44 rfl #[.val (.long (-2147483648)), .second, .val (.int 0), .val (.long (-100000)), .second, .val (.int 4)] rfl ?_
  refine Own.iinc W0 d24_44 47 rfl rfl #[.val (.long (-2147483648)), .second, .val (.int 0), .val (.long (-100000)), .second, .val (.int 5)] rfl ?_
  refine Own.goto W0 d24_47 20 (by decide) (by decide) ?_
  refine Own.iload W0 d24_20 22 rfl 5 rfl ?_
  refine Own.bipush W0 d24_22 24 rfl 19 rfl ?_
  refine Own.icmpNo W0 d24_24 27 (by decide) rfl ?_
  refine Own.lloadN W0 d24_27 28 rfl (-2147483648 : Int64) rfl ?_
  refine Own.lloadN W0 d24_28 29 rfl (-100000 : Int64) rfl ?_
  refine Own.lcmpV W0 (v := (-1 : Int32)) d24_29 30 rfl (by decide +kernel) ?_
  refine Own.ifYes W0 d24_30 38 (by decide) (by decide) (by decide) ?_
  refine Own.ldc2 W0 (tw hw 246 rfl) d24_38 41 rfl ?_
  refine Own.lloadN W0 d24_41 42 rfl (-100000 : Int64) rfl ?_
  refine Own.lmulV W0 (v := (-1000000 : Int64)) d24_42 43 rfl (by decide +kernel) ?_
  refine Own.lstoreN W0 d24_43 44 rfl #[.val (.long (-2147483648)), .second, .val (.int 0), .val (.long (-1000000)), .second, .val (.int 5)] rfl ?_
  refine Own.iinc W0 d24_44 47 rfl rfl #[.val (.long (-2147483648)), .second, .val (.int 0), .val (.long (-1000000)), .second, .val (.int 6)] rfl ?_
  refine Own.goto W0 d24_47 20 (by decide) (by decide) ?_
  refine Own.iload W0 d24_20 22 rfl 6 rfl ?_
  refine Own.bipush W0 d24_22 24 rfl 19 rfl ?_
  refine Own.icmpNo W0 d24_24 27 (by decide) rfl ?_
  refine Own.lloadN W0 d24_27 28 rfl (-2147483648 : Int64) rfl ?_
  refine Own.lloadN W0 d24_28 29 rfl (-1000000 : Int64) rfl ?_
  refine Own.lcmpV W0 (v := (-1 : Int32)) d24_29 30 rfl (by decide +kernel) ?_
  refine Own.ifYes W0 d24_30 38 (by decide) (by decide) (by decide) ?_
  refine Own.ldc2 W0 (tw hw 246 rfl) d24_38 41 rfl ?_
  refine Own.lloadN W0 d24_41 42 rfl (-1000000 : Int64) rfl ?_
  refine Own.lmulV W0 (v := (-10000000 : Int64)) d24_42 43 rfl (by decide +kernel) ?_
  refine Own.lstoreN W0 d24_43 44 rfl #[.val (.long (-2147483648)), .second, .val (.int 0), .val (.long (-10000000)), .second, .val (.int 6)] rfl ?_
  refine Own.iinc W0 d24_44 47 rfl rfl #[.val (.long (-2147483648)), .second, .val (.int 0), .val (.long (-10000000)), .second, .val (.int 7)] rfl ?_
  refine Own.goto W0 d24_47 20 (by decide) (by decide) ?_
  refine Own.iload W0 d24_20 22 rfl 7 rfl ?_
  refine Own.bipush W0 d24_22 24 rfl 19 rfl ?_
  refine Own.icmpNo W0 d24_24 27 (by decide) rfl ?_
  refine Own.lloadN W0 d24_27 28 rfl (-2147483648 : Int64) rfl ?_
  refine Own.lloadN W0 d24_28 29 rfl (-10000000 : Int64) rfl ?_
  refine Own.lcmpV W0 (v := (-1 : Int32)) d24_29 30 rfl (by decide +kernel) ?_
  refine Own.ifYes W0 d24_30 38 (by decide) (by decide) (by decide) ?_
  refine Own.ldc2 W0 (tw hw 246 rfl) d24_38 41 rfl ?_
  refine Own.lloadN W0 d24_41 42 rfl (-10000000 : Int64) rfl ?_
  refine Own.lmulV W0 (v := (-100000000 : Int64)) d24_42 43 rfl (by decide +kernel) ?_
  refine Own.lstoreN W0 d24_43 44 rfl #[.val (.long (-2147483648)), .second, .val (.int 0), .val (.long (-100000000)), .second, .val (.int 7)] rfl ?_
  refine Own.iinc W0 d24_44 47 rfl rfl #[.val (.long (-2147483648)), .second, .val (.int 0), .val (.long (-100000000)), .second, .val (.int 8)] rfl ?_
  refine Own.goto W0 d24_47 20 (by decide) (by decide) ?_
  refine Own.iload W0 d24_20 22 rfl 8 rfl ?_
  refine Own.bipush W0 d24_22 24 rfl 19 rfl ?_
  refine Own.icmpNo W0 d24_24 27 (by decide) rfl ?_
  refine Own.lloadN W0 d24_27 28 rfl (-2147483648 : Int64) rfl ?_
  refine Own.lloadN W0 d24_28 29 rfl (-100000000 : Int64) rfl ?_
  refine Own.lcmpV W0 (v := (-1 : Int32)) d24_29 30 rfl (by decide +kernel) ?_
  refine Own.ifYes W0 d24_30 38 (by decide) (by decide) (by decide) ?_
  refine Own.ldc2 W0 (tw hw 246 rfl) d24_38 41 rfl ?_
  refine Own.lloadN W0 d24_41 42 rfl (-100000000 : Int64) rfl ?_
  refine Own.lmulV W0 (v := (-1000000000 : Int64)) d24_42 43 rfl (by decide +kernel) ?_
  refine Own.lstoreN W0 d24_43 44 rfl #[.val (.long (-2147483648)), .second, .val (.int 0), .val (.long (-1000000000)), .second, .val (.int 8)] rfl ?_
  refine Own.iinc W0 d24_44 47 rfl rfl #[.val (.long (-2147483648)), .second, .val (.int 0), .val (.long (-1000000000)), .second, .val (.int 9)] rfl ?_
  refine Own.goto W0 d24_47 20 (by decide) (by decide) ?_
  refine Own.iload W0 d24_20 22 rfl 9 rfl ?_
  refine Own.bipush W0 d24_22 24 rfl 19 rfl ?_
  refine Own.icmpNo W0 d24_24 27 (by decide) rfl ?_
  refine Own.lloadN W0 d24_27 28 rfl (-2147483648 : Int64) rfl ?_
  refine Own.lloadN W0 d24_28 29 rfl (-1000000000 : Int64) rfl ?_
  refine Own.lcmpV W0 (v := (-1 : Int32)) d24_29 30 rfl (by decide +kernel) ?_
  refine Own.ifYes W0 d24_30 38 (by decide) (by decide) (by decide) ?_
  refine Own.ldc2 W0 (tw hw 246 rfl) d24_38 41 rfl ?_
  refine Own.lloadN W0 d24_41 42 rfl (-1000000000 : Int64) rfl ?_
  refine Own.lmulV W0 (v := (-10000000000 : Int64)) d24_42 43 rfl (by decide +kernel) ?_
  refine Own.lstoreN W0 d24_43 44 rfl #[.val (.long (-2147483648)), .second, .val (.int 0), .val (.long (-10000000000)), .second, .val (.int 9)] rfl ?_
  refine Own.iinc W0 d24_44 47 rfl rfl #[.val (.long (-2147483648)), .second, .val (.int 0), .val (.long (-10000000000)), .second, .val (.int 10)] rfl ?_
  refine Own.goto W0 d24_47 20 (by decide) (by decide) ?_
  refine Own.iload W0 d24_20 22 rfl 10 rfl ?_
  refine Own.bipush W0 d24_22 24 rfl 19 rfl ?_
  refine Own.icmpNo W0 d24_24 27 (by decide) rfl ?_
  refine Own.lloadN W0 d24_27 28 rfl (-2147483648 : Int64) rfl ?_
  refine Own.lloadN W0 d24_28 29 rfl (-10000000000 : Int64) rfl ?_
  refine Own.lcmpV W0 (v := (1 : Int32)) d24_29 30 rfl (by decide +kernel) ?_
  refine Own.ifNo W0 d24_30 33 (by decide) rfl ?_
  refine Own.iload W0 d24_33 35 rfl 10 rfl ?_
  refine Own.iloadN W0 d24_35 36 rfl 0 rfl ?_
  refine Own.iadd W0 d24_36 37 rfl ?_
  exact Own.retI W0 (by decide) (by decide) rfl d24_37 ⟨rfl, rfl⟩
set_option maxRecDepth 65536 in
set_option maxHeartbeats 40000000 in
theorem con_gc_i31 {G : Own.Gl} (hw : ∀ d ∈ tables_1, d.before G.a0 G.Z = true) (hEL : EW G.Z G.a0 G.EL) {dg1 : Addr} {kg1 : ClassId} (SDO : Sta G.Z G.Z.heap "java/lang/Integer" "DigitOnes" "[B" (.ref dg1)) (DG1 : Arv G.Z G.Z.heap dg1 kg1 .byte 100 (Own.digL Own.onesF) (.int 0)) {dg2 : Addr} {kg2 : ClassId} (SDT : Sta G.Z G.Z.heap "java/lang/Integer" "DigitTens" "[B" (.ref dg2)) (DG2 : Arv G.Z G.Z.heap dg2 kg2 .byte 100 (Own.digL Own.tensF) (.int 0)) {cap p : Nat} (hEN : Own.EN G.Z G.a0 G.EL cap) (hc : cap ≤ 4000) (hp : p + 10 ≤ cap) {b : Addr} (hn_b : G.n0 ≤ b) {kb : ClassId} {vs : List Value} {h : Heap} (hO : Old G.Z G.n0 h) (A : Arv G.Z h b kb .byte (Int32.ofNat cap) vs (.int 0)) (hl : vs.length = cap) {x : Int64} {ix : Int32} (hx : x = (2147483648 : Int64)) (hix : ix = Int32.ofNat (p + 10)) :
    Own.Con G [] bGc #[.long x, .int ix, .ref b] h [] (fun v h' => (∃ r : Int32, v = some (.int r)) ∧ Keep h h' [b] ∧ Arv G.Z h' b kb .byte (Int32.ofNat cap) (Own.mid vs p [50, 49, 52, 55, 52, 56, 51, 54, 52, 56]) (.int 0)) := by
  refine Own.Con.intro (plainFor_of_name pn_1) hO hEL _ (fun m => ef_bGc m x ix b) ?_
  intro X T0 W0 sf
  subst hx; subst hix
  have V0 : Arv G.Z h b kb .byte (Int32.ofNat cap) (Own.mid vs (p + 10) []) (.int 0) := by rw [Own.mid_nil]; exact A
  refine Own.iloadN W0 d26_0 1 rfl (Int32.ofNat (p + 10)) rfl ?_
  refine Own.istore W0 d26_1 3 rfl #[.val (.long 2147483648), .second, .val (.int (Int32.ofNat (p + 10))), .val (.ref b), .unset, .unset, .unset, .val (.int (Int32.ofNat (p + 10))), .unset, .unset, .unset] rfl ?_
  refine Own.lloadN W0 d26_3 4 rfl (2147483648 : Int64) rfl ?_
  refine Own.lconst W0 d26_4 5 rfl (0 : Int64) rfl ?_
  refine Own.lcmpV W0 (v := (1 : Int32)) d26_5 6 rfl (by decide +kernel) ?_
  refine Own.ifYes W0 d26_6 13 (by decide) (by decide) (by decide) ?_
  refine Own.iconst W0 d26_13 14 rfl 0 rfl ?_
  refine Own.istore W0 d26_14 16 rfl #[.val (.long 2147483648), .second, .val (.int (Int32.ofNat (p + 10))), .val (.ref b), .unset, .unset, .unset, .val (.int (Int32.ofNat (p + 10))), .val (.int 0), .unset, .unset] rfl ?_
  refine Own.iload W0 d26_16 18 rfl 0 rfl ?_
  refine Own.ifNo W0 d26_18 21 (by decide) rfl ?_
  refine Own.lloadN W0 d26_21 22 rfl (2147483648 : Int64) rfl ?_
  refine Own.lnegV W0 (v := (-2147483648 : Int64)) d26_22 23 rfl (by decide +kernel) ?_
  refine Own.lstoreN W0 d26_23 24 rfl #[.val (.long (-2147483648)), .second, .val (.int (Int32.ofNat (p + 10))), .val (.ref b), .unset, .unset, .unset, .val (.int (Int32.ofNat (p + 10))), .val (.int 0), .unset, .unset] rfl ?_
  refine Own.lloadN W0 d26_24 25 rfl (-2147483648 : Int64) rfl ?_
  refine Own.ldc2 W0 (tw hw 161 rfl) d26_25 28 rfl ?_
  refine Own.lcmpV W0 (v := (0 : Int32)) d26_28 29 rfl (by decide +kernel) ?_
  refine Own.ifNo W0 d26_29 32 (by decide) rfl ?_
  refine Own.lloadN W0 d26_32 33 rfl (-2147483648 : Int64) rfl ?_
  refine Own.ldc2 W0 (tw hw 247 rfl) d26_33 36 rfl ?_
  refine Own.ldivV W0 (v := (-21474836 : Int64)) d26_36 37 rfl (by decide) (by decide +kernel) ?_
  refine Own.lstore W0 d26_37 39 rfl #[.val (.long (-2147483648)), .second, .val (.int (Int32.ofNat (p + 10))), .val (.ref b), .val (.long (-21474836)), .second, .unset, .val (.int (Int32.ofNat (p + 10))), .val (.int 0), .unset, .unset] rfl ?_
  refine Own.lload W0 d26_39 41 rfl (-21474836 : Int64) rfl ?_
  refine Own.ldc2 W0 (tw hw 247 rfl) d26_41 44 rfl ?_
  refine Own.lmulV W0 (v := (-2147483600 : Int64)) d26_44 45 rfl (by decide +kernel) ?_
  refine Own.lloadN W0 d26_45 46 rfl (-2147483648 : Int64) rfl ?_
  refine Own.lsubV W0 (v := (48 : Int64)) d26_46 47 rfl (by decide +kernel) ?_
  refine Own.l2iV W0 (v := (48 : Int32)) d26_47 48 rfl (by decide +kernel) ?_
  refine Own.istore W0 d26_48 50 rfl #[.val (.long (-2147483648)), .second, .val (.int (Int32.ofNat (p + 10))), .val (.ref b), .val (.long (-21474836)), .second, .val (.int 48), .val (.int (Int32.ofNat (p + 10))), .val (.int 0), .unset, .unset] rfl ?_
  refine Own.lload W0 d26_50 52 rfl (-21474836 : Int64) rfl ?_
  refine Own.lstoreN W0 d26_52 53 rfl #[.val (.long (-21474836)), .second, .val (.int (Int32.ofNat (p + 10))), .val (.ref b), .val (.long (-21474836)), .second, .val (.int 48), .val (.int (Int32.ofNat (p + 10))), .val (.int 0), .unset, .unset] rfl ?_
  refine Own.aloadN W0 d26_53 54 rfl (.ref b) rfl rfl ?_
  refine Own.iincD W0 (n := p + 9) d26_54 57 rfl rfl #[.val (.long (-21474836)), .second, .val (.int (Int32.ofNat (p + 10))), .val (.ref b), .val (.long (-21474836)), .second, .val (.int 48), .val (.int (Int32.ofNat (p + 9))), .val (.int 0), .unset, .unset] rfl ?_
  refine Own.iload W0 d26_57 59 rfl (Int32.ofNat (p + 9)) rfl ?_
  refine Own.getS W0 (tw hw 162 rfl) Via.refl (W0.sta SDO) d26_59 62 rfl ?_
  intro T1 W1
  refine Own.iload W1 d26_62 64 rfl 48 rfl ?_
  refine Own.digLoad W1 DG1 (v := (56 : Int32)) ⟨by decide, by decide⟩ (Own.ones_v ⟨by decide, by decide⟩ (by decide)) d26_64 65 rfl ?_
  refine Own.bst W1 (q := p + 9) (cs := []) V0 hl (by show p + 9 + 1 + 0 ≤ cap; omega) hc hEN hn_b d26_65 66 rfl ?_
  intro T2 h2 W2 Q2 V2 k2
  refine Own.aloadN W2 d26_66 67 rfl (.ref b) rfl rfl ?_
  refine Own.iincD W2 (n := p + 8) d26_67 70 rfl rfl #[.val (.long (-21474836)), .second, .val (.int (Int32.ofNat (p + 10))), .val (.ref b), .val (.long (-21474836)), .second, .val (.int 48), .val (.int (Int32.ofNat (p + 8))), .val (.int 0), .unset, .unset] rfl ?_
  refine Own.iload W2 d26_70 72 rfl (Int32.ofNat (p + 8)) rfl ?_
  refine Own.getS W2 (tw hw 248 rfl) Via.refl (W2.sta SDT) d26_72 75 rfl ?_
  intro T3 W3
  refine Own.iload W3 d26_75 77 rfl 48 rfl ?_
  refine Own.digLoad W3 DG2 (v := (52 : Int32)) ⟨by decide, by decide⟩ (Own.tens_v ⟨by decide, by decide⟩ (by decide)) d26_77 78 rfl ?_
  refine Own.bst W3 (q := p + 8) (cs := [56]) V2 hl (by show p + 8 + 1 + 1 ≤ cap; omega) hc hEN hn_b d26_78 79 rfl ?_
  intro T4 h4 W4 Q4 V4 k4
  refine Own.goto W4 d26_79 24 (by decide) (by decide) ?_
  refine Own.lloadN W4 d26_24 25 rfl (-21474836 : Int64) rfl ?_
  refine Own.ldc2 W4 (tw hw 161 rfl) d26_25 28 rfl ?_
  refine Own.lcmpV W4 (v := (1 : Int32)) d26_28 29 rfl (by decide +kernel) ?_
  refine Own.ifYes W4 d26_29 82 (by decide) (by decide) (by decide) ?_
  refine Own.lloadN W4 d26_82 83 rfl (-21474836 : Int64) rfl ?_
  refine Own.l2iV W4 (v := (-21474836 : Int32)) d26_83 84 rfl (by decide +kernel) ?_
  refine Own.istore W4 d26_84 86 rfl #[.val (.long (-21474836)), .second, .val (.int (Int32.ofNat (p + 10))), .val (.ref b), .val (.long (-21474836)), .second, .val (.int 48), .val (.int (Int32.ofNat (p + 8))), .val (.int 0), .unset, .val (.int (-21474836))] rfl ?_
  refine Own.iload W4 d26_86 88 rfl (-21474836 : Int32) rfl ?_
  refine Own.bipush W4 d26_88 90 rfl (-100 : Int32) rfl ?_
  refine Own.icmpNo W4 d26_90 93 (by decide) rfl ?_
  refine Own.iload W4 d26_93 95 rfl (-21474836 : Int32) rfl ?_
  refine Own.bipush W4 d26_95 97 rfl 100 rfl ?_
  refine Own.idivV W4 (v := (-214748 : Int32)) d26_97 98 rfl (by decide) (by decide +kernel) ?_
  refine Own.istore W4 d26_98 100 rfl #[.val (.long (-21474836)), .second, .val (.int (Int32.ofNat (p + 10))), .val (.ref b), .val (.long (-21474836)), .second, .val (.int 48), .val (.int (Int32.ofNat (p + 8))), .val (.int 0), .val (.int (-214748)), .val (.int (-21474836))] rfl ?_
  refine Own.iload W4 d26_100 102 rfl (-214748 : Int32) rfl ?_
  refine Own.bipush W4 d26_102 104 rfl 100 rfl ?_
  refine Own.imulV W4 (v := (-21474800 : Int32)) d26_104 105 rfl (by decide +kernel) ?_
  refine Own.iload W4 d26_105 107 rfl (-21474836 : Int32) rfl ?_
  refine Own.isubV W4 (v := (36 : Int32)) d26_107 108 rfl (by decide +kernel) ?_
  refine Own.istore W4 d26_108 110 rfl #[.val (.long (-21474836)), .second, .val (.int (Int32.ofNat (p + 10))), .val (.ref b), .val (.long (-21474836)), .second, .val (.int 36), .val (.int (Int32.ofNat (p + 8))), .val (.int 0), .val (.int (-214748)), .val (.int (-21474836))] rfl ?_
  refine Own.iload W4 d26_110 112 rfl (-214748 : Int32) rfl ?_
  refine Own.istore W4 d26_112 114 rfl #[.val (.long (-21474836)), .second, .val (.int (Int32.ofNat (p + 10))), .val (.ref b), .val (.long (-21474836)), .second, .val (.int 36), .val (.int (Int32.ofNat (p + 8))), .val (.int 0), .val (.int (-214748)), .val (.int (-214748))] rfl ?_
  refine Own.aloadN W4 d26_114 115 rfl (.ref b) rfl rfl ?_
  refine Own.iincD W4 (n := p + 7) d26_115 118 rfl rfl #[.val (.long (-21474836)), .second, .val (.int (Int32.ofNat (p + 10))), .val (.ref b), .val (.long (-21474836)), .second, .val (.int 36), .val (.int (Int32.ofNat (p + 7))), .val (.int 0), .val (.int (-214748)), .val (.int (-214748))] rfl ?_
  refine Own.iload W4 d26_118 120 rfl (Int32.ofNat (p + 7)) rfl ?_
  refine Own.getS W4 (tw hw 162 rfl) Via.refl (W4.sta SDO) d26_120 123 rfl ?_
  intro T5 W5
  refine Own.iload W5 d26_123 125 rfl 36 rfl ?_
  refine Own.digLoad W5 DG1 (v := (54 : Int32)) ⟨by decide, by decide⟩ (Own.ones_v ⟨by decide, by decide⟩ (by decide)) d26_125 126 rfl ?_
  refine Own.bst W5 (q := p + 7) (cs := [52, 56]) V4 hl (by show p + 7 + 1 + 2 ≤ cap; omega) hc hEN hn_b d26_126 127 rfl ?_
  intro T6 h6 W6 Q6 V6 k6
  refine Own.aloadN W6 d26_127 128 rfl (.ref b) rfl rfl ?_
  refine Own.iincD W6 (n := p + 6) d26_128 131 rfl rfl #[.val (.long (-21474836)), .second, .val (.int (Int32.ofNat (p + 10))), .val (.ref b), .val (.long (-21474836)), .second, .val (.int 36), .val (.int (Int32.ofNat (p + 6))), .val (.int 0), .val (.int (-214748)), .val (.int (-214748))] rfl ?_
  refine Own.iload W6 d26_131 133 rfl (Int32.ofNat (p + 6)) rfl ?_
  refine Own.getS W6 (tw hw 248 rfl) Via.refl (W6.sta SDT) d26_133 136 rfl ?_
  intro T7 W7
  refine Own.iload W7 d26_136 138 rfl 36 rfl ?_
  refine Own.digLoad W7 DG2 (v := (51 : Int32)) ⟨by decide, by decide⟩ (Own.tens_v ⟨by decide, by decide⟩ (by decide)) d26_138 139 rfl ?_
  refine Own.bst W7 (q := p + 6) (cs := [54, 52, 56]) V6 hl (by show p + 6 + 1 + 3 ≤ cap; omega) hc hEN hn_b d26_139 140 rfl ?_
  intro T8 h8 W8 Q8 V8 k8
  refine Own.goto W8 d26_140 86 (by decide) (by decide) ?_
  refine Own.iload W8 d26_86 88 rfl (-214748 : Int32) rfl ?_
  refine Own.bipush W8 d26_88 90 rfl (-100 : Int32) rfl ?_
  refine Own.icmpNo W8 d26_90 93 (by decide) rfl ?_
  refine Own.iload W8 d26_93 95 rfl (-214748 : Int32) rfl ?_
  refine Own.bipush W8 d26_95 97 rfl 100 rfl ?_
  refine Own.idivV W8 (v := (-2147 : Int32)) d26_97 98 rfl (by decide) (by decide +kernel) ?_
  refine Own.istore W8 d26_98 100 rfl #[.val (.long (-21474836)), .second, .val (.int (Int32.ofNat (p + 10))), .val (.ref b), .val (.long (-21474836)), .second, .val (.int 36), .val (.int (Int32.ofNat (p + 6))), .val (.int 0), .val (.int (-2147)), .val (.int (-214748))] rfl ?_
  refine Own.iload W8 d26_100 102 rfl (-2147 : Int32) rfl ?_
  refine Own.bipush W8 d26_102 104 rfl 100 rfl ?_
  refine Own.imulV W8 (v := (-214700 : Int32)) d26_104 105 rfl (by decide +kernel) ?_
  refine Own.iload W8 d26_105 107 rfl (-214748 : Int32) rfl ?_
  refine Own.isubV W8 (v := (48 : Int32)) d26_107 108 rfl (by decide +kernel) ?_
  refine Own.istore W8 d26_108 110 rfl #[.val (.long (-21474836)), .second, .val (.int (Int32.ofNat (p + 10))), .val (.ref b), .val (.long (-21474836)), .second, .val (.int 48), .val (.int (Int32.ofNat (p + 6))), .val (.int 0), .val (.int (-2147)), .val (.int (-214748))] rfl ?_
  refine Own.iload W8 d26_110 112 rfl (-2147 : Int32) rfl ?_
  refine Own.istore W8 d26_112 114 rfl #[.val (.long (-21474836)), .second, .val (.int (Int32.ofNat (p + 10))), .val (.ref b), .val (.long (-21474836)), .second, .val (.int 48), .val (.int (Int32.ofNat (p + 6))), .val (.int 0), .val (.int (-2147)), .val (.int (-2147))] rfl ?_
  refine Own.aloadN W8 d26_114 115 rfl (.ref b) rfl rfl ?_
  refine Own.iincD W8 (n := p + 5) d26_115 118 rfl rfl #[.val (.long (-21474836)), .second, .val (.int (Int32.ofNat (p + 10))), .val (.ref b), .val (.long (-21474836)), .second, .val (.int 48), .val (.int (Int32.ofNat (p + 5))), .val (.int 0), .val (.int (-2147)), .val (.int (-2147))] rfl ?_
  refine Own.iload W8 d26_118 120 rfl (Int32.ofNat (p + 5)) rfl ?_
  refine Own.getS W8 (tw hw 162 rfl) Via.refl (W8.sta SDO) d26_120 123 rfl ?_
  intro T9 W9
  refine Own.iload W9 d26_123 125 rfl 48 rfl ?_
  refine Own.digLoad W9 DG1 (v := (56 : Int32)) ⟨by decide, by decide⟩ (Own.ones_v ⟨by decide, by decide⟩ (by decide)) d26_125 126 rfl ?_
  refine Own.bst W9 (q := p + 5) (cs := [51, 54, 52, 56]) V8 hl (by show p + 5 + 1 + 4 ≤ cap; omega) hc hEN hn_b d26_126 127 rfl ?_
  intro T10 h10 W10 Q10 V10 k10
  refine Own.aloadN W10 d26_127 128 rfl (.ref b) rfl rfl ?_
  refine Own.iincD W10 (n := p + 4) d26_128 131 rfl rfl #[.val (.long (-21474836)), .second, .val (.int (Int32.ofNat (p + 10))), .val (.ref b), .val (.long (-21474836)), .second, .val (.int 48), .val (.int (Int32.ofNat (p + 4))), .val (.int 0), .val (.int (-2147)), .val (.int (-2147))] rfl ?_
  refine Own.iload W10 d26_131 133 rfl (Int32.ofNat (p + 4)) rfl ?_
  refine Own.getS W10 (tw hw 248 rfl) Via.refl (W10.sta SDT) d26_133 136 rfl ?_
  intro T11 W11
  refine Own.iload W11 d26_136 138 rfl 48 rfl ?_
  refine Own.digLoad W11 DG2 (v := (52 : Int32)) ⟨by decide, by decide⟩ (Own.tens_v ⟨by decide, by decide⟩ (by decide)) d26_138 139 rfl ?_
  refine Own.bst W11 (q := p + 4) (cs := [56, 51, 54, 52, 56]) V10 hl (by show p + 4 + 1 + 5 ≤ cap; omega) hc hEN hn_b d26_139 140 rfl ?_
  intro T12 h12 W12 Q12 V12 k12
  refine Own.goto W12 d26_140 86 (by decide) (by decide) ?_
  refine Own.iload W12 d26_86 88 rfl (-2147 : Int32) rfl ?_
  refine Own.bipush W12 d26_88 90 rfl (-100 : Int32) rfl ?_
  refine Own.icmpNo W12 d26_90 93 (by decide) rfl ?_
  refine Own.iload W12 d26_93 95 rfl (-2147 : Int32) rfl ?_
  refine Own.bipush W12 d26_95 97 rfl 100 rfl ?_
  refine Own.idivV W12 (v := (-21 : Int32)) d26_97 98 rfl (by decide) (by decide +kernel) ?_
  refine Own.istore W12 d26_98 100 rfl #[.val (.long (-21474836)), .second, .val (.int (Int32.ofNat (p + 10))), .val (.ref b), .val (.long (-21474836)), .second, .val (.int 48), .val (.int (Int32.ofNat (p + 4))), .val (.int 0), .val (.int (-21)), .val (.int (-2147))] rfl ?_
  refine Own.iload W12 d26_100 102 rfl (-21 : Int32) rfl ?_
  refine Own.bipush W12 d26_102 104 rfl 100 rfl ?_
  refine Own.imulV W12 (v := (-2100 : Int32)) d26_104 105 rfl (by decide +kernel) ?_
  refine Own.iload W12 d26_105 107 rfl (-2147 : Int32) rfl ?_
  refine Own.isubV W12 (v := (47 : Int32)) d26_107 108 rfl (by decide +kernel) ?_
  refine Own.istore W12 d26_108 110 rfl #[.val (.long (-21474836)), .second, .val (.int (Int32.ofNat (p + 10))), .val (.ref b), .val (.long (-21474836)), .second, .val (.int 47), .val (.int (Int32.ofNat (p + 4))), .val (.int 0), .val (.int (-21)), .val (.int (-2147))] rfl ?_
  refine Own.iload W12 d26_110 112 rfl (-21 : Int32) rfl ?_
  refine Own.istore W12 d26_112 114 rfl #[.val (.long (-21474836)), .second, .val (.int (Int32.ofNat (p + 10))), .val (.ref b), .val (.long (-21474836)), .second, .val (.int 47), .val (.int (Int32.ofNat (p + 4))), .val (.int 0), .val (.int (-21)), .val (.int (-21))] rfl ?_
  refine Own.aloadN W12 d26_114 115 rfl (.ref b) rfl rfl ?_
  refine Own.iincD W12 (n := p + 3) d26_115 118 rfl rfl #[.val (.long (-21474836)), .second, .val (.int (Int32.ofNat (p + 10))), .val (.ref b), .val (.long (-21474836)), .second, .val (.int 47), .val (.int (Int32.ofNat (p + 3))), .val (.int 0), .val (.int (-21)), .val (.int (-21))] rfl ?_
  refine Own.iload W12 d26_118 120 rfl (Int32.ofNat (p + 3)) rfl ?_
  refine Own.getS W12 (tw hw 162 rfl) Via.refl (W12.sta SDO) d26_120 123 rfl ?_
  intro T13 W13
  refine Own.iload W13 d26_123 125 rfl 47 rfl ?_
  refine Own.digLoad W13 DG1 (v := (55 : Int32)) ⟨by decide, by decide⟩ (Own.ones_v ⟨by decide, by decide⟩ (by decide)) d26_125 126 rfl ?_
  refine Own.bst W13 (q := p + 3) (cs := [52, 56, 51, 54, 52, 56]) V12 hl (by show p + 3 + 1 + 6 ≤ cap; omega) hc hEN hn_b d26_126 127 rfl ?_
  intro T14 h14 W14 Q14 V14 k14
  refine Own.aloadN W14 d26_127 128 rfl (.ref b) rfl rfl ?_
  refine Own.iincD W14 (n := p + 2) d26_128 131 rfl rfl #[.val (.long (-21474836)), .second, .val (.int (Int32.ofNat (p + 10))), .val (.ref b), .val (.long (-21474836)), .second, .val (.int 47), .val (.int (Int32.ofNat (p + 2))), .val (.int 0), .val (.int (-21)), .val (.int (-21))] rfl ?_
  refine Own.iload W14 d26_131 133 rfl (Int32.ofNat (p + 2)) rfl ?_
  refine Own.getS W14 (tw hw 248 rfl) Via.refl (W14.sta SDT) d26_133 136 rfl ?_
  intro T15 W15
  refine Own.iload W15 d26_136 138 rfl 47 rfl ?_
  refine Own.digLoad W15 DG2 (v := (52 : Int32)) ⟨by decide, by decide⟩ (Own.tens_v ⟨by decide, by decide⟩ (by decide)) d26_138 139 rfl ?_
  refine Own.bst W15 (q := p + 2) (cs := [55, 52, 56, 51, 54, 52, 56]) V14 hl (by show p + 2 + 1 + 7 ≤ cap; omega) hc hEN hn_b d26_139 140 rfl ?_
  intro T16 h16 W16 Q16 V16 k16
  refine Own.goto W16 d26_140 86 (by decide) (by decide) ?_
  refine Own.iload W16 d26_86 88 rfl (-21 : Int32) rfl ?_
  refine Own.bipush W16 d26_88 90 rfl (-100 : Int32) rfl ?_
  refine Own.icmpYes W16 d26_90 143 (by decide) (by decide) (by decide) ?_
  refine Own.aloadN W16 d26_143 144 rfl (.ref b) rfl rfl ?_
  refine Own.iincD W16 (n := p + 1) d26_144 147 rfl rfl #[.val (.long (-21474836)), .second, .val (.int (Int32.ofNat (p + 10))), .val (.ref b), .val (.long (-21474836)), .second, .val (.int 47), .val (.int (Int32.ofNat (p + 1))), .val (.int 0), .val (.int (-21)), .val (.int (-21))] rfl ?_
  refine Own.iload W16 d26_147 149 rfl (Int32.ofNat (p + 1)) rfl ?_
  refine Own.getS W16 (tw hw 162 rfl) Via.refl (W16.sta SDO) d26_149 152 rfl ?_
  intro T17 W17
  refine Own.iload W17 d26_152 154 rfl (-21 : Int32) rfl ?_
  refine Own.inegV W17 (v := (21 : Int32)) d26_154 155 rfl (by decide +kernel) ?_
  refine Own.digLoad W17 DG1 (v := (49 : Int32)) ⟨by decide, by decide⟩ (Own.ones_v ⟨by decide, by decide⟩ (by decide)) d26_155 156 rfl ?_
  refine Own.bst W17 (q := p + 1) (cs := [52, 55, 52, 56, 51, 54, 52, 56]) V16 hl (by show p + 1 + 1 + 8 ≤ cap; omega) hc hEN hn_b d26_156 157 rfl ?_
  intro T18 h18 W18 Q18 V18 k18
  refine Own.iload W18 d26_157 159 rfl (-21 : Int32) rfl ?_
  refine Own.bipush W18 d26_159 161 rfl (-9 : Int32) rfl ?_
  refine Own.icmpNo W18 d26_161 164 (by decide) rfl ?_
  refine Own.aloadN W18 d26_164 165 rfl (.ref b) rfl rfl ?_
  refine Own.iincD W18 (n := p + 0) d26_165 168 rfl rfl #[.val (.long (-21474836)), .second, .val (.int (Int32.ofNat (p + 10))), .val (.ref b), .val (.long (-21474836)), .second, .val (.int 47), .val (.int (Int32.ofNat (p + 0))), .val (.int 0), .val (.int (-21)), .val (.int (-21))] rfl ?_
  refine Own.iload W18 d26_168 170 rfl (Int32.ofNat (p + 0)) rfl ?_
  refine Own.getS W18 (tw hw 248 rfl) Via.refl (W18.sta SDT) d26_170 173 rfl ?_
  intro T19 W19
  refine Own.iload W19 d26_173 175 rfl (-21 : Int32) rfl ?_
  refine Own.inegV W19 (v := (21 : Int32)) d26_175 176 rfl (by decide +kernel) ?_
  refine Own.digLoad W19 DG2 (v := (50 : Int32)) ⟨by decide, by decide⟩ (Own.tens_v ⟨by decide, by decide⟩ (by decide)) d26_176 177 rfl ?_
  refine Own.bst W19 (q := p + 0) (cs := [49, 52, 55, 52, 56, 51, 54, 52, 56]) V18 hl (by show p + 0 + 1 + 9 ≤ cap; omega) hc hEN hn_b d26_177 178 rfl ?_
  intro T20 h20 W20 Q20 V20 k20
  refine Own.iload W20 d26_178 180 rfl 0 rfl ?_
  refine Own.ifYes W20 d26_180 192 (by decide) (by decide) (by decide) ?_
  refine Own.iload W20 d26_192 194 rfl (Int32.ofNat (p + 0)) rfl ?_
  exact Own.retI W20 (by decide) (by decide) rfl d26_194 ⟨⟨_, rfl⟩, (Keep.wr (Keep.wr (Keep.wr (Keep.wr (Keep.wr (Keep.wr (Keep.wr (Keep.wr (Keep.wr (Keep.wr (Keep.refl h [b]) Q2 (Or.inl (by simp))) Q4 (Or.inl (by simp))) Q6 (Or.inl (by simp))) Q8 (Or.inl (by simp))) Q10 (Or.inl (by simp))) Q12 (Or.inl (by simp))) Q14 (Or.inl (by simp))) Q16 (Or.inl (by simp))) Q18 (Or.inl (by simp))) Q20 (Or.inl (by simp))), V20⟩
theorem lt_i31 {G : Own.Gl} (hw : ∀ d ∈ tables_1, d.before G.a0 G.Z = true) (hEL : EW G.Z G.a0 G.EL) {dg1 : Addr} {kg1 : ClassId} (SDO : Sta G.Z G.Z.heap "java/lang/Integer" "DigitOnes" "[B" (.ref dg1)) (DG1 : Arv G.Z G.Z.heap dg1 kg1 .byte 100 (Own.digL Own.onesF) (.int 0)) {dg2 : Addr} {kg2 : ClassId} (SDT : Sta G.Z G.Z.heap "java/lang/Integer" "DigitTens" "[B" (.ref dg2)) (DG2 : Arv G.Z G.Z.heap dg2 kg2 .byte 100 (Own.digL Own.tensF) (.int 0)) : LT G (2147483648 : Int64) [50, 49, 52, 55, 52, 56, 51, 54, 52, 56] := ⟨by decide, fun hO => con_ss_i31 hw hEL rfl hO, fun hO hEN hc hp hb A hl => con_gc_i31 hw hEL SDO DG1 SDT DG2 hEN hc hp hb hO A hl rfl rfl⟩
set_option maxRecDepth 65536 in
set_option maxHeartbeats 40000000 in
theorem con_ss_mi31 {G : Own.Gl} (hw : ∀ d ∈ tables_1, d.before G.a0 G.Z = true) (hEL : EW G.Z G.a0 G.EL) {x : Int64} (hx : x = (-2147483649 : Int64)) {h : Heap} (hO : Old G.Z G.n0 h) :
    Own.Con G [] bSs #[.long x] h [] (fun v h' => v = some (.int (Int32.ofNat 11)) ∧ h' = h) := by
  refine Own.Con.intro (plainFor_of_name pn_1) hO hEL _ (fun m => ef_bSs m x) ?_
  intro X T0 W0 sf
  subst hx
  refine Own.iconst W0 d24_0 1 rfl 1 rfl ?_
  refine Own.istoreN W0 d24_1 2 rfl #[.val (.long (-2147483649)), .second, .val (.int 1), .unset, .unset, .unset] rfl ?_
  refine Own.lloadN W0 d24_2 3 rfl (-2147483649 : Int64) rfl ?_
  refine Own.lconst W0 d24_3 4 rfl (0 : Int64) rfl ?_
  refine Own.lcmpV W0 (v := (-1 : Int32)) d24_4 5 rfl (by decide +kernel) ?_
  refine Own.ifYes W0 d24_5 13 (by decide) (by decide) (by decide) ?_
  refine Own.ldc2 W0 (tw hw 152 rfl) d24_13 16 rfl ?_
  refine Own.lstoreN W0 d24_16 17 rfl #[.val (.long (-2147483649)), .second, .val (.int 1), .val (.long (-10)), .second, .unset] rfl ?_
  refine Own.iconst W0 d24_17 18 rfl 1 rfl ?_
  refine Own.istore W0 d24_18 20 rfl #[.val (.long (-2147483649)), .second, .val (.int 1), .val (.long (-10)), .second, .val (.int 1)] rfl ?_
  refine Own.iload W0 d24_20 22 rfl 1 rfl ?_
  refine Own.bipush W0 d24_22 24 rfl 19 rfl ?_
  refine Own.icmpNo W0 d24_24 27 (by decide) rfl ?_
  refine Own.lloadN W0 d24_27 28 rfl (-2147483649 : Int64) rfl ?_
  refine Own.lloadN W0 d24_28 29 rfl (-10 : Int64) rfl ?_
  refine Own.lcmpV W0 (v := (-1 : Int32)) d24_29 30 rfl (by decide +kernel) ?_
  refine Own.ifYes W0 d24_30 38 (by decide) (by decide) (by decide) ?_
  refine Own.ldc2 W0 (tw hw 246 rfl) d24_38 41 rfl ?_
  refine Own.lloadN W0 d24_41 42 rfl (-10 : Int64) rfl ?_
  refine Own.lmulV W0 (v := (-100 : Int64)) d24_42 43 rfl (by decide +kernel) ?_
  refine Own.lstoreN W0 d24_43 44 rfl #[.val (.long (-2147483649)), .second, .val (.int 1), .val (.long (-100)), .second, .val (.int 1)] rfl ?_
  refine Own.iinc W0 d24_44 47 rfl rfl #[.val (.long (-2147483649)), .second, .val (.int 1), .val (.long (-100)), .second, .val (.int 2)] rfl ?_
  refine Own.goto W0 d24_47 20 (by decide) (by decide) ?_
  refine Own.iload W0 d24_20 22 rfl 2 rfl ?_
  refine Own.bipush W0 d24_22 24 rfl 19 rfl ?_
  refine Own.icmpNo W0 d24_24 27 (by decide) rfl ?_
  refine Own.lloadN W0 d24_27 28 rfl (-2147483649 : Int64) rfl ?_
  refine Own.lloadN W0 d24_28 29 rfl (-100 : Int64) rfl ?_
  refine Own.lcmpV W0 (v := (-1 : Int32)) d24_29 30 rfl (by decide +kernel) ?_
  refine Own.ifYes W0 d24_30 38 (by decide) (by decide) (by decide) ?_
  refine Own.ldc2 W0 (tw hw 246 rfl) d24_38 41 rfl ?_
  refine Own.lloadN W0 d24_41 42 rfl (-100 : Int64) rfl ?_
  refine Own.lmulV W0 (v := (-1000 : Int64)) d24_42 43 rfl (by decide +kernel) ?_
  refine Own.lstoreN W0 d24_43 44 rfl #[.val (.long (-2147483649)), .second, .val (.int 1), .val (.long (-1000)), .second, .val (.int 2)] rfl ?_
  refine Own.iinc W0 d24_44 47 rfl rfl #[.val (.long (-2147483649)), .second, .val (.int 1), .val (.long (-1000)), .second, .val (.int 3)] rfl ?_
  refine Own.goto W0 d24_47 20 (by decide) (by decide) ?_
  refine Own.iload W0 d24_20 22 rfl 3 rfl ?_
  refine Own.bipush W0 d24_22 24 rfl 19 rfl ?_
  refine Own.icmpNo W0 d24_24 27 (by decide) rfl ?_
  refine Own.lloadN W0 d24_27 28 rfl (-2147483649 : Int64) rfl ?_
  refine Own.lloadN W0 d24_28 29 rfl (-1000 : Int64) rfl ?_
  refine Own.lcmpV W0 (v := (-1 : Int32)) d24_29 30 rfl (by decide +kernel) ?_
  refine Own.ifYes W0 d24_30 38 (by decide) (by decide) (by decide) ?_
  refine Own.ldc2 W0 (tw hw 246 rfl) d24_38 41 rfl ?_
  refine Own.lloadN W0 d24_41 42 rfl (-1000 : Int64) rfl ?_
  refine Own.lmulV W0 (v := (-10000 : Int64)) d24_42 43 rfl (by decide +kernel) ?_
  refine Own.lstoreN W0 d24_43 44 rfl #[.val (.long (-2147483649)), .second, .val (.int 1), .val (.long (-10000)), .second, .val (.int 3)] rfl ?_
  refine Own.iinc W0 d24_44 47 rfl rfl #[.val (.long (-2147483649)), .second, .val (.int 1), .val (.long (-10000)), .second, .val (.int 4)] rfl ?_
  refine Own.goto W0 d24_47 20 (by decide) (by decide) ?_
  refine Own.iload W0 d24_20 22 rfl 4 rfl ?_
  refine Own.bipush W0 d24_22 24 rfl 19 rfl ?_
  refine Own.icmpNo W0 d24_24 27 (by decide) rfl ?_
  refine Own.lloadN W0 d24_27 28 rfl (-2147483649 : Int64) rfl ?_
  refine Own.lloadN W0 d24_28 29 rfl (-10000 : Int64) rfl ?_
  refine Own.lcmpV W0 (v := (-1 : Int32)) d24_29 30 rfl (by decide +kernel) ?_
  refine Own.ifYes W0 d24_30 38 (by decide) (by decide) (by decide) ?_
  refine Own.ldc2 W0 (tw hw 246 rfl) d24_38 41 rfl ?_
  refine Own.lloadN W0 d24_41 42 rfl (-10000 : Int64) rfl ?_
  refine Own.lmulV W0 (v := (-100000 : Int64)) d24_42 43 rfl (by decide +kernel) ?_
  refine Own.lstoreN W0 d24_43 44 rfl #[.val (.long (-2147483649)), .second, .val (.int 1), .val (.long (-100000)), .second, .val (.int 4)] rfl ?_
  refine Own.iinc W0 d24_44 47 rfl rfl #[.val (.long (-2147483649)), .second, .val (.int 1), .val (.long (-100000)), .second, .val (.int 5)] rfl ?_
  refine Own.goto W0 d24_47 20 (by decide) (by decide) ?_
  refine Own.iload W0 d24_20 22 rfl 5 rfl ?_
  refine Own.bipush W0 d24_22 24 rfl 19 rfl ?_
  refine Own.icmpNo W0 d24_24 27 (by decide) rfl ?_
  refine Own.lloadN W0 d24_27 28 rfl (-2147483649 : Int64) rfl ?_
  refine Own.lloadN W0 d24_28 29 rfl (-100000 : Int64) rfl ?_
  refine Own.lcmpV W0 (v := (-1 : Int32)) d24_29 30 rfl (by decide +kernel) ?_
  refine Own.ifYes W0 d24_30 38 (by decide) (by decide) (by decide) ?_
  refine Own.ldc2 W0 (tw hw 246 rfl) d24_38 41 rfl ?_
  refine Own.lloadN W0 d24_41 42 rfl (-100000 : Int64) rfl ?_
  refine Own.lmulV W0 (v := (-1000000 : Int64)) d24_42 43 rfl (by decide +kernel) ?_
  refine Own.lstoreN W0 d24_43 44 rfl #[.val (.long (-2147483649)), .second, .val (.int 1), .val (.long (-1000000)), .second, .val (.int 5)] rfl ?_
  refine Own.iinc W0 d24_44 47 rfl rfl #[.val (.long (-2147483649)), .second, .val (.int 1), .val (.long (-1000000)), .second, .val (.int 6)] rfl ?_
  refine Own.goto W0 d24_47 20 (by decide) (by decide) ?_
  refine Own.iload W0 d24_20 22 rfl 6 rfl ?_
  refine Own.bipush W0 d24_22 24 rfl 19 rfl ?_
  refine Own.icmpNo W0 d24_24 27 (by decide) rfl ?_
  refine Own.lloadN W0 d24_27 28 rfl (-2147483649 : Int64) rfl ?_
  refine Own.lloadN W0 d24_28 29 rfl (-1000000 : Int64) rfl ?_
  refine Own.lcmpV W0 (v := (-1 : Int32)) d24_29 30 rfl (by decide +kernel) ?_
  refine Own.ifYes W0 d24_30 38 (by decide) (by decide) (by decide) ?_
  refine Own.ldc2 W0 (tw hw 246 rfl) d24_38 41 rfl ?_
  refine Own.lloadN W0 d24_41 42 rfl (-1000000 : Int64) rfl ?_
  refine Own.lmulV W0 (v := (-10000000 : Int64)) d24_42 43 rfl (by decide +kernel) ?_
  refine Own.lstoreN W0 d24_43 44 rfl #[.val (.long (-2147483649)), .second, .val (.int 1), .val (.long (-10000000)), .second, .val (.int 6)] rfl ?_
  refine Own.iinc W0 d24_44 47 rfl rfl #[.val (.long (-2147483649)), .second, .val (.int 1), .val (.long (-10000000)), .second, .val (.int 7)] rfl ?_
  refine Own.goto W0 d24_47 20 (by decide) (by decide) ?_
  refine Own.iload W0 d24_20 22 rfl 7 rfl ?_
  refine Own.bipush W0 d24_22 24 rfl 19 rfl ?_
  refine Own.icmpNo W0 d24_24 27 (by decide) rfl ?_
  refine Own.lloadN W0 d24_27 28 rfl (-2147483649 : Int64) rfl ?_
  refine Own.lloadN W0 d24_28 29 rfl (-10000000 : Int64) rfl ?_
  refine Own.lcmpV W0 (v := (-1 : Int32)) d24_29 30 rfl (by decide +kernel) ?_
  refine Own.ifYes W0 d24_30 38 (by decide) (by decide) (by decide) ?_
  refine Own.ldc2 W0 (tw hw 246 rfl) d24_38 41 rfl ?_
  refine Own.lloadN W0 d24_41 42 rfl (-10000000 : Int64) rfl ?_
  refine Own.lmulV W0 (v := (-100000000 : Int64)) d24_42 43 rfl (by decide +kernel) ?_
  refine Own.lstoreN W0 d24_43 44 rfl #[.val (.long (-2147483649)), .second, .val (.int 1), .val (.long (-100000000)), .second, .val (.int 7)] rfl ?_
  refine Own.iinc W0 d24_44 47 rfl rfl #[.val (.long (-2147483649)), .second, .val (.int 1), .val (.long (-100000000)), .second, .val (.int 8)] rfl ?_
  refine Own.goto W0 d24_47 20 (by decide) (by decide) ?_
  refine Own.iload W0 d24_20 22 rfl 8 rfl ?_
  refine Own.bipush W0 d24_22 24 rfl 19 rfl ?_
  refine Own.icmpNo W0 d24_24 27 (by decide) rfl ?_
  refine Own.lloadN W0 d24_27 28 rfl (-2147483649 : Int64) rfl ?_
  refine Own.lloadN W0 d24_28 29 rfl (-100000000 : Int64) rfl ?_
  refine Own.lcmpV W0 (v := (-1 : Int32)) d24_29 30 rfl (by decide +kernel) ?_
  refine Own.ifYes W0 d24_30 38 (by decide) (by decide) (by decide) ?_
  refine Own.ldc2 W0 (tw hw 246 rfl) d24_38 41 rfl ?_
  refine Own.lloadN W0 d24_41 42 rfl (-100000000 : Int64) rfl ?_
  refine Own.lmulV W0 (v := (-1000000000 : Int64)) d24_42 43 rfl (by decide +kernel) ?_
  refine Own.lstoreN W0 d24_43 44 rfl #[.val (.long (-2147483649)), .second, .val (.int 1), .val (.long (-1000000000)), .second, .val (.int 8)] rfl ?_
  refine Own.iinc W0 d24_44 47 rfl rfl #[.val (.long (-2147483649)), .second, .val (.int 1), .val (.long (-1000000000)), .second, .val (.int 9)] rfl ?_
  refine Own.goto W0 d24_47 20 (by decide) (by decide) ?_
  refine Own.iload W0 d24_20 22 rfl 9 rfl ?_
  refine Own.bipush W0 d24_22 24 rfl 19 rfl ?_
  refine Own.icmpNo W0 d24_24 27 (by decide) rfl ?_
  refine Own.lloadN W0 d24_27 28 rfl (-2147483649 : Int64) rfl ?_
  refine Own.lloadN W0 d24_28 29 rfl (-1000000000 : Int64) rfl ?_
  refine Own.lcmpV W0 (v := (-1 : Int32)) d24_29 30 rfl (by decide +kernel) ?_
  refine Own.ifYes W0 d24_30 38 (by decide) (by decide) (by decide) ?_
  refine Own.ldc2 W0 (tw hw 246 rfl) d24_38 41 rfl ?_
  refine Own.lloadN W0 d24_41 42 rfl (-1000000000 : Int64) rfl ?_
  refine Own.lmulV W0 (v := (-10000000000 : Int64)) d24_42 43 rfl (by decide +kernel) ?_
  refine Own.lstoreN W0 d24_43 44 rfl #[.val (.long (-2147483649)), .second, .val (.int 1), .val (.long (-10000000000)), .second, .val (.int 9)] rfl ?_
  refine Own.iinc W0 d24_44 47 rfl rfl #[.val (.long (-2147483649)), .second, .val (.int 1), .val (.long (-10000000000)), .second, .val (.int 10)] rfl ?_
  refine Own.goto W0 d24_47 20 (by decide) (by decide) ?_
  refine Own.iload W0 d24_20 22 rfl 10 rfl ?_
  refine Own.bipush W0 d24_22 24 rfl 19 rfl ?_
  refine Own.icmpNo W0 d24_24 27 (by decide) rfl ?_
  refine Own.lloadN W0 d24_27 28 rfl (-2147483649 : Int64) rfl ?_
  refine Own.lloadN W0 d24_28 29 rfl (-10000000000 : Int64) rfl ?_
  refine Own.lcmpV W0 (v := (1 : Int32)) d24_29 30 rfl (by decide +kernel) ?_
  refine Own.ifNo W0 d24_30 33 (by decide) rfl ?_
  refine Own.iload W0 d24_33 35 rfl 10 rfl ?_
  refine Own.iloadN W0 d24_35 36 rfl 1 rfl ?_
  refine Own.iadd W0 d24_36 37 rfl ?_
  exact Own.retI W0 (by decide) (by decide) rfl d24_37 ⟨rfl, rfl⟩
set_option maxRecDepth 65536 in
set_option maxHeartbeats 40000000 in
theorem con_gc_mi31 {G : Own.Gl} (hw : ∀ d ∈ tables_1, d.before G.a0 G.Z = true) (hEL : EW G.Z G.a0 G.EL) {dg1 : Addr} {kg1 : ClassId} (SDO : Sta G.Z G.Z.heap "java/lang/Integer" "DigitOnes" "[B" (.ref dg1)) (DG1 : Arv G.Z G.Z.heap dg1 kg1 .byte 100 (Own.digL Own.onesF) (.int 0)) {dg2 : Addr} {kg2 : ClassId} (SDT : Sta G.Z G.Z.heap "java/lang/Integer" "DigitTens" "[B" (.ref dg2)) (DG2 : Arv G.Z G.Z.heap dg2 kg2 .byte 100 (Own.digL Own.tensF) (.int 0)) {cap p : Nat} (hEN : Own.EN G.Z G.a0 G.EL cap) (hc : cap ≤ 4000) (hp : p + 11 ≤ cap) {b : Addr} (hn_b : G.n0 ≤ b) {kb : ClassId} {vs : List Value} {h : Heap} (hO : Old G.Z G.n0 h) (A : Arv G.Z h b kb .byte (Int32.ofNat cap) vs (.int 0)) (hl : vs.length = cap) {x : Int64} {ix : Int32} (hx : x = (-2147483649 : Int64)) (hix : ix = Int32.ofNat (p + 11)) :
    Own.Con G [] bGc #[.long x, .int ix, .ref b] h [] (fun v h' => (∃ r : Int32, v = some (.int r)) ∧ Keep h h' [b] ∧ Arv G.Z h' b kb .byte (Int32.ofNat cap) (Own.mid vs p [45, 50, 49, 52, 55, 52, 56, 51, 54, 52, 57]) (.int 0)) := by
  refine Own.Con.intro (plainFor_of_name pn_1) hO hEL _ (fun m => ef_bGc m x ix b) ?_
  intro X T0 W0 sf
  subst hx; subst hix
  have V0 : Arv G.Z h b kb .byte (Int32.ofNat cap) (Own.mid vs (p + 11) []) (.int 0) := by rw [Own.mid_nil]; exact A
  refine Own.iloadN W0 d26_0 1 rfl (Int32.ofNat (p + 11)) rfl ?_
  refine Own.istore W0 d26_1 3 rfl #[.val (.long (-2147483649)), .second, .val (.int (Int32.ofNat (p + 11))), .val (.ref b), .unset, .unset, .unset, .val (.int (Int32.ofNat (p + 11))), .unset, .unset, .unset] rfl ?_
  refine Own.lloadN W0 d26_3 4 rfl (-2147483649 : Int64) rfl ?_
  refine Own.lconst W0 d26_4 5 rfl (0 : Int64) rfl ?_
  refine Own.lcmpV W0 (v := (-1 : Int32)) d26_5 6 rfl (by decide +kernel) ?_
  refine Own.ifNo W0 d26_6 9 (by decide) rfl ?_
  refine Own.iconst W0 d26_9 10 rfl 1 rfl ?_
  refine Own.goto W0 d26_10 14 (by decide) (by decide) ?_
  refine Own.istore W0 d26_14 16 rfl #[.val (.long (-2147483649)), .second, .val (.int (Int32.ofNat (p + 11))), .val (.ref b), .unset, .unset, .unset, .val (.int (Int32.ofNat (p + 11))), .val (.int 1), .unset, .unset] rfl ?_
  refine Own.iload W0 d26_16 18 rfl 1 rfl ?_
  refine Own.ifYes W0 d26_18 24 (by decide) (by decide) (by decide) ?_
  refine Own.lloadN W0 d26_24 25 rfl (-2147483649 : Int64) rfl ?_
  refine Own.ldc2 W0 (tw hw 161 rfl) d26_25 28 rfl ?_
  refine Own.lcmpV W0 (v := (-1 : Int32)) d26_28 29 rfl (by decide +kernel) ?_
  refine Own.ifNo W0 d26_29 32 (by decide) rfl ?_
  refine Own.lloadN W0 d26_32 33 rfl (-2147483649 : Int64) rfl ?_
  refine Own.ldc2 W0 (tw hw 247 rfl) d26_33 36 rfl ?_
  refine Own.ldivV W0 (v := (-21474836 : Int64)) d26_36 37 rfl (by decide) (by decide +kernel) ?_
  refine Own.lstore W0 d26_37 39 rfl #[.val (.long (-2147483649)), .second, .val (.int (Int32.ofNat (p + 11))), .val (.ref b), .val (.long (-21474836)), .second, .unset, .val (.int (Int32.ofNat (p + 11))), .val (.int 1), .unset, .unset] rfl ?_
  refine Own.lload W0 d26_39 41 rfl (-21474836 : Int64) rfl ?_
  refine Own.ldc2 W0 (tw hw 247 rfl) d26_41 44 rfl ?_
  refine Own.lmulV W0 (v := (-2147483600 : Int64)) d26_44 45 rfl (by decide +kernel) ?_
  refine Own.lloadN W0 d26_45 46 rfl (-2147483649 : Int64) rfl ?_
  refine Own.lsubV W0 (v := (49 : Int64)) d26_46 47 rfl (by decide +kernel) ?_
  refine Own.l2iV W0 (v := (49 : Int32)) d26_47 48 rfl (by decide +kernel) ?_
  refine Own.istore W0 d26_48 50 rfl #[.val (.long (-2147483649)), .second, .val (.int (Int32.ofNat (p + 11))), .val (.ref b), .val (.long (-21474836)), .second, .val (.int 49), .val (.int (Int32.ofNat (p + 11))), .val (.int 1), .unset, .unset] rfl ?_
  refine Own.lload W0 d26_50 52 rfl (-21474836 : Int64) rfl ?_
  refine Own.lstoreN W0 d26_52 53 rfl #[.val (.long (-21474836)), .second, .val (.int (Int32.ofNat (p + 11))), .val (.ref b), .val (.long (-21474836)), .second, .val (.int 49), .val (.int (Int32.ofNat (p + 11))), .val (.int 1), .unset, .unset] rfl ?_
  refine Own.aloadN W0 d26_53 54 rfl (.ref b) rfl rfl ?_
  refine Own.iincD W0 (n := p + 10) d26_54 57 rfl rfl #[.val (.long (-21474836)), .second, .val (.int (Int32.ofNat (p + 11))), .val (.ref b), .val (.long (-21474836)), .second, .val (.int 49), .val (.int (Int32.ofNat (p + 10))), .val (.int 1), .unset, .unset] rfl ?_
  refine Own.iload W0 d26_57 59 rfl (Int32.ofNat (p + 10)) rfl ?_
  refine Own.getS W0 (tw hw 162 rfl) Via.refl (W0.sta SDO) d26_59 62 rfl ?_
  intro T1 W1
  refine Own.iload W1 d26_62 64 rfl 49 rfl ?_
  refine Own.digLoad W1 DG1 (v := (57 : Int32)) ⟨by decide, by decide⟩ (Own.ones_v ⟨by decide, by decide⟩ (by decide)) d26_64 65 rfl ?_
  refine Own.bst W1 (q := p + 10) (cs := []) V0 hl (by show p + 10 + 1 + 0 ≤ cap; omega) hc hEN hn_b d26_65 66 rfl ?_
  intro T2 h2 W2 Q2 V2 k2
  refine Own.aloadN W2 d26_66 67 rfl (.ref b) rfl rfl ?_
  refine Own.iincD W2 (n := p + 9) d26_67 70 rfl rfl #[.val (.long (-21474836)), .second, .val (.int (Int32.ofNat (p + 11))), .val (.ref b), .val (.long (-21474836)), .second, .val (.int 49), .val (.int (Int32.ofNat (p + 9))), .val (.int 1), .unset, .unset] rfl ?_
  refine Own.iload W2 d26_70 72 rfl (Int32.ofNat (p + 9)) rfl ?_
  refine Own.getS W2 (tw hw 248 rfl) Via.refl (W2.sta SDT) d26_72 75 rfl ?_
  intro T3 W3
  refine Own.iload W3 d26_75 77 rfl 49 rfl ?_
  refine Own.digLoad W3 DG2 (v := (52 : Int32)) ⟨by decide, by decide⟩ (Own.tens_v ⟨by decide, by decide⟩ (by decide)) d26_77 78 rfl ?_
  refine Own.bst W3 (q := p + 9) (cs := [57]) V2 hl (by show p + 9 + 1 + 1 ≤ cap; omega) hc hEN hn_b d26_78 79 rfl ?_
  intro T4 h4 W4 Q4 V4 k4
  refine Own.goto W4 d26_79 24 (by decide) (by decide) ?_
  refine Own.lloadN W4 d26_24 25 rfl (-21474836 : Int64) rfl ?_
  refine Own.ldc2 W4 (tw hw 161 rfl) d26_25 28 rfl ?_
  refine Own.lcmpV W4 (v := (1 : Int32)) d26_28 29 rfl (by decide +kernel) ?_
  refine Own.ifYes W4 d26_29 82 (by decide) (by decide) (by decide) ?_
  refine Own.lloadN W4 d26_82 83 rfl (-21474836 : Int64) rfl ?_
  refine Own.l2iV W4 (v := (-21474836 : Int32)) d26_83 84 rfl (by decide +kernel) ?_
  refine Own.istore W4 d26_84 86 rfl #[.val (.long (-21474836)), .second, .val (.int (Int32.ofNat (p + 11))), .val (.ref b), .val (.long (-21474836)), .second, .val (.int 49), .val (.int (Int32.ofNat (p + 9))), .val (.int 1), .unset, .val (.int (-21474836))] rfl ?_
  refine Own.iload W4 d26_86 88 rfl (-21474836 : Int32) rfl ?_
  refine Own.bipush W4 d26_88 90 rfl (-100 : Int32) rfl ?_
  refine Own.icmpNo W4 d26_90 93 (by decide) rfl ?_
  refine Own.iload W4 d26_93 95 rfl (-21474836 : Int32) rfl ?_
  refine Own.bipush W4 d26_95 97 rfl 100 rfl ?_
  refine Own.idivV W4 (v := (-214748 : Int32)) d26_97 98 rfl (by decide) (by decide +kernel) ?_
  refine Own.istore W4 d26_98 100 rfl #[.val (.long (-21474836)), .second, .val (.int (Int32.ofNat (p + 11))), .val (.ref b), .val (.long (-21474836)), .second, .val (.int 49), .val (.int (Int32.ofNat (p + 9))), .val (.int 1), .val (.int (-214748)), .val (.int (-21474836))] rfl ?_
  refine Own.iload W4 d26_100 102 rfl (-214748 : Int32) rfl ?_
  refine Own.bipush W4 d26_102 104 rfl 100 rfl ?_
  refine Own.imulV W4 (v := (-21474800 : Int32)) d26_104 105 rfl (by decide +kernel) ?_
  refine Own.iload W4 d26_105 107 rfl (-21474836 : Int32) rfl ?_
  refine Own.isubV W4 (v := (36 : Int32)) d26_107 108 rfl (by decide +kernel) ?_
  refine Own.istore W4 d26_108 110 rfl #[.val (.long (-21474836)), .second, .val (.int (Int32.ofNat (p + 11))), .val (.ref b), .val (.long (-21474836)), .second, .val (.int 36), .val (.int (Int32.ofNat (p + 9))), .val (.int 1), .val (.int (-214748)), .val (.int (-21474836))] rfl ?_
  refine Own.iload W4 d26_110 112 rfl (-214748 : Int32) rfl ?_
  refine Own.istore W4 d26_112 114 rfl #[.val (.long (-21474836)), .second, .val (.int (Int32.ofNat (p + 11))), .val (.ref b), .val (.long (-21474836)), .second, .val (.int 36), .val (.int (Int32.ofNat (p + 9))), .val (.int 1), .val (.int (-214748)), .val (.int (-214748))] rfl ?_
  refine Own.aloadN W4 d26_114 115 rfl (.ref b) rfl rfl ?_
  refine Own.iincD W4 (n := p + 8) d26_115 118 rfl rfl #[.val (.long (-21474836)), .second, .val (.int (Int32.ofNat (p + 11))), .val (.ref b), .val (.long (-21474836)), .second, .val (.int 36), .val (.int (Int32.ofNat (p + 8))), .val (.int 1), .val (.int (-214748)), .val (.int (-214748))] rfl ?_
  refine Own.iload W4 d26_118 120 rfl (Int32.ofNat (p + 8)) rfl ?_
  refine Own.getS W4 (tw hw 162 rfl) Via.refl (W4.sta SDO) d26_120 123 rfl ?_
  intro T5 W5
  refine Own.iload W5 d26_123 125 rfl 36 rfl ?_
  refine Own.digLoad W5 DG1 (v := (54 : Int32)) ⟨by decide, by decide⟩ (Own.ones_v ⟨by decide, by decide⟩ (by decide)) d26_125 126 rfl ?_
  refine Own.bst W5 (q := p + 8) (cs := [52, 57]) V4 hl (by show p + 8 + 1 + 2 ≤ cap; omega) hc hEN hn_b d26_126 127 rfl ?_
  intro T6 h6 W6 Q6 V6 k6
  refine Own.aloadN W6 d26_127 128 rfl (.ref b) rfl rfl ?_
  refine Own.iincD W6 (n := p + 7) d26_128 131 rfl rfl #[.val (.long (-21474836)), .second, .val (.int (Int32.ofNat (p + 11))), .val (.ref b), .val (.long (-21474836)), .second, .val (.int 36), .val (.int (Int32.ofNat (p + 7))), .val (.int 1), .val (.int (-214748)), .val (.int (-214748))] rfl ?_
  refine Own.iload W6 d26_131 133 rfl (Int32.ofNat (p + 7)) rfl ?_
  refine Own.getS W6 (tw hw 248 rfl) Via.refl (W6.sta SDT) d26_133 136 rfl ?_
  intro T7 W7
  refine Own.iload W7 d26_136 138 rfl 36 rfl ?_
  refine Own.digLoad W7 DG2 (v := (51 : Int32)) ⟨by decide, by decide⟩ (Own.tens_v ⟨by decide, by decide⟩ (by decide)) d26_138 139 rfl ?_
  refine Own.bst W7 (q := p + 7) (cs := [54, 52, 57]) V6 hl (by show p + 7 + 1 + 3 ≤ cap; omega) hc hEN hn_b d26_139 140 rfl ?_
  intro T8 h8 W8 Q8 V8 k8
  refine Own.goto W8 d26_140 86 (by decide) (by decide) ?_
  refine Own.iload W8 d26_86 88 rfl (-214748 : Int32) rfl ?_
  refine Own.bipush W8 d26_88 90 rfl (-100 : Int32) rfl ?_
  refine Own.icmpNo W8 d26_90 93 (by decide) rfl ?_
  refine Own.iload W8 d26_93 95 rfl (-214748 : Int32) rfl ?_
  refine Own.bipush W8 d26_95 97 rfl 100 rfl ?_
  refine Own.idivV W8 (v := (-2147 : Int32)) d26_97 98 rfl (by decide) (by decide +kernel) ?_
  refine Own.istore W8 d26_98 100 rfl #[.val (.long (-21474836)), .second, .val (.int (Int32.ofNat (p + 11))), .val (.ref b), .val (.long (-21474836)), .second, .val (.int 36), .val (.int (Int32.ofNat (p + 7))), .val (.int 1), .val (.int (-2147)), .val (.int (-214748))] rfl ?_
  refine Own.iload W8 d26_100 102 rfl (-2147 : Int32) rfl ?_
  refine Own.bipush W8 d26_102 104 rfl 100 rfl ?_
  refine Own.imulV W8 (v := (-214700 : Int32)) d26_104 105 rfl (by decide +kernel) ?_
  refine Own.iload W8 d26_105 107 rfl (-214748 : Int32) rfl ?_
  refine Own.isubV W8 (v := (48 : Int32)) d26_107 108 rfl (by decide +kernel) ?_
  refine Own.istore W8 d26_108 110 rfl #[.val (.long (-21474836)), .second, .val (.int (Int32.ofNat (p + 11))), .val (.ref b), .val (.long (-21474836)), .second, .val (.int 48), .val (.int (Int32.ofNat (p + 7))), .val (.int 1), .val (.int (-2147)), .val (.int (-214748))] rfl ?_
  refine Own.iload W8 d26_110 112 rfl (-2147 : Int32) rfl ?_
  refine Own.istore W8 d26_112 114 rfl #[.val (.long (-21474836)), .second, .val (.int (Int32.ofNat (p + 11))), .val (.ref b), .val (.long (-21474836)), .second, .val (.int 48), .val (.int (Int32.ofNat (p + 7))), .val (.int 1), .val (.int (-2147)), .val (.int (-2147))] rfl ?_
  refine Own.aloadN W8 d26_114 115 rfl (.ref b) rfl rfl ?_
  refine Own.iincD W8 (n := p + 6) d26_115 118 rfl rfl #[.val (.long (-21474836)), .second, .val (.int (Int32.ofNat (p + 11))), .val (.ref b), .val (.long (-21474836)), .second, .val (.int 48), .val (.int (Int32.ofNat (p + 6))), .val (.int 1), .val (.int (-2147)), .val (.int (-2147))] rfl ?_
  refine Own.iload W8 d26_118 120 rfl (Int32.ofNat (p + 6)) rfl ?_
  refine Own.getS W8 (tw hw 162 rfl) Via.refl (W8.sta SDO) d26_120 123 rfl ?_
  intro T9 W9
  refine Own.iload W9 d26_123 125 rfl 48 rfl ?_
  refine Own.digLoad W9 DG1 (v := (56 : Int32)) ⟨by decide, by decide⟩ (Own.ones_v ⟨by decide, by decide⟩ (by decide)) d26_125 126 rfl ?_
  refine Own.bst W9 (q := p + 6) (cs := [51, 54, 52, 57]) V8 hl (by show p + 6 + 1 + 4 ≤ cap; omega) hc hEN hn_b d26_126 127 rfl ?_
  intro T10 h10 W10 Q10 V10 k10
  refine Own.aloadN W10 d26_127 128 rfl (.ref b) rfl rfl ?_
  refine Own.iincD W10 (n := p + 5) d26_128 131 rfl rfl #[.val (.long (-21474836)), .second, .val (.int (Int32.ofNat (p + 11))), .val (.ref b), .val (.long (-21474836)), .second, .val (.int 48), .val (.int (Int32.ofNat (p + 5))), .val (.int 1), .val (.int (-2147)), .val (.int (-2147))] rfl ?_
  refine Own.iload W10 d26_131 133 rfl (Int32.ofNat (p + 5)) rfl ?_
  refine Own.getS W10 (tw hw 248 rfl) Via.refl (W10.sta SDT) d26_133 136 rfl ?_
  intro T11 W11
  refine Own.iload W11 d26_136 138 rfl 48 rfl ?_
  refine Own.digLoad W11 DG2 (v := (52 : Int32)) ⟨by decide, by decide⟩ (Own.tens_v ⟨by decide, by decide⟩ (by decide)) d26_138 139 rfl ?_
  refine Own.bst W11 (q := p + 5) (cs := [56, 51, 54, 52, 57]) V10 hl (by show p + 5 + 1 + 5 ≤ cap; omega) hc hEN hn_b d26_139 140 rfl ?_
  intro T12 h12 W12 Q12 V12 k12
  refine Own.goto W12 d26_140 86 (by decide) (by decide) ?_
  refine Own.iload W12 d26_86 88 rfl (-2147 : Int32) rfl ?_
  refine Own.bipush W12 d26_88 90 rfl (-100 : Int32) rfl ?_
  refine Own.icmpNo W12 d26_90 93 (by decide) rfl ?_
  refine Own.iload W12 d26_93 95 rfl (-2147 : Int32) rfl ?_
  refine Own.bipush W12 d26_95 97 rfl 100 rfl ?_
  refine Own.idivV W12 (v := (-21 : Int32)) d26_97 98 rfl (by decide) (by decide +kernel) ?_
  refine Own.istore W12 d26_98 100 rfl #[.val (.long (-21474836)), .second, .val (.int (Int32.ofNat (p + 11))), .val (.ref b), .val (.long (-21474836)), .second, .val (.int 48), .val (.int (Int32.ofNat (p + 5))), .val (.int 1), .val (.int (-21)), .val (.int (-2147))] rfl ?_
  refine Own.iload W12 d26_100 102 rfl (-21 : Int32) rfl ?_
  refine Own.bipush W12 d26_102 104 rfl 100 rfl ?_
  refine Own.imulV W12 (v := (-2100 : Int32)) d26_104 105 rfl (by decide +kernel) ?_
  refine Own.iload W12 d26_105 107 rfl (-2147 : Int32) rfl ?_
  refine Own.isubV W12 (v := (47 : Int32)) d26_107 108 rfl (by decide +kernel) ?_
  refine Own.istore W12 d26_108 110 rfl #[.val (.long (-21474836)), .second, .val (.int (Int32.ofNat (p + 11))), .val (.ref b), .val (.long (-21474836)), .second, .val (.int 47), .val (.int (Int32.ofNat (p + 5))), .val (.int 1), .val (.int (-21)), .val (.int (-2147))] rfl ?_
  refine Own.iload W12 d26_110 112 rfl (-21 : Int32) rfl ?_
  refine Own.istore W12 d26_112 114 rfl #[.val (.long (-21474836)), .second, .val (.int (Int32.ofNat (p + 11))), .val (.ref b), .val (.long (-21474836)), .second, .val (.int 47), .val (.int (Int32.ofNat (p + 5))), .val (.int 1), .val (.int (-21)), .val (.int (-21))] rfl ?_
  refine Own.aloadN W12 d26_114 115 rfl (.ref b) rfl rfl ?_
  refine Own.iincD W12 (n := p + 4) d26_115 118 rfl rfl #[.val (.long (-21474836)), .second, .val (.int (Int32.ofNat (p + 11))), .val (.ref b), .val (.long (-21474836)), .second, .val (.int 47), .val (.int (Int32.ofNat (p + 4))), .val (.int 1), .val (.int (-21)), .val (.int (-21))] rfl ?_
  refine Own.iload W12 d26_118 120 rfl (Int32.ofNat (p + 4)) rfl ?_
  refine Own.getS W12 (tw hw 162 rfl) Via.refl (W12.sta SDO) d26_120 123 rfl ?_
  intro T13 W13
  refine Own.iload W13 d26_123 125 rfl 47 rfl ?_
  refine Own.digLoad W13 DG1 (v := (55 : Int32)) ⟨by decide, by decide⟩ (Own.ones_v ⟨by decide, by decide⟩ (by decide)) d26_125 126 rfl ?_
  refine Own.bst W13 (q := p + 4) (cs := [52, 56, 51, 54, 52, 57]) V12 hl (by show p + 4 + 1 + 6 ≤ cap; omega) hc hEN hn_b d26_126 127 rfl ?_
  intro T14 h14 W14 Q14 V14 k14
  refine Own.aloadN W14 d26_127 128 rfl (.ref b) rfl rfl ?_
  refine Own.iincD W14 (n := p + 3) d26_128 131 rfl rfl #[.val (.long (-21474836)), .second, .val (.int (Int32.ofNat (p + 11))), .val (.ref b), .val (.long (-21474836)), .second, .val (.int 47), .val (.int (Int32.ofNat (p + 3))), .val (.int 1), .val (.int (-21)), .val (.int (-21))] rfl ?_
  refine Own.iload W14 d26_131 133 rfl (Int32.ofNat (p + 3)) rfl ?_
  refine Own.getS W14 (tw hw 248 rfl) Via.refl (W14.sta SDT) d26_133 136 rfl ?_
  intro T15 W15
  refine Own.iload W15 d26_136 138 rfl 47 rfl ?_
  refine Own.digLoad W15 DG2 (v := (52 : Int32)) ⟨by decide, by decide⟩ (Own.tens_v ⟨by decide, by decide⟩ (by decide)) d26_138 139 rfl ?_
  refine Own.bst W15 (q := p + 3) (cs := [55, 52, 56, 51, 54, 52, 57]) V14 hl (by show p + 3 + 1 + 7 ≤ cap; omega) hc hEN hn_b d26_139 140 rfl ?_
  intro T16 h16 W16 Q16 V16 k16
  refine Own.goto W16 d26_140 86 (by decide) (by decide) ?_
  refine Own.iload W16 d26_86 88 rfl (-21 : Int32) rfl ?_
  refine Own.bipush W16 d26_88 90 rfl (-100 : Int32) rfl ?_
  refine Own.icmpYes W16 d26_90 143 (by decide) (by decide) (by decide) ?_
  refine Own.aloadN W16 d26_143 144 rfl (.ref b) rfl rfl ?_
  refine Own.iincD W16 (n := p + 2) d26_144 147 rfl rfl #[.val (.long (-21474836)), .second, .val (.int (Int32.ofNat (p + 11))), .val (.ref b), .val (.long (-21474836)), .second, .val (.int 47), .val (.int (Int32.ofNat (p + 2))), .val (.int 1), .val (.int (-21)), .val (.int (-21))] rfl ?_
  refine Own.iload W16 d26_147 149 rfl (Int32.ofNat (p + 2)) rfl ?_
  refine Own.getS W16 (tw hw 162 rfl) Via.refl (W16.sta SDO) d26_149 152 rfl ?_
  intro T17 W17
  refine Own.iload W17 d26_152 154 rfl (-21 : Int32) rfl ?_
  refine Own.inegV W17 (v := (21 : Int32)) d26_154 155 rfl (by decide +kernel) ?_
  refine Own.digLoad W17 DG1 (v := (49 : Int32)) ⟨by decide, by decide⟩ (Own.ones_v ⟨by decide, by decide⟩ (by decide)) d26_155 156 rfl ?_
  refine Own.bst W17 (q := p + 2) (cs := [52, 55, 52, 56, 51, 54, 52, 57]) V16 hl (by show p + 2 + 1 + 8 ≤ cap; omega) hc hEN hn_b d26_156 157 rfl ?_
  intro T18 h18 W18 Q18 V18 k18
  refine Own.iload W18 d26_157 159 rfl (-21 : Int32) rfl ?_
  refine Own.bipush W18 d26_159 161 rfl (-9 : Int32) rfl ?_
  refine Own.icmpNo W18 d26_161 164 (by decide) rfl ?_
  refine Own.aloadN W18 d26_164 165 rfl (.ref b) rfl rfl ?_
  refine Own.iincD W18 (n := p + 1) d26_165 168 rfl rfl #[.val (.long (-21474836)), .second, .val (.int (Int32.ofNat (p + 11))), .val (.ref b), .val (.long (-21474836)), .second, .val (.int 47), .val (.int (Int32.ofNat (p + 1))), .val (.int 1), .val (.int (-21)), .val (.int (-21))] rfl ?_
  refine Own.iload W18 d26_168 170 rfl (Int32.ofNat (p + 1)) rfl ?_
  refine Own.getS W18 (tw hw 248 rfl) Via.refl (W18.sta SDT) d26_170 173 rfl ?_
  intro T19 W19
  refine Own.iload W19 d26_173 175 rfl (-21 : Int32) rfl ?_
  refine Own.inegV W19 (v := (21 : Int32)) d26_175 176 rfl (by decide +kernel) ?_
  refine Own.digLoad W19 DG2 (v := (50 : Int32)) ⟨by decide, by decide⟩ (Own.tens_v ⟨by decide, by decide⟩ (by decide)) d26_176 177 rfl ?_
  refine Own.bst W19 (q := p + 1) (cs := [49, 52, 55, 52, 56, 51, 54, 52, 57]) V18 hl (by show p + 1 + 1 + 9 ≤ cap; omega) hc hEN hn_b d26_177 178 rfl ?_
  intro T20 h20 W20 Q20 V20 k20
  refine Own.iload W20 d26_178 180 rfl 1 rfl ?_
  refine Own.ifNo W20 d26_180 183 (by decide) rfl ?_
  refine Own.aloadN W20 d26_183 184 rfl (.ref b) rfl rfl ?_
  refine Own.iincD W20 (n := p + 0) d26_184 187 rfl rfl #[.val (.long (-21474836)), .second, .val (.int (Int32.ofNat (p + 11))), .val (.ref b), .val (.long (-21474836)), .second, .val (.int 47), .val (.int (Int32.ofNat (p + 0))), .val (.int 1), .val (.int (-21)), .val (.int (-21))] rfl ?_
  refine Own.iload W20 d26_187 189 rfl (Int32.ofNat (p + 0)) rfl ?_
  refine Own.bipush W20 d26_189 191 rfl 45 rfl ?_
  refine Own.bst W20 (q := p + 0) (cs := [50, 49, 52, 55, 52, 56, 51, 54, 52, 57]) V20 hl (by show p + 0 + 1 + 10 ≤ cap; omega) hc hEN hn_b d26_191 192 rfl ?_
  intro T21 h21 W21 Q21 V21 k21
  refine Own.iload W21 d26_192 194 rfl (Int32.ofNat (p + 0)) rfl ?_
  exact Own.retI W21 (by decide) (by decide) rfl d26_194 ⟨⟨_, rfl⟩, (Keep.wr (Keep.wr (Keep.wr (Keep.wr (Keep.wr (Keep.wr (Keep.wr (Keep.wr (Keep.wr (Keep.wr (Keep.wr (Keep.refl h [b]) Q2 (Or.inl (by simp))) Q4 (Or.inl (by simp))) Q6 (Or.inl (by simp))) Q8 (Or.inl (by simp))) Q10 (Or.inl (by simp))) Q12 (Or.inl (by simp))) Q14 (Or.inl (by simp))) Q16 (Or.inl (by simp))) Q18 (Or.inl (by simp))) Q20 (Or.inl (by simp))) Q21 (Or.inl (by simp))), V21⟩
theorem lt_mi31 {G : Own.Gl} (hw : ∀ d ∈ tables_1, d.before G.a0 G.Z = true) (hEL : EW G.Z G.a0 G.EL) {dg1 : Addr} {kg1 : ClassId} (SDO : Sta G.Z G.Z.heap "java/lang/Integer" "DigitOnes" "[B" (.ref dg1)) (DG1 : Arv G.Z G.Z.heap dg1 kg1 .byte 100 (Own.digL Own.onesF) (.int 0)) {dg2 : Addr} {kg2 : ClassId} (SDT : Sta G.Z G.Z.heap "java/lang/Integer" "DigitTens" "[B" (.ref dg2)) (DG2 : Arv G.Z G.Z.heap dg2 kg2 .byte 100 (Own.digL Own.tensF) (.int 0)) : LT G (-2147483649 : Int64) [45, 50, 49, 52, 55, 52, 56, 51, 54, 52, 57] := ⟨by decide, fun hO => con_ss_mi31 hw hEL rfl hO, fun hO hEN hc hp hb A hl => con_gc_mi31 hw hEL SDO DG1 SDT DG2 hEN hc hp hb hO A hl rfl rfl⟩
set_option maxRecDepth 65536 in
set_option maxHeartbeats 40000000 in
theorem con_ss_z {G : Own.Gl} (hw : ∀ d ∈ tables_1, d.before G.a0 G.Z = true) (hEL : EW G.Z G.a0 G.EL) {x : Int64} (hx : x = (0 : Int64)) {h : Heap} (hO : Old G.Z G.n0 h) :
    Own.Con G [] bSs #[.long x] h [] (fun v h' => v = some (.int (Int32.ofNat 1)) ∧ h' = h) := by
  refine Own.Con.intro (plainFor_of_name pn_1) hO hEL _ (fun m => ef_bSs m x) ?_
  intro X T0 W0 sf
  subst hx
  refine Own.iconst W0 d24_0 1 rfl 1 rfl ?_
  refine Own.istoreN W0 d24_1 2 rfl #[.val (.long 0), .second, .val (.int 1), .unset, .unset, .unset] rfl ?_
  refine Own.lloadN W0 d24_2 3 rfl (0 : Int64) rfl ?_
  refine Own.lconst W0 d24_3 4 rfl (0 : Int64) rfl ?_
  refine Own.lcmpV W0 (v := (0 : Int32)) d24_4 5 rfl (by decide +kernel) ?_
  refine Own.ifNo W0 d24_5 8 (by decide) rfl ?_
  refine Own.iconst W0 d24_8 9 rfl 0 rfl ?_
  refine Own.istoreN W0 d24_9 10 rfl #[.val (.long 0), .second, .val (.int 0), .unset, .unset, .unset] rfl ?_
  refine Own.lloadN W0 d24_10 11 rfl (0 : Int64) rfl ?_
  refine Own.lnegV W0 (v := (0 : Int64)) d24_11 12 rfl (by decide +kernel) ?_
  refine Own.lstoreN W0 d24_12 13 rfl #[.val (.long 0), .second, .val (.int 0), .unset, .unset, .unset] rfl ?_
  refine Own.ldc2 W0 (tw hw 152 rfl) d24_13 16 rfl ?_
  refine Own.lstoreN W0 d24_16 17 rfl #[.val (.long 0), .second, .val (.int 0), .val (.long (-10)), .second, .unset] rfl ?_
  refine Own.iconst W0 d24_17 18 rfl 1 rfl ?_
  refine Own.istore W0 d24_18 20 rfl #[.val (.long 0), .second, .val (.int 0), .val (.long (-10)), .second, .val (.int 1)] rfl ?_
  refine Own.iload W0 d24_20 22 rfl 1 rfl ?_
  refine Own.bipush W0 d24_22 24 rfl 19 rfl ?_
  refine Own.icmpNo W0 d24_24 27 (by decide) rfl ?_
  refine Own.lloadN W0 d24_27 28 rfl (0 : Int64) rfl ?_
  refine Own.lloadN W0 d24_28 29 rfl (-10 : Int64) rfl ?_
  refine Own.lcmpV W0 (v := (1 : Int32)) d24_29 30 rfl (by decide +kernel) ?_
  refine Own.ifNo W0 d24_30 33 (by decide) rfl ?_
  refine Own.iload W0 d24_33 35 rfl 1 rfl ?_
  refine Own.iloadN W0 d24_35 36 rfl 0 rfl ?_
  refine Own.iadd W0 d24_36 37 rfl ?_
  exact Own.retI W0 (by decide) (by decide) rfl d24_37 ⟨rfl, rfl⟩
set_option maxRecDepth 65536 in
set_option maxHeartbeats 40000000 in
theorem con_gc_z {G : Own.Gl} (hw : ∀ d ∈ tables_1, d.before G.a0 G.Z = true) (hEL : EW G.Z G.a0 G.EL) {dg1 : Addr} {kg1 : ClassId} (SDO : Sta G.Z G.Z.heap "java/lang/Integer" "DigitOnes" "[B" (.ref dg1)) (DG1 : Arv G.Z G.Z.heap dg1 kg1 .byte 100 (Own.digL Own.onesF) (.int 0)) {dg2 : Addr} {kg2 : ClassId} (SDT : Sta G.Z G.Z.heap "java/lang/Integer" "DigitTens" "[B" (.ref dg2)) (DG2 : Arv G.Z G.Z.heap dg2 kg2 .byte 100 (Own.digL Own.tensF) (.int 0)) {cap p : Nat} (hEN : Own.EN G.Z G.a0 G.EL cap) (hc : cap ≤ 4000) (hp : p + 1 ≤ cap) {b : Addr} (hn_b : G.n0 ≤ b) {kb : ClassId} {vs : List Value} {h : Heap} (hO : Old G.Z G.n0 h) (A : Arv G.Z h b kb .byte (Int32.ofNat cap) vs (.int 0)) (hl : vs.length = cap) {x : Int64} {ix : Int32} (hx : x = (0 : Int64)) (hix : ix = Int32.ofNat (p + 1)) :
    Own.Con G [] bGc #[.long x, .int ix, .ref b] h [] (fun v h' => (∃ r : Int32, v = some (.int r)) ∧ Keep h h' [b] ∧ Arv G.Z h' b kb .byte (Int32.ofNat cap) (Own.mid vs p [48]) (.int 0)) := by
  refine Own.Con.intro (plainFor_of_name pn_1) hO hEL _ (fun m => ef_bGc m x ix b) ?_
  intro X T0 W0 sf
  subst hx; subst hix
  have V0 : Arv G.Z h b kb .byte (Int32.ofNat cap) (Own.mid vs (p + 1) []) (.int 0) := by rw [Own.mid_nil]; exact A
  refine Own.iloadN W0 d26_0 1 rfl (Int32.ofNat (p + 1)) rfl ?_
  refine Own.istore W0 d26_1 3 rfl #[.val (.long 0), .second, .val (.int (Int32.ofNat (p + 1))), .val (.ref b), .unset, .unset, .unset, .val (.int (Int32.ofNat (p + 1))), .unset, .unset, .unset] rfl ?_
  refine Own.lloadN W0 d26_3 4 rfl (0 : Int64) rfl ?_
  refine Own.lconst W0 d26_4 5 rfl (0 : Int64) rfl ?_
  refine Own.lcmpV W0 (v := (0 : Int32)) d26_5 6 rfl (by decide +kernel) ?_
  refine Own.ifYes W0 d26_6 13 (by decide) (by decide) (by decide) ?_
  refine Own.iconst W0 d26_13 14 rfl 0 rfl ?_
  refine Own.istore W0 d26_14 16 rfl #[.val (.long 0), .second, .val (.int (Int32.ofNat (p + 1))), .val (.ref b), .unset, .unset, .unset, .val (.int (Int32.ofNat (p + 1))), .val (.int 0), .unset, .unset] rfl ?_
  refine Own.iload W0 d26_16 18 rfl 0 rfl ?_
  refine Own.ifNo W0 d26_18 21 (by decide) rfl ?_
  refine Own.lloadN W0 d26_21 22 rfl (0 : Int64) rfl ?_
  refine Own.lnegV W0 (v := (0 : Int64)) d26_22 23 rfl (by decide +kernel) ?_
  refine Own.lstoreN W0 d26_23 24 rfl #[.val (.long 0), .second, .val (.int (Int32.ofNat (p + 1))), .val (.ref b), .unset, .unset, .unset, .val (.int (Int32.ofNat (p + 1))), .val (.int 0), .unset, .unset] rfl ?_
  refine Own.lloadN W0 d26_24 25 rfl (0 : Int64) rfl ?_
  refine Own.ldc2 W0 (tw hw 161 rfl) d26_25 28 rfl ?_
  refine Own.lcmpV W0 (v := (1 : Int32)) d26_28 29 rfl (by decide +kernel) ?_
  refine Own.ifYes W0 d26_29 82 (by decide) (by decide) (by decide) ?_
  refine Own.lloadN W0 d26_82 83 rfl (0 : Int64) rfl ?_
  refine Own.l2iV W0 (v := (0 : Int32)) d26_83 84 rfl (by decide +kernel) ?_
  refine Own.istore W0 d26_84 86 rfl #[.val (.long 0), .second, .val (.int (Int32.ofNat (p + 1))), .val (.ref b), .unset, .unset, .unset, .val (.int (Int32.ofNat (p + 1))), .val (.int 0), .unset, .val (.int 0)] rfl ?_
  refine Own.iload W0 d26_86 88 rfl 0 rfl ?_
  refine Own.bipush W0 d26_88 90 rfl (-100 : Int32) rfl ?_
  refine Own.icmpYes W0 d26_90 143 (by decide) (by decide) (by decide) ?_
  refine Own.aloadN W0 d26_143 144 rfl (.ref b) rfl rfl ?_
  refine Own.iincD W0 (n := p + 0) d26_144 147 rfl rfl #[.val (.long 0), .second, .val (.int (Int32.ofNat (p + 1))), .val (.ref b), .unset, .unset, .unset, .val (.int (Int32.ofNat (p + 0))), .val (.int 0), .unset, .val (.int 0)] rfl ?_
  refine Own.iload W0 d26_147 149 rfl (Int32.ofNat (p + 0)) rfl ?_
  refine Own.getS W0 (tw hw 162 rfl) Via.refl (W0.sta SDO) d26_149 152 rfl ?_
  intro T1 W1
  refine Own.iload W1 d26_152 154 rfl 0 rfl ?_
  refine Own.inegV W1 (v := (0 : Int32)) d26_154 155 rfl (by decide +kernel) ?_
  refine Own.digLoad W1 DG1 (v := (48 : Int32)) ⟨by decide, by decide⟩ (Own.ones_v ⟨by decide, by decide⟩ (by decide)) d26_155 156 rfl ?_
  refine Own.bst W1 (q := p + 0) (cs := []) V0 hl (by show p + 0 + 1 + 0 ≤ cap; omega) hc hEN hn_b d26_156 157 rfl ?_
  intro T2 h2 W2 Q2 V2 k2
  refine Own.iload W2 d26_157 159 rfl 0 rfl ?_
  refine Own.bipush W2 d26_159 161 rfl (-9 : Int32) rfl ?_
  refine Own.icmpYes W2 d26_161 178 (by decide) (by decide) (by decide) ?_
  refine Own.iload W2 d26_178 180 rfl 0 rfl ?_
  refine Own.ifYes W2 d26_180 192 (by decide) (by decide) (by decide) ?_
  refine Own.iload W2 d26_192 194 rfl (Int32.ofNat (p + 0)) rfl ?_
  exact Own.retI W2 (by decide) (by decide) rfl d26_194 ⟨⟨_, rfl⟩, (Keep.wr (Keep.refl h [b]) Q2 (Or.inl (by simp))), V2⟩
theorem lt_z {G : Own.Gl} (hw : ∀ d ∈ tables_1, d.before G.a0 G.Z = true) (hEL : EW G.Z G.a0 G.EL) {dg1 : Addr} {kg1 : ClassId} (SDO : Sta G.Z G.Z.heap "java/lang/Integer" "DigitOnes" "[B" (.ref dg1)) (DG1 : Arv G.Z G.Z.heap dg1 kg1 .byte 100 (Own.digL Own.onesF) (.int 0)) {dg2 : Addr} {kg2 : ClassId} (SDT : Sta G.Z G.Z.heap "java/lang/Integer" "DigitTens" "[B" (.ref dg2)) (DG2 : Arv G.Z G.Z.heap dg2 kg2 .byte 100 (Own.digL Own.tensF) (.int 0)) : LT G (0 : Int64) [48] := ⟨by decide, fun hO => con_ss_z hw hEL rfl hO, fun hO hEN hc hp hb A hl => con_gc_z hw hEL SDO DG1 SDT DG2 hEN hc hp hb hO A hl rfl rfl⟩
set_option maxRecDepth 65536 in
set_option maxHeartbeats 40000000 in
theorem con_ss_one {G : Own.Gl} (hw : ∀ d ∈ tables_1, d.before G.a0 G.Z = true) (hEL : EW G.Z G.a0 G.EL) {x : Int64} (hx : x = (1 : Int64)) {h : Heap} (hO : Old G.Z G.n0 h) :
    Own.Con G [] bSs #[.long x] h [] (fun v h' => v = some (.int (Int32.ofNat 1)) ∧ h' = h) := by
  refine Own.Con.intro (plainFor_of_name pn_1) hO hEL _ (fun m => ef_bSs m x) ?_
  intro X T0 W0 sf
  subst hx
  refine Own.iconst W0 d24_0 1 rfl 1 rfl ?_
  refine Own.istoreN W0 d24_1 2 rfl #[.val (.long 1), .second, .val (.int 1), .unset, .unset, .unset] rfl ?_
  refine Own.lloadN W0 d24_2 3 rfl (1 : Int64) rfl ?_
  refine Own.lconst W0 d24_3 4 rfl (0 : Int64) rfl ?_
  refine Own.lcmpV W0 (v := (1 : Int32)) d24_4 5 rfl (by decide +kernel) ?_
  refine Own.ifNo W0 d24_5 8 (by decide) rfl ?_
  refine Own.iconst W0 d24_8 9 rfl 0 rfl ?_
  refine Own.istoreN W0 d24_9 10 rfl #[.val (.long 1), .second, .val (.int 0), .unset, .unset, .unset] rfl ?_
  refine Own.lloadN W0 d24_10 11 rfl (1 : Int64) rfl ?_
  refine Own.lnegV W0 (v := (-1 : Int64)) d24_11 12 rfl (by decide +kernel) ?_
  refine Own.lstoreN W0 d24_12 13 rfl #[.val (.long (-1)), .second, .val (.int 0), .unset, .unset, .unset] rfl ?_
  refine Own.ldc2 W0 (tw hw 152 rfl) d24_13 16 rfl ?_
  refine Own.lstoreN W0 d24_16 17 rfl #[.val (.long (-1)), .second, .val (.int 0), .val (.long (-10)), .second, .unset] rfl ?_
  refine Own.iconst W0 d24_17 18 rfl 1 rfl ?_
  refine Own.istore W0 d24_18 20 rfl #[.val (.long (-1)), .second, .val (.int 0), .val (.long (-10)), .second, .val (.int 1)] rfl ?_
  refine Own.iload W0 d24_20 22 rfl 1 rfl ?_
  refine Own.bipush W0 d24_22 24 rfl 19 rfl ?_
  refine Own.icmpNo W0 d24_24 27 (by decide) rfl ?_
  refine Own.lloadN W0 d24_27 28 rfl (-1 : Int64) rfl ?_
  refine Own.lloadN W0 d24_28 29 rfl (-10 : Int64) rfl ?_
  refine Own.lcmpV W0 (v := (1 : Int32)) d24_29 30 rfl (by decide +kernel) ?_
  refine Own.ifNo W0 d24_30 33 (by decide) rfl ?_
  refine Own.iload W0 d24_33 35 rfl 1 rfl ?_
  refine Own.iloadN W0 d24_35 36 rfl 0 rfl ?_
  refine Own.iadd W0 d24_36 37 rfl ?_
  exact Own.retI W0 (by decide) (by decide) rfl d24_37 ⟨rfl, rfl⟩
set_option maxRecDepth 65536 in
set_option maxHeartbeats 40000000 in
theorem con_gc_one {G : Own.Gl} (hw : ∀ d ∈ tables_1, d.before G.a0 G.Z = true) (hEL : EW G.Z G.a0 G.EL) {dg1 : Addr} {kg1 : ClassId} (SDO : Sta G.Z G.Z.heap "java/lang/Integer" "DigitOnes" "[B" (.ref dg1)) (DG1 : Arv G.Z G.Z.heap dg1 kg1 .byte 100 (Own.digL Own.onesF) (.int 0)) {dg2 : Addr} {kg2 : ClassId} (SDT : Sta G.Z G.Z.heap "java/lang/Integer" "DigitTens" "[B" (.ref dg2)) (DG2 : Arv G.Z G.Z.heap dg2 kg2 .byte 100 (Own.digL Own.tensF) (.int 0)) {cap p : Nat} (hEN : Own.EN G.Z G.a0 G.EL cap) (hc : cap ≤ 4000) (hp : p + 1 ≤ cap) {b : Addr} (hn_b : G.n0 ≤ b) {kb : ClassId} {vs : List Value} {h : Heap} (hO : Old G.Z G.n0 h) (A : Arv G.Z h b kb .byte (Int32.ofNat cap) vs (.int 0)) (hl : vs.length = cap) {x : Int64} {ix : Int32} (hx : x = (1 : Int64)) (hix : ix = Int32.ofNat (p + 1)) :
    Own.Con G [] bGc #[.long x, .int ix, .ref b] h [] (fun v h' => (∃ r : Int32, v = some (.int r)) ∧ Keep h h' [b] ∧ Arv G.Z h' b kb .byte (Int32.ofNat cap) (Own.mid vs p [49]) (.int 0)) := by
  refine Own.Con.intro (plainFor_of_name pn_1) hO hEL _ (fun m => ef_bGc m x ix b) ?_
  intro X T0 W0 sf
  subst hx; subst hix
  have V0 : Arv G.Z h b kb .byte (Int32.ofNat cap) (Own.mid vs (p + 1) []) (.int 0) := by rw [Own.mid_nil]; exact A
  refine Own.iloadN W0 d26_0 1 rfl (Int32.ofNat (p + 1)) rfl ?_
  refine Own.istore W0 d26_1 3 rfl #[.val (.long 1), .second, .val (.int (Int32.ofNat (p + 1))), .val (.ref b), .unset, .unset, .unset, .val (.int (Int32.ofNat (p + 1))), .unset, .unset, .unset] rfl ?_
  refine Own.lloadN W0 d26_3 4 rfl (1 : Int64) rfl ?_
  refine Own.lconst W0 d26_4 5 rfl (0 : Int64) rfl ?_
  refine Own.lcmpV W0 (v := (1 : Int32)) d26_5 6 rfl (by decide +kernel) ?_
  refine Own.ifYes W0 d26_6 13 (by decide) (by decide) (by decide) ?_
  refine Own.iconst W0 d26_13 14 rfl 0 rfl ?_
  refine Own.istore W0 d26_14 16 rfl #[.val (.long 1), .second, .val (.int (Int32.ofNat (p + 1))), .val (.ref b), .unset, .unset, .unset, .val (.int (Int32.ofNat (p + 1))), .val (.int 0), .unset, .unset] rfl ?_
  refine Own.iload W0 d26_16 18 rfl 0 rfl ?_
  refine Own.ifNo W0 d26_18 21 (by decide) rfl ?_
  refine Own.lloadN W0 d26_21 22 rfl (1 : Int64) rfl ?_
  refine Own.lnegV W0 (v := (-1 : Int64)) d26_22 23 rfl (by decide +kernel) ?_
  refine Own.lstoreN W0 d26_23 24 rfl #[.val (.long (-1)), .second, .val (.int (Int32.ofNat (p + 1))), .val (.ref b), .unset, .unset, .unset, .val (.int (Int32.ofNat (p + 1))), .val (.int 0), .unset, .unset] rfl ?_
  refine Own.lloadN W0 d26_24 25 rfl (-1 : Int64) rfl ?_
  refine Own.ldc2 W0 (tw hw 161 rfl) d26_25 28 rfl ?_
  refine Own.lcmpV W0 (v := (1 : Int32)) d26_28 29 rfl (by decide +kernel) ?_
  refine Own.ifYes W0 d26_29 82 (by decide) (by decide) (by decide) ?_
  refine Own.lloadN W0 d26_82 83 rfl (-1 : Int64) rfl ?_
  refine Own.l2iV W0 (v := (-1 : Int32)) d26_83 84 rfl (by decide +kernel) ?_
  refine Own.istore W0 d26_84 86 rfl #[.val (.long (-1)), .second, .val (.int (Int32.ofNat (p + 1))), .val (.ref b), .unset, .unset, .unset, .val (.int (Int32.ofNat (p + 1))), .val (.int 0), .unset, .val (.int (-1))] rfl ?_
  refine Own.iload W0 d26_86 88 rfl (-1 : Int32) rfl ?_
  refine Own.bipush W0 d26_88 90 rfl (-100 : Int32) rfl ?_
  refine Own.icmpYes W0 d26_90 143 (by decide) (by decide) (by decide) ?_
  refine Own.aloadN W0 d26_143 144 rfl (.ref b) rfl rfl ?_
  refine Own.iincD W0 (n := p + 0) d26_144 147 rfl rfl #[.val (.long (-1)), .second, .val (.int (Int32.ofNat (p + 1))), .val (.ref b), .unset, .unset, .unset, .val (.int (Int32.ofNat (p + 0))), .val (.int 0), .unset, .val (.int (-1))] rfl ?_
  refine Own.iload W0 d26_147 149 rfl (Int32.ofNat (p + 0)) rfl ?_
  refine Own.getS W0 (tw hw 162 rfl) Via.refl (W0.sta SDO) d26_149 152 rfl ?_
  intro T1 W1
  refine Own.iload W1 d26_152 154 rfl (-1 : Int32) rfl ?_
  refine Own.inegV W1 (v := (1 : Int32)) d26_154 155 rfl (by decide +kernel) ?_
  refine Own.digLoad W1 DG1 (v := (49 : Int32)) ⟨by decide, by decide⟩ (Own.ones_v ⟨by decide, by decide⟩ (by decide)) d26_155 156 rfl ?_
  refine Own.bst W1 (q := p + 0) (cs := []) V0 hl (by show p + 0 + 1 + 0 ≤ cap; omega) hc hEN hn_b d26_156 157 rfl ?_
  intro T2 h2 W2 Q2 V2 k2
  refine Own.iload W2 d26_157 159 rfl (-1 : Int32) rfl ?_
  refine Own.bipush W2 d26_159 161 rfl (-9 : Int32) rfl ?_
  refine Own.icmpYes W2 d26_161 178 (by decide) (by decide) (by decide) ?_
  refine Own.iload W2 d26_178 180 rfl 0 rfl ?_
  refine Own.ifYes W2 d26_180 192 (by decide) (by decide) (by decide) ?_
  refine Own.iload W2 d26_192 194 rfl (Int32.ofNat (p + 0)) rfl ?_
  exact Own.retI W2 (by decide) (by decide) rfl d26_194 ⟨⟨_, rfl⟩, (Keep.wr (Keep.refl h [b]) Q2 (Or.inl (by simp))), V2⟩
theorem lt_one {G : Own.Gl} (hw : ∀ d ∈ tables_1, d.before G.a0 G.Z = true) (hEL : EW G.Z G.a0 G.EL) {dg1 : Addr} {kg1 : ClassId} (SDO : Sta G.Z G.Z.heap "java/lang/Integer" "DigitOnes" "[B" (.ref dg1)) (DG1 : Arv G.Z G.Z.heap dg1 kg1 .byte 100 (Own.digL Own.onesF) (.int 0)) {dg2 : Addr} {kg2 : ClassId} (SDT : Sta G.Z G.Z.heap "java/lang/Integer" "DigitTens" "[B" (.ref dg2)) (DG2 : Arv G.Z G.Z.heap dg2 kg2 .byte 100 (Own.digL Own.tensF) (.int 0)) : LT G (1 : Int64) [49] := ⟨by decide, fun hO => con_ss_one hw hEL rfl hO, fun hO hEN hc hp hb A hl => con_gc_one hw hEL SDO DG1 SDT DG2 hEN hc hp hb hO A hl rfl rfl⟩
set_option maxRecDepth 65536 in
set_option maxHeartbeats 40000000 in
theorem con_ss_ten {G : Own.Gl} (hw : ∀ d ∈ tables_1, d.before G.a0 G.Z = true) (hEL : EW G.Z G.a0 G.EL) {x : Int64} (hx : x = (10 : Int64)) {h : Heap} (hO : Old G.Z G.n0 h) :
    Own.Con G [] bSs #[.long x] h [] (fun v h' => v = some (.int (Int32.ofNat 2)) ∧ h' = h) := by
  refine Own.Con.intro (plainFor_of_name pn_1) hO hEL _ (fun m => ef_bSs m x) ?_
  intro X T0 W0 sf
  subst hx
  refine Own.iconst W0 d24_0 1 rfl 1 rfl ?_
  refine Own.istoreN W0 d24_1 2 rfl #[.val (.long 10), .second, .val (.int 1), .unset, .unset, .unset] rfl ?_
  refine Own.lloadN W0 d24_2 3 rfl (10 : Int64) rfl ?_
  refine Own.lconst W0 d24_3 4 rfl (0 : Int64) rfl ?_
  refine Own.lcmpV W0 (v := (1 : Int32)) d24_4 5 rfl (by decide +kernel) ?_
  refine Own.ifNo W0 d24_5 8 (by decide) rfl ?_
  refine Own.iconst W0 d24_8 9 rfl 0 rfl ?_
  refine Own.istoreN W0 d24_9 10 rfl #[.val (.long 10), .second, .val (.int 0), .unset, .unset, .unset] rfl ?_
  refine Own.lloadN W0 d24_10 11 rfl (10 : Int64) rfl ?_
  refine Own.lnegV W0 (v := (-10 : Int64)) d24_11 12 rfl (by decide +kernel) ?_
  refine Own.lstoreN W0 d24_12 13 rfl #[.val (.long (-10)), .second, .val (.int 0), .unset, .unset, .unset] rfl ?_
  refine Own.ldc2 W0 (tw hw 152 rfl) d24_13 16 rfl ?_
  refine Own.lstoreN W0 d24_16 17 rfl #[.val (.long (-10)), .second, .val (.int 0), .val (.long (-10)), .second, .unset] rfl ?_
  refine Own.iconst W0 d24_17 18 rfl 1 rfl ?_
  refine Own.istore W0 d24_18 20 rfl #[.val (.long (-10)), .second, .val (.int 0), .val (.long (-10)), .second, .val (.int 1)] rfl ?_
  refine Own.iload W0 d24_20 22 rfl 1 rfl ?_
  refine Own.bipush W0 d24_22 24 rfl 19 rfl ?_
  refine Own.icmpNo W0 d24_24 27 (by decide) rfl ?_
  refine Own.lloadN W0 d24_27 28 rfl (-10 : Int64) rfl ?_
  refine Own.lloadN W0 d24_28 29 rfl (-10 : Int64) rfl ?_
  refine Own.lcmpV W0 (v := (0 : Int32)) d24_29 30 rfl (by decide +kernel) ?_
  refine Own.ifYes W0 d24_30 38 (by decide) (by decide) (by decide) ?_
  refine Own.ldc2 W0 (tw hw 246 rfl) d24_38 41 rfl ?_
  refine Own.lloadN W0 d24_41 42 rfl (-10 : Int64) rfl ?_
  refine Own.lmulV W0 (v := (-100 : Int64)) d24_42 43 rfl (by decide +kernel) ?_
  refine Own.lstoreN W0 d24_43 44 rfl #[.val (.long (-10)), .second, .val (.int 0), .val (.long (-100)), .second, .val (.int 1)] rfl ?_
  refine Own.iinc W0 d24_44 47 rfl rfl #[.val (.long (-10)), .second, .val (.int 0), .val (.long (-100)), .second, .val (.int 2)] rfl ?_
  refine Own.goto W0 d24_47 20 (by decide) (by decide) ?_
  refine Own.iload W0 d24_20 22 rfl 2 rfl ?_
  refine Own.bipush W0 d24_22 24 rfl 19 rfl ?_
  refine Own.icmpNo W0 d24_24 27 (by decide) rfl ?_
  refine Own.lloadN W0 d24_27 28 rfl (-10 : Int64) rfl ?_
  refine Own.lloadN W0 d24_28 29 rfl (-100 : Int64) rfl ?_
  refine Own.lcmpV W0 (v := (1 : Int32)) d24_29 30 rfl (by decide +kernel) ?_
  refine Own.ifNo W0 d24_30 33 (by decide) rfl ?_
  refine Own.iload W0 d24_33 35 rfl 2 rfl ?_
  refine Own.iloadN W0 d24_35 36 rfl 0 rfl ?_
  refine Own.iadd W0 d24_36 37 rfl ?_
  exact Own.retI W0 (by decide) (by decide) rfl d24_37 ⟨rfl, rfl⟩
set_option maxRecDepth 65536 in
set_option maxHeartbeats 40000000 in
theorem con_gc_ten {G : Own.Gl} (hw : ∀ d ∈ tables_1, d.before G.a0 G.Z = true) (hEL : EW G.Z G.a0 G.EL) {dg1 : Addr} {kg1 : ClassId} (SDO : Sta G.Z G.Z.heap "java/lang/Integer" "DigitOnes" "[B" (.ref dg1)) (DG1 : Arv G.Z G.Z.heap dg1 kg1 .byte 100 (Own.digL Own.onesF) (.int 0)) {dg2 : Addr} {kg2 : ClassId} (SDT : Sta G.Z G.Z.heap "java/lang/Integer" "DigitTens" "[B" (.ref dg2)) (DG2 : Arv G.Z G.Z.heap dg2 kg2 .byte 100 (Own.digL Own.tensF) (.int 0)) {cap p : Nat} (hEN : Own.EN G.Z G.a0 G.EL cap) (hc : cap ≤ 4000) (hp : p + 2 ≤ cap) {b : Addr} (hn_b : G.n0 ≤ b) {kb : ClassId} {vs : List Value} {h : Heap} (hO : Old G.Z G.n0 h) (A : Arv G.Z h b kb .byte (Int32.ofNat cap) vs (.int 0)) (hl : vs.length = cap) {x : Int64} {ix : Int32} (hx : x = (10 : Int64)) (hix : ix = Int32.ofNat (p + 2)) :
    Own.Con G [] bGc #[.long x, .int ix, .ref b] h [] (fun v h' => (∃ r : Int32, v = some (.int r)) ∧ Keep h h' [b] ∧ Arv G.Z h' b kb .byte (Int32.ofNat cap) (Own.mid vs p [49, 48]) (.int 0)) := by
  refine Own.Con.intro (plainFor_of_name pn_1) hO hEL _ (fun m => ef_bGc m x ix b) ?_
  intro X T0 W0 sf
  subst hx; subst hix
  have V0 : Arv G.Z h b kb .byte (Int32.ofNat cap) (Own.mid vs (p + 2) []) (.int 0) := by rw [Own.mid_nil]; exact A
  refine Own.iloadN W0 d26_0 1 rfl (Int32.ofNat (p + 2)) rfl ?_
  refine Own.istore W0 d26_1 3 rfl #[.val (.long 10), .second, .val (.int (Int32.ofNat (p + 2))), .val (.ref b), .unset, .unset, .unset, .val (.int (Int32.ofNat (p + 2))), .unset, .unset, .unset] rfl ?_
  refine Own.lloadN W0 d26_3 4 rfl (10 : Int64) rfl ?_
  refine Own.lconst W0 d26_4 5 rfl (0 : Int64) rfl ?_
  refine Own.lcmpV W0 (v := (1 : Int32)) d26_5 6 rfl (by decide +kernel) ?_
  refine Own.ifYes W0 d26_6 13 (by decide) (by decide) (by decide) ?_
  refine Own.iconst W0 d26_13 14 rfl 0 rfl ?_
  refine Own.istore W0 d26_14 16 rfl #[.val (.long 10), .second, .val (.int (Int32.ofNat (p + 2))), .val (.ref b), .unset, .unset, .unset, .val (.int (Int32.ofNat (p + 2))), .val (.int 0), .unset, .unset] rfl ?_
  refine Own.iload W0 d26_16 18 rfl 0 rfl ?_
  refine Own.ifNo W0 d26_18 21 (by decide) rfl ?_
  refine Own.lloadN W0 d26_21 22 rfl (10 : Int64) rfl ?_
  refine Own.lnegV W0 (v := (-10 : Int64)) d26_22 23 rfl (by decide +kernel) ?_
  refine Own.lstoreN W0 d26_23 24 rfl #[.val (.long (-10)), .second, .val (.int (Int32.ofNat (p + 2))), .val (.ref b), .unset, .unset, .unset, .val (.int (Int32.ofNat (p + 2))), .val (.int 0), .unset, .unset] rfl ?_
  refine Own.lloadN W0 d26_24 25 rfl (-10 : Int64) rfl ?_
  refine Own.ldc2 W0 (tw hw 161 rfl) d26_25 28 rfl ?_
  refine Own.lcmpV W0 (v := (1 : Int32)) d26_28 29 rfl (by decide +kernel) ?_
  refine Own.ifYes W0 d26_29 82 (by decide) (by decide) (by decide) ?_
  refine Own.lloadN W0 d26_82 83 rfl (-10 : Int64) rfl ?_
  refine Own.l2iV W0 (v := (-10 : Int32)) d26_83 84 rfl (by decide +kernel) ?_
  refine Own.istore W0 d26_84 86 rfl #[.val (.long (-10)), .second, .val (.int (Int32.ofNat (p + 2))), .val (.ref b), .unset, .unset, .unset, .val (.int (Int32.ofNat (p + 2))), .val (.int 0), .unset, .val (.int (-10))] rfl ?_
  refine Own.iload W0 d26_86 88 rfl (-10 : Int32) rfl ?_
  refine Own.bipush W0 d26_88 90 rfl (-100 : Int32) rfl ?_
  refine Own.icmpYes W0 d26_90 143 (by decide) (by decide) (by decide) ?_
  refine Own.aloadN W0 d26_143 144 rfl (.ref b) rfl rfl ?_
  refine Own.iincD W0 (n := p + 1) d26_144 147 rfl rfl #[.val (.long (-10)), .second, .val (.int (Int32.ofNat (p + 2))), .val (.ref b), .unset, .unset, .unset, .val (.int (Int32.ofNat (p + 1))), .val (.int 0), .unset, .val (.int (-10))] rfl ?_
  refine Own.iload W0 d26_147 149 rfl (Int32.ofNat (p + 1)) rfl ?_
  refine Own.getS W0 (tw hw 162 rfl) Via.refl (W0.sta SDO) d26_149 152 rfl ?_
  intro T1 W1
  refine Own.iload W1 d26_152 154 rfl (-10 : Int32) rfl ?_
  refine Own.inegV W1 (v := (10 : Int32)) d26_154 155 rfl (by decide +kernel) ?_
  refine Own.digLoad W1 DG1 (v := (48 : Int32)) ⟨by decide, by decide⟩ (Own.ones_v ⟨by decide, by decide⟩ (by decide)) d26_155 156 rfl ?_
  refine Own.bst W1 (q := p + 1) (cs := []) V0 hl (by show p + 1 + 1 + 0 ≤ cap; omega) hc hEN hn_b d26_156 157 rfl ?_
  intro T2 h2 W2 Q2 V2 k2
  refine Own.iload W2 d26_157 159 rfl (-10 : Int32) rfl ?_
  refine Own.bipush W2 d26_159 161 rfl (-9 : Int32) rfl ?_
  refine Own.icmpNo W2 d26_161 164 (by decide) rfl ?_
  refine Own.aloadN W2 d26_164 165 rfl (.ref b) rfl rfl ?_
  refine Own.iincD W2 (n := p + 0) d26_165 168 rfl rfl #[.val (.long (-10)), .second, .val (.int (Int32.ofNat (p + 2))), .val (.ref b), .unset, .unset, .unset, .val (.int (Int32.ofNat (p + 0))), .val (.int 0), .unset, .val (.int (-10))] rfl ?_
  refine Own.iload W2 d26_168 170 rfl (Int32.ofNat (p + 0)) rfl ?_
  refine Own.getS W2 (tw hw 248 rfl) Via.refl (W2.sta SDT) d26_170 173 rfl ?_
  intro T3 W3
  refine Own.iload W3 d26_173 175 rfl (-10 : Int32) rfl ?_
  refine Own.inegV W3 (v := (10 : Int32)) d26_175 176 rfl (by decide +kernel) ?_
  refine Own.digLoad W3 DG2 (v := (49 : Int32)) ⟨by decide, by decide⟩ (Own.tens_v ⟨by decide, by decide⟩ (by decide)) d26_176 177 rfl ?_
  refine Own.bst W3 (q := p + 0) (cs := [48]) V2 hl (by show p + 0 + 1 + 1 ≤ cap; omega) hc hEN hn_b d26_177 178 rfl ?_
  intro T4 h4 W4 Q4 V4 k4
  refine Own.iload W4 d26_178 180 rfl 0 rfl ?_
  refine Own.ifYes W4 d26_180 192 (by decide) (by decide) (by decide) ?_
  refine Own.iload W4 d26_192 194 rfl (Int32.ofNat (p + 0)) rfl ?_
  exact Own.retI W4 (by decide) (by decide) rfl d26_194 ⟨⟨_, rfl⟩, (Keep.wr (Keep.wr (Keep.refl h [b]) Q2 (Or.inl (by simp))) Q4 (Or.inl (by simp))), V4⟩
theorem lt_ten {G : Own.Gl} (hw : ∀ d ∈ tables_1, d.before G.a0 G.Z = true) (hEL : EW G.Z G.a0 G.EL) {dg1 : Addr} {kg1 : ClassId} (SDO : Sta G.Z G.Z.heap "java/lang/Integer" "DigitOnes" "[B" (.ref dg1)) (DG1 : Arv G.Z G.Z.heap dg1 kg1 .byte 100 (Own.digL Own.onesF) (.int 0)) {dg2 : Addr} {kg2 : ClassId} (SDT : Sta G.Z G.Z.heap "java/lang/Integer" "DigitTens" "[B" (.ref dg2)) (DG2 : Arv G.Z G.Z.heap dg2 kg2 .byte 100 (Own.digL Own.tensF) (.int 0)) : LT G (10 : Int64) [49, 48] := ⟨by decide, fun hO => con_ss_ten hw hEL rfl hO, fun hO hEN hc hp hb A hl => con_gc_ten hw hEL SDO DG1 SDT DG2 hEN hc hp hb hO A hl rfl rfl⟩
set_option maxRecDepth 65536 in
set_option maxHeartbeats 40000000 in
theorem con_ai {G : Own.Gl} (hw : ∀ d ∈ tables_1, d.before G.a0 G.Z = true) (hEL : EW G.Z G.a0 G.EL) (hmem : True) {cz : Int32} (hS : Sta G.Z G.Z.heap Own.ST "COMPACT_STRINGS" "Z" (.int cz)) (hcz : ¬ cz = 0) {k : Int32} (hk : k = 16) {sb : Addr} {h : Heap} (hO : Old G.Z G.n0 h) (hn_sb : G.n0 ≤ sb) (E : Exa G.Z h sb "java/lang/StringBuilder") {u1 u2 : Value} (F_value : Fld G.Z h sb "java/lang/AbstractStringBuilder" "value" "[B" u1) (F_coder : Fld G.Z h sb "java/lang/AbstractStringBuilder" "coder" "B" u2) (F_count : Fld G.Z h sb "java/lang/AbstractStringBuilder" "count" "I" (.int 0)) :
    Own.Con G [] bAi #[.ref sb, .int k] h [] (fun v h' => v = none ∧ Keep h h' [sb] ∧ ∃ b : Addr, h.size ≤ b ∧ Own.SBd G.Z h' sb b 16 []) := by
  refine Own.Con.intro (plainFor_of_name pn_2) hO hEL _ (fun m => ef_bAi m sb k) ?_
  intro X T0 W0 sf
  subst hk
  refine Own.aloadN W0 d13_0 1 rfl (.ref sb) rfl rfl ?_
  refine Own.initO W0 (tw hw 83 rfl) (tw hw 17 rfl) (tw hw 18 rfl) rfl d13_1 4 rfl (by decide) (by decide) ?_
  intro T1 W1
  refine Own.getS W1 (tw hw 84 rfl) Via.refl (W1.sta hS) d13_4 7 rfl ?_
  intro T2 W2
  refine Own.ifNo W2 d13_7 10 (XT.i0_eq_f hcz) rfl ?_
  refine Own.aloadN W2 d13_10 11 rfl (.ref sb) rfl rfl ?_
  refine Own.iloadN W2 d13_11 12 rfl 16 rfl ?_
  refine Own.newA W2 (tw hw 24 rfl) d13_12 14 rfl (by decide) 16 (by decide) (by decide) 1 16 (by decide) (by decide) (by decide) (by decide) ?_
  intro T3 h3 o3 c3 g3 W3 E3 A3 s3 k3
  have V3 : Arv G.Z h3 o3 c3 .byte (16 : Int32) [.int 0, .int 0, .int 0, .int 0, .int 0, .int 0, .int 0, .int 0, .int 0, .int 0, .int 0, .int 0, .int 0, .int 0, .int 0, .int 0] (.int 0) := A3
  have X5 : Ext h h3 := E3
  refine Own.putF W3 (tw hw 85 rfl) Via.refl (F_value.ext X5) (E.ext X5) (Or.inl (tw hw 86 rfl)) (tw hw 72 rfl) (ty := (.array .byte)) (v' := (.ref o3)) (by decide) rfl rfl hn_sb (Safe.exa W3.wz.alike (E.ext X5) (by decide) (by decide)) d13_14 17 rfl ?_
  intro T4 h4 W4 Q4 k4
  have F4_value := Fld.same Q4 (F_value.ext X5)
  refine Own.aloadN W4 d13_17 18 rfl (.ref sb) rfl rfl ?_
  refine Own.iconst W4 d13_18 19 rfl 0 rfl ?_
  refine Own.putF W4 (tw hw 87 rfl) Via.refl ((F_coder.ext E3).other Q4 (Or.inr (slot_ne (Or.inl (tw hw 88 rfl)) (Or.inl (tw hw 86 rfl)) (by decide) (t := .byte) (t' := (.array .byte)) (by decide) (by decide)))) ((E.ext E3).wr Q4) (Or.inl (tw hw 88 rfl)) (tw hw 72 rfl) (ty := .byte) (v' := (.int 0)) (by decide) rfl rfl hn_sb (Safe.exa W4.wz.alike ((E.ext E3).wr Q4) (by decide) (by decide)) d13_19 22 rfl ?_
  intro T6 h6 W6 Q6 k6
  have F6_coder := Fld.same Q6 ((F_coder.ext E3).other Q4 (Or.inr (slot_ne (Or.inl (tw hw 88 rfl)) (Or.inl (tw hw 86 rfl)) (by decide) (t := .byte) (t' := (.array .byte)) (by decide) (by decide))))
  refine Own.goto W6 d13_22 38 (by decide) (by decide) ?_
  exact Own.retV W6 (by decide) (by decide) rfl d13_38 ⟨rfl, (Keep.wr (Keep.wr (Keep.ext (Keep.refl h [sb]) E3) Q4 (Or.inl (by simp))) Q6 (Or.inl (by simp))), o3, (Nat.le_of_eq g3.symm), ⟨(((E.ext E3).wr Q4).wr Q6), (F4_value.other Q6 (Or.inr (slot_ne (Or.inl (tw hw 86 rfl)) (Or.inl (tw hw 88 rfl)) (by decide) (t := (.array .byte)) (t' := .byte) (by decide) (by decide)))), F6_coder, (((F_count.ext E3).other Q4 (Or.inr (slot_ne (Or.inl (tw hw 113 rfl)) (Or.inl (tw hw 86 rfl)) (by decide) (t := .int) (t' := (.array .byte)) (by decide) (by decide)))).other Q6 (Or.inr (slot_ne (Or.inl (tw hw 113 rfl)) (Or.inl (tw hw 88 rfl)) (by decide) (t := .int) (t' := .byte) (by decide) (by decide)))), (by intro c hc; cases hc), by decide, by decide, c3, [.int 0, .int 0, .int 0, .int 0, .int 0, .int 0, .int 0, .int 0, .int 0, .int 0, .int 0, .int 0, .int 0, .int 0, .int 0, .int 0], ((V3.other Q4 (Ne.symm (Nat.ne_of_lt (Nat.lt_of_lt_of_le E.lt (Nat.le_of_eq g3.symm))))).other Q6 (Ne.symm (Nat.ne_of_lt (Nat.lt_of_lt_of_le E.lt (Nat.le_of_eq g3.symm))))), rfl⟩⟩
set_option maxRecDepth 65536 in
set_option maxHeartbeats 40000000 in
theorem con_si {G : Own.Gl} (hw : ∀ d ∈ tables_1, d.before G.a0 G.Z = true) (hEL : EW G.Z G.a0 G.EL) (hmem : True) {cz : Int32} (hS : Sta G.Z G.Z.heap Own.ST "COMPACT_STRINGS" "Z" (.int cz)) (hcz : ¬ cz = 0) {sb : Addr} {h : Heap} (hO : Old G.Z G.n0 h) (hn_sb : G.n0 ≤ sb) (E : Exa G.Z h sb "java/lang/StringBuilder") {u1 u2 : Value} (F_value : Fld G.Z h sb "java/lang/AbstractStringBuilder" "value" "[B" u1) (F_coder : Fld G.Z h sb "java/lang/AbstractStringBuilder" "coder" "B" u2) (F_count : Fld G.Z h sb "java/lang/AbstractStringBuilder" "count" "I" (.int 0)) :
    Own.Con G [] bSi #[.ref sb] h [] (fun v h' => v = none ∧ Keep h h' [sb] ∧ ∃ b : Addr, h.size ≤ b ∧ Own.SBd G.Z h' sb b 16 []) := by
  refine Own.Con.intro (plainFor_of_name pn_3) hO hEL _ (fun m => ef_bSi m sb) ?_
  intro X T0 W0 sf
  refine Own.aloadN W0 d12_0 1 rfl (.ref sb) rfl rfl ?_
  refine Own.bipush W0 d12_1 3 rfl 16 rfl ?_
  refine Own.callX W0 rfl (tw hw 77 rfl) (tw hw 78 rfl) (tw hw 82 rfl) (by decide) (argsL := [.int 16]) (rest := []) (Own.Con.pay (con_ai hw hEL hmem hS hcz rfl W0.old hn_sb E F_value F_coder F_count) W0 (tw hw 82 rfl) (tw hw 81 rfl) (len := 3) (wd := 0) (by decide) (by decide) (fun _ q => nomatch q)) rfl (lenOf pd_0 rfl) rfl (lb rfl) d12_3 6 rfl 1 16 (lb rfl) (lb rfl) (lb rfl) (lb rfl) ?_
  intro v1 T1 h1 u1 W1 R1 hq
  obtain ⟨rfl, K1, b1, g1, F1⟩ := hq
  show Own.Go _ _ _ _ _ 6 #[.val (.ref sb)] []
  exact Own.retV W1 (by decide) (by decide) rfl d12_6 ⟨rfl, K1, b1, g1, F1⟩
set_option maxRecDepth 65536 in
set_option maxHeartbeats 40000000 in
theorem con_cdr {G : Own.Gl} (hw : ∀ d ∈ tables_1, d.before G.a0 G.Z = true) (hEL : EW G.Z G.a0 G.EL) (hmem : True) {cz : Int32} (hS : Sta G.Z G.Z.heap Own.ST "COMPACT_STRINGS" "Z" (.int cz)) (hcz : ¬ cz = 0) {x : Addr} {h : Heap} (hO : Old G.Z G.n0 h) (F : Fld G.Z h x "java/lang/String" "coder" "B" (.int 0)) :
    Own.Con G [] bCdr #[.ref x] h [] (fun v h' => v = some (.int 0) ∧ h' = h) := by
  refine Own.Con.intro (plainFor_of_name pn_4) hO hEL _ (fun m => ef_bCdr m x) ?_
  intro X T0 W0 sf
  refine Own.getS W0 (tw hw 19 rfl) Via.refl (W0.sta hS) d17_0 3 rfl ?_
  intro T1 W1
  refine Own.ifNo W1 d17_3 6 (XT.i0_eq_f hcz) rfl ?_
  refine Own.aloadN W1 d17_6 7 rfl (.ref x) rfl rfl ?_
  refine Own.getF W1 (tw hw 31 rfl) Via.refl F d17_7 10 rfl ?_
  intro T2 W2
  refine Own.goto W2 d17_10 14 (by decide) (by decide) ?_
  exact Own.retY W2 (by decide) (by decide) rfl d17_14 rfl ⟨rfl, rfl⟩
set_option maxRecDepth 65536 in
set_option maxHeartbeats 40000000 in
theorem con_ens {G : Own.Gl} (hw : ∀ d ∈ tables_1, d.before G.a0 G.Z = true) (hEL : EW G.Z G.a0 G.EL) {cap : Nat} {sb b : Addr} {ts : List Int32} (mn : Int32) (hm : ¬ (0 : Int32) < mn - Int32.ofNat cap) {h : Heap} (hO : Old G.Z G.n0 h) (F : Own.SBd G.Z h sb b cap ts) :
    Own.Con G [] bEns #[.ref sb, .int mn] h [] (fun v h' => v = none ∧ h' = h) := by
  refine Own.Con.intro (plainFor_of_name pn_2) hO hEL _ (fun m => ef_bEns m sb mn) ?_
  intro X T0 W0 sf
  obtain ⟨E, Fv, Fc, Fn, Hr, Hl, Hc, kb, junk, Ab, Hj⟩ := id F
  refine Own.aloadN W0 d18_0 1 rfl (.ref sb) rfl rfl ?_
  refine Own.getF W0 (tw hw 85 rfl) Via.refl Fv d18_1 4 rfl ?_
  intro T1 W1
  refine Own.arrlen W1 Ab d18_4 5 rfl ?_
  refine Own.aloadN W1 d18_5 6 rfl (.ref sb) rfl rfl ?_
  refine Own.getF W1 (tw hw 87 rfl) Via.refl Fc d18_6 9 rfl ?_
  intro T2 W2
  refine Own.ishr W2 d18_9 10 rfl ?_
  rw [Own.shr0]
  refine Own.istoreN W2 d18_10 11 rfl #[.val (.ref sb), .val (.int mn), .val (.int (Int32.ofNat cap))] rfl ?_
  refine Own.iloadN W2 d18_11 12 rfl mn rfl ?_
  refine Own.iloadN W2 d18_12 13 rfl (Int32.ofNat cap) rfl ?_
  refine Own.isub W2 d18_13 14 rfl ?_
  refine Own.ifYes W2 d18_14 38 (XT.i0_le_t hm) (by decide) (by decide) ?_
  exact Own.retV W2 (by decide) (by decide) rfl d18_38 ⟨rfl, rfl⟩
set_option maxRecDepth 65536 in
set_option maxHeartbeats 40000000 in
theorem con_inf {G : Own.Gl} (hw : ∀ d ∈ tables_1, d.before G.a0 G.Z = true) (hEL : EW G.Z G.a0 G.EL) (hmem : True) {cz : Int32} (hS : Sta G.Z G.Z.heap Own.ST "COMPACT_STRINGS" "Z" (.int cz)) (hcz : ¬ cz = 0) {cap : Nat} {sb b : Addr} {ts : List Int32} {h : Heap} (hO : Old G.Z G.n0 h) (F : Own.SBd G.Z h sb b cap ts) {x : Addr} {cs : List Int32} (Sx : Own.Str G.Z h x cs) :
    Own.Con G [] bInf #[.ref sb, .ref x] h [] (fun v h' => v = none ∧ h' = h) := by
  refine Own.Con.intro (plainFor_of_name pn_2) hO hEL _ (fun m => ef_bInf m sb x) ?_
  intro X T0 W0 sf
  obtain ⟨E, Fv, Fc, Fn, Hr, Hl, Hc, kb, junk, Ab, Hj⟩ := id F
  obtain ⟨Ex, Xc, Xr, Xl, bx, kx, Xv, Xa⟩ := id Sx
  refine Own.getS W0 (tw hw 84 rfl) Via.refl (W0.sta hS) d20_0 3 rfl ?_
  intro T1 W1
  refine Own.ifNo W1 d20_3 6 (XT.i0_eq_f hcz) rfl ?_
  refine Own.aloadN W1 d20_6 7 rfl (.ref sb) rfl rfl ?_
  refine Own.getF W1 (tw hw 87 rfl) Via.refl Fc d20_7 10 rfl ?_
  intro T2 W2
  refine Own.aloadN W2 d20_10 11 rfl (.ref x) rfl rfl ?_
  refine Own.callV W2 (tw hw 129 rfl) (tw hw 108 rfl) (fun s q => notFace_of_selects (args := #[]) (mvT (s := s) q (tw hw 110 rfl))) (tw hw 110 rfl) (tw hw 109 rfl) (by decide) (argsL := []) (rest := [.int 0]) (Own.Con.pay (con_cdr hw hEL hmem hS hcz W2.old Xc) W2 (tw hw 111 rfl) (tw hw 8 rfl) (len := 3) (wd := 1) (by decide) (by decide) (fun _ q => nomatch q)) Ex rfl (lenOf pd_1 rfl) rfl (lb rfl) d20_11 14 rfl 0 0 (lb rfl) (lb rfl) (lb rfl) (lb rfl) ?_
  intro v3 T3 h3 u3 W3 R3 hq
  obtain ⟨rfl, eh3⟩ := hq
  have ei3 := eh3.symm; subst ei3
  show Own.Go _ _ _ _ _ 14 #[.val (.ref sb), .val (.ref x)] [.int 0, .int 0]
  refine Own.icmpYes W3 d20_14 21 (by decide) (by decide) (by decide) ?_
  exact Own.retV W3 (by decide) (by decide) rfl d20_21 ⟨rfl, rfl⟩
set_option maxRecDepth 65536 in
set_option maxHeartbeats 40000000 in
theorem con_gb {G : Own.Gl} (hw : ∀ d ∈ tables_1, d.before G.a0 G.Z = true) (hEL : EW G.Z G.a0 G.EL) (hmem : True) {cz : Int32} (hS : Sta G.Z G.Z.heap Own.ST "COMPACT_STRINGS" "Z" (.int cz)) (hcz : ¬ cz = 0) {cap : Nat} (hEN : Own.EN G.Z G.a0 G.EL cap) {b : Addr} {dp cd : Int32} {h : Heap} (hO : Old G.Z G.n0 h) (hn_b : G.n0 ≤ b) {kb : ClassId} {ts : List Int32} {junk : List Value} (Ab : Arv G.Z h b kb .byte (Int32.ofNat cap) (Own.bs ts ++ junk) (.int 0)) (Hj : (Own.bs ts ++ junk).length = cap) (Hc : cap ≤ 4000) {x : Addr} {cs : List Int32} (Sx : Own.Str G.Z h x cs) (hdp : dp = Int32.ofNat ts.length) (hcd : cd = 0) (hfit : ts.length + cs.length ≤ cap) :
    Own.Con G [] bGb #[.ref x, .ref b, .int dp, .int cd] h [] (fun v h' => v = none ∧ Keep h h' [b] ∧ Arv G.Z h' b kb .byte (Int32.ofNat cap) (Own.bs (ts ++ cs) ++ junk.drop cs.length) (.int 0)) := by
  refine Own.Con.intro (plainFor_of_name pn_4) hO hEL _ (fun m => ef_bGb m x b dp cd) ?_
  intro X T0 W0 sf
  subst hdp; subst hcd
  obtain ⟨Ex, Xc, Xr, Xl, bx, kx, Xv, Xa⟩ := id Sx
  refine Own.aloadN W0 d21_0 1 rfl (.ref x) rfl rfl ?_
  refine Own.callV W0 (tw hw 107 rfl) (tw hw 108 rfl) (fun s q => notFace_of_selects (args := #[]) (mvT (s := s) q (tw hw 110 rfl))) (tw hw 110 rfl) (tw hw 109 rfl) (by decide) (argsL := []) (rest := []) (Own.Con.pay (con_cdr hw hEL hmem hS hcz W0.old Xc) W0 (tw hw 111 rfl) (tw hw 8 rfl) (len := 3) (wd := 0) (by decide) (by decide) (fun _ q => nomatch q)) Ex rfl (lenOf pd_1 rfl) rfl (lb rfl) d21_1 4 rfl 0 0 (lb rfl) (lb rfl) (lb rfl) (lb rfl) ?_
  intro v1 T1 h1 u1 W1 R1 hq
  obtain ⟨rfl, eh1⟩ := hq
  have ei1 := eh1.symm; subst ei1
  show Own.Go _ _ _ _ _ 4 #[.val (.ref x), .val (.ref b), .val (.int (Int32.ofNat ts.length)), .val (.int 0)] [.int 0]
  refine Own.iloadN W1 d21_4 5 rfl 0 rfl ?_
  refine Own.icmpNo W1 d21_5 8 (by decide) rfl ?_
  refine Own.aloadN W1 d21_8 9 rfl (.ref x) rfl rfl ?_
  refine Own.getF W1 (tw hw 33 rfl) Via.refl Xv d21_9 12 rfl ?_
  intro T2 W2
  refine Own.iconst W2 d21_12 13 rfl 0 rfl ?_
  refine Own.aloadN W2 d21_13 14 rfl (.ref b) rfl rfl ?_
  refine Own.iloadN W2 d21_14 15 rfl (Int32.ofNat ts.length) rfl ?_
  refine Own.iloadN W2 d21_15 16 rfl 0 rfl ?_
  refine Own.ishl W2 d21_16 17 rfl ?_
  rw [Own.shl0]
  refine Own.aloadN W2 d21_17 18 rfl (.ref x) rfl rfl ?_
  refine Own.getF W2 (tw hw 33 rfl) Via.refl Xv d21_18 21 rfl ?_
  intro T3 W3
  refine Own.arrlen W3 Xa d21_21 22 rfl ?_
  refine Own.acopy W3 (tw hw 135 rfl) (tw hw 138 rfl) (tw hw 136 rfl) (tw hw 137 rfl) Xa Ab (by decide) (Own.nonneg (by omega)) (Own.nonneg Xl) (by rw [show (0 : Int32).toNatClampNeg = 0 by decide]; omega) (by rw [Own.clampN (by omega), Own.clampN Xl, Own.clampN Hc]; exact hfit) (us := Own.bs cs) (Own.rangeGet _ (by rw [Own.clampN Xl, Own.bs_len]) _ (by decide)) (by rw [Own.clampN (by omega), Own.clampN Xl, Hj]; exact hfit) hn_b (Own.Safe.len W3.wz hEN Ab (Own.clampN Hc)) rfl d21_22 25 rfl (by decide) (lb rfl) ?_
  intro T4 h4 W4 R4 K4 A4
  have A' := A4; rw [Own.cp_app (by omega) Xl] at A'
  refine Own.goto W4 d21_25 43 (by decide) (by decide) ?_
  exact Own.retV W4 (by decide) (by decide) rfl d21_43 ⟨rfl, K4, A'⟩
set_option maxRecDepth 65536 in
set_option maxHeartbeats 40000000 in
theorem con_psa {G : Own.Gl} (hw : ∀ d ∈ tables_1, d.before G.a0 G.Z = true) (hEL : EW G.Z G.a0 G.EL) (hmem : True) {cz : Int32} (hS : Sta G.Z G.Z.heap Own.ST "COMPACT_STRINGS" "Z" (.int cz)) (hcz : ¬ cz = 0) {cap : Nat} (hEN : Own.EN G.Z G.a0 G.EL cap) {sb b : Addr} {i : Int32} {h : Heap} (hO : Old G.Z G.n0 h) (hn_b : G.n0 ≤ b) (E : Exa G.Z h sb "java/lang/StringBuilder") (Fv : Fld G.Z h sb "java/lang/AbstractStringBuilder" "value" "[B" (.ref b)) (Fc : Fld G.Z h sb "java/lang/AbstractStringBuilder" "coder" "B" (.int 0)) {kb : ClassId} {ts : List Int32} {junk : List Value} (Ab : Arv G.Z h b kb .byte (Int32.ofNat cap) (Own.bs ts ++ junk) (.int 0)) (Hj : (Own.bs ts ++ junk).length = cap) (Hc : cap ≤ 4000) (F : Own.SBd G.Z h sb b cap ts) {x : Addr} {cs : List Int32} (Sx : Own.Str G.Z h x cs) (hi : i = Int32.ofNat ts.length) (hfit : ts.length + cs.length ≤ cap) :
    Own.Con G [] bPsa #[.ref sb, .int i, .ref x] h [] (fun v h' => v = none ∧ Keep h h' [b] ∧ Arv G.Z h' b kb .byte (Int32.ofNat cap) (Own.bs (ts ++ cs) ++ junk.drop cs.length) (.int 0)) := by
  refine Own.Con.intro (plainFor_of_name pn_2) hO hEL _ (fun m => ef_bPsa m sb i x) ?_
  intro X T0 W0 sf
  subst hi
  obtain ⟨-, -, -, Fn, -⟩ := id F
  obtain ⟨Ex, Xc, Xr, Xl, bx, kx, Xv, Xa⟩ := id Sx
  refine Own.aloadN W0 d19_0 1 rfl (.ref sb) rfl rfl ?_
  refine Own.aloadN W0 d19_1 2 rfl (.ref x) rfl rfl ?_
  refine Own.callV W0 (tw hw 124 rfl) (Own.declares_of (tw hw 125 rfl) (tw hw 128 rfl)) (fun s q => notFace_of_selects (args := #[]) (mvT (s := s) q (tw hw 127 rfl))) (tw hw 127 rfl) (tw hw 125 rfl) (by decide) (argsL := [(.ref x)]) (rest := []) (Own.Con.pay (con_inf hw hEL hmem hS hcz W0.old F Sx) W0 (tw hw 128 rfl) (tw hw 81 rfl) (len := 3) (wd := 0) (by decide) (by decide) (fun _ q => nomatch q)) E rfl (lenOf pd_2 rfl) rfl (lb rfl) d19_2 5 rfl 0 0 (lb rfl) (lb rfl) (lb rfl) (lb rfl) ?_
  intro v1 T1 h1 u1 W1 R1 hq
  obtain ⟨rfl, eh1⟩ := hq
  have ei1 := eh1.symm; subst ei1
  show Own.Go _ _ _ _ _ 5 #[.val (.ref sb), .val (.int (Int32.ofNat ts.length)), .val (.ref x)] []
  refine Own.aloadN W1 d19_5 6 rfl (.ref x) rfl rfl ?_
  refine Own.aloadN W1 d19_6 7 rfl (.ref sb) rfl rfl ?_
  refine Own.getF W1 (tw hw 85 rfl) Via.refl Fv d19_7 10 rfl ?_
  intro T2 W2
  refine Own.iloadN W2 d19_10 11 rfl (Int32.ofNat ts.length) rfl ?_
  refine Own.aloadN W2 d19_11 12 rfl (.ref sb) rfl rfl ?_
  refine Own.getF W2 (tw hw 87 rfl) Via.refl Fc d19_12 15 rfl ?_
  intro T3 W3
  refine Own.callV W3 (tw hw 130 rfl) (tw hw 131 rfl) (fun s q => notFace_of_selects (args := #[]) (mvT (s := s) q (tw hw 133 rfl))) (tw hw 133 rfl) (tw hw 132 rfl) (by decide) (argsL := [(.ref b), (.int (Int32.ofNat ts.length)), .int 0]) (rest := []) (Own.Con.pay (con_gb hw hEL hmem hS hcz hEN W3.old hn_b Ab Hj Hc Sx rfl rfl hfit) W3 (tw hw 134 rfl) (tw hw 8 rfl) (len := 3) (wd := 0) (by decide) (by decide) (fun _ q => nomatch q)) Ex rfl (lenOf pd_3 rfl) rfl (lb rfl) d19_15 18 rfl 0 0 (lb rfl) (lb rfl) (lb rfl) (lb rfl) ?_
  intro v4 T4 h4 u4 W4 R4 hq
  obtain ⟨rfl, K4, A4⟩ := hq
  show Own.Go _ _ _ _ _ 18 #[.val (.ref sb), .val (.int (Int32.ofNat ts.length)), .val (.ref x)] []
  exact Own.retV W4 (by decide) (by decide) rfl d19_18 ⟨rfl, K4, A4⟩
set_option maxRecDepth 65536 in
set_option maxHeartbeats 40000000 in
theorem con_aap {G : Own.Gl} (hw : ∀ d ∈ tables_1, d.before G.a0 G.Z = true) (hEL : EW G.Z G.a0 G.EL) (hmem : True) {cz : Int32} (hS : Sta G.Z G.Z.heap Own.ST "COMPACT_STRINGS" "Z" (.int cz)) (hcz : ¬ cz = 0) {cap : Nat} (hEN : Own.EN G.Z G.a0 G.EL cap) {sb b : Addr} {ts : List Int32} {h : Heap} (hO : Old G.Z G.n0 h) (hn_sb : G.n0 ≤ sb) (hn_b : G.n0 ≤ b) (hsb : sb ≠ b) (F : Own.SBd G.Z h sb b cap ts) {x : Addr} {cs : List Int32} (Sx : Own.Str G.Z h x cs) (hfit : ts.length + cs.length ≤ cap) :
    Own.Con G [] bAap #[.ref sb, .ref x] h [] (fun v h' => v = some (.ref sb) ∧ Keep h h' [sb, b] ∧ Own.SBd G.Z h' sb b cap (ts ++ cs)) := by
  refine Own.Con.intro (plainFor_of_name pn_2) hO hEL _ (fun m => ef_bAap m sb x) ?_
  intro X T0 W0 sf
  obtain ⟨E, Fv, Fc, Fn, Hr, Hl, Hc, kb, junk, Ab, Hj⟩ := id F
  obtain ⟨Ex, Xc, Xr, Xl, bx, kx, Xv, Xa⟩ := id Sx
  refine Own.aloadN W0 d15_0 1 rfl (.ref x) rfl rfl ?_
  refine Own.ifnonnullYes W0 d15_1 9 (by decide) (by decide) ?_
  refine Own.aloadN W0 d15_9 10 rfl (.ref x) rfl rfl ?_
  refine Own.callV W0 (tw hw 102 rfl) (tw hw 103 rfl) (fun s q => notFace_of_selects (args := #[]) (mvT (s := s) q (tw hw 105 rfl))) (tw hw 105 rfl) (tw hw 104 rfl) (by decide) (argsL := []) (rest := []) (Own.payLen (wL hw) (kI := 4) (tw hw 7 rfl) W0 Sx hS hcz (len := 3) (wd := 0) (by decide) (by decide)) Ex rfl (lenOf pd_4 rfl) rfl (lb rfl) d15_10 13 rfl 0 0 (lb rfl) (lb rfl) (lb rfl) (lb rfl) ?_
  intro v1 T1 h1 u1 W1 R1 hq
  obtain ⟨rfl, eh1⟩ := hq
  have ei1 := eh1.symm; subst ei1
  show Own.Go _ _ _ _ _ 13 #[.val (.ref sb), .val (.ref x), .unset] [(.int (Int32.ofNat cs.length))]
  refine Own.istoreN W1 d15_13 14 rfl #[.val (.ref sb), .val (.ref x), .val (.int (Int32.ofNat cs.length))] rfl ?_
  refine Own.aloadN W1 d15_14 15 rfl (.ref sb) rfl rfl ?_
  refine Own.aloadN W1 d15_15 16 rfl (.ref sb) rfl rfl ?_
  refine Own.getF W1 (tw hw 112 rfl) Via.refl Fn d15_16 19 rfl ?_
  intro T2 W2
  refine Own.iloadN W2 d15_19 20 rfl (Int32.ofNat cs.length) rfl ?_
  refine Own.iadd W2 d15_20 21 rfl ?_
  refine Own.callV W2 (tw hw 114 rfl) (Own.declares_of (tw hw 115 rfl) (tw hw 118 rfl)) (fun s q => notFace_of_selects (args := #[]) (mvT (s := s) q (tw hw 117 rfl))) (tw hw 117 rfl) (tw hw 115 rfl) (by decide) (argsL := [(.int ((Int32.ofNat ts.length) + (Int32.ofNat cs.length)))]) (rest := []) (Own.Con.pay (con_ens hw hEL _ (Own.capOK hfit Hc) W2.old F) W2 (tw hw 118 rfl) (tw hw 81 rfl) (len := 3) (wd := 0) (by decide) (by decide) (fun _ q => nomatch q)) E rfl (lenOf pd_0 rfl) rfl (lb rfl) d15_21 24 rfl 0 0 (lb rfl) (lb rfl) (lb rfl) (lb rfl) ?_
  intro v3 T3 h3 u3 W3 R3 hq
  obtain ⟨rfl, eh3⟩ := hq
  have ei3 := eh3.symm; subst ei3
  show Own.Go _ _ _ _ _ 24 #[.val (.ref sb), .val (.ref x), .val (.int (Int32.ofNat cs.length))] []
  refine Own.aloadN W3 d15_24 25 rfl (.ref sb) rfl rfl ?_
  refine Own.aloadN W3 d15_25 26 rfl (.ref sb) rfl rfl ?_
  refine Own.getF W3 (tw hw 112 rfl) Via.refl Fn d15_26 29 rfl ?_
  intro T4 W4
  refine Own.aloadN W4 d15_29 30 rfl (.ref x) rfl rfl ?_
  refine Own.callV W4 (tw hw 119 rfl) (Own.declares_of (tw hw 120 rfl) (tw hw 123 rfl)) (fun s q => notFace_of_selects (args := #[]) (mvT (s := s) q (tw hw 122 rfl))) (tw hw 122 rfl) (tw hw 120 rfl) (by decide) (argsL := [(.int (Int32.ofNat ts.length)), (.ref x)]) (rest := []) (Own.Con.pay (con_psa hw hEL hmem hS hcz hEN W4.old hn_b E Fv Fc Ab Hj Hc F Sx rfl hfit) W4 (tw hw 123 rfl) (tw hw 81 rfl) (len := 3) (wd := 0) (by decide) (by decide) (fun _ q => nomatch q)) E rfl (lenOf pd_5 rfl) rfl (lb rfl) d15_30 33 rfl 0 0 (lb rfl) (lb rfl) (lb rfl) (lb rfl) ?_
  intro v5 T5 h5 u5 W5 R5 hq
  obtain ⟨rfl, K5, A5⟩ := hq
  show Own.Go _ _ _ _ _ 33 #[.val (.ref sb), .val (.ref x), .val (.int (Int32.ofNat cs.length))] []
  refine Own.aloadN W5 d15_33 34 rfl (.ref sb) rfl rfl ?_
  refine Own.dup W5 d15_34 35 rfl rfl ?_
  refine Own.getF W5 (tw hw 112 rfl) Via.refl (Fn.keep K5 (ninS hsb nin0)) d15_35 38 rfl ?_
  intro T6 W6
  refine Own.iloadN W6 d15_38 39 rfl (Int32.ofNat cs.length) rfl ?_
  refine Own.iadd W6 d15_39 40 rfl ?_
  refine Own.putF W6 (tw hw 112 rfl) Via.refl (Fn.keep K5 (ninS hsb nin0)) (E.keep K5) (Or.inl (tw hw 113 rfl)) (tw hw 72 rfl) (ty := .int) (v' := (.int ((Int32.ofNat ts.length) + (Int32.ofNat cs.length)))) (by decide) rfl rfl hn_sb (Safe.exa W6.wz.alike (E.keep K5) (by decide) (by decide)) d15_40 43 rfl ?_
  intro T7 h7 W7 Q7 k7
  have F7_count := Fld.same Q7 (Fn.keep K5 (ninS hsb nin0))
  refine Own.aloadN W7 d15_43 44 rfl (.ref sb) rfl rfl ?_
  exact Own.retA W7 (by decide) (by decide) rfl rfl rfl d15_44 ⟨rfl, (Keep.wr (Keep.trans (Keep.refl h [sb, b]) K5 (by intro y hy; cases List.mem_singleton.mp hy; exact Or.inl (by simp))) Q7 (Or.inl (by simp))), ((E.keep K5).wr Q7), ((Fv.keep K5 (ninS hsb nin0)).other Q7 (Or.inr (slot_ne (Or.inl (tw hw 86 rfl)) (Or.inl (tw hw 113 rfl)) (by decide) (t := (.array .byte)) (t' := .int) (by decide) (by decide)))), ((Fc.keep K5 (ninS hsb nin0)).other Q7 (Or.inr (slot_ne (Or.inl (tw hw 88 rfl)) (Or.inl (tw hw 113 rfl)) (by decide) (t := .byte) (t' := .int) (by decide) (by decide)))), by rw [List.length_append, Int32.ofNat_add]; exact F7_count, fun c hc => (List.mem_append.mp hc).elim (Hr c) (Xr c), by rw [List.length_append]; exact hfit, Hc, kb, junk.drop cs.length, (A5.other Q7 (Ne.symm hsb)), by have q := Hj; rw [List.length_append, Own.bs_len] at q ⊢; rw [List.length_append, List.length_drop]; omega⟩
set_option maxRecDepth 65536 in
set_option maxHeartbeats 40000000 in
theorem con_app {G : Own.Gl} (hw : ∀ d ∈ tables_1, d.before G.a0 G.Z = true) (hEL : EW G.Z G.a0 G.EL) (hmem : True) {cz : Int32} (hS : Sta G.Z G.Z.heap Own.ST "COMPACT_STRINGS" "Z" (.int cz)) (hcz : ¬ cz = 0) {cap : Nat} (hEN : Own.EN G.Z G.a0 G.EL cap) {sb b : Addr} {ts : List Int32} {h : Heap} (hO : Old G.Z G.n0 h) (hn_sb : G.n0 ≤ sb) (hn_b : G.n0 ≤ b) (hsb : sb ≠ b) (F : Own.SBd G.Z h sb b cap ts) {x : Addr} {cs : List Int32} (Sx : Own.Str G.Z h x cs) (hfit : ts.length + cs.length ≤ cap) :
    Own.Con G [] bApp #[.ref sb, .ref x] h [] (fun v h' => v = some (.ref sb) ∧ Keep h h' [sb, b] ∧ Own.SBd G.Z h' sb b cap (ts ++ cs)) := by
  refine Own.Con.intro (plainFor_of_name pn_3) hO hEL _ (fun m => ef_bApp m sb x) ?_
  intro X T0 W0 sf
  have E := F.exa
  refine Own.aloadN W0 d14_0 1 rfl (.ref sb) rfl rfl ?_
  refine Own.aloadN W0 d14_1 2 rfl (.ref x) rfl rfl ?_
  refine Own.callU W0 (tw hw 97 rfl) (tw hw 100 rfl) (tw hw 117 rfl) rfl (tw hw 98 rfl) (tw hw 99 rfl) (tw hw 101 rfl) (by decide) (by decide) (argsL := [(.ref x)]) (rest := []) (Own.Con.pay (con_aap hw hEL hmem hS hcz hEN W0.old hn_sb hn_b hsb F Sx hfit) W0 (tw hw 101 rfl) (tw hw 81 rfl) (len := 3) (wd := 0) (by decide) (by decide) (fun _ q => nomatch q)) E rfl (lenOf pd_6 rfl) rfl (lb rfl) d14_2 5 rfl 0 0 (lb rfl) (lb rfl) (lb rfl) (lb rfl) ?_
  intro v1 T1 h1 u1 W1 R1 hq
  obtain ⟨rfl, K1, F1⟩ := hq
  show Own.Go _ _ _ _ _ 5 #[.val (.ref sb), .val (.ref x)] [(.ref sb)]
  refine Own.pop W1 d14_5 6 rfl rfl ?_
  refine Own.aloadN W1 d14_6 7 rfl (.ref sb) rfl rfl ?_
  exact Own.retA W1 (by decide) (by decide) rfl rfl rfl d14_7 ⟨rfl, K1, F1⟩
set_option maxRecDepth 65536 in
set_option maxHeartbeats 40000000 in
theorem con_gv {G : Own.Gl} (hw : ∀ d ∈ tables_1, d.before G.a0 G.Z = true) (hEL : EW G.Z G.a0 G.EL) {cap : Nat} {sb b : Addr} {ts : List Int32} {h : Heap} (hO : Old G.Z G.n0 h) (F : Own.SBd G.Z h sb b cap ts) :
    Own.Con G [] bGv #[.ref sb] h [] (fun v h' => v = some (.ref b) ∧ h' = h) := by
  refine Own.Con.intro (plainFor_of_name pn_2) hO hEL _ (fun m => ef_bGv m sb) ?_
  intro X T0 W0 sf
  obtain ⟨E, Fv, Fc, Fn, Hr, Hl, Hc, kb, junk, Ab, Hj⟩ := id F
  refine Own.aloadN W0 d35_0 1 rfl (.ref sb) rfl rfl ?_
  refine Own.getF W0 (tw hw 85 rfl) Via.refl Fv d35_1 4 rfl ?_
  intro T1 W1
  exact Own.retA W1 (by decide) (by decide) rfl rfl rfl d35_4 ⟨rfl, rfl⟩
set_option maxRecDepth 65536 in
set_option maxHeartbeats 40000000 in
theorem con_asl {G : Own.Gl} (hw : ∀ d ∈ tables_1, d.before G.a0 G.Z = true) (hEL : EW G.Z G.a0 G.EL) {cap : Nat} {sb b : Addr} {ts : List Int32} {h : Heap} (hO : Old G.Z G.n0 h) (F : Own.SBd G.Z h sb b cap ts) :
    Own.Con G [] bAsl #[.ref sb] h [] (fun v h' => v = some (.int (Int32.ofNat ts.length)) ∧ h' = h) := by
  refine Own.Con.intro (plainFor_of_name pn_2) hO hEL _ (fun m => ef_bAsl m sb) ?_
  intro X T0 W0 sf
  obtain ⟨E, Fv, Fc, Fn, Hr, Hl, Hc, kb, junk, Ab, Hj⟩ := id F
  refine Own.aloadN W0 d37_0 1 rfl (.ref sb) rfl rfl ?_
  refine Own.getF W0 (tw hw 112 rfl) Via.refl Fn d37_1 4 rfl ?_
  intro T1 W1
  exact Own.retI W1 (by decide) (by decide) rfl d37_4 ⟨rfl, rfl⟩
set_option maxRecDepth 65536 in
set_option maxHeartbeats 40000000 in
theorem con_sbl {G : Own.Gl} (hw : ∀ d ∈ tables_1, d.before G.a0 G.Z = true) (hEL : EW G.Z G.a0 G.EL) {cap : Nat} {sb b : Addr} {ts : List Int32} {h : Heap} (hO : Old G.Z G.n0 h) (F : Own.SBd G.Z h sb b cap ts) :
    Own.Con G [] bSbl #[.ref sb] h [] (fun v h' => v = some (.int (Int32.ofNat ts.length)) ∧ h' = h) := by
  refine Own.Con.intro (plainFor_of_name pn_3) hO hEL _ (fun m => ef_bSbl m sb) ?_
  intro X T0 W0 sf
  have E := F.exa
  refine Own.aloadN W0 d36_0 1 rfl (.ref sb) rfl rfl ?_
  refine Own.callU W0 (tw hw 217 rfl) (tw hw 212 rfl) (tw hw 117 rfl) rfl (tw hw 213 rfl) (tw hw 99 rfl) (tw hw 218 rfl) (by decide) (by decide) (argsL := []) (rest := []) (Own.Con.pay (con_asl hw hEL W0.old F) W0 (tw hw 218 rfl) (tw hw 81 rfl) (len := 3) (wd := 0) (by decide) (by decide) (fun _ q => nomatch q)) E rfl (lenOf pd_4 rfl) rfl (lb rfl) d36_1 4 rfl 0 0 (lb rfl) (lb rfl) (lb rfl) (lb rfl) ?_
  intro v1 T1 h1 u1 W1 R1 hq
  obtain ⟨rfl, eh1⟩ := hq
  have ei1 := eh1.symm; subst ei1
  show Own.Go _ _ _ _ _ 4 #[.val (.ref sb)] [(.int (Int32.ofNat ts.length))]
  exact Own.retI W1 (by decide) (by decide) rfl d36_4 ⟨rfl, rfl⟩
set_option maxRecDepth 65536 in
set_option maxHeartbeats 40000000 in
theorem con_il {G : Own.Gl} (hw : ∀ d ∈ tables_1, d.before G.a0 G.Z = true) (hEL : EW G.Z G.a0 G.EL) (hmem : True) {cz : Int32} (hS : Sta G.Z G.Z.heap Own.ST "COMPACT_STRINGS" "Z" (.int cz)) (hcz : ¬ cz = 0) {cap : Nat} {sb b : Addr} {ts : List Int32} {h : Heap} (hO : Old G.Z G.n0 h) (F : Own.SBd G.Z h sb b cap ts) :
    Own.Con G [] bIl #[.ref sb] h [] (fun v h' => v = some (.int 1) ∧ h' = h) := by
  refine Own.Con.intro (plainFor_of_name pn_2) hO hEL _ (fun m => ef_bIl m sb) ?_
  intro X T0 W0 sf
  obtain ⟨E, Fv, Fc, Fn, Hr, Hl, Hc, kb, junk, Ab, Hj⟩ := id F
  refine Own.getS W0 (tw hw 84 rfl) Via.refl (W0.sta hS) d25_0 3 rfl ?_
  intro T1 W1
  refine Own.ifNo W1 d25_3 6 (XT.i0_eq_f hcz) rfl ?_
  refine Own.aloadN W1 d25_6 7 rfl (.ref sb) rfl rfl ?_
  refine Own.getF W1 (tw hw 87 rfl) Via.refl Fc d25_7 10 rfl ?_
  intro T2 W2
  refine Own.ifNo W2 d25_10 13 (by decide) rfl ?_
  refine Own.iconst W2 d25_13 14 rfl 1 rfl ?_
  refine Own.goto W2 d25_14 18 (by decide) (by decide) ?_
  exact Own.retB W2 (by decide) (by decide) rfl d25_18 rfl ⟨rfl, rfl⟩
set_option maxRecDepth 65536 in
set_option maxHeartbeats 40000000 in
theorem con_chk {G : Own.Gl} (hw : ∀ d ∈ tables_1, d.before G.a0 G.Z = true) (hEL : EW G.Z G.a0 G.EL) (i j : Int32) (hij : ¬ j < i) {h : Heap} (hO : Old G.Z G.n0 h) :
    Own.Con G [] bChk #[.int i, .int j] h [] (fun v h' => v = none ∧ h' = h) := by
  refine Own.Con.intro (plainFor_of_name pn_5) hO hEL _ (fun m => ef_bChk m i j) ?_
  intro X T0 W0 sf
  refine Own.iloadN W0 d40_0 1 rfl j rfl ?_
  refine Own.iloadN W0 d40_1 2 rfl i rfl ?_
  refine Own.icmpYes W0 d40_2 37 (XT.ii_ge_t hij) (by decide) (by decide) ?_
  exact Own.retV W0 (by decide) (by decide) rfl d40_37 ⟨rfl, rfl⟩
set_option maxRecDepth 65536 in
set_option maxHeartbeats 40000000 in
theorem con_min {G : Own.Gl} (hw : ∀ d ∈ tables_1, d.before G.a0 G.Z = true) (hEL : EW G.Z G.a0 G.EL) (i j : Int32) (hij : j < i) {h : Heap} (hO : Old G.Z G.n0 h) :
    Own.Con G [] bMin #[.int i, .int j] h [] (fun v h' => v = some (.int j) ∧ h' = h) := by
  refine Own.Con.intro (by decide +kernel) hO hEL _ (fun m => ef_bMin m i j) ?_
  intro X T0 W0 sf
  refine Own.iloadN W0 d31_0 1 rfl i rfl ?_
  refine Own.iloadN W0 d31_1 2 rfl j rfl ?_
  refine Own.icmpYes W0 d31_2 9 (XT.ii_gt_t hij) (by decide) (by decide) ?_
  refine Own.iloadN W0 d31_9 10 rfl j rfl ?_
  exact Own.retI W0 (by decide) (by decide) rfl d31_10 ⟨rfl, rfl⟩
set_option maxRecDepth 65536 in
set_option maxHeartbeats 40000000 in
theorem con_crb {G : Own.Gl} (hw : ∀ d ∈ tables_1, d.before G.a0 G.Z = true) (hEL : EW G.Z G.a0 G.EL) {cap : Nat} (Hc : cap ≤ 4000) {a : Addr} {kb : ClassId} {ts : List Int32} {junk : List Value} {h : Heap} (hO : Old G.Z G.n0 h) (Ab : Arv G.Z h a kb .byte (Int32.ofNat cap) (Own.bs ts ++ junk) (.int 0)) (hts : ts.length < cap) (hcap : ts.length ≤ 142) {fr to : Int32} (hfr : fr = 0) (hto : to = Int32.ofNat ts.length) :
    Own.Con G [] bCrb #[.ref a, .int fr, .int to] h [] (fun v h' => ∃ (o : Addr) (ko : ClassId), v = some (.ref o) ∧ Ext h h' ∧ h.size ≤ o ∧ Arv G.Z h' o ko .byte (Int32.ofNat ts.length) (Own.bs ts) (.int 0)) := by
  refine Own.Con.intro (plainFor_of_name pn_5) hO hEL _ (fun m => ef_bCrb m a fr to) ?_
  intro X T0 W0 sf
  subst hfr; subst hto
  have H4 : ts.length ≤ 4000 := by omega
  refine Own.iloadN W0 d39_0 1 rfl 0 rfl ?_
  refine Own.iloadN W0 d39_1 2 rfl (Int32.ofNat ts.length) rfl ?_
  refine Own.callS W0 (tw hw 226 rfl) (tw hw 227 rfl) (tw hw 182 rfl) (tw hw 228 rfl) (by decide) (argsL := [.int 0, (.int (Int32.ofNat ts.length))]) (rest := []) (Own.Con.pay (con_chk hw hEL _ _ (Own.nonneg H4) W0.old) W0 (tw hw 228 rfl) (tw hw 182 rfl) (len := 3) (wd := 0) (by decide) (by decide) (fun _ q => nomatch q)) rfl (lenOf pd_7 rfl) rfl (lb rfl) d39_2 5 rfl 0 0 (lb rfl) (lb rfl) (lb rfl) (lb rfl) ?_
  intro v1 T1 h1 u1 W1 R1 hq
  obtain ⟨rfl, eh1⟩ := hq
  have ei1 := eh1.symm; subst ei1
  show Own.Go _ _ _ _ _ 5 #[.val (.ref a), .val (.int 0), .val (.int (Int32.ofNat ts.length)), .unset, .unset] []
  refine Own.iloadN W1 d39_5 6 rfl (Int32.ofNat ts.length) rfl ?_
  refine Own.iloadN W1 d39_6 7 rfl 0 rfl ?_
  refine Own.isub W1 d39_7 8 rfl ?_
  rw [Int32.sub_zero]
  refine Own.istoreN W1 d39_8 9 rfl #[.val (.ref a), .val (.int 0), .val (.int (Int32.ofNat ts.length)), .val (.int (Int32.ofNat ts.length)), .unset] rfl ?_
  refine Own.iloadN W1 d39_9 10 rfl (Int32.ofNat ts.length) rfl ?_
  refine Own.newA W1 (tw hw 24 rfl) d39_10 12 rfl (Own.nonneg H4) 142 (by rw [Own.clampN H4]; exact hcap) (by decide) 1 142 (by decide) (by decide) (by decide) (by decide) ?_
  intro T2 h2 o2 c2 g2 W2 E2 A2 s2 k2
  have V2 : Arv G.Z h2 o2 c2 .byte (Int32.ofNat ts.length) (List.replicate 142 (.int 0)) (.int 0) := A2
  refine Own.astore W2 d39_12 14 rfl rfl #[.val (.ref a), .val (.int 0), .val (.int (Int32.ofNat ts.length)), .val (.int (Int32.ofNat ts.length)), .val (.ref o2)] rfl ?_
  refine Own.aloadN W2 d39_14 15 rfl (.ref a) rfl rfl ?_
  refine Own.iloadN W2 d39_15 16 rfl 0 rfl ?_
  refine Own.aload W2 d39_16 18 rfl (.ref o2) rfl rfl ?_
  refine Own.iconst W2 d39_18 19 rfl 0 rfl ?_
  refine Own.aloadN W2 d39_19 20 rfl (.ref a) rfl rfl ?_
  have X3 : Ext h h2 := E2
  refine Own.arrlen W2 (Ab.ext X3) d39_20 21 rfl ?_
  refine Own.iloadN W2 d39_21 22 rfl 0 rfl ?_
  refine Own.isub W2 d39_22 23 rfl ?_
  rw [Int32.sub_zero]
  refine Own.iloadN W2 d39_23 24 rfl (Int32.ofNat ts.length) rfl ?_
  refine Own.callS W2 (tw hw 184 rfl) (tw hw 185 rfl) (tw hw 176 rfl) (tw hw 186 rfl) (by decide) (argsL := [(.int (Int32.ofNat cap)), (.int (Int32.ofNat ts.length))]) (rest := [.int 0, (.ref o2), .int 0, (.ref a)]) (Own.Con.pay (con_min hw hEL _ _ (Own.lt_cap hts Hc) W2.old) W2 (tw hw 186 rfl) (tw hw 176 rfl) (len := 3) (wd := 4) (by decide) (by decide) (fun _ q => nomatch q)) rfl (lenOf pd_8 rfl) rfl (lb rfl) d39_24 27 rfl 1 142 (lb rfl) (lb rfl) (lb rfl) (lb rfl) ?_
  intro v4 T4 h4 u4 W4 R4 hq
  obtain ⟨rfl, eh4⟩ := hq
  have ei4 := eh4.symm; subst ei4
  have sf5 := R4.safe V2.lt s2
  show Own.Go _ _ _ _ _ 27 #[.val (.ref a), .val (.int 0), .val (.int (Int32.ofNat ts.length)), .val (.int (Int32.ofNat ts.length)), .val (.ref o2)] [(.int (Int32.ofNat ts.length)), .int 0, (.ref o2), .int 0, (.ref a)]
  refine Own.acopy W4 (tw hw 187 rfl) (tw hw 138 rfl) (tw hw 136 rfl) (tw hw 137 rfl) (Ab.ext X3) V2 (by decide) (by decide) (Own.nonneg H4) (by rw [show (0 : Int32).toNatClampNeg = 0 by decide, Own.clampN H4, Own.clampN Hc]; omega) (by rw [show (0 : Int32).toNatClampNeg = 0 by decide, Own.clampN H4]; omega) (us := Own.bs ts) (Own.rangePre _ (Own.clampN H4) _ (by decide)) (by rw [show (0 : Int32).toNatClampNeg = 0 by decide, Own.clampN H4, List.length_replicate]; omega) (Nat.le_trans W0.n0 (Nat.le_of_eq g2.symm)) sf5 rfl d39_27 30 rfl (by decide) (lb rfl) ?_
  intro T6 h6 W6 R6 K6 A6
  have A' := Own.Arv.cong A6 (Own.cp_new (vd := List.replicate 142 (Value.int 0)) (Own.clampN H4) _ (by decide))
  refine Own.aload W6 d39_30 32 rfl (.ref o2) rfl rfl ?_
  have X7 : Ext h h6 := Own.Ext.kp X3 K6 (allS (Nat.le_of_eq g2.symm) all0)
  exact Own.retA W6 (by decide) (by decide) rfl rfl rfl d39_32 ⟨o2, _, rfl, X7, (Nat.le_of_eq g2.symm), A'⟩
set_option maxRecDepth 65536 in
set_option maxHeartbeats 40000000 in
theorem con_cor {G : Own.Gl} (hw : ∀ d ∈ tables_1, d.before G.a0 G.Z = true) (hEL : EW G.Z G.a0 G.EL) {cap : Nat} (Hc : cap ≤ 4000) {a : Addr} {kb : ClassId} {ts : List Int32} {junk : List Value} {h : Heap} (hO : Old G.Z G.n0 h) (Ab : Arv G.Z h a kb .byte (Int32.ofNat cap) (Own.bs ts ++ junk) (.int 0)) (hts : ts.length < cap) (hcap : ts.length ≤ 142) {fr to : Int32} (hfr : fr = 0) (hto : to = Int32.ofNat ts.length) :
    Own.Con G [] bCor #[.ref a, .int fr, .int to] h [] (fun v h' => ∃ (o : Addr) (ko : ClassId), v = some (.ref o) ∧ Ext h h' ∧ h.size ≤ o ∧ Arv G.Z h' o ko .byte (Int32.ofNat ts.length) (Own.bs ts) (.int 0)) := by
  refine Own.Con.intro (plainFor_of_name pn_5) hO hEL _ (fun m => ef_bCor m a fr to) ?_
  intro X T0 W0 sf
  subst hfr; subst hto
  have H4 : ts.length ≤ 4000 := by omega
  refine Own.iloadN W0 d38_0 1 rfl 0 rfl ?_
  refine Own.ifNo W0 d38_1 4 (by decide) rfl ?_
  refine Own.iloadN W0 d38_4 5 rfl (Int32.ofNat ts.length) rfl ?_
  refine Own.aloadN W0 d38_5 6 rfl (.ref a) rfl rfl ?_
  refine Own.arrlen W0 Ab d38_6 7 rfl ?_
  refine Own.icmpNo W0 d38_7 10 (XT.ii_eq_f (Own.ne_cap hts Hc)) rfl ?_
  refine Own.aloadN W0 d38_10 11 rfl (.ref a) rfl rfl ?_
  refine Own.iloadN W0 d38_11 12 rfl 0 rfl ?_
  refine Own.iloadN W0 d38_12 13 rfl (Int32.ofNat ts.length) rfl ?_
  refine Own.callS W0 (tw hw 223 rfl) (tw hw 224 rfl) (tw hw 182 rfl) (tw hw 225 rfl) (by decide) (argsL := [(.ref a), .int 0, (.int (Int32.ofNat ts.length))]) (rest := []) (Own.Con.pay (con_crb hw hEL Hc W0.old Ab hts hcap rfl rfl) W0 (tw hw 225 rfl) (tw hw 182 rfl) (len := 3) (wd := 0) (by decide) (by decide) (fun _ q => nomatch q)) rfl (lenOf pd_9 rfl) rfl (lb rfl) d38_13 16 rfl 1 142 (lb rfl) (lb rfl) (lb rfl) (lb rfl) ?_
  intro v1 T1 h1 u1 W1 R1 hq
  obtain ⟨o1, c1, rfl, E1, g1, A1⟩ := hq
  show Own.Go _ _ _ _ _ 16 #[.val (.ref a), .val (.int 0), .val (.int (Int32.ofNat ts.length))] [(.ref o1)]
  exact Own.retA W1 (by decide) (by decide) rfl rfl rfl d38_16 ⟨o1, _, rfl, E1, g1, A1⟩
set_option maxRecDepth 65536 in
set_option maxHeartbeats 40000000 in
theorem con_n2 {G : Own.Gl} (hw : ∀ d ∈ tables_1, d.before G.a0 G.Z = true) (hEL : EW G.Z G.a0 G.EL) (hmem : True) {cz : Int32} (hS : Sta G.Z G.Z.heap Own.ST "COMPACT_STRINGS" "Z" (.int cz)) (hcz : ¬ cz = 0) {cap : Nat} {sb b : Addr} {ts : List Int32} {h : Heap} (hO : Old G.Z G.n0 h) (F : Own.SBd G.Z h sb b cap ts) {x : Addr} (hn_x : G.n0 ≤ x) (E0 : Exa G.Z h x "java/lang/String") {v0 c0 : Value} (V : Fld G.Z h x "java/lang/String" "value" "[B" v0) (Cd : Fld G.Z h x "java/lang/String" "coder" "B" c0) (hxb : b ≠ x) (hts : ts.length < cap) (hcap : ts.length ≤ 142) :
    Own.Con G [] bN2 #[.ref x, .ref sb, .null] h [x] (fun v h' => v = none ∧ Keep h h' [x] ∧ Own.Str G.Z h' x ts) := by
  refine Own.Con.intro (plainFor_of_name pn_4) hO hEL _ (fun m => ef_bN2 m x sb) ?_
  intro X T0 W0 sf
  obtain ⟨E, Fv, Fc, Fn, Hr, Hl, Hc, kb, junk, Ab, Hj⟩ := id F
  have sx := sf x (List.mem_singleton.mpr rfl)
  refine Own.aloadN W0 d34_0 1 rfl (.ref x) rfl rfl ?_
  refine Own.initO W0 (tw hw 16 rfl) (tw hw 17 rfl) (tw hw 18 rfl) rfl d34_1 4 rfl (by decide) (by decide) ?_
  intro T1 W1
  refine Own.aloadN W1 d34_4 5 rfl (.ref sb) rfl rfl ?_
  refine Own.callV W1 (tw hw 206 rfl) (tw hw 207 rfl) (fun s q => notFace_of_selects (args := #[]) (mvT (s := s) q (tw hw 209 rfl))) (tw hw 209 rfl) (tw hw 208 rfl) (by decide) (argsL := []) (rest := []) (Own.Con.pay (con_gv hw hEL W1.old F) W1 (tw hw 210 rfl) (tw hw 81 rfl) (len := 3) (wd := 0) (by decide) (by decide) (fun _ q => nomatch q)) E rfl (lenOf pd_10 rfl) rfl (lb rfl) d34_5 8 rfl 0 0 (lb rfl) (lb rfl) (lb rfl) (lb rfl) ?_
  intro v2 T2 h2 u2 W2 R2 hq
  obtain ⟨rfl, eh2⟩ := hq
  have ei2 := eh2.symm; subst ei2
  have sf3 := R2.safe E0.lt sx
  show Own.Go _ _ _ _ _ 8 #[.val (.ref x), .val (.ref sb), .val .null, .unset, .unset] [(.ref b)]
  refine Own.astoreN W2 d34_8 9 rfl rfl #[.val (.ref x), .val (.ref sb), .val .null, .val (.ref b), .unset] rfl ?_
  refine Own.aloadN W2 d34_9 10 rfl (.ref sb) rfl rfl ?_
  refine Own.callV W2 (tw hw 211 rfl) (tw hw 212 rfl) (fun s q => Own.notFace_via (args := #[]) (mvT (s := s) q (tw hw 117 rfl)) rfl) (tw hw 214 rfl) (tw hw 215 rfl) (by decide) (argsL := []) (rest := []) (Own.Con.pay (con_sbl hw hEL W2.old F) W2 (tw hw 216 rfl) (tw hw 73 rfl) (len := 3) (wd := 0) (by decide) (by decide) (fun _ q => nomatch q)) E rfl (lenOf pd_4 rfl) rfl (lb rfl) d34_10 13 rfl 0 0 (lb rfl) (lb rfl) (lb rfl) (lb rfl) ?_
  intro v4 T4 h4 u4 W4 R4 hq
  obtain ⟨rfl, eh4⟩ := hq
  have ei4 := eh4.symm; subst ei4
  have sf5 := R4.safe E0.lt sf3
  show Own.Go _ _ _ _ _ 13 #[.val (.ref x), .val (.ref sb), .val .null, .val (.ref b), .unset] [(.int (Int32.ofNat ts.length))]
  refine Own.istore W4 d34_13 15 rfl #[.val (.ref x), .val (.ref sb), .val .null, .val (.ref b), .val (.int (Int32.ofNat ts.length))] rfl ?_
  refine Own.aloadN W4 d34_15 16 rfl (.ref sb) rfl rfl ?_
  refine Own.callV W4 (tw hw 219 rfl) (tw hw 154 rfl) (fun s q => notFace_of_selects (args := #[]) (mvT (s := s) q (tw hw 156 rfl))) (tw hw 156 rfl) (tw hw 155 rfl) (by decide) (argsL := []) (rest := []) (Own.Con.pay (con_il hw hEL hmem hS hcz W4.old F) W4 (tw hw 157 rfl) (tw hw 81 rfl) (len := 3) (wd := 0) (by decide) (by decide) (fun _ q => nomatch q)) E rfl (lenOf pd_11 rfl) rfl (lb rfl) d34_16 19 rfl 0 0 (lb rfl) (lb rfl) (lb rfl) (lb rfl) ?_
  intro v6 T6 h6 u6 W6 R6 hq
  obtain ⟨rfl, eh6⟩ := hq
  have ei6 := eh6.symm; subst ei6
  have sf7 := R6.safe E0.lt sf5
  show Own.Go _ _ _ _ _ 19 #[.val (.ref x), .val (.ref sb), .val .null, .val (.ref b), .val (.int (Int32.ofNat ts.length))] [.int 1]
  refine Own.ifNo W6 d34_19 22 (by decide) rfl ?_
  refine Own.aloadN W6 d34_22 23 rfl (.ref x) rfl rfl ?_
  refine Own.iconst W6 d34_23 24 rfl 0 rfl ?_
  refine Own.putF W6 (tw hw 31 rfl) Via.refl Cd E0 (Or.inr ⟨(tw hw 32 rfl), rfl, rfl⟩) (tw hw 7 rfl) (ty := .byte) (v' := (.int 0)) (by decide) rfl rfl hn_x sf7 d34_24 27 rfl ?_
  intro T8 h8 W8 Q8 k8
  have F8_coder := Fld.same Q8 Cd
  refine Own.aloadN W8 d34_27 28 rfl (.ref x) rfl rfl ?_
  refine Own.aloadN W8 d34_28 29 rfl (.ref b) rfl rfl ?_
  refine Own.iconst W8 d34_29 30 rfl 0 rfl ?_
  refine Own.iload W8 d34_30 32 rfl (Int32.ofNat ts.length) rfl ?_
  refine Own.callS W8 (tw hw 220 rfl) (tw hw 221 rfl) (tw hw 182 rfl) (tw hw 222 rfl) (by decide) (argsL := [(.ref b), .int 0, (.int (Int32.ofNat ts.length))]) (rest := [(.ref x)]) (Own.Con.pay (con_cor hw hEL Hc W8.old (Ab.other Q8 hxb) hts hcap rfl rfl) W8 (tw hw 222 rfl) (tw hw 182 rfl) (len := 3) (wd := 1) (by decide) (by decide) (fun _ q => nomatch q)) rfl (lenOf pd_9 rfl) rfl (lb rfl) d34_32 35 rfl 1 142 (lb rfl) (lb rfl) (lb rfl) (lb rfl) ?_
  intro v9 T9 h9 u9 W9 R9 hq
  obtain ⟨o9, c9, rfl, E9, g9, A9⟩ := hq
  show Own.Go _ _ _ _ _ 35 #[.val (.ref x), .val (.ref sb), .val .null, .val (.ref b), .val (.int (Int32.ofNat ts.length))] [(.ref o9), (.ref x)]
  refine Own.putF W9 (tw hw 33 rfl) Via.refl ((V.other Q8 (Or.inr (slot_ne (Or.inr (tw hw 34 rfl)) (Or.inr (tw hw 32 rfl)) (by decide) (t := (.array .byte)) (t' := .byte) (by decide) (by decide)))).ext E9) ((E0.wr Q8).ext E9) (Or.inr ⟨(tw hw 34 rfl), rfl, rfl⟩) (tw hw 7 rfl) (ty := (.array .byte)) (v' := (.ref o9)) (by decide) rfl rfl hn_x (R9.safe (E0.wr Q8).lt (k8 x sf7)) d34_35 38 rfl ?_
  intro T10 h10 W10 Q10 k10
  have F10_value := Fld.same Q10 ((V.other Q8 (Or.inr (slot_ne (Or.inr (tw hw 34 rfl)) (Or.inr (tw hw 32 rfl)) (by decide) (t := (.array .byte)) (t' := .byte) (by decide) (by decide)))).ext E9)
  refine Own.goto W10 d34_38 97 (by decide) (by decide) ?_
  exact Own.retV W10 (by decide) (by decide) rfl d34_97 ⟨rfl, (Keep.wr (Keep.ext (Keep.wr (Keep.refl h [x]) Q8 (Or.inl (by simp))) E9) Q10 (Or.inl (by simp))), (((E0.wr Q8).ext E9).wr Q10), ((F8_coder.ext E9).other Q10 (Or.inr (slot_ne (Or.inr (tw hw 32 rfl)) (Or.inr (tw hw 34 rfl)) (by decide) (t := .byte) (t' := (.array .byte)) (by decide) (by decide)))), Hr, by omega, o9, _, F10_value, (A9.other Q10 (Ne.symm (Nat.ne_of_lt (Nat.lt_of_lt_of_le F8_coder.lt g9))))⟩
set_option maxRecDepth 65536 in
set_option maxHeartbeats 40000000 in
theorem con_n1 {G : Own.Gl} (hw : ∀ d ∈ tables_1, d.before G.a0 G.Z = true) (hEL : EW G.Z G.a0 G.EL) (hmem : True) {cz : Int32} (hS : Sta G.Z G.Z.heap Own.ST "COMPACT_STRINGS" "Z" (.int cz)) (hcz : ¬ cz = 0) {cap : Nat} {sb b : Addr} {ts : List Int32} {h : Heap} (hO : Old G.Z G.n0 h) (F : Own.SBd G.Z h sb b cap ts) {x : Addr} (hn_x : G.n0 ≤ x) (E0 : Exa G.Z h x "java/lang/String") {v0 c0 : Value} (V : Fld G.Z h x "java/lang/String" "value" "[B" v0) (Cd : Fld G.Z h x "java/lang/String" "coder" "B" c0) (hxb : b ≠ x) (hts : ts.length < cap) (hcap : ts.length ≤ 142) :
    Own.Con G [] bN1 #[.ref x, .ref sb] h [x] (fun v h' => v = none ∧ Keep h h' [x] ∧ Own.Str G.Z h' x ts) := by
  refine Own.Con.intro (plainFor_of_name pn_4) hO hEL _ (fun m => ef_bN1 m x sb) ?_
  intro X T0 W0 sf
  have sx := sf x (List.mem_singleton.mpr rfl)
  refine Own.aloadN W0 d33_0 1 rfl (.ref x) rfl rfl ?_
  refine Own.aloadN W0 d33_1 2 rfl (.ref sb) rfl rfl ?_
  refine Own.aconstNull W0 d33_2 3 rfl ?_
  refine Own.callX W0 rfl (tw hw 203 rfl) (tw hw 204 rfl) (tw hw 205 rfl) (by decide) (argsL := [(.ref sb), .null]) (rest := []) (Own.Con.pay (con_n2 hw hEL hmem hS hcz W0.old F hn_x E0 V Cd hxb hts hcap) W0 (tw hw 205 rfl) (tw hw 8 rfl) (len := 3) (wd := 0) (by decide) (by decide) (fun y hy => by cases List.mem_singleton.mp hy; exact ⟨E0.lt, sx⟩)) rfl (lenOf pd_12 rfl) rfl (lb rfl) d33_3 6 rfl 1 142 (lb rfl) (lb rfl) (lb rfl) (lb rfl) ?_
  intro v1 T1 h1 u1 W1 R1 hq
  obtain ⟨rfl, K1, S1⟩ := hq
  show Own.Go _ _ _ _ _ 6 #[.val (.ref x), .val (.ref sb)] []
  exact Own.retV W1 (by decide) (by decide) rfl d33_6 ⟨rfl, K1, S1⟩
set_option maxRecDepth 65536 in
set_option maxHeartbeats 40000000 in
theorem con_tos {G : Own.Gl} (hw : ∀ d ∈ tables_1, d.before G.a0 G.Z = true) (hEL : EW G.Z G.a0 G.EL) (hmem : True) {cz : Int32} (hS : Sta G.Z G.Z.heap Own.ST "COMPACT_STRINGS" "Z" (.int cz)) (hcz : ¬ cz = 0) {cap : Nat} {sb b : Addr} {ts : List Int32} {h : Heap} (hO : Old G.Z G.n0 h) (F : Own.SBd G.Z h sb b cap ts) (hts : ts.length < cap) (hcap : ts.length ≤ 142) :
    Own.Con G [] bTos #[.ref sb] h [] (fun v h' => ∃ o : Addr, v = some (.ref o) ∧ Ext h h' ∧ h.size ≤ o ∧ Own.Str G.Z h' o ts) := by
  refine Own.Con.intro (plainFor_of_name pn_3) hO hEL _ (fun m => ef_bTos m sb) ?_
  intro X T0 W0 sf
  refine Own.newO W0 (tw hw 199 rfl) (tw hw 7 rfl) (tw hw 8 rfl) d32_0 3 rfl 1 4 (by decide) (by decide) (by decide) (by decide) ?_
  intro T1 h1 o1 g1 W1 E1 A1 D1 s1 k1
  have F1_coder : Fld G.Z h1 o1 "java/lang/String" "coder" "B" (.int 0) := D1 (Or.inr (tw hw 32 rfl)) (ty := .byte) (by decide)
  have F1_value : Fld G.Z h1 o1 "java/lang/String" "value" "[B" .null := D1 (Or.inr (tw hw 34 rfl)) (ty := (.array .byte)) (by decide)
  refine Own.dup W1 d32_3 4 rfl rfl ?_
  refine Own.aloadN W1 d32_4 5 rfl (.ref sb) rfl rfl ?_
  have X2 : Ext h h1 := E1
  refine Own.callX W1 rfl (tw hw 200 rfl) (tw hw 201 rfl) (tw hw 202 rfl) (by decide) (argsL := [(.ref sb)]) (rest := [(.ref o1)]) (Own.Con.pay (con_n1 hw hEL hmem hS hcz W1.old (F.ext X2) (Nat.le_trans W0.n0 (Nat.le_of_eq g1.symm)) A1 F1_value F1_coder (Nat.ne_of_lt (Nat.lt_of_lt_of_le F.ltb (Nat.le_of_eq g1.symm))) hts hcap) W1 (tw hw 202 rfl) (tw hw 8 rfl) (len := 3) (wd := 1) (by decide) (by decide) (fun y hy => by cases List.mem_singleton.mp hy; exact ⟨A1.lt, s1⟩)) rfl (lenOf pd_13 rfl) rfl (lb rfl) d32_5 8 rfl 2 146 (lb rfl) (lb rfl) (lb rfl) (lb rfl) ?_
  intro v3 T3 h3 u3 W3 R3 hq
  obtain ⟨rfl, K3, S3⟩ := hq
  show Own.Go _ _ _ _ _ 8 #[.val (.ref sb)] [(.ref o1)]
  have X4 : Ext h h3 := Own.Ext.kp X2 K3 (allS (Nat.le_of_eq g1.symm) all0)
  exact Own.retA W3 (by decide) (by decide) rfl rfl rfl d32_8 ⟨o1, rfl, X4, (Nat.le_of_eq g1.symm), S3⟩
set_option maxRecDepth 65536 in
set_option maxHeartbeats 40000000 in
theorem con_max {G : Own.Gl} (hw : ∀ d ∈ tables_1, d.before G.a0 G.Z = true) (hEL : EW G.Z G.a0 G.EL) (i j : Int32) (hij : i < j) {h : Heap} (hO : Old G.Z G.n0 h) :
    Own.Con G [] bMax #[.int i, .int j] h [] (fun v h' => v = some (.int j) ∧ h' = h) := by
  refine Own.Con.intro (by decide +kernel) hO hEL _ (fun m => ef_bMax m i j) ?_
  intro X T0 W0 sf
  refine Own.iloadN W0 d29_0 1 rfl i rfl ?_
  refine Own.iloadN W0 d29_1 2 rfl j rfl ?_
  refine Own.icmpYes W0 d29_2 9 (XT.ii_lt_t hij) (by decide) (by decide) ?_
  refine Own.iloadN W0 d29_9 10 rfl j rfl ?_
  exact Own.retI W0 (by decide) (by decide) rfl d29_10 ⟨rfl, rfl⟩
set_option maxRecDepth 65536 in
set_option maxHeartbeats 40000000 in
theorem con_min1 {G : Own.Gl} (hw : ∀ d ∈ tables_1, d.before G.a0 G.Z = true) (hEL : EW G.Z G.a0 G.EL) (i j : Int32) (hij : ¬ j < i) {h : Heap} (hO : Old G.Z G.n0 h) :
    Own.Con G [] bMin #[.int i, .int j] h [] (fun v h' => v = some (.int i) ∧ h' = h) := by
  refine Own.Con.intro (by decide +kernel) hO hEL _ (fun m => ef_bMin m i j) ?_
  intro X T0 W0 sf
  refine Own.iloadN W0 d31_0 1 rfl i rfl ?_
  refine Own.iloadN W0 d31_1 2 rfl j rfl ?_
  refine Own.icmpNo W0 d31_2 5 (XT.ii_gt_f hij) rfl ?_
  refine Own.iloadN W0 d31_5 6 rfl i rfl ?_
  refine Own.goto W0 d31_6 10 (by decide) (by decide) ?_
  exact Own.retI W0 (by decide) (by decide) rfl d31_10 ⟨rfl, rfl⟩
set_option maxRecDepth 65536 in
set_option maxHeartbeats 40000000 in
theorem con_nl {G : Own.Gl} (hw : ∀ d ∈ tables_1, d.before G.a0 G.Z = true) (hEL : EW G.Z G.a0 G.EL) {cap m : Nat} (hcap : cap ≤ 70) (hm1 : cap < m) (hm2 : m < 2 * cap + 2) {a b c : Int32} (ha : a = Int32.ofNat cap) (hb : b = Int32.ofNat m - Int32.ofNat cap) (hc : c = Int32.ofNat cap + 2) {h : Heap} (hO : Old G.Z G.n0 h) :
    Own.Con G [] bNl #[.int a, .int b, .int c] h [] (fun v h' => v = some (.int (Int32.ofNat (2 * cap + 2))) ∧ h' = h) := by
  refine Own.Con.intro (plainFor_of_name pn_6) hO hEL _ (fun m => ef_bNl m a b c) ?_
  intro X T0 W0 sf
  subst ha; subst hb; subst hc
  refine Own.iloadN W0 d28_0 1 rfl (Int32.ofNat cap) rfl ?_
  refine Own.iloadN W0 d28_1 2 rfl (Int32.ofNat m - Int32.ofNat cap) rfl ?_
  refine Own.iloadN W0 d28_2 3 rfl (Int32.ofNat cap + (2 : Int32)) rfl ?_
  refine Own.callS W0 (tw hw 174 rfl) (tw hw 175 rfl) (tw hw 176 rfl) (tw hw 177 rfl) (by decide) (argsL := [(.int (Int32.ofNat m - Int32.ofNat cap)), (.int (Int32.ofNat cap + (2 : Int32)))]) (rest := [(.int (Int32.ofNat cap))]) (Own.Con.pay (con_max hw hEL _ _ (Own.grow_lt (by omega) hm1 hm2) W0.old) W0 (tw hw 177 rfl) (tw hw 176 rfl) (len := 3) (wd := 1) (by decide) (by decide) (fun _ q => nomatch q)) rfl (lenOf pd_8 rfl) rfl (lb rfl) d28_3 6 rfl 0 0 (lb rfl) (lb rfl) (lb rfl) (lb rfl) ?_
  intro v1 T1 h1 u1 W1 R1 hq
  obtain ⟨rfl, eh1⟩ := hq
  have ei1 := eh1.symm; subst ei1
  show Own.Go _ _ _ _ _ 6 #[.val (.int (Int32.ofNat cap)), .val (.int (Int32.ofNat m - Int32.ofNat cap)), .val (.int (Int32.ofNat cap + (2 : Int32))), .unset] [(.int (Int32.ofNat cap + (2 : Int32))), (.int (Int32.ofNat cap))]
  refine Own.iadd W1 d28_6 7 rfl ?_
  rw [Own.sum2 (by omega)]
  refine Own.istoreN W1 d28_7 8 rfl #[.val (.int (Int32.ofNat cap)), .val (.int (Int32.ofNat m - Int32.ofNat cap)), .val (.int (Int32.ofNat cap + (2 : Int32))), .val (.int (Int32.ofNat (2 * cap + 2)))] rfl ?_
  refine Own.iconst W1 d28_8 9 rfl 0 rfl ?_
  refine Own.iloadN W1 d28_9 10 rfl (Int32.ofNat (2 * cap + 2)) rfl ?_
  refine Own.icmpNo W1 d28_10 13 (XT.ii_ge_f (Own.pos_of (by omega) (by omega))) rfl ?_
  refine Own.iloadN W1 d28_13 14 rfl (Int32.ofNat (2 * cap + 2)) rfl ?_
  refine Own.ldcI W1 (tw hw 178 rfl) d28_14 16 rfl ?_
  refine Own.icmpNo W1 d28_16 19 (XT.ii_gt_f (Own.soft_ok (by omega))) rfl ?_
  refine Own.iloadN W1 d28_19 20 rfl (Int32.ofNat (2 * cap + 2)) rfl ?_
  exact Own.retI W1 (by decide) (by decide) rfl d28_20 ⟨rfl, rfl⟩
set_option maxRecDepth 65536 in
set_option maxHeartbeats 40000000 in
theorem con_ncap {G : Own.Gl} (hw : ∀ d ∈ tables_1, d.before G.a0 G.Z = true) (hEL : EW G.Z G.a0 G.EL) {cap m : Nat} (hcap : cap ≤ 70) (hm1 : cap < m) (hm2 : m < 2 * cap + 2) {sb b : Addr} {ts : List Int32} {mn : Int32} (hmn : mn = Int32.ofNat m) {h : Heap} (hO : Old G.Z G.n0 h) (F : Own.SBd G.Z h sb b cap ts) :
    Own.Con G [] bNcap #[.ref sb, .int mn] h [] (fun v h' => v = some (.int (Int32.ofNat (2 * cap + 2))) ∧ h' = h) := by
  refine Own.Con.intro (plainFor_of_name pn_2) hO hEL _ (fun m => ef_bNcap m sb mn) ?_
  intro X T0 W0 sf
  subst hmn
  obtain ⟨E, Fv, Fc, Fn, Hr, Hl, Hc, kb, junk, Ab, Hj⟩ := id F
  refine Own.aloadN W0 d27_0 1 rfl (.ref sb) rfl rfl ?_
  refine Own.getF W0 (tw hw 85 rfl) Via.refl Fv d27_1 4 rfl ?_
  intro T1 W1
  refine Own.arrlen W1 Ab d27_4 5 rfl ?_
  refine Own.istoreN W1 d27_5 6 rfl #[.val (.ref sb), .val (.int (Int32.ofNat m)), .val (.int (Int32.ofNat cap)), .unset, .unset, .unset] rfl ?_
  refine Own.iloadN W1 d27_6 7 rfl (Int32.ofNat m) rfl ?_
  refine Own.aloadN W1 d27_7 8 rfl (.ref sb) rfl rfl ?_
  refine Own.getF W1 (tw hw 87 rfl) Via.refl Fc d27_8 11 rfl ?_
  intro T2 W2
  refine Own.ishl W2 d27_11 12 rfl ?_
  rw [Own.shl0]
  refine Own.istoreN W2 d27_12 13 rfl #[.val (.ref sb), .val (.int (Int32.ofNat m)), .val (.int (Int32.ofNat cap)), .val (.int (Int32.ofNat m)), .unset, .unset] rfl ?_
  refine Own.iloadN W2 d27_13 14 rfl (Int32.ofNat m) rfl ?_
  refine Own.iloadN W2 d27_14 15 rfl (Int32.ofNat cap) rfl ?_
  refine Own.isub W2 d27_15 16 rfl ?_
  refine Own.istore W2 d27_16 18 rfl #[.val (.ref sb), .val (.int (Int32.ofNat m)), .val (.int (Int32.ofNat cap)), .val (.int (Int32.ofNat m)), .val (.int ((Int32.ofNat m) - (Int32.ofNat cap))), .unset] rfl ?_
  refine Own.iloadN W2 d27_18 19 rfl (Int32.ofNat cap) rfl ?_
  refine Own.iload W2 d27_19 21 rfl ((Int32.ofNat m) - (Int32.ofNat cap)) rfl ?_
  refine Own.iloadN W2 d27_21 22 rfl (Int32.ofNat cap) rfl ?_
  refine Own.iconst W2 d27_22 23 rfl 2 rfl ?_
  refine Own.aloadN W2 d27_23 24 rfl (.ref sb) rfl rfl ?_
  refine Own.getF W2 (tw hw 87 rfl) Via.refl Fc d27_24 27 rfl ?_
  intro T3 W3
  refine Own.ishl W3 d27_27 28 rfl ?_
  rw [Own.shl0]
  refine Own.iadd W3 d27_28 29 rfl ?_
  refine Own.callS W3 (tw hw 170 rfl) (tw hw 171 rfl) (tw hw 172 rfl) (tw hw 173 rfl) (by decide) (argsL := [(.int (Int32.ofNat cap)), (.int ((Int32.ofNat m) - (Int32.ofNat cap))), (.int ((Int32.ofNat cap) + (2 : Int32)))]) (rest := []) (Own.Con.pay (con_nl hw hEL hcap hm1 hm2 rfl rfl rfl W3.old) W3 (tw hw 173 rfl) (tw hw 172 rfl) (len := 3) (wd := 0) (by decide) (by decide) (fun _ q => nomatch q)) rfl (lenOf pd_14 rfl) rfl (lb rfl) d27_29 32 rfl 0 0 (lb rfl) (lb rfl) (lb rfl) (lb rfl) ?_
  intro v4 T4 h4 u4 W4 R4 hq
  obtain ⟨rfl, eh4⟩ := hq
  have ei4 := eh4.symm; subst ei4
  show Own.Go _ _ _ _ _ 32 #[.val (.ref sb), .val (.int (Int32.ofNat m)), .val (.int (Int32.ofNat cap)), .val (.int (Int32.ofNat m)), .val (.int ((Int32.ofNat m) - (Int32.ofNat cap))), .unset] [(.int (Int32.ofNat (2 * cap + 2)))]
  refine Own.istore W4 d27_32 34 rfl #[.val (.ref sb), .val (.int (Int32.ofNat m)), .val (.int (Int32.ofNat cap)), .val (.int (Int32.ofNat m)), .val (.int ((Int32.ofNat m) - (Int32.ofNat cap))), .val (.int (Int32.ofNat (2 * cap + 2)))] rfl ?_
  refine Own.iload W4 d27_34 36 rfl (Int32.ofNat (2 * cap + 2)) rfl ?_
  refine Own.ldcI W4 (tw hw 179 rfl) d27_36 38 rfl ?_
  refine Own.icmpYes W4 d27_38 51 (XT.ii_ne_t (Own.max_ne (by omega))) (by decide) (by decide) ?_
  refine Own.iload W4 d27_51 53 rfl (Int32.ofNat (2 * cap + 2)) rfl ?_
  refine Own.aloadN W4 d27_53 54 rfl (.ref sb) rfl rfl ?_
  refine Own.getF W4 (tw hw 87 rfl) Via.refl Fc d27_54 57 rfl ?_
  intro T5 W5
  refine Own.ishr W5 d27_57 58 rfl ?_
  rw [Own.shr0]
  exact Own.retI W5 (by decide) (by decide) rfl d27_58 ⟨rfl, rfl⟩
set_option maxRecDepth 65536 in
set_option maxHeartbeats 40000000 in
theorem con_cpo {G : Own.Gl} (hw : ∀ d ∈ tables_1, d.before G.a0 G.Z = true) (hEL : EW G.Z G.a0 G.EL) {cap n : Nat} (hc : cap < n) (hn : n ≤ 142) {a : Addr} {kb : ClassId} {vs : List Value} (hv : vs.length = cap) {nn : Int32} (hnn : nn = Int32.ofNat n) {h : Heap} (hO : Old G.Z G.n0 h) (Ab : Arv G.Z h a kb .byte (Int32.ofNat cap) vs (.int 0)) :
    Own.Con G [] bCpo #[.ref a, .int nn] h [] (fun v h' => ∃ (o : Addr) (ko : ClassId), v = some (.ref o) ∧ Ext h h' ∧ h.size ≤ o ∧ Arv G.Z h' o ko .byte (Int32.ofNat n) (vs ++ List.replicate (n - cap) (.int 0)) (.int 0)) := by
  refine Own.Con.intro (plainFor_of_name pn_5) hO hEL _ (fun m => ef_bCpo m a nn) ?_
  intro X T0 W0 sf
  subst hnn
  refine Own.iloadN W0 d30_0 1 rfl (Int32.ofNat n) rfl ?_
  refine Own.aloadN W0 d30_1 2 rfl (.ref a) rfl rfl ?_
  refine Own.arrlen W0 Ab d30_2 3 rfl ?_
  refine Own.icmpYes W0 d30_3 14 (XT.ii_ne_t (Own.nat_ne (by omega) (by omega) (by omega))) (by decide) (by decide) ?_
  refine Own.iloadN W0 d30_14 15 rfl (Int32.ofNat n) rfl ?_
  refine Own.newA W0 (tw hw 24 rfl) d30_15 17 rfl (Own.nonneg (by omega)) 142 (by rw [Own.clampN (by omega)]; exact hn) (by decide) 1 142 (by decide) (by decide) (by decide) (by decide) ?_
  intro T1 h1 o1 c1 g1 W1 E1 A1 s1 k1
  have V1 : Arv G.Z h1 o1 c1 .byte (Int32.ofNat n) (List.replicate 142 (.int 0)) (.int 0) := A1
  refine Own.astoreN W1 d30_17 18 rfl rfl #[.val (.ref a), .val (.int (Int32.ofNat n)), .val (.ref o1)] rfl ?_
  refine Own.aloadN W1 d30_18 19 rfl (.ref a) rfl rfl ?_
  refine Own.iconst W1 d30_19 20 rfl 0 rfl ?_
  refine Own.aloadN W1 d30_20 21 rfl (.ref o1) rfl rfl ?_
  refine Own.iconst W1 d30_21 22 rfl 0 rfl ?_
  refine Own.aloadN W1 d30_22 23 rfl (.ref a) rfl rfl ?_
  have X2 : Ext h h1 := E1
  refine Own.arrlen W1 (Ab.ext X2) d30_23 24 rfl ?_
  refine Own.iloadN W1 d30_24 25 rfl (Int32.ofNat n) rfl ?_
  refine Own.callS W1 (tw hw 184 rfl) (tw hw 185 rfl) (tw hw 176 rfl) (tw hw 186 rfl) (by decide) (argsL := [(.int (Int32.ofNat cap)), (.int (Int32.ofNat n))]) (rest := [.int 0, (.ref o1), .int 0, (.ref a)]) (Own.Con.pay (con_min1 hw hEL _ _ (Own.nat_nlt (by omega) (by omega) (by omega)) W1.old) W1 (tw hw 186 rfl) (tw hw 176 rfl) (len := 3) (wd := 4) (by decide) (by decide) (fun _ q => nomatch q)) rfl (lenOf pd_8 rfl) rfl (lb rfl) d30_25 28 rfl 1 142 (lb rfl) (lb rfl) (lb rfl) (lb rfl) ?_
  intro v3 T3 h3 u3 W3 R3 hq
  obtain ⟨rfl, eh3⟩ := hq
  have ei3 := eh3.symm; subst ei3
  have sf4 := R3.safe V1.lt s1
  show Own.Go _ _ _ _ _ 28 #[.val (.ref a), .val (.int (Int32.ofNat n)), .val (.ref o1)] [(.int (Int32.ofNat cap)), .int 0, (.ref o1), .int 0, (.ref a)]
  refine Own.acopy W3 (tw hw 187 rfl) (tw hw 138 rfl) (tw hw 136 rfl) (tw hw 137 rfl) (Ab.ext X2) V1 (by decide) (by decide) (Own.nonneg (by omega)) (by rw [show (0 : Int32).toNatClampNeg = 0 by decide, Own.clampN (by omega)]; omega) (by rw [show (0 : Int32).toNatClampNeg = 0 by decide, Own.clampN (by omega), Own.clampN (by omega)]; omega) (us := vs) (Own.rangeGet _ (by rw [Own.clampN (by omega)]; exact hv.symm) _ (by decide)) (by rw [show (0 : Int32).toNatClampNeg = 0 by decide, Own.clampN (by omega), List.length_replicate]; omega) (Nat.le_trans W0.n0 (Nat.le_of_eq g1.symm)) sf4 rfl d30_28 31 rfl (by decide) (lb rfl) ?_
  intro T5 h5 W5 R5 K5 A5
  have A1 := A5; rw [Own.clampN (n := cap) (by omega)] at A1
  have A2 := Own.Arv.cong A1 (fun i hi => Own.grow_cp (n := n) (K := 142) hv (by decide) i (by rw [Own.clampN (by omega)] at hi; exact hi))
  refine Own.aloadN W5 d30_31 32 rfl (.ref o1) rfl rfl ?_
  have X6 : Ext h h5 := Own.Ext.kp X2 K5 (allS (Nat.le_of_eq g1.symm) all0)
  exact Own.retA W5 (by decide) (by decide) rfl rfl rfl d30_32 ⟨o1, _, rfl, X6, (Nat.le_of_eq g1.symm), A2⟩
set_option maxRecDepth 65536 in
set_option maxHeartbeats 40000000 in
theorem con_ensG {G : Own.Gl} (hw : ∀ d ∈ tables_1, d.before G.a0 G.Z = true) (hEL : EW G.Z G.a0 G.EL) {cap m : Nat} (hcap : cap ≤ 70) (hm1 : cap < m) (hm2 : m < 2 * cap + 2) {sb b : Addr} {ts : List Int32} {mn : Int32} (hmn : mn = Int32.ofNat m) {h : Heap} (hO : Old G.Z G.n0 h) (hn_sb : G.n0 ≤ sb) (F : Own.SBd G.Z h sb b cap ts) :
    Own.Con G [] bEnsG #[.ref sb, .int mn] h [] (fun v h' => v = none ∧ Keep h h' [sb] ∧ ∃ b' : Addr, h.size ≤ b' ∧ Own.SBd G.Z h' sb b' (2 * cap + 2) ts) := by
  refine Own.Con.intro (plainFor_of_name pn_2) hO hEL _ (fun m => ef_bEnsG m sb mn) ?_
  intro X T0 W0 sf
  subst hmn
  obtain ⟨E, Fv, Fc, Fn, Hr, Hl, Hc, kb, junk, Ab, Hj⟩ := id F
  refine Own.aloadN W0 d18_0 1 rfl (.ref sb) rfl rfl ?_
  refine Own.getF W0 (tw hw 85 rfl) Via.refl Fv d18_1 4 rfl ?_
  intro T1 W1
  refine Own.arrlen W1 Ab d18_4 5 rfl ?_
  refine Own.aloadN W1 d18_5 6 rfl (.ref sb) rfl rfl ?_
  refine Own.getF W1 (tw hw 87 rfl) Via.refl Fc d18_6 9 rfl ?_
  intro T2 W2
  refine Own.ishr W2 d18_9 10 rfl ?_
  rw [Own.shr0]
  refine Own.istoreN W2 d18_10 11 rfl #[.val (.ref sb), .val (.int (Int32.ofNat m)), .val (.int (Int32.ofNat cap))] rfl ?_
  refine Own.iloadN W2 d18_11 12 rfl (Int32.ofNat m) rfl ?_
  refine Own.iloadN W2 d18_12 13 rfl (Int32.ofNat cap) rfl ?_
  refine Own.isub W2 d18_13 14 rfl ?_
  refine Own.ifNo W2 d18_14 17 (XT.i0_le_f (Own.need_pos (by omega) hm1)) rfl ?_
  refine Own.aloadN W2 d18_17 18 rfl (.ref sb) rfl rfl ?_
  refine Own.aloadN W2 d18_18 19 rfl (.ref sb) rfl rfl ?_
  refine Own.getF W2 (tw hw 85 rfl) Via.refl Fv d18_19 22 rfl ?_
  intro T3 W3
  refine Own.aloadN W3 d18_22 23 rfl (.ref sb) rfl rfl ?_
  refine Own.iloadN W3 d18_23 24 rfl (Int32.ofNat m) rfl ?_
  refine Own.callV W3 (tw hw 165 rfl) (Own.declares_of (tw hw 166 rfl) (tw hw 169 rfl)) (fun s q => notFace_of_selects (args := #[]) (mvT (s := s) q (tw hw 168 rfl))) (tw hw 168 rfl) (tw hw 166 rfl) (by decide) (argsL := [(.int (Int32.ofNat m))]) (rest := [(.ref b), (.ref sb)]) (Own.Con.pay (con_ncap hw hEL hcap hm1 hm2 rfl W3.old F) W3 (tw hw 169 rfl) (tw hw 81 rfl) (len := 3) (wd := 2) (by decide) (by decide) (fun _ q => nomatch q)) E rfl (lenOf pd_15 rfl) rfl (lb rfl) d18_24 27 rfl 0 0 (lb rfl) (lb rfl) (lb rfl) (lb rfl) ?_
  intro v4 T4 h4 u4 W4 R4 hq
  obtain ⟨rfl, eh4⟩ := hq
  have ei4 := eh4.symm; subst ei4
  show Own.Go _ _ _ _ _ 27 #[.val (.ref sb), .val (.int (Int32.ofNat m)), .val (.int (Int32.ofNat cap))] [(.int (Int32.ofNat (2 * cap + 2))), (.ref b), (.ref sb)]
  refine Own.aloadN W4 d18_27 28 rfl (.ref sb) rfl rfl ?_
  refine Own.getF W4 (tw hw 87 rfl) Via.refl Fc d18_28 31 rfl ?_
  intro T5 W5
  refine Own.ishl W5 d18_31 32 rfl ?_
  rw [Own.shl0]
  refine Own.callS W5 (tw hw 180 rfl) (tw hw 181 rfl) (tw hw 182 rfl) (tw hw 183 rfl) (by decide) (argsL := [(.ref b), (.int (Int32.ofNat (2 * cap + 2)))]) (rest := [(.ref sb)]) (Own.Con.pay (con_cpo hw hEL (n := 2 * cap + 2) (by omega) (by omega) Hj rfl W5.old Ab) W5 (tw hw 183 rfl) (tw hw 182 rfl) (len := 3) (wd := 1) (by decide) (by decide) (fun _ q => nomatch q)) rfl (lenOf pd_16 rfl) rfl (lb rfl) d18_32 35 rfl 1 142 (lb rfl) (lb rfl) (lb rfl) (lb rfl) ?_
  intro v6 T6 h6 u6 W6 R6 hq
  obtain ⟨o6, c6, rfl, E6, g6, A6⟩ := hq
  show Own.Go _ _ _ _ _ 35 #[.val (.ref sb), .val (.int (Int32.ofNat m)), .val (.int (Int32.ofNat cap))] [(.ref o6), (.ref sb)]
  have X8 : Ext h h6 := E6
  refine Own.putF W6 (tw hw 85 rfl) Via.refl (Fv.ext X8) (E.ext X8) (Or.inl (tw hw 86 rfl)) (tw hw 72 rfl) (ty := (.array .byte)) (v' := (.ref o6)) (by decide) rfl rfl hn_sb (Safe.exa W6.wz.alike (E.ext X8) (by decide) (by decide)) d18_35 38 rfl ?_
  intro T7 h7 W7 Q7 k7
  have F7_value := Fld.same Q7 (Fv.ext X8)
  exact Own.retV W7 (by decide) (by decide) rfl d18_38 ⟨rfl, (Keep.wr (Keep.ext (Keep.refl h [sb]) E6) Q7 (Or.inl (by simp))), o6, g6, ((E.ext E6).wr Q7), F7_value, ((Fc.ext E6).other Q7 (Or.inr (slot_ne (Or.inl (tw hw 88 rfl)) (Or.inl (tw hw 86 rfl)) (by decide) (t := .byte) (t' := (.array .byte)) (by decide) (by decide)))), ((Fn.ext E6).other Q7 (Or.inr (slot_ne (Or.inl (tw hw 113 rfl)) (Or.inl (tw hw 86 rfl)) (by decide) (t := .int) (t' := (.array .byte)) (by decide) (by decide)))), Hr, by omega, by omega, c6, junk ++ List.replicate (2 * cap + 2 - cap) (.int 0), by rw [← List.append_assoc]; exact (A6.other Q7 (Ne.symm (Nat.ne_of_lt (Nat.lt_of_lt_of_le E.lt g6)))), by rw [← List.append_assoc, List.length_append, Hj, List.length_replicate]; omega⟩
set_option maxRecDepth 65536 in
set_option maxHeartbeats 40000000 in
theorem con_aapG {G : Own.Gl} (hw : ∀ d ∈ tables_1, d.before G.a0 G.Z = true) (hEL : EW G.Z G.a0 G.EL) (hmem : True) {cz : Int32} (hS : Sta G.Z G.Z.heap Own.ST "COMPACT_STRINGS" "Z" (.int cz)) (hcz : ¬ cz = 0) {cap : Nat} {sb b : Addr} {ts cs : List Int32} {h : Heap} (hO : Old G.Z G.n0 h) (hn_sb : G.n0 ≤ sb) (hn_b : G.n0 ≤ b) (hsb : sb ≠ b) (F : Own.SBd G.Z h sb b cap ts) (hEN : Own.EN G.Z G.a0 G.EL (2 * cap + 2)) {x : Addr} (Sx : Own.Str G.Z h x cs) (hcap : cap ≤ 70) (hm1 : cap < ts.length + cs.length) (hm2 : ts.length + cs.length < 2 * cap + 2) :
    Own.Con G [] bAapG #[.ref sb, .ref x] h [] (fun v h' => v = some (.ref sb) ∧ Keep h h' [sb] ∧ ∃ b' : Addr, h.size ≤ b' ∧ Own.SBd G.Z h' sb b' (2 * cap + 2) (ts ++ cs)) := by
  refine Own.Con.intro (plainFor_of_name pn_2) hO hEL _ (fun m => ef_bAapG m sb x) ?_
  intro X T0 W0 sf
  obtain ⟨E, Fv, Fc, Fn, Hr, Hl, Hc, kb, junk, Ab, Hj⟩ := id F
  obtain ⟨Ex, Xc, Xr, Xl, bx, kx, Xv, Xa⟩ := id Sx
  refine Own.aloadN W0 d15_0 1 rfl (.ref x) rfl rfl ?_
  refine Own.ifnonnullYes W0 d15_1 9 (by decide) (by decide) ?_
  refine Own.aloadN W0 d15_9 10 rfl (.ref x) rfl rfl ?_
  refine Own.callV W0 (tw hw 102 rfl) (tw hw 103 rfl) (fun s q => notFace_of_selects (args := #[]) (mvT (s := s) q (tw hw 105 rfl))) (tw hw 105 rfl) (tw hw 104 rfl) (by decide) (argsL := []) (rest := []) (Own.payLen (wL hw) (kI := 4) (tw hw 7 rfl) W0 Sx hS hcz (len := 3) (wd := 0) (by decide) (by decide)) Ex rfl (lenOf pd_4 rfl) rfl (lb rfl) d15_10 13 rfl 0 0 (lb rfl) (lb rfl) (lb rfl) (lb rfl) ?_
  intro v1 T1 h1 u1 W1 R1 hq
  obtain ⟨rfl, eh1⟩ := hq
  have ei1 := eh1.symm; subst ei1
  show Own.Go _ _ _ _ _ 13 #[.val (.ref sb), .val (.ref x), .unset] [(.int (Int32.ofNat cs.length))]
  refine Own.istoreN W1 d15_13 14 rfl #[.val (.ref sb), .val (.ref x), .val (.int (Int32.ofNat cs.length))] rfl ?_
  refine Own.aloadN W1 d15_14 15 rfl (.ref sb) rfl rfl ?_
  refine Own.aloadN W1 d15_15 16 rfl (.ref sb) rfl rfl ?_
  refine Own.getF W1 (tw hw 112 rfl) Via.refl Fn d15_16 19 rfl ?_
  intro T2 W2
  refine Own.iloadN W2 d15_19 20 rfl (Int32.ofNat cs.length) rfl ?_
  refine Own.iadd W2 d15_20 21 rfl ?_
  rw [← Int32.ofNat_add]
  refine Own.callV W2 (tw hw 114 rfl) (Own.declares_of (tw hw 115 rfl) (tw hw 118 rfl)) (fun s q => notFace_of_selects (args := #[]) (mvT (s := s) q (tw hw 117 rfl))) (tw hw 117 rfl) (tw hw 115 rfl) (by decide) (argsL := [(.int (Int32.ofNat (ts.length + cs.length)))]) (rest := []) (Own.Con.pay (con_ensG hw hEL hcap hm1 hm2 rfl W2.old hn_sb F) W2 (tw hw 118 rfl) (tw hw 81 rfl) (len := 3) (wd := 0) (by decide) (by decide) (fun _ q => nomatch q)) E rfl (lenOf pd_0 rfl) rfl (lb rfl) d15_21 24 rfl 1 142 (lb rfl) (lb rfl) (lb rfl) (lb rfl) ?_
  intro v3 T3 h3 u3 W3 R3 hq
  obtain ⟨rfl, K3, b3, g3, F3⟩ := hq
  show Own.Go _ _ _ _ _ 24 #[.val (.ref sb), .val (.ref x), .val (.int (Int32.ofNat cs.length))] []
  obtain ⟨E1, Fv1, Fc1, Fn1, Hr1, Hl1, Hc1, kb1, junk1, Ab1, Hj1⟩ := id F3
  have Sx1 := Sx.keep K3 (ninS (Own.exaNe Ex E (by decide)) nin0) (fun y hy => by cases List.mem_singleton.mp hy; exact Own.noByteI (tw hw 72 rfl) E)
  refine Own.aloadN W3 d15_24 25 rfl (.ref sb) rfl rfl ?_
  refine Own.aloadN W3 d15_25 26 rfl (.ref sb) rfl rfl ?_
  refine Own.getF W3 (tw hw 112 rfl) Via.refl Fn1 d15_26 29 rfl ?_
  intro T4 W4
  refine Own.aloadN W4 d15_29 30 rfl (.ref x) rfl rfl ?_
  refine Own.callV W4 (tw hw 119 rfl) (Own.declares_of (tw hw 120 rfl) (tw hw 123 rfl)) (fun s q => notFace_of_selects (args := #[]) (mvT (s := s) q (tw hw 122 rfl))) (tw hw 122 rfl) (tw hw 120 rfl) (by decide) (argsL := [(.int (Int32.ofNat ts.length)), (.ref x)]) (rest := []) (Own.Con.pay (con_psa hw hEL hmem hS hcz hEN W4.old (Nat.le_trans W0.n0 g3) E1 Fv1 Fc1 Ab1 Hj1 Hc1 F3 Sx1 rfl (by omega)) W4 (tw hw 123 rfl) (tw hw 81 rfl) (len := 3) (wd := 0) (by decide) (by decide) (fun _ q => nomatch q)) E1 rfl (lenOf pd_5 rfl) rfl (lb rfl) d15_30 33 rfl 1 142 (lb rfl) (lb rfl) (lb rfl) (lb rfl) ?_
  intro v5 T5 h5 u5 W5 R5 hq
  obtain ⟨rfl, K5, A5⟩ := hq
  show Own.Go _ _ _ _ _ 33 #[.val (.ref sb), .val (.ref x), .val (.int (Int32.ofNat cs.length))] []
  refine Own.aloadN W5 d15_33 34 rfl (.ref sb) rfl rfl ?_
  refine Own.dup W5 d15_34 35 rfl rfl ?_
  refine Own.getF W5 (tw hw 112 rfl) Via.refl (Fn1.keep K5 (ninS (Nat.ne_of_lt (Nat.lt_of_lt_of_le E.lt g3)) nin0)) d15_35 38 rfl ?_
  intro T6 W6
  refine Own.iloadN W6 d15_38 39 rfl (Int32.ofNat cs.length) rfl ?_
  refine Own.iadd W6 d15_39 40 rfl ?_
  refine Own.putF W6 (tw hw 112 rfl) Via.refl (Fn1.keep K5 (ninS (Nat.ne_of_lt (Nat.lt_of_lt_of_le E.lt g3)) nin0)) (E1.keep K5) (Or.inl (tw hw 113 rfl)) (tw hw 72 rfl) (ty := .int) (v' := (.int ((Int32.ofNat ts.length) + (Int32.ofNat cs.length)))) (by decide) rfl rfl hn_sb (Safe.exa W6.wz.alike (E1.keep K5) (by decide) (by decide)) d15_40 43 rfl ?_
  intro T7 h7 W7 Q7 k7
  have F7_count := Fld.same Q7 (Fn1.keep K5 (ninS (Nat.ne_of_lt (Nat.lt_of_lt_of_le E.lt g3)) nin0))
  refine Own.aloadN W7 d15_43 44 rfl (.ref sb) rfl rfl ?_
  exact Own.retA W7 (by decide) (by decide) rfl rfl rfl d15_44 ⟨rfl, (Keep.wr (Keep.trans (Keep.trans (Keep.refl h [sb]) K3 (by intro y hy; simp only [List.mem_cons, List.not_mem_nil, or_false] at hy; rcases hy with rfl; exact (Or.inl (by simp)))) K5 (by intro y hy; simp only [List.mem_cons, List.not_mem_nil, or_false] at hy; rcases hy with rfl; exact (Or.inr g3))) Q7 (Or.inl (by simp))), b3, g3, ((E1.keep K5).wr Q7), ((Fv1.keep K5 (ninS (Nat.ne_of_lt (Nat.lt_of_lt_of_le E.lt g3)) nin0)).other Q7 (Or.inr (slot_ne (Or.inl (tw hw 86 rfl)) (Or.inl (tw hw 113 rfl)) (by decide) (t := (.array .byte)) (t' := .int) (by decide) (by decide)))), ((Fc1.keep K5 (ninS (Nat.ne_of_lt (Nat.lt_of_lt_of_le E.lt g3)) nin0)).other Q7 (Or.inr (slot_ne (Or.inl (tw hw 88 rfl)) (Or.inl (tw hw 113 rfl)) (by decide) (t := .byte) (t' := .int) (by decide) (by decide)))), by rw [List.length_append, Int32.ofNat_add]; exact F7_count, fun c hc => (List.mem_append.mp hc).elim (Hr1 c) (Xr c), by rw [List.length_append]; omega, Hc1, kb1, junk1.drop cs.length, (A5.other Q7 (Ne.symm (Nat.ne_of_lt (Nat.lt_of_lt_of_le E.lt g3)))), by have q := Hj1; rw [List.length_append, Own.bs_len] at q ⊢; rw [List.length_append, List.length_drop]; omega⟩
set_option maxRecDepth 65536 in
set_option maxHeartbeats 40000000 in
theorem con_appG {G : Own.Gl} (hw : ∀ d ∈ tables_1, d.before G.a0 G.Z = true) (hEL : EW G.Z G.a0 G.EL) (hmem : True) {cz : Int32} (hS : Sta G.Z G.Z.heap Own.ST "COMPACT_STRINGS" "Z" (.int cz)) (hcz : ¬ cz = 0) {cap : Nat} {sb b : Addr} {ts cs : List Int32} {h : Heap} (hO : Old G.Z G.n0 h) (hn_sb : G.n0 ≤ sb) (hn_b : G.n0 ≤ b) (hsb : sb ≠ b) (F : Own.SBd G.Z h sb b cap ts) (hEN : Own.EN G.Z G.a0 G.EL (2 * cap + 2)) {x : Addr} (Sx : Own.Str G.Z h x cs) (hcap : cap ≤ 70) (hm1 : cap < ts.length + cs.length) (hm2 : ts.length + cs.length < 2 * cap + 2) :
    Own.Con G [] bAppG #[.ref sb, .ref x] h [] (fun v h' => v = some (.ref sb) ∧ Keep h h' [sb] ∧ ∃ b' : Addr, h.size ≤ b' ∧ Own.SBd G.Z h' sb b' (2 * cap + 2) (ts ++ cs)) := by
  refine Own.Con.intro (plainFor_of_name pn_3) hO hEL _ (fun m => ef_bAppG m sb x) ?_
  intro X T0 W0 sf
  have E := F.exa
  refine Own.aloadN W0 d14_0 1 rfl (.ref sb) rfl rfl ?_
  refine Own.aloadN W0 d14_1 2 rfl (.ref x) rfl rfl ?_
  refine Own.callU W0 (tw hw 97 rfl) (tw hw 100 rfl) (tw hw 117 rfl) rfl (tw hw 98 rfl) (tw hw 99 rfl) (tw hw 101 rfl) (by decide) (by decide) (argsL := [(.ref x)]) (rest := []) (Own.Con.pay (con_aapG hw hEL hmem hS hcz W0.old hn_sb hn_b hsb F hEN Sx hcap hm1 hm2) W0 (tw hw 101 rfl) (tw hw 81 rfl) (len := 3) (wd := 0) (by decide) (by decide) (fun _ q => nomatch q)) E rfl (lenOf pd_6 rfl) rfl (lb rfl) d14_2 5 rfl 1 142 (lb rfl) (lb rfl) (lb rfl) (lb rfl) ?_
  intro v1 T1 h1 u1 W1 R1 hq
  obtain ⟨rfl, K1, b1, g1, F1⟩ := hq
  show Own.Go _ _ _ _ _ 5 #[.val (.ref sb), .val (.ref x)] [(.ref sb)]
  refine Own.pop W1 d14_5 6 rfl rfl ?_
  refine Own.aloadN W1 d14_6 7 rfl (.ref sb) rfl rfl ?_
  exact Own.retA W1 (by decide) (by decide) rfl rfl rfl d14_7 ⟨rfl, K1, b1, g1, F1⟩
set_option maxRecDepth 65536 in
set_option maxHeartbeats 40000000 in
theorem con_aaj {G : Own.Gl} (hw : ∀ d ∈ tables_1, d.before G.a0 G.Z = true) (hEL : EW G.Z G.a0 G.EL) (hmem : True) {cz : Int32} (hS : Sta G.Z G.Z.heap Own.ST "COMPACT_STRINGS" "Z" (.int cz)) (hcz : ¬ cz = 0) {cap : Nat} {sb b : Addr} {ts cs : List Int32} {h : Heap} (hO : Old G.Z G.n0 h) (hn_sb : G.n0 ≤ sb) (hn_b : G.n0 ≤ b) (hsb : sb ≠ b) (F : Own.SBd G.Z h sb b cap ts) (hEN : Own.EN G.Z G.a0 G.EL cap) {x : Int64} (L : LT G x cs) (hfit : ts.length + cs.length ≤ cap) :
    Own.Con G [] bAaj #[.ref sb, .long x] h [] (fun v h' => v = some (.ref sb) ∧ Keep h h' [sb, b] ∧ Own.SBd G.Z h' sb b cap (ts ++ cs)) := by
  refine Own.Con.intro (plainFor_of_name pn_2) hO hEL _ (fun m => ef_bAaj m sb x) ?_
  intro X T0 W0 sf
  obtain ⟨E, Fv, Fc, Fn, Hr, Hl, Hc, kb, junk, Ab, Hj⟩ := id F
  refine Own.aloadN W0 d23_0 1 rfl (.ref sb) rfl rfl ?_
  refine Own.getF W0 (tw hw 112 rfl) Via.refl Fn d23_1 4 rfl ?_
  intro T1 W1
  refine Own.istoreN W1 d23_4 5 rfl #[.val (.ref sb), .val (.long x), .second, .val (.int (Int32.ofNat ts.length)), .unset] rfl ?_
  refine Own.iloadN W1 d23_5 6 rfl (Int32.ofNat ts.length) rfl ?_
  refine Own.lloadN W1 d23_6 7 rfl x rfl ?_
  refine Own.callS W1 (tw hw 148 rfl) (tw hw 149 rfl) (tw hw 150 rfl) (tw hw 151 rfl) (by decide) (argsL := [(.long x)]) (rest := [(.int (Int32.ofNat ts.length))]) (Own.Con.pay (L.2.1 W1.old) W1 (tw hw 151 rfl) (tw hw 150 rfl) (len := 3) (wd := 1) (by decide) (by decide) (fun _ q => nomatch q)) rfl (lenOf pd_17 rfl) rfl (lb rfl) d23_7 10 rfl 0 0 (lb rfl) (lb rfl) (lb rfl) (lb rfl) ?_
  intro v2 T2 h2 u2 W2 R2 hq
  obtain ⟨rfl, eh2⟩ := hq
  have ei2 := eh2.symm; subst ei2
  show Own.Go _ _ _ _ _ 10 #[.val (.ref sb), .val (.long x), .second, .val (.int (Int32.ofNat ts.length)), .unset] [(.int (Int32.ofNat cs.length)), (.int (Int32.ofNat ts.length))]
  refine Own.iadd W2 d23_10 11 rfl ?_
  rw [← Int32.ofNat_add]
  refine Own.istore W2 d23_11 13 rfl #[.val (.ref sb), .val (.long x), .second, .val (.int (Int32.ofNat ts.length)), .val (.int (Int32.ofNat (ts.length + cs.length)))] rfl ?_
  refine Own.aloadN W2 d23_13 14 rfl (.ref sb) rfl rfl ?_
  refine Own.iload W2 d23_14 16 rfl (Int32.ofNat (ts.length + cs.length)) rfl ?_
  refine Own.callV W2 (tw hw 114 rfl) (Own.declares_of (tw hw 115 rfl) (tw hw 118 rfl)) (fun s q => notFace_of_selects (args := #[]) (mvT (s := s) q (tw hw 117 rfl))) (tw hw 117 rfl) (tw hw 115 rfl) (by decide) (argsL := [(.int (Int32.ofNat (ts.length + cs.length)))]) (rest := []) (Own.Con.pay (con_ens hw hEL _ (Own.need_no Hc hfit) W2.old F) W2 (tw hw 118 rfl) (tw hw 81 rfl) (len := 3) (wd := 0) (by decide) (by decide) (fun _ q => nomatch q)) E rfl (lenOf pd_0 rfl) rfl (lb rfl) d23_16 19 rfl 0 0 (lb rfl) (lb rfl) (lb rfl) (lb rfl) ?_
  intro v3 T3 h3 u3 W3 R3 hq
  obtain ⟨rfl, eh3⟩ := hq
  have ei3 := eh3.symm; subst ei3
  show Own.Go _ _ _ _ _ 19 #[.val (.ref sb), .val (.long x), .second, .val (.int (Int32.ofNat ts.length)), .val (.int (Int32.ofNat (ts.length + cs.length)))] []
  refine Own.aloadN W3 d23_19 20 rfl (.ref sb) rfl rfl ?_
  refine Own.callV W3 (tw hw 153 rfl) (tw hw 154 rfl) (fun s q => notFace_of_selects (args := #[]) (mvT (s := s) q (tw hw 156 rfl))) (tw hw 156 rfl) (tw hw 155 rfl) (by decide) (argsL := []) (rest := []) (Own.Con.pay (con_il hw hEL hmem hS hcz W3.old F) W3 (tw hw 157 rfl) (tw hw 81 rfl) (len := 3) (wd := 0) (by decide) (by decide) (fun _ q => nomatch q)) E rfl (lenOf pd_11 rfl) rfl (lb rfl) d23_20 23 rfl 0 0 (lb rfl) (lb rfl) (lb rfl) (lb rfl) ?_
  intro v4 T4 h4 u4 W4 R4 hq
  obtain ⟨rfl, eh4⟩ := hq
  have ei4 := eh4.symm; subst ei4
  show Own.Go _ _ _ _ _ 23 #[.val (.ref sb), .val (.long x), .second, .val (.int (Int32.ofNat ts.length)), .val (.int (Int32.ofNat (ts.length + cs.length)))] [.int 1]
  refine Own.ifNo W4 d23_23 26 (by decide) rfl ?_
  refine Own.lloadN W4 d23_26 27 rfl x rfl ?_
  refine Own.iload W4 d23_27 29 rfl (Int32.ofNat (ts.length + cs.length)) rfl ?_
  refine Own.aloadN W4 d23_29 30 rfl (.ref sb) rfl rfl ?_
  refine Own.getF W4 (tw hw 85 rfl) Via.refl Fv d23_30 33 rfl ?_
  intro T5 W5
  refine Own.callS W5 (tw hw 158 rfl) (tw hw 159 rfl) (tw hw 150 rfl) (tw hw 160 rfl) (by decide) (argsL := [(.long x), (.int (Int32.ofNat (ts.length + cs.length))), (.ref b)]) (rest := []) (Own.Con.pay (L.2.2 W5.old hEN Hc (p := ts.length) hfit hn_b Ab Hj) W5 (tw hw 160 rfl) (tw hw 150 rfl) (len := 3) (wd := 0) (by decide) (by decide) (fun _ q => nomatch q)) rfl (lenOf pd_18 rfl) rfl (lb rfl) d23_33 36 rfl 0 0 (lb rfl) (lb rfl) (lb rfl) (lb rfl) ?_
  intro v6 T6 h6 u6 W6 R6 hq
  obtain ⟨⟨r6, rfl⟩, K6, A6⟩ := hq
  show Own.Go _ _ _ _ _ 36 #[.val (.ref sb), .val (.long x), .second, .val (.int (Int32.ofNat ts.length)), .val (.int (Int32.ofNat (ts.length + cs.length)))] [(.int r6)]
  have A' := A6; rw [Own.mid_end] at A'
  refine Own.pop W6 d23_36 37 rfl rfl ?_
  refine Own.goto W6 d23_37 52 (by decide) (by decide) ?_
  refine Own.aloadN W6 d23_52 53 rfl (.ref sb) rfl rfl ?_
  refine Own.iload W6 d23_53 55 rfl (Int32.ofNat (ts.length + cs.length)) rfl ?_
  refine Own.putF W6 (tw hw 112 rfl) Via.refl (Fn.keep K6 (ninS hsb nin0)) (E.keep K6) (Or.inl (tw hw 113 rfl)) (tw hw 72 rfl) (ty := .int) (v' := (.int (Int32.ofNat (ts.length + cs.length)))) (by decide) rfl rfl hn_sb (Safe.exa W6.wz.alike (E.keep K6) (by decide) (by decide)) d23_55 58 rfl ?_
  intro T7 h7 W7 Q7 k7
  have F7_count := Fld.same Q7 (Fn.keep K6 (ninS hsb nin0))
  refine Own.aloadN W7 d23_58 59 rfl (.ref sb) rfl rfl ?_
  exact Own.retA W7 (by decide) (by decide) rfl rfl rfl d23_59 ⟨rfl, (Keep.wr (Keep.trans (Keep.refl h [sb, b]) K6 (by intro y hy; simp only [List.mem_cons, List.not_mem_nil, or_false] at hy; rcases hy with rfl; exact (Or.inl (by simp)))) Q7 (Or.inl (by simp))), ((E.keep K6).wr Q7), ((Fv.keep K6 (ninS hsb nin0)).other Q7 (Or.inr (slot_ne (Or.inl (tw hw 86 rfl)) (Or.inl (tw hw 113 rfl)) (by decide) (t := (.array .byte)) (t' := .int) (by decide) (by decide)))), ((Fc.keep K6 (ninS hsb nin0)).other Q7 (Or.inr (slot_ne (Or.inl (tw hw 88 rfl)) (Or.inl (tw hw 113 rfl)) (by decide) (t := .byte) (t' := .int) (by decide) (by decide)))), by rw [List.length_append]; exact F7_count, fun c hc => (List.mem_append.mp hc).elim (Hr c) (L.1 c), by rw [List.length_append]; omega, Hc, kb, junk.drop cs.length, (A'.other Q7 (Ne.symm hsb)), by have q := Hj; rw [List.length_append, Own.bs_len] at q ⊢; rw [List.length_append, List.length_drop]; omega⟩
set_option maxRecDepth 65536 in
set_option maxHeartbeats 40000000 in
theorem con_apj {G : Own.Gl} (hw : ∀ d ∈ tables_1, d.before G.a0 G.Z = true) (hEL : EW G.Z G.a0 G.EL) (hmem : True) {cz : Int32} (hS : Sta G.Z G.Z.heap Own.ST "COMPACT_STRINGS" "Z" (.int cz)) (hcz : ¬ cz = 0) {cap : Nat} {sb b : Addr} {ts cs : List Int32} {h : Heap} (hO : Old G.Z G.n0 h) (hn_sb : G.n0 ≤ sb) (hn_b : G.n0 ≤ b) (hsb : sb ≠ b) (F : Own.SBd G.Z h sb b cap ts) (hEN : Own.EN G.Z G.a0 G.EL cap) {x : Int64} (L : LT G x cs) (hfit : ts.length + cs.length ≤ cap) :
    Own.Con G [] bApj #[.ref sb, .long x] h [] (fun v h' => v = some (.ref sb) ∧ Keep h h' [sb, b] ∧ Own.SBd G.Z h' sb b cap (ts ++ cs)) := by
  refine Own.Con.intro (plainFor_of_name pn_3) hO hEL _ (fun m => ef_bApj m sb x) ?_
  intro X T0 W0 sf
  have E := F.exa
  refine Own.aloadN W0 d22_0 1 rfl (.ref sb) rfl rfl ?_
  refine Own.lloadN W0 d22_1 2 rfl x rfl ?_
  refine Own.callU W0 (tw hw 144 rfl) (tw hw 146 rfl) (tw hw 117 rfl) rfl (tw hw 145 rfl) (tw hw 99 rfl) (tw hw 147 rfl) (by decide) (by decide) (argsL := [(.long x)]) (rest := []) (Own.Con.pay (con_aaj hw hEL hmem hS hcz W0.old hn_sb hn_b hsb F hEN L hfit) W0 (tw hw 147 rfl) (tw hw 81 rfl) (len := 3) (wd := 0) (by decide) (by decide) (fun _ q => nomatch q)) E rfl (lenOf pd_19 rfl) rfl (lb rfl) d22_2 5 rfl 0 0 (lb rfl) (lb rfl) (lb rfl) (lb rfl) ?_
  intro v1 T1 h1 u1 W1 R1 hq
  obtain ⟨rfl, K1, F1⟩ := hq
  show Own.Go _ _ _ _ _ 5 #[.val (.ref sb), .val (.long x), .second] [(.ref sb)]
  refine Own.pop W1 d22_5 6 rfl rfl ?_
  refine Own.aloadN W1 d22_6 7 rfl (.ref sb) rfl rfl ?_
  exact Own.retA W1 (by decide) (by decide) rfl rfl rfl d22_7 ⟨rfl, K1, F1⟩
set_option maxRecDepth 65536 in
set_option maxHeartbeats 40000000 in
theorem con_aajG {G : Own.Gl} (hw : ∀ d ∈ tables_1, d.before G.a0 G.Z = true) (hEL : EW G.Z G.a0 G.EL) (hmem : True) {cz : Int32} (hS : Sta G.Z G.Z.heap Own.ST "COMPACT_STRINGS" "Z" (.int cz)) (hcz : ¬ cz = 0) {cap : Nat} {sb b : Addr} {ts cs : List Int32} {h : Heap} (hO : Old G.Z G.n0 h) (hn_sb : G.n0 ≤ sb) (hn_b : G.n0 ≤ b) (hsb : sb ≠ b) (F : Own.SBd G.Z h sb b cap ts) (hEN : Own.EN G.Z G.a0 G.EL (2 * cap + 2)) {x : Int64} (L : LT G x cs) (hcap : cap ≤ 70) (hm1 : cap < ts.length + cs.length) (hm2 : ts.length + cs.length < 2 * cap + 2) :
    Own.Con G [] bAajG #[.ref sb, .long x] h [] (fun v h' => v = some (.ref sb) ∧ Keep h h' [sb] ∧ ∃ b' : Addr, h.size ≤ b' ∧ Own.SBd G.Z h' sb b' (2 * cap + 2) (ts ++ cs)) := by
  refine Own.Con.intro (plainFor_of_name pn_2) hO hEL _ (fun m => ef_bAajG m sb x) ?_
  intro X T0 W0 sf
  obtain ⟨E, Fv, Fc, Fn, Hr, Hl, Hc, kb, junk, Ab, Hj⟩ := id F
  refine Own.aloadN W0 d23_0 1 rfl (.ref sb) rfl rfl ?_
  refine Own.getF W0 (tw hw 112 rfl) Via.refl Fn d23_1 4 rfl ?_
  intro T1 W1
  refine Own.istoreN W1 d23_4 5 rfl #[.val (.ref sb), .val (.long x), .second, .val (.int (Int32.ofNat ts.length)), .unset] rfl ?_
  refine Own.iloadN W1 d23_5 6 rfl (Int32.ofNat ts.length) rfl ?_
  refine Own.lloadN W1 d23_6 7 rfl x rfl ?_
  refine Own.callS W1 (tw hw 148 rfl) (tw hw 149 rfl) (tw hw 150 rfl) (tw hw 151 rfl) (by decide) (argsL := [(.long x)]) (rest := [(.int (Int32.ofNat ts.length))]) (Own.Con.pay (L.2.1 W1.old) W1 (tw hw 151 rfl) (tw hw 150 rfl) (len := 3) (wd := 1) (by decide) (by decide) (fun _ q => nomatch q)) rfl (lenOf pd_17 rfl) rfl (lb rfl) d23_7 10 rfl 0 0 (lb rfl) (lb rfl) (lb rfl) (lb rfl) ?_
  intro v2 T2 h2 u2 W2 R2 hq
  obtain ⟨rfl, eh2⟩ := hq
  have ei2 := eh2.symm; subst ei2
  show Own.Go _ _ _ _ _ 10 #[.val (.ref sb), .val (.long x), .second, .val (.int (Int32.ofNat ts.length)), .unset] [(.int (Int32.ofNat cs.length)), (.int (Int32.ofNat ts.length))]
  refine Own.iadd W2 d23_10 11 rfl ?_
  rw [← Int32.ofNat_add]
  refine Own.istore W2 d23_11 13 rfl #[.val (.ref sb), .val (.long x), .second, .val (.int (Int32.ofNat ts.length)), .val (.int (Int32.ofNat (ts.length + cs.length)))] rfl ?_
  refine Own.aloadN W2 d23_13 14 rfl (.ref sb) rfl rfl ?_
  refine Own.iload W2 d23_14 16 rfl (Int32.ofNat (ts.length + cs.length)) rfl ?_
  refine Own.callV W2 (tw hw 114 rfl) (Own.declares_of (tw hw 115 rfl) (tw hw 118 rfl)) (fun s q => notFace_of_selects (args := #[]) (mvT (s := s) q (tw hw 117 rfl))) (tw hw 117 rfl) (tw hw 115 rfl) (by decide) (argsL := [(.int (Int32.ofNat (ts.length + cs.length)))]) (rest := []) (Own.Con.pay (con_ensG hw hEL hcap hm1 hm2 rfl W2.old hn_sb F) W2 (tw hw 118 rfl) (tw hw 81 rfl) (len := 3) (wd := 0) (by decide) (by decide) (fun _ q => nomatch q)) E rfl (lenOf pd_0 rfl) rfl (lb rfl) d23_16 19 rfl 1 142 (lb rfl) (lb rfl) (lb rfl) (lb rfl) ?_
  intro v3 T3 h3 u3 W3 R3 hq
  obtain ⟨rfl, K3, b3, g3, F3⟩ := hq
  show Own.Go _ _ _ _ _ 19 #[.val (.ref sb), .val (.long x), .second, .val (.int (Int32.ofNat ts.length)), .val (.int (Int32.ofNat (ts.length + cs.length)))] []
  obtain ⟨E1, Fv1, Fc1, Fn1, Hr1, Hl1, Hc1, kb1, junk1, Ab1, Hj1⟩ := id F3
  refine Own.aloadN W3 d23_19 20 rfl (.ref sb) rfl rfl ?_
  refine Own.callV W3 (tw hw 153 rfl) (tw hw 154 rfl) (fun s q => notFace_of_selects (args := #[]) (mvT (s := s) q (tw hw 156 rfl))) (tw hw 156 rfl) (tw hw 155 rfl) (by decide) (argsL := []) (rest := []) (Own.Con.pay (con_il hw hEL hmem hS hcz W3.old F3) W3 (tw hw 157 rfl) (tw hw 81 rfl) (len := 3) (wd := 0) (by decide) (by decide) (fun _ q => nomatch q)) E1 rfl (lenOf pd_11 rfl) rfl (lb rfl) d23_20 23 rfl 1 142 (lb rfl) (lb rfl) (lb rfl) (lb rfl) ?_
  intro v4 T4 h4 u4 W4 R4 hq
  obtain ⟨rfl, eh4⟩ := hq
  have ei4 := eh4.symm; subst ei4
  show Own.Go _ _ _ _ _ 23 #[.val (.ref sb), .val (.long x), .second, .val (.int (Int32.ofNat ts.length)), .val (.int (Int32.ofNat (ts.length + cs.length)))] [.int 1]
  refine Own.ifNo W4 d23_23 26 (by decide) rfl ?_
  refine Own.lloadN W4 d23_26 27 rfl x rfl ?_
  refine Own.iload W4 d23_27 29 rfl (Int32.ofNat (ts.length + cs.length)) rfl ?_
  refine Own.aloadN W4 d23_29 30 rfl (.ref sb) rfl rfl ?_
  refine Own.getF W4 (tw hw 85 rfl) Via.refl Fv1 d23_30 33 rfl ?_
  intro T5 W5
  refine Own.callS W5 (tw hw 158 rfl) (tw hw 159 rfl) (tw hw 150 rfl) (tw hw 160 rfl) (by decide) (argsL := [(.long x), (.int (Int32.ofNat (ts.length + cs.length))), (.ref b3)]) (rest := []) (Own.Con.pay (L.2.2 W5.old hEN Hc1 (p := ts.length) (by omega) (Nat.le_trans W0.n0 g3) Ab1 Hj1) W5 (tw hw 160 rfl) (tw hw 150 rfl) (len := 3) (wd := 0) (by decide) (by decide) (fun _ q => nomatch q)) rfl (lenOf pd_18 rfl) rfl (lb rfl) d23_33 36 rfl 1 142 (lb rfl) (lb rfl) (lb rfl) (lb rfl) ?_
  intro v6 T6 h6 u6 W6 R6 hq
  obtain ⟨⟨r6, rfl⟩, K6, A6⟩ := hq
  show Own.Go _ _ _ _ _ 36 #[.val (.ref sb), .val (.long x), .second, .val (.int (Int32.ofNat ts.length)), .val (.int (Int32.ofNat (ts.length + cs.length)))] [(.int r6)]
  have A' := A6; rw [Own.mid_end] at A'
  refine Own.pop W6 d23_36 37 rfl rfl ?_
  refine Own.goto W6 d23_37 52 (by decide) (by decide) ?_
  refine Own.aloadN W6 d23_52 53 rfl (.ref sb) rfl rfl ?_
  refine Own.iload W6 d23_53 55 rfl (Int32.ofNat (ts.length + cs.length)) rfl ?_
  refine Own.putF W6 (tw hw 112 rfl) Via.refl (Fn1.keep K6 (ninS (Nat.ne_of_lt (Nat.lt_of_lt_of_le E.lt g3)) nin0)) (E1.keep K6) (Or.inl (tw hw 113 rfl)) (tw hw 72 rfl) (ty := .int) (v' := (.int (Int32.ofNat (ts.length + cs.length)))) (by decide) rfl rfl hn_sb (Safe.exa W6.wz.alike (E1.keep K6) (by decide) (by decide)) d23_55 58 rfl ?_
  intro T7 h7 W7 Q7 k7
  have F7_count := Fld.same Q7 (Fn1.keep K6 (ninS (Nat.ne_of_lt (Nat.lt_of_lt_of_le E.lt g3)) nin0))
  refine Own.aloadN W7 d23_58 59 rfl (.ref sb) rfl rfl ?_
  exact Own.retA W7 (by decide) (by decide) rfl rfl rfl d23_59 ⟨rfl, (Keep.wr (Keep.trans (Keep.trans (Keep.refl h [sb]) K3 (by intro y hy; simp only [List.mem_cons, List.not_mem_nil, or_false] at hy; rcases hy with rfl; exact (Or.inl (by simp)))) K6 (by intro y hy; simp only [List.mem_cons, List.not_mem_nil, or_false] at hy; rcases hy with rfl; exact (Or.inr g3))) Q7 (Or.inl (by simp))), b3, g3, ((E1.keep K6).wr Q7), ((Fv1.keep K6 (ninS (Nat.ne_of_lt (Nat.lt_of_lt_of_le E.lt g3)) nin0)).other Q7 (Or.inr (slot_ne (Or.inl (tw hw 86 rfl)) (Or.inl (tw hw 113 rfl)) (by decide) (t := (.array .byte)) (t' := .int) (by decide) (by decide)))), ((Fc1.keep K6 (ninS (Nat.ne_of_lt (Nat.lt_of_lt_of_le E.lt g3)) nin0)).other Q7 (Or.inr (slot_ne (Or.inl (tw hw 88 rfl)) (Or.inl (tw hw 113 rfl)) (by decide) (t := .byte) (t' := .int) (by decide) (by decide)))), by rw [List.length_append]; exact F7_count, fun c hc => (List.mem_append.mp hc).elim (Hr1 c) (L.1 c), by rw [List.length_append]; omega, Hc1, kb1, junk1.drop cs.length, (A'.other Q7 (Ne.symm (Nat.ne_of_lt (Nat.lt_of_lt_of_le E.lt g3)))), by have q := Hj1; rw [List.length_append, Own.bs_len] at q ⊢; rw [List.length_append, List.length_drop]; omega⟩
set_option maxRecDepth 65536 in
set_option maxHeartbeats 40000000 in
theorem con_apjG {G : Own.Gl} (hw : ∀ d ∈ tables_1, d.before G.a0 G.Z = true) (hEL : EW G.Z G.a0 G.EL) (hmem : True) {cz : Int32} (hS : Sta G.Z G.Z.heap Own.ST "COMPACT_STRINGS" "Z" (.int cz)) (hcz : ¬ cz = 0) {cap : Nat} {sb b : Addr} {ts cs : List Int32} {h : Heap} (hO : Old G.Z G.n0 h) (hn_sb : G.n0 ≤ sb) (hn_b : G.n0 ≤ b) (hsb : sb ≠ b) (F : Own.SBd G.Z h sb b cap ts) (hEN : Own.EN G.Z G.a0 G.EL (2 * cap + 2)) {x : Int64} (L : LT G x cs) (hcap : cap ≤ 70) (hm1 : cap < ts.length + cs.length) (hm2 : ts.length + cs.length < 2 * cap + 2) :
    Own.Con G [] bApjG #[.ref sb, .long x] h [] (fun v h' => v = some (.ref sb) ∧ Keep h h' [sb] ∧ ∃ b' : Addr, h.size ≤ b' ∧ Own.SBd G.Z h' sb b' (2 * cap + 2) (ts ++ cs)) := by
  refine Own.Con.intro (plainFor_of_name pn_3) hO hEL _ (fun m => ef_bApjG m sb x) ?_
  intro X T0 W0 sf
  have E := F.exa
  refine Own.aloadN W0 d22_0 1 rfl (.ref sb) rfl rfl ?_
  refine Own.lloadN W0 d22_1 2 rfl x rfl ?_
  refine Own.callU W0 (tw hw 144 rfl) (tw hw 146 rfl) (tw hw 117 rfl) rfl (tw hw 145 rfl) (tw hw 99 rfl) (tw hw 147 rfl) (by decide) (by decide) (argsL := [(.long x)]) (rest := []) (Own.Con.pay (con_aajG hw hEL hmem hS hcz W0.old hn_sb hn_b hsb F hEN L hcap hm1 hm2) W0 (tw hw 147 rfl) (tw hw 81 rfl) (len := 3) (wd := 0) (by decide) (by decide) (fun _ q => nomatch q)) E rfl (lenOf pd_19 rfl) rfl (lb rfl) d22_2 5 rfl 1 142 (lb rfl) (lb rfl) (lb rfl) (lb rfl) ?_
  intro v1 T1 h1 u1 W1 R1 hq
  obtain ⟨rfl, K1, b1, g1, F1⟩ := hq
  show Own.Go _ _ _ _ _ 5 #[.val (.ref sb), .val (.long x), .second] [(.ref sb)]
  refine Own.pop W1 d22_5 6 rfl rfl ?_
  refine Own.aloadN W1 d22_6 7 rfl (.ref sb) rfl rfl ?_
  exact Own.retA W1 (by decide) (by decide) rfl rfl rfl d22_7 ⟨rfl, K1, b1, g1, F1⟩
set_option maxRecDepth 65536 in
set_option maxHeartbeats 40000000 in
theorem con_rec {G : Own.Gl} (hw : ∀ d ∈ tables_1, d.before G.a0 G.Z = true) (hEL : EW G.Z G.a0 G.EL) (a : Addr) {h : Heap} (hO : Old G.Z G.n0 h) :
    Own.Con G [] bRec #[.ref a] h [] (fun v h' => v = none ∧ h' = h) := by
  refine Own.Con.intro (plainFor_of_name pn_7) hO hEL _ (fun m => ef_bRec m a) ?_
  intro X T0 W0 sf
  refine Own.aloadN W0 d10_0 1 rfl (.ref a) rfl rfl ?_
  refine Own.initO W0 (tw hw 49 rfl) (tw hw 17 rfl) (tw hw 18 rfl) rfl d10_1 4 rfl (by decide) (by decide) ?_
  intro T1 W1
  exact Own.retV W1 (by decide) (by decide) rfl d10_4 ⟨rfl, rfl⟩
set_option maxRecDepth 65536 in
set_option maxHeartbeats 40000000 in
theorem con_ec {G : Own.Gl} (hw : ∀ d ∈ tables_1, d.before G.a0 G.Z = true) (hEL : EW G.Z G.a0 G.EL) {x0 x1 x2 x3 x4 x5 x6 x7 : Int64} {a : Addr} {h : Heap} (hO : Old G.Z G.n0 h) (hn_a : G.n0 ≤ a) (E : Exa G.Z h a "com/example/couplet/couplet/core/EventCounts") {u_events : Value} (F_events : Fld G.Z h a "com/example/couplet/couplet/core/EventCounts" "events" "J" u_events) {u_inserted : Value} (F_inserted : Fld G.Z h a "com/example/couplet/couplet/core/EventCounts" "inserted" "J" u_inserted) {u_updated : Value} (F_updated : Fld G.Z h a "com/example/couplet/couplet/core/EventCounts" "updated" "J" u_updated) {u_restored : Value} (F_restored : Fld G.Z h a "com/example/couplet/couplet/core/EventCounts" "restored" "J" u_restored) {u_deleted : Value} (F_deleted : Fld G.Z h a "com/example/couplet/couplet/core/EventCounts" "deleted" "J" u_deleted) {u_unchanged : Value} (F_unchanged : Fld G.Z h a "com/example/couplet/couplet/core/EventCounts" "unchanged" "J" u_unchanged) {u_stale : Value} (F_stale : Fld G.Z h a "com/example/couplet/couplet/core/EventCounts" "stale" "J" u_stale) {u_skipped : Value} (F_skipped : Fld G.Z h a "com/example/couplet/couplet/core/EventCounts" "skipped" "J" u_skipped) :
    Own.Con G [] bEc #[.ref a, .long x0, .long x1, .long x2, .long x3, .long x4, .long x5, .long x6, .long x7] h [] (fun v h' => v = none ∧ Keep h h' [a] ∧ Exa G.Z h' a "com/example/couplet/couplet/core/EventCounts" ∧ Fld G.Z h' a "com/example/couplet/couplet/core/EventCounts" "events" "J" (.long x0) ∧ Fld G.Z h' a "com/example/couplet/couplet/core/EventCounts" "inserted" "J" (.long x1) ∧ Fld G.Z h' a "com/example/couplet/couplet/core/EventCounts" "updated" "J" (.long x2) ∧ Fld G.Z h' a "com/example/couplet/couplet/core/EventCounts" "restored" "J" (.long x3) ∧ Fld G.Z h' a "com/example/couplet/couplet/core/EventCounts" "deleted" "J" (.long x4) ∧ Fld G.Z h' a "com/example/couplet/couplet/core/EventCounts" "unchanged" "J" (.long x5) ∧ Fld G.Z h' a "com/example/couplet/couplet/core/EventCounts" "stale" "J" (.long x6) ∧ Fld G.Z h' a "com/example/couplet/couplet/core/EventCounts" "skipped" "J" (.long x7)) := by
  refine Own.Con.intro (plainFor_of_name pn_8) hO hEL _ (fun m => ef_bEc m a x0 x1 x2 x3 x4 x5 x6 x7) ?_
  intro X T0 W0 sf
  refine Own.aloadN W0 d9_0 1 rfl (.ref a) rfl rfl ?_
  refine Own.callX W0 rfl (tw hw 44 rfl) (tw hw 45 rfl) (tw hw 48 rfl) (by decide) (argsL := []) (rest := []) (Own.Con.pay (con_rec hw hEL a W0.old) W0 (tw hw 48 rfl) (tw hw 47 rfl) (len := 3) (wd := 0) (by decide) (by decide) (fun _ q => nomatch q)) rfl (lenOf pd_20 rfl) rfl (lb rfl) d9_1 4 rfl 0 0 (lb rfl) (lb rfl) (lb rfl) (lb rfl) ?_
  intro v1 T1 h1 u1 W1 R1 hq
  obtain ⟨rfl, eh1⟩ := hq
  have ei1 := eh1.symm; subst ei1
  show Own.Go _ _ _ _ _ 4 #[.val (.ref a), .val (.long x0), .second, .val (.long x1), .second, .val (.long x2), .second, .val (.long x3), .second, .val (.long x4), .second, .val (.long x5), .second, .val (.long x6), .second, .val (.long x7), .second] []
  refine Own.aloadN W1 d9_4 5 rfl (.ref a) rfl rfl ?_
  refine Own.lloadN W1 d9_5 6 rfl x0 rfl ?_
  refine Own.putF W1 (tw hw 50 rfl) Via.refl F_events E (Or.inr ⟨(tw hw 51 rfl), rfl, rfl⟩) (tw hw 36 rfl) (ty := .long) (v' := (.long x0)) (by decide) rfl rfl hn_a (Safe.exa W1.wz.alike E (by decide) (by decide)) d9_6 9 rfl ?_
  intro T2 h2 W2 Q2 k2
  have F2_events := Fld.same Q2 F_events
  refine Own.aloadN W2 d9_9 10 rfl (.ref a) rfl rfl ?_
  refine Own.lloadN W2 d9_10 11 rfl x1 rfl ?_
  refine Own.putF W2 (tw hw 52 rfl) Via.refl (F_inserted.other Q2 (Or.inr (slot_ne (Or.inr (tw hw 53 rfl)) (Or.inr (tw hw 51 rfl)) (by decide) (t := .long) (t' := .long) (by decide) (by decide)))) (E.wr Q2) (Or.inr ⟨(tw hw 53 rfl), rfl, rfl⟩) (tw hw 36 rfl) (ty := .long) (v' := (.long x1)) (by decide) rfl rfl hn_a (Safe.exa W2.wz.alike (E.wr Q2) (by decide) (by decide)) d9_11 14 rfl ?_
  intro T3 h3 W3 Q3 k3
  have F3_inserted := Fld.same Q3 (F_inserted.other Q2 (Or.inr (slot_ne (Or.inr (tw hw 53 rfl)) (Or.inr (tw hw 51 rfl)) (by decide) (t := .long) (t' := .long) (by decide) (by decide))))
  refine Own.aloadN W3 d9_14 15 rfl (.ref a) rfl rfl ?_
  refine Own.lload W3 d9_15 17 rfl x2 rfl ?_
  refine Own.putF W3 (tw hw 54 rfl) Via.refl ((F_updated.other Q2 (Or.inr (slot_ne (Or.inr (tw hw 55 rfl)) (Or.inr (tw hw 51 rfl)) (by decide) (t := .long) (t' := .long) (by decide) (by decide)))).other Q3 (Or.inr (slot_ne (Or.inr (tw hw 55 rfl)) (Or.inr (tw hw 53 rfl)) (by decide) (t := .long) (t' := .long) (by decide) (by decide)))) ((E.wr Q2).wr Q3) (Or.inr ⟨(tw hw 55 rfl), rfl, rfl⟩) (tw hw 36 rfl) (ty := .long) (v' := (.long x2)) (by decide) rfl rfl hn_a (Safe.exa W3.wz.alike ((E.wr Q2).wr Q3) (by decide) (by decide)) d9_17 20 rfl ?_
  intro T4 h4 W4 Q4 k4
  have F4_updated := Fld.same Q4 ((F_updated.other Q2 (Or.inr (slot_ne (Or.inr (tw hw 55 rfl)) (Or.inr (tw hw 51 rfl)) (by decide) (t := .long) (t' := .long) (by decide) (by decide)))).other Q3 (Or.inr (slot_ne (Or.inr (tw hw 55 rfl)) (Or.inr (tw hw 53 rfl)) (by decide) (t := .long) (t' := .long) (by decide) (by decide))))
  refine Own.aloadN W4 d9_20 21 rfl (.ref a) rfl rfl ?_
  refine Own.lload W4 d9_21 23 rfl x3 rfl ?_
  refine Own.putF W4 (tw hw 56 rfl) Via.refl (((F_restored.other Q2 (Or.inr (slot_ne (Or.inr (tw hw 57 rfl)) (Or.inr (tw hw 51 rfl)) (by decide) (t := .long) (t' := .long) (by decide) (by decide)))).other Q3 (Or.inr (slot_ne (Or.inr (tw hw 57 rfl)) (Or.inr (tw hw 53 rfl)) (by decide) (t := .long) (t' := .long) (by decide) (by decide)))).other Q4 (Or.inr (slot_ne (Or.inr (tw hw 57 rfl)) (Or.inr (tw hw 55 rfl)) (by decide) (t := .long) (t' := .long) (by decide) (by decide)))) (((E.wr Q2).wr Q3).wr Q4) (Or.inr ⟨(tw hw 57 rfl), rfl, rfl⟩) (tw hw 36 rfl) (ty := .long) (v' := (.long x3)) (by decide) rfl rfl hn_a (Safe.exa W4.wz.alike (((E.wr Q2).wr Q3).wr Q4) (by decide) (by decide)) d9_23 26 rfl ?_
  intro T5 h5 W5 Q5 k5
  have F5_restored := Fld.same Q5 (((F_restored.other Q2 (Or.inr (slot_ne (Or.inr (tw hw 57 rfl)) (Or.inr (tw hw 51 rfl)) (by decide) (t := .long) (t' := .long) (by decide) (by decide)))).other Q3 (Or.inr (slot_ne (Or.inr (tw hw 57 rfl)) (Or.inr (tw hw 53 rfl)) (by decide) (t := .long) (t' := .long) (by decide) (by decide)))).other Q4 (Or.inr (slot_ne (Or.inr (tw hw 57 rfl)) (Or.inr (tw hw 55 rfl)) (by decide) (t := .long) (t' := .long) (by decide) (by decide))))
  refine Own.aloadN W5 d9_26 27 rfl (.ref a) rfl rfl ?_
  refine Own.lload W5 d9_27 29 rfl x4 rfl ?_
  refine Own.putF W5 (tw hw 58 rfl) Via.refl ((((F_deleted.other Q2 (Or.inr (slot_ne (Or.inr (tw hw 59 rfl)) (Or.inr (tw hw 51 rfl)) (by decide) (t := .long) (t' := .long) (by decide) (by decide)))).other Q3 (Or.inr (slot_ne (Or.inr (tw hw 59 rfl)) (Or.inr (tw hw 53 rfl)) (by decide) (t := .long) (t' := .long) (by decide) (by decide)))).other Q4 (Or.inr (slot_ne (Or.inr (tw hw 59 rfl)) (Or.inr (tw hw 55 rfl)) (by decide) (t := .long) (t' := .long) (by decide) (by decide)))).other Q5 (Or.inr (slot_ne (Or.inr (tw hw 59 rfl)) (Or.inr (tw hw 57 rfl)) (by decide) (t := .long) (t' := .long) (by decide) (by decide)))) ((((E.wr Q2).wr Q3).wr Q4).wr Q5) (Or.inr ⟨(tw hw 59 rfl), rfl, rfl⟩) (tw hw 36 rfl) (ty := .long) (v' := (.long x4)) (by decide) rfl rfl hn_a (Safe.exa W5.wz.alike ((((E.wr Q2).wr Q3).wr Q4).wr Q5) (by decide) (by decide)) d9_29 32 rfl ?_
  intro T6 h6 W6 Q6 k6
  have F6_deleted := Fld.same Q6 ((((F_deleted.other Q2 (Or.inr (slot_ne (Or.inr (tw hw 59 rfl)) (Or.inr (tw hw 51 rfl)) (by decide) (t := .long) (t' := .long) (by decide) (by decide)))).other Q3 (Or.inr (slot_ne (Or.inr (tw hw 59 rfl)) (Or.inr (tw hw 53 rfl)) (by decide) (t := .long) (t' := .long) (by decide) (by decide)))).other Q4 (Or.inr (slot_ne (Or.inr (tw hw 59 rfl)) (Or.inr (tw hw 55 rfl)) (by decide) (t := .long) (t' := .long) (by decide) (by decide)))).other Q5 (Or.inr (slot_ne (Or.inr (tw hw 59 rfl)) (Or.inr (tw hw 57 rfl)) (by decide) (t := .long) (t' := .long) (by decide) (by decide))))
  refine Own.aloadN W6 d9_32 33 rfl (.ref a) rfl rfl ?_
  refine Own.lload W6 d9_33 35 rfl x5 rfl ?_
  refine Own.putF W6 (tw hw 60 rfl) Via.refl (((((F_unchanged.other Q2 (Or.inr (slot_ne (Or.inr (tw hw 61 rfl)) (Or.inr (tw hw 51 rfl)) (by decide) (t := .long) (t' := .long) (by decide) (by decide)))).other Q3 (Or.inr (slot_ne (Or.inr (tw hw 61 rfl)) (Or.inr (tw hw 53 rfl)) (by decide) (t := .long) (t' := .long) (by decide) (by decide)))).other Q4 (Or.inr (slot_ne (Or.inr (tw hw 61 rfl)) (Or.inr (tw hw 55 rfl)) (by decide) (t := .long) (t' := .long) (by decide) (by decide)))).other Q5 (Or.inr (slot_ne (Or.inr (tw hw 61 rfl)) (Or.inr (tw hw 57 rfl)) (by decide) (t := .long) (t' := .long) (by decide) (by decide)))).other Q6 (Or.inr (slot_ne (Or.inr (tw hw 61 rfl)) (Or.inr (tw hw 59 rfl)) (by decide) (t := .long) (t' := .long) (by decide) (by decide)))) (((((E.wr Q2).wr Q3).wr Q4).wr Q5).wr Q6) (Or.inr ⟨(tw hw 61 rfl), rfl, rfl⟩) (tw hw 36 rfl) (ty := .long) (v' := (.long x5)) (by decide) rfl rfl hn_a (Safe.exa W6.wz.alike (((((E.wr Q2).wr Q3).wr Q4).wr Q5).wr Q6) (by decide) (by decide)) d9_35 38 rfl ?_
  intro T7 h7 W7 Q7 k7
  have F7_unchanged := Fld.same Q7 (((((F_unchanged.other Q2 (Or.inr (slot_ne (Or.inr (tw hw 61 rfl)) (Or.inr (tw hw 51 rfl)) (by decide) (t := .long) (t' := .long) (by decide) (by decide)))).other Q3 (Or.inr (slot_ne (Or.inr (tw hw 61 rfl)) (Or.inr (tw hw 53 rfl)) (by decide) (t := .long) (t' := .long) (by decide) (by decide)))).other Q4 (Or.inr (slot_ne (Or.inr (tw hw 61 rfl)) (Or.inr (tw hw 55 rfl)) (by decide) (t := .long) (t' := .long) (by decide) (by decide)))).other Q5 (Or.inr (slot_ne (Or.inr (tw hw 61 rfl)) (Or.inr (tw hw 57 rfl)) (by decide) (t := .long) (t' := .long) (by decide) (by decide)))).other Q6 (Or.inr (slot_ne (Or.inr (tw hw 61 rfl)) (Or.inr (tw hw 59 rfl)) (by decide) (t := .long) (t' := .long) (by decide) (by decide))))
  refine Own.aloadN W7 d9_38 39 rfl (.ref a) rfl rfl ?_
  refine Own.lload W7 d9_39 41 rfl x6 rfl ?_
  refine Own.putF W7 (tw hw 62 rfl) Via.refl ((((((F_stale.other Q2 (Or.inr (slot_ne (Or.inr (tw hw 63 rfl)) (Or.inr (tw hw 51 rfl)) (by decide) (t := .long) (t' := .long) (by decide) (by decide)))).other Q3 (Or.inr (slot_ne (Or.inr (tw hw 63 rfl)) (Or.inr (tw hw 53 rfl)) (by decide) (t := .long) (t' := .long) (by decide) (by decide)))).other Q4 (Or.inr (slot_ne (Or.inr (tw hw 63 rfl)) (Or.inr (tw hw 55 rfl)) (by decide) (t := .long) (t' := .long) (by decide) (by decide)))).other Q5 (Or.inr (slot_ne (Or.inr (tw hw 63 rfl)) (Or.inr (tw hw 57 rfl)) (by decide) (t := .long) (t' := .long) (by decide) (by decide)))).other Q6 (Or.inr (slot_ne (Or.inr (tw hw 63 rfl)) (Or.inr (tw hw 59 rfl)) (by decide) (t := .long) (t' := .long) (by decide) (by decide)))).other Q7 (Or.inr (slot_ne (Or.inr (tw hw 63 rfl)) (Or.inr (tw hw 61 rfl)) (by decide) (t := .long) (t' := .long) (by decide) (by decide)))) ((((((E.wr Q2).wr Q3).wr Q4).wr Q5).wr Q6).wr Q7) (Or.inr ⟨(tw hw 63 rfl), rfl, rfl⟩) (tw hw 36 rfl) (ty := .long) (v' := (.long x6)) (by decide) rfl rfl hn_a (Safe.exa W7.wz.alike ((((((E.wr Q2).wr Q3).wr Q4).wr Q5).wr Q6).wr Q7) (by decide) (by decide)) d9_41 44 rfl ?_
  intro T8 h8 W8 Q8 k8
  have F8_stale := Fld.same Q8 ((((((F_stale.other Q2 (Or.inr (slot_ne (Or.inr (tw hw 63 rfl)) (Or.inr (tw hw 51 rfl)) (by decide) (t := .long) (t' := .long) (by decide) (by decide)))).other Q3 (Or.inr (slot_ne (Or.inr (tw hw 63 rfl)) (Or.inr (tw hw 53 rfl)) (by decide) (t := .long) (t' := .long) (by decide) (by decide)))).other Q4 (Or.inr (slot_ne (Or.inr (tw hw 63 rfl)) (Or.inr (tw hw 55 rfl)) (by decide) (t := .long) (t' := .long) (by decide) (by decide)))).other Q5 (Or.inr (slot_ne (Or.inr (tw hw 63 rfl)) (Or.inr (tw hw 57 rfl)) (by decide) (t := .long) (t' := .long) (by decide) (by decide)))).other Q6 (Or.inr (slot_ne (Or.inr (tw hw 63 rfl)) (Or.inr (tw hw 59 rfl)) (by decide) (t := .long) (t' := .long) (by decide) (by decide)))).other Q7 (Or.inr (slot_ne (Or.inr (tw hw 63 rfl)) (Or.inr (tw hw 61 rfl)) (by decide) (t := .long) (t' := .long) (by decide) (by decide))))
  refine Own.aloadN W8 d9_44 45 rfl (.ref a) rfl rfl ?_
  refine Own.lload W8 d9_45 47 rfl x7 rfl ?_
  refine Own.putF W8 (tw hw 64 rfl) Via.refl (((((((F_skipped.other Q2 (Or.inr (slot_ne (Or.inr (tw hw 65 rfl)) (Or.inr (tw hw 51 rfl)) (by decide) (t := .long) (t' := .long) (by decide) (by decide)))).other Q3 (Or.inr (slot_ne (Or.inr (tw hw 65 rfl)) (Or.inr (tw hw 53 rfl)) (by decide) (t := .long) (t' := .long) (by decide) (by decide)))).other Q4 (Or.inr (slot_ne (Or.inr (tw hw 65 rfl)) (Or.inr (tw hw 55 rfl)) (by decide) (t := .long) (t' := .long) (by decide) (by decide)))).other Q5 (Or.inr (slot_ne (Or.inr (tw hw 65 rfl)) (Or.inr (tw hw 57 rfl)) (by decide) (t := .long) (t' := .long) (by decide) (by decide)))).other Q6 (Or.inr (slot_ne (Or.inr (tw hw 65 rfl)) (Or.inr (tw hw 59 rfl)) (by decide) (t := .long) (t' := .long) (by decide) (by decide)))).other Q7 (Or.inr (slot_ne (Or.inr (tw hw 65 rfl)) (Or.inr (tw hw 61 rfl)) (by decide) (t := .long) (t' := .long) (by decide) (by decide)))).other Q8 (Or.inr (slot_ne (Or.inr (tw hw 65 rfl)) (Or.inr (tw hw 63 rfl)) (by decide) (t := .long) (t' := .long) (by decide) (by decide)))) (((((((E.wr Q2).wr Q3).wr Q4).wr Q5).wr Q6).wr Q7).wr Q8) (Or.inr ⟨(tw hw 65 rfl), rfl, rfl⟩) (tw hw 36 rfl) (ty := .long) (v' := (.long x7)) (by decide) rfl rfl hn_a (Safe.exa W8.wz.alike (((((((E.wr Q2).wr Q3).wr Q4).wr Q5).wr Q6).wr Q7).wr Q8) (by decide) (by decide)) d9_47 50 rfl ?_
  intro T9 h9 W9 Q9 k9
  have F9_skipped := Fld.same Q9 (((((((F_skipped.other Q2 (Or.inr (slot_ne (Or.inr (tw hw 65 rfl)) (Or.inr (tw hw 51 rfl)) (by decide) (t := .long) (t' := .long) (by decide) (by decide)))).other Q3 (Or.inr (slot_ne (Or.inr (tw hw 65 rfl)) (Or.inr (tw hw 53 rfl)) (by decide) (t := .long) (t' := .long) (by decide) (by decide)))).other Q4 (Or.inr (slot_ne (Or.inr (tw hw 65 rfl)) (Or.inr (tw hw 55 rfl)) (by decide) (t := .long) (t' := .long) (by decide) (by decide)))).other Q5 (Or.inr (slot_ne (Or.inr (tw hw 65 rfl)) (Or.inr (tw hw 57 rfl)) (by decide) (t := .long) (t' := .long) (by decide) (by decide)))).other Q6 (Or.inr (slot_ne (Or.inr (tw hw 65 rfl)) (Or.inr (tw hw 59 rfl)) (by decide) (t := .long) (t' := .long) (by decide) (by decide)))).other Q7 (Or.inr (slot_ne (Or.inr (tw hw 65 rfl)) (Or.inr (tw hw 61 rfl)) (by decide) (t := .long) (t' := .long) (by decide) (by decide)))).other Q8 (Or.inr (slot_ne (Or.inr (tw hw 65 rfl)) (Or.inr (tw hw 63 rfl)) (by decide) (t := .long) (t' := .long) (by decide) (by decide))))
  exact Own.retV W9 (by decide) (by decide) rfl d9_50 ⟨rfl, (Keep.wr (Keep.wr (Keep.wr (Keep.wr (Keep.wr (Keep.wr (Keep.wr (Keep.wr (Keep.refl h [a]) Q2 (Or.inl (by simp))) Q3 (Or.inl (by simp))) Q4 (Or.inl (by simp))) Q5 (Or.inl (by simp))) Q6 (Or.inl (by simp))) Q7 (Or.inl (by simp))) Q8 (Or.inl (by simp))) Q9 (Or.inl (by simp))), ((((((((E.wr Q2).wr Q3).wr Q4).wr Q5).wr Q6).wr Q7).wr Q8).wr Q9), (((((((F2_events.other Q3 (Or.inr (slot_ne (Or.inr (tw hw 51 rfl)) (Or.inr (tw hw 53 rfl)) (by decide) (t := .long) (t' := .long) (by decide) (by decide)))).other Q4 (Or.inr (slot_ne (Or.inr (tw hw 51 rfl)) (Or.inr (tw hw 55 rfl)) (by decide) (t := .long) (t' := .long) (by decide) (by decide)))).other Q5 (Or.inr (slot_ne (Or.inr (tw hw 51 rfl)) (Or.inr (tw hw 57 rfl)) (by decide) (t := .long) (t' := .long) (by decide) (by decide)))).other Q6 (Or.inr (slot_ne (Or.inr (tw hw 51 rfl)) (Or.inr (tw hw 59 rfl)) (by decide) (t := .long) (t' := .long) (by decide) (by decide)))).other Q7 (Or.inr (slot_ne (Or.inr (tw hw 51 rfl)) (Or.inr (tw hw 61 rfl)) (by decide) (t := .long) (t' := .long) (by decide) (by decide)))).other Q8 (Or.inr (slot_ne (Or.inr (tw hw 51 rfl)) (Or.inr (tw hw 63 rfl)) (by decide) (t := .long) (t' := .long) (by decide) (by decide)))).other Q9 (Or.inr (slot_ne (Or.inr (tw hw 51 rfl)) (Or.inr (tw hw 65 rfl)) (by decide) (t := .long) (t' := .long) (by decide) (by decide)))), ((((((F3_inserted.other Q4 (Or.inr (slot_ne (Or.inr (tw hw 53 rfl)) (Or.inr (tw hw 55 rfl)) (by decide) (t := .long) (t' := .long) (by decide) (by decide)))).other Q5 (Or.inr (slot_ne (Or.inr (tw hw 53 rfl)) (Or.inr (tw hw 57 rfl)) (by decide) (t := .long) (t' := .long) (by decide) (by decide)))).other Q6 (Or.inr (slot_ne (Or.inr (tw hw 53 rfl)) (Or.inr (tw hw 59 rfl)) (by decide) (t := .long) (t' := .long) (by decide) (by decide)))).other Q7 (Or.inr (slot_ne (Or.inr (tw hw 53 rfl)) (Or.inr (tw hw 61 rfl)) (by decide) (t := .long) (t' := .long) (by decide) (by decide)))).other Q8 (Or.inr (slot_ne (Or.inr (tw hw 53 rfl)) (Or.inr (tw hw 63 rfl)) (by decide) (t := .long) (t' := .long) (by decide) (by decide)))).other Q9 (Or.inr (slot_ne (Or.inr (tw hw 53 rfl)) (Or.inr (tw hw 65 rfl)) (by decide) (t := .long) (t' := .long) (by decide) (by decide)))), (((((F4_updated.other Q5 (Or.inr (slot_ne (Or.inr (tw hw 55 rfl)) (Or.inr (tw hw 57 rfl)) (by decide) (t := .long) (t' := .long) (by decide) (by decide)))).other Q6 (Or.inr (slot_ne (Or.inr (tw hw 55 rfl)) (Or.inr (tw hw 59 rfl)) (by decide) (t := .long) (t' := .long) (by decide) (by decide)))).other Q7 (Or.inr (slot_ne (Or.inr (tw hw 55 rfl)) (Or.inr (tw hw 61 rfl)) (by decide) (t := .long) (t' := .long) (by decide) (by decide)))).other Q8 (Or.inr (slot_ne (Or.inr (tw hw 55 rfl)) (Or.inr (tw hw 63 rfl)) (by decide) (t := .long) (t' := .long) (by decide) (by decide)))).other Q9 (Or.inr (slot_ne (Or.inr (tw hw 55 rfl)) (Or.inr (tw hw 65 rfl)) (by decide) (t := .long) (t' := .long) (by decide) (by decide)))), ((((F5_restored.other Q6 (Or.inr (slot_ne (Or.inr (tw hw 57 rfl)) (Or.inr (tw hw 59 rfl)) (by decide) (t := .long) (t' := .long) (by decide) (by decide)))).other Q7 (Or.inr (slot_ne (Or.inr (tw hw 57 rfl)) (Or.inr (tw hw 61 rfl)) (by decide) (t := .long) (t' := .long) (by decide) (by decide)))).other Q8 (Or.inr (slot_ne (Or.inr (tw hw 57 rfl)) (Or.inr (tw hw 63 rfl)) (by decide) (t := .long) (t' := .long) (by decide) (by decide)))).other Q9 (Or.inr (slot_ne (Or.inr (tw hw 57 rfl)) (Or.inr (tw hw 65 rfl)) (by decide) (t := .long) (t' := .long) (by decide) (by decide)))), (((F6_deleted.other Q7 (Or.inr (slot_ne (Or.inr (tw hw 59 rfl)) (Or.inr (tw hw 61 rfl)) (by decide) (t := .long) (t' := .long) (by decide) (by decide)))).other Q8 (Or.inr (slot_ne (Or.inr (tw hw 59 rfl)) (Or.inr (tw hw 63 rfl)) (by decide) (t := .long) (t' := .long) (by decide) (by decide)))).other Q9 (Or.inr (slot_ne (Or.inr (tw hw 59 rfl)) (Or.inr (tw hw 65 rfl)) (by decide) (t := .long) (t' := .long) (by decide) (by decide)))), ((F7_unchanged.other Q8 (Or.inr (slot_ne (Or.inr (tw hw 61 rfl)) (Or.inr (tw hw 63 rfl)) (by decide) (t := .long) (t' := .long) (by decide) (by decide)))).other Q9 (Or.inr (slot_ne (Or.inr (tw hw 61 rfl)) (Or.inr (tw hw 65 rfl)) (by decide) (t := .long) (t' := .long) (by decide) (by decide)))), (F8_stale.other Q9 (Or.inr (slot_ne (Or.inr (tw hw 63 rfl)) (Or.inr (tw hw 65 rfl)) (by decide) (t := .long) (t' := .long) (by decide) (by decide)))), F9_skipped⟩
set_option maxRecDepth 65536 in
set_option maxHeartbeats 40000000 in
theorem con_tsD {G : Own.Gl} (hw : ∀ d ∈ tables_1, d.before G.a0 G.Z = true) (hEL : EW G.Z G.a0 G.EL) (hmem : True) {cz : Int32} (hS : Sta G.Z G.Z.heap Own.ST "COMPACT_STRINGS" "Z" (.int cz)) (hcz : ¬ cz = 0) (hE : G.EL = consts_1) (hEN16 : Own.EN G.Z G.a0 G.EL 16) (hEN34 : Own.EN G.Z G.a0 G.EL 34) (hEN70 : Own.EN G.Z G.a0 G.EL 70) (hEN142 : Own.EN G.Z G.a0 G.EL 142) {x0 x1 x2 x3 x4 x5 x6 x7 : Int64} {ca0 cb0 : Int32} (L0 : LT G x0 [ca0, cb0]) {ca1 cb1 : Int32} (L1 : LT G x1 [ca1, cb1]) {ca2 cb2 : Int32} (L2 : LT G x2 [ca2, cb2]) {ca3 cb3 : Int32} (L3 : LT G x3 [ca3, cb3]) {ca4 cb4 : Int32} (L4 : LT G x4 [ca4, cb4]) {ca5 cb5 : Int32} (L5 : LT G x5 [ca5, cb5]) {ca6 cb6 : Int32} (L6 : LT G x6 [ca6, cb6]) {ca7 cb7 : Int32} (L7 : LT G x7 [ca7, cb7]) {a : Addr} {h : Heap} (hO : Old G.Z G.n0 h) (F_events : Fld G.Z h a "com/example/couplet/couplet/core/EventCounts" "events" "J" (.long x0)) (F_inserted : Fld G.Z h a "com/example/couplet/couplet/core/EventCounts" "inserted" "J" (.long x1)) (F_updated : Fld G.Z h a "com/example/couplet/couplet/core/EventCounts" "updated" "J" (.long x2)) (F_restored : Fld G.Z h a "com/example/couplet/couplet/core/EventCounts" "restored" "J" (.long x3)) (F_deleted : Fld G.Z h a "com/example/couplet/couplet/core/EventCounts" "deleted" "J" (.long x4)) (F_unchanged : Fld G.Z h a "com/example/couplet/couplet/core/EventCounts" "unchanged" "J" (.long x5)) (F_stale : Fld G.Z h a "com/example/couplet/couplet/core/EventCounts" "stale" "J" (.long x6)) (F_skipped : Fld G.Z h a "com/example/couplet/couplet/core/EventCounts" "skipped" "J" (.long x7)) :
    Own.Con G [] bTsD #[.ref a] h [] (fun v h' => ∃ o : Addr, v = some (.ref o) ∧ Ext h h' ∧ h.size ≤ o ∧ Own.Str G.Z h' o [101, 118, 101, 110, 116, 115, 61, ca0, cb0, 32, 105, 110, 115, 101, 114, 116, 101, 100, 61, ca1, cb1, 32, 117, 112, 100, 97, 116, 101, 100, 61, ca2, cb2, 32, 114, 101, 115, 116, 111, 114, 101, 100, 61, ca3, cb3, 32, 100, 101, 108, 101, 116, 101, 100, 61, ca4, cb4, 32, 117, 110, 99, 104, 97, 110, 103, 101, 100, 61, ca5, cb5, 32, 115, 116, 97, 108, 101, 61, ca6, cb6, 32, 115, 107, 105, 112, 112, 101, 100, 61, ca7, cb7]) := by
  refine Own.Con.intro (plainFor_of_name pn_8) hO hEL _ (fun m => ef_bTsD m a) ?_
  intro X T0 W0 sf
  refine Own.newO W0 (tw hw 71 rfl) (tw hw 72 rfl) (tw hw 73 rfl) d11_0 3 rfl 1 4 (by decide) (by decide) (by decide) (by decide) ?_
  intro T1 h1 o1 g1 W1 E1 A1 D1 s1 k1
  have F1_value : Fld G.Z h1 o1 "java/lang/AbstractStringBuilder" "value" "[B" .null := D1 (Or.inl (tw hw 86 rfl)) (ty := (.array .byte)) (by decide)
  have F1_coder : Fld G.Z h1 o1 "java/lang/AbstractStringBuilder" "coder" "B" (.int 0) := D1 (Or.inl (tw hw 88 rfl)) (ty := .byte) (by decide)
  have F1_count : Fld G.Z h1 o1 "java/lang/AbstractStringBuilder" "count" "I" (.int 0) := D1 (Or.inl (tw hw 113 rfl)) (ty := .int) (by decide)
  refine Own.dup W1 d11_3 4 rfl rfl ?_
  refine Own.callX W1 rfl (tw hw 74 rfl) (tw hw 75 rfl) (tw hw 76 rfl) (by decide) (argsL := []) (rest := [(.ref o1)]) (Own.Con.pay (con_si hw hEL hmem hS hcz W1.old (Nat.le_trans W0.n0 (Nat.le_of_eq g1.symm)) A1 F1_value F1_coder F1_count) W1 (tw hw 76 rfl) (tw hw 73 rfl) (len := 3) (wd := 1) (by decide) (by decide) (fun _ q => nomatch q)) rfl (lenOf pd_20 rfl) rfl (lb rfl) d11_4 7 rfl 2 20 (lb rfl) (lb rfl) (lb rfl) (lb rfl) ?_
  intro v2 T2 h2 u2 W2 R2 hq
  obtain ⟨rfl, K2, b2, g2, F2⟩ := hq
  show Own.Go _ _ _ _ _ 7 #[.val (.ref a)] [(.ref o1)]
  refine Own.ldcR W2 (tw hw 89 rfl) (Own.sAtomsN (wS hw)) (by rw [hE]; decide) (vs := [.int 101, .int 118, .int 101, .int 110, .int 116, .int 115, .int 61]) (z := (7 : Int32)) ⟨by decide, by decide⟩ (by decide) (by decide) d11_7 9 rfl 28 (by decide) (by decide) 4 52 (lb rfl) (lb rfl) (lb rfl) (lb rfl) ?_
  intro v3 T3 h3 o3 b3 q3 W3 R3 E3 fa3 fc3 fv3 fb3 ne3
  have F3 : Own.Str G.Z h3 o3 [101, 118, 101, 110, 116, 115, 61] := ⟨fa3, fc3, by decide, by decide, b3, q3, fv3, fb3⟩
  have X5 : Ext h2 h3 := E3
  have ZE4 := (F2.ext X5).exa
  have X6 : Ext h h1 := E1
  refine Own.callV W3 (tw hw 92 rfl) (tw hw 93 rfl) (fun s q => notFace_of_selects (args := #[]) (mvT (s := s) q (tw hw 95 rfl))) (tw hw 95 rfl) (tw hw 94 rfl) (by decide) (argsL := [(.ref o3)]) (rest := []) (Own.Con.pay (con_app hw hEL hmem hS hcz hEN16 W3.old (Nat.le_trans W0.n0 (Nat.le_of_eq g1.symm)) (Nat.le_trans W0.n0 (Nat.le_trans X6.1 g2)) (Nat.ne_of_lt (Nat.lt_of_lt_of_le A1.lt g2)) (F2.ext X5) F3 (lb rfl)) W3 (tw hw 96 rfl) (tw hw 73 rfl) (len := 3) (wd := 0) (by decide) (by decide) (fun _ q => nomatch q)) ZE4 rfl (lenOf pd_21 rfl) rfl (lb rfl) d11_9 12 rfl 4 52 (lb rfl) (lb rfl) (lb rfl) (lb rfl) ?_
  intro v7 T7 h7 u7 W7 R7 hq
  obtain ⟨rfl, K7, F7⟩ := hq
  have Z7 : Own.SBd G.Z h7 o1 b2 16 [101, 118, 101, 110, 116, 115, 61] := F7
  show Own.Go _ _ _ _ _ 12 #[.val (.ref a)] [(.ref o1)]
  refine Own.aloadN W7 d11_12 13 rfl (.ref a) rfl rfl ?_
  have X8 : Ext h h2 := Own.Ext.kp X6 K2 (allS (Nat.le_of_eq g1.symm) all0)
  have X9 : Ext h h3 := Own.Ext.tr X8 E3
  have X10 : Ext h h7 := Own.Ext.kp X9 K7 (allS (Nat.le_of_eq g1.symm) (allS (Nat.le_trans X6.1 g2) all0))
  refine Own.getF W7 (tw hw 50 rfl) Via.refl (F_events.ext X10) d11_13 16 rfl ?_
  intro T11 W11
  have ZE12 := Z7.exa
  refine Own.callV W11 (tw hw 139 rfl) (tw hw 140 rfl) (fun s q => notFace_of_selects (args := #[]) (mvT (s := s) q (tw hw 142 rfl))) (tw hw 142 rfl) (tw hw 141 rfl) (by decide) (argsL := [(.long x0)]) (rest := []) (Own.Con.pay (con_apj hw hEL hmem hS hcz W11.old (Nat.le_trans W0.n0 (Nat.le_of_eq g1.symm)) (Nat.le_trans W0.n0 (Nat.le_trans X6.1 g2)) (Nat.ne_of_lt (Nat.lt_of_lt_of_le A1.lt g2)) Z7 hEN16 L0 (lb rfl)) W11 (tw hw 143 rfl) (tw hw 73 rfl) (len := 3) (wd := 0) (by decide) (by decide) (fun _ q => nomatch q)) ZE12 rfl (lenOf pd_22 rfl) rfl (lb rfl) d11_16 19 rfl 4 52 (lb rfl) (lb rfl) (lb rfl) (lb rfl) ?_
  intro v13 T13 h13 u13 W13 R13 hq
  obtain ⟨rfl, K13, F13⟩ := hq
  have Z13 : Own.SBd G.Z h13 o1 b2 16 [101, 118, 101, 110, 116, 115, 61, ca0, cb0] := F13
  show Own.Go _ _ _ _ _ 19 #[.val (.ref a)] [(.ref o1)]
  refine Own.ldcR W13 (tw hw 164 rfl) (Own.sAtomsN (wS hw)) (by rw [hE]; decide) (vs := [.int 32, .int 105, .int 110, .int 115, .int 101, .int 114, .int 116, .int 101, .int 100, .int 61]) (z := (10 : Int32)) ⟨by decide, by decide⟩ (by decide) (by decide) d11_19 21 rfl 40 (by decide) (by decide) 6 96 (lb rfl) (lb rfl) (lb rfl) (lb rfl) ?_
  intro v14 T14 h14 o14 b14 q14 W14 R14 E14 fa14 fc14 fv14 fb14 ne14
  have F14 : Own.Str G.Z h14 o14 [32, 105, 110, 115, 101, 114, 116, 101, 100, 61] := ⟨fa14, fc14, by decide, by decide, b14, q14, fv14, fb14⟩
  have X16 : Ext h13 h14 := E14
  have ZE15 := (Z13.ext X16).exa
  refine Own.callV W14 (tw hw 92 rfl) (tw hw 93 rfl) (fun s q => notFace_of_selects (args := #[]) (mvT (s := s) q (tw hw 95 rfl))) (tw hw 95 rfl) (tw hw 94 rfl) (by decide) (argsL := [(.ref o14)]) (rest := []) (Own.Con.pay (con_appG hw hEL hmem hS hcz W14.old (Nat.le_trans W0.n0 (Nat.le_of_eq g1.symm)) (Nat.le_trans W0.n0 (Nat.le_trans X6.1 g2)) (Nat.ne_of_lt (Nat.lt_of_lt_of_le A1.lt g2)) (Z13.ext X16) hEN34 F14 (lb rfl) (lb rfl) (lb rfl)) W14 (tw hw 96 rfl) (tw hw 73 rfl) (len := 3) (wd := 0) (by decide) (by decide) (fun _ q => nomatch q)) ZE15 rfl (lenOf pd_21 rfl) rfl (lb rfl) d11_21 24 rfl 7 238 (lb rfl) (lb rfl) (lb rfl) (lb rfl) ?_
  intro v17 T17 h17 u17 W17 R17 hq
  obtain ⟨rfl, K17, b17, g17, F17⟩ := hq
  have Z17 : Own.SBd G.Z h17 o1 b17 34 [101, 118, 101, 110, 116, 115, 61, ca0, cb0, 32, 105, 110, 115, 101, 114, 116, 101, 100, 61] := F17
  show Own.Go _ _ _ _ _ 24 #[.val (.ref a)] [(.ref o1)]
  refine Own.aloadN W17 d11_24 25 rfl (.ref a) rfl rfl ?_
  have X18 : Ext h h13 := Own.Ext.kp X10 K13 (allS (Nat.le_of_eq g1.symm) (allS (Nat.le_trans X6.1 g2) all0))
  have X19 : Ext h h14 := Own.Ext.tr X18 E14
  have X20 : Ext h h17 := Own.Ext.kp X19 K17 (allS (Nat.le_of_eq g1.symm) all0)
  refine Own.getF W17 (tw hw 52 rfl) Via.refl (F_inserted.ext X20) d11_25 28 rfl ?_
  intro T21 W21
  have ZE22 := Z17.exa
  refine Own.callV W21 (tw hw 139 rfl) (tw hw 140 rfl) (fun s q => notFace_of_selects (args := #[]) (mvT (s := s) q (tw hw 142 rfl))) (tw hw 142 rfl) (tw hw 141 rfl) (by decide) (argsL := [(.long x1)]) (rest := []) (Own.Con.pay (con_apj hw hEL hmem hS hcz W21.old (Nat.le_trans W0.n0 (Nat.le_of_eq g1.symm)) (Nat.le_trans W0.n0 (Nat.le_trans X19.1 g17)) (Nat.ne_of_lt (Nat.lt_of_lt_of_le A1.lt (Nat.le_trans (Nat.le_trans (Nat.le_trans (Nat.le_trans (Nat.le_trans (Nat.le_trans (Nat.le_refl _) K2.1) E3.1) K7.1) K13.1) E14.1) g17))) Z17 hEN34 L1 (lb rfl)) W21 (tw hw 143 rfl) (tw hw 73 rfl) (len := 3) (wd := 0) (by decide) (by decide) (fun _ q => nomatch q)) ZE22 rfl (lenOf pd_22 rfl) rfl (lb rfl) d11_28 31 rfl 7 238 (lb rfl) (lb rfl) (lb rfl) (lb rfl) ?_
  intro v23 T23 h23 u23 W23 R23 hq
  obtain ⟨rfl, K23, F23⟩ := hq
  have Z23 : Own.SBd G.Z h23 o1 b17 34 [101, 118, 101, 110, 116, 115, 61, ca0, cb0, 32, 105, 110, 115, 101, 114, 116, 101, 100, 61, ca1, cb1] := F23
  show Own.Go _ _ _ _ _ 31 #[.val (.ref a)] [(.ref o1)]
  refine Own.ldcR W23 (tw hw 188 rfl) (Own.sAtomsN (wS hw)) (by rw [hE]; decide) (vs := [.int 32, .int 117, .int 112, .int 100, .int 97, .int 116, .int 101, .int 100, .int 61]) (z := (9 : Int32)) ⟨by decide, by decide⟩ (by decide) (by decide) d11_31 33 rfl 36 (by decide) (by decide) 9 278 (lb rfl) (lb rfl) (lb rfl) (lb rfl) ?_
  intro v24 T24 h24 o24 b24 q24 W24 R24 E24 fa24 fc24 fv24 fb24 ne24
  have F24 : Own.Str G.Z h24 o24 [32, 117, 112, 100, 97, 116, 101, 100, 61] := ⟨fa24, fc24, by decide, by decide, b24, q24, fv24, fb24⟩
  have X26 : Ext h23 h24 := E24
  have ZE25 := (Z23.ext X26).exa
  refine Own.callV W24 (tw hw 92 rfl) (tw hw 93 rfl) (fun s q => notFace_of_selects (args := #[]) (mvT (s := s) q (tw hw 95 rfl))) (tw hw 95 rfl) (tw hw 94 rfl) (by decide) (argsL := [(.ref o24)]) (rest := []) (Own.Con.pay (con_app hw hEL hmem hS hcz hEN34 W24.old (Nat.le_trans W0.n0 (Nat.le_of_eq g1.symm)) (Nat.le_trans W0.n0 (Nat.le_trans X19.1 g17)) (Nat.ne_of_lt (Nat.lt_of_lt_of_le A1.lt (Nat.le_trans (Nat.le_trans (Nat.le_trans (Nat.le_trans (Nat.le_trans (Nat.le_trans (Nat.le_refl _) K2.1) E3.1) K7.1) K13.1) E14.1) g17))) (Z23.ext X26) F24 (lb rfl)) W24 (tw hw 96 rfl) (tw hw 73 rfl) (len := 3) (wd := 0) (by decide) (by decide) (fun _ q => nomatch q)) ZE25 rfl (lenOf pd_21 rfl) rfl (lb rfl) d11_33 36 rfl 9 278 (lb rfl) (lb rfl) (lb rfl) (lb rfl) ?_
  intro v27 T27 h27 u27 W27 R27 hq
  obtain ⟨rfl, K27, F27⟩ := hq
  have Z27 : Own.SBd G.Z h27 o1 b17 34 [101, 118, 101, 110, 116, 115, 61, ca0, cb0, 32, 105, 110, 115, 101, 114, 116, 101, 100, 61, ca1, cb1, 32, 117, 112, 100, 97, 116, 101, 100, 61] := F27
  show Own.Go _ _ _ _ _ 36 #[.val (.ref a)] [(.ref o1)]
  refine Own.aloadN W27 d11_36 37 rfl (.ref a) rfl rfl ?_
  have X28 : Ext h h23 := Own.Ext.kp X20 K23 (allS (Nat.le_of_eq g1.symm) (allS (Nat.le_trans X19.1 g17) all0))
  have X29 : Ext h h24 := Own.Ext.tr X28 E24
  have X30 : Ext h h27 := Own.Ext.kp X29 K27 (allS (Nat.le_of_eq g1.symm) (allS (Nat.le_trans X19.1 g17) all0))
  refine Own.getF W27 (tw hw 54 rfl) Via.refl (F_updated.ext X30) d11_37 40 rfl ?_
  intro T31 W31
  have ZE32 := Z27.exa
  refine Own.callV W31 (tw hw 139 rfl) (tw hw 140 rfl) (fun s q => notFace_of_selects (args := #[]) (mvT (s := s) q (tw hw 142 rfl))) (tw hw 142 rfl) (tw hw 141 rfl) (by decide) (argsL := [(.long x2)]) (rest := []) (Own.Con.pay (con_apj hw hEL hmem hS hcz W31.old (Nat.le_trans W0.n0 (Nat.le_of_eq g1.symm)) (Nat.le_trans W0.n0 (Nat.le_trans X19.1 g17)) (Nat.ne_of_lt (Nat.lt_of_lt_of_le A1.lt (Nat.le_trans (Nat.le_trans (Nat.le_trans (Nat.le_trans (Nat.le_trans (Nat.le_trans (Nat.le_refl _) K2.1) E3.1) K7.1) K13.1) E14.1) g17))) Z27 hEN34 L2 (lb rfl)) W31 (tw hw 143 rfl) (tw hw 73 rfl) (len := 3) (wd := 0) (by decide) (by decide) (fun _ q => nomatch q)) ZE32 rfl (lenOf pd_22 rfl) rfl (lb rfl) d11_40 43 rfl 9 278 (lb rfl) (lb rfl) (lb rfl) (lb rfl) ?_
  intro v33 T33 h33 u33 W33 R33 hq
  obtain ⟨rfl, K33, F33⟩ := hq
  have Z33 : Own.SBd G.Z h33 o1 b17 34 [101, 118, 101, 110, 116, 115, 61, ca0, cb0, 32, 105, 110, 115, 101, 114, 116, 101, 100, 61, ca1, cb1, 32, 117, 112, 100, 97, 116, 101, 100, 61, ca2, cb2] := F33
  show Own.Go _ _ _ _ _ 43 #[.val (.ref a)] [(.ref o1)]
  refine Own.ldcR W33 (tw hw 189 rfl) (Own.sAtomsN (wS hw)) (by rw [hE]; decide) (vs := [.int 32, .int 114, .int 101, .int 115, .int 116, .int 111, .int 114, .int 101, .int 100, .int 61]) (z := (10 : Int32)) ⟨by decide, by decide⟩ (by decide) (by decide) d11_43 45 rfl 40 (by decide) (by decide) 11 322 (lb rfl) (lb rfl) (lb rfl) (lb rfl) ?_
  intro v34 T34 h34 o34 b34 q34 W34 R34 E34 fa34 fc34 fv34 fb34 ne34
  have F34 : Own.Str G.Z h34 o34 [32, 114, 101, 115, 116, 111, 114, 101, 100, 61] := ⟨fa34, fc34, by decide, by decide, b34, q34, fv34, fb34⟩
  have X36 : Ext h33 h34 := E34
  have ZE35 := (Z33.ext X36).exa
  refine Own.callV W34 (tw hw 92 rfl) (tw hw 93 rfl) (fun s q => notFace_of_selects (args := #[]) (mvT (s := s) q (tw hw 95 rfl))) (tw hw 95 rfl) (tw hw 94 rfl) (by decide) (argsL := [(.ref o34)]) (rest := []) (Own.Con.pay (con_appG hw hEL hmem hS hcz W34.old (Nat.le_trans W0.n0 (Nat.le_of_eq g1.symm)) (Nat.le_trans W0.n0 (Nat.le_trans X19.1 g17)) (Nat.ne_of_lt (Nat.lt_of_lt_of_le A1.lt (Nat.le_trans (Nat.le_trans (Nat.le_trans (Nat.le_trans (Nat.le_trans (Nat.le_trans (Nat.le_refl _) K2.1) E3.1) K7.1) K13.1) E14.1) g17))) (Z33.ext X36) hEN70 F34 (lb rfl) (lb rfl) (lb rfl)) W34 (tw hw 96 rfl) (tw hw 73 rfl) (len := 3) (wd := 0) (by decide) (by decide) (fun _ q => nomatch q)) ZE35 rfl (lenOf pd_21 rfl) rfl (lb rfl) d11_45 48 rfl 12 464 (lb rfl) (lb rfl) (lb rfl) (lb rfl) ?_
  intro v37 T37 h37 u37 W37 R37 hq
  obtain ⟨rfl, K37, b37, g37, F37⟩ := hq
  have Z37 : Own.SBd G.Z h37 o1 b37 70 [101, 118, 101, 110, 116, 115, 61, ca0, cb0, 32, 105, 110, 115, 101, 114, 116, 101, 100, 61, ca1, cb1, 32, 117, 112, 100, 97, 116, 101, 100, 61, ca2, cb2, 32, 114, 101, 115, 116, 111, 114, 101, 100, 61] := F37
  show Own.Go _ _ _ _ _ 48 #[.val (.ref a)] [(.ref o1)]
  refine Own.aloadN W37 d11_48 49 rfl (.ref a) rfl rfl ?_
  have X38 : Ext h h33 := Own.Ext.kp X30 K33 (allS (Nat.le_of_eq g1.symm) (allS (Nat.le_trans X19.1 g17) all0))
  have X39 : Ext h h34 := Own.Ext.tr X38 E34
  have X40 : Ext h h37 := Own.Ext.kp X39 K37 (allS (Nat.le_of_eq g1.symm) all0)
  refine Own.getF W37 (tw hw 56 rfl) Via.refl (F_restored.ext X40) d11_49 52 rfl ?_
  intro T41 W41
  have ZE42 := Z37.exa
  refine Own.callV W41 (tw hw 139 rfl) (tw hw 140 rfl) (fun s q => notFace_of_selects (args := #[]) (mvT (s := s) q (tw hw 142 rfl))) (tw hw 142 rfl) (tw hw 141 rfl) (by decide) (argsL := [(.long x3)]) (rest := []) (Own.Con.pay (con_apj hw hEL hmem hS hcz W41.old (Nat.le_trans W0.n0 (Nat.le_of_eq g1.symm)) (Nat.le_trans W0.n0 (Nat.le_trans X39.1 g37)) (Nat.ne_of_lt (Nat.lt_of_lt_of_le A1.lt (Nat.le_trans (Nat.le_trans (Nat.le_trans (Nat.le_trans (Nat.le_trans (Nat.le_trans (Nat.le_trans (Nat.le_trans (Nat.le_trans (Nat.le_trans (Nat.le_trans (Nat.le_trans (Nat.le_refl _) K2.1) E3.1) K7.1) K13.1) E14.1) K17.1) K23.1) E24.1) K27.1) K33.1) E34.1) g37))) Z37 hEN70 L3 (lb rfl)) W41 (tw hw 143 rfl) (tw hw 73 rfl) (len := 3) (wd := 0) (by decide) (by decide) (fun _ q => nomatch q)) ZE42 rfl (lenOf pd_22 rfl) rfl (lb rfl) d11_52 55 rfl 12 464 (lb rfl) (lb rfl) (lb rfl) (lb rfl) ?_
  intro v43 T43 h43 u43 W43 R43 hq
  obtain ⟨rfl, K43, F43⟩ := hq
  have Z43 : Own.SBd G.Z h43 o1 b37 70 [101, 118, 101, 110, 116, 115, 61, ca0, cb0, 32, 105, 110, 115, 101, 114, 116, 101, 100, 61, ca1, cb1, 32, 117, 112, 100, 97, 116, 101, 100, 61, ca2, cb2, 32, 114, 101, 115, 116, 111, 114, 101, 100, 61, ca3, cb3] := F43
  show Own.Go _ _ _ _ _ 55 #[.val (.ref a)] [(.ref o1)]
  refine Own.ldcR W43 (tw hw 190 rfl) (Own.sAtomsN (wS hw)) (by rw [hE]; decide) (vs := [.int 32, .int 100, .int 101, .int 108, .int 101, .int 116, .int 101, .int 100, .int 61]) (z := (9 : Int32)) ⟨by decide, by decide⟩ (by decide) (by decide) d11_55 57 rfl 36 (by decide) (by decide) 14 504 (lb rfl) (lb rfl) (lb rfl) (lb rfl) ?_
  intro v44 T44 h44 o44 b44 q44 W44 R44 E44 fa44 fc44 fv44 fb44 ne44
  have F44 : Own.Str G.Z h44 o44 [32, 100, 101, 108, 101, 116, 101, 100, 61] := ⟨fa44, fc44, by decide, by decide, b44, q44, fv44, fb44⟩
  have X46 : Ext h43 h44 := E44
  have ZE45 := (Z43.ext X46).exa
  refine Own.callV W44 (tw hw 92 rfl) (tw hw 93 rfl) (fun s q => notFace_of_selects (args := #[]) (mvT (s := s) q (tw hw 95 rfl))) (tw hw 95 rfl) (tw hw 94 rfl) (by decide) (argsL := [(.ref o44)]) (rest := []) (Own.Con.pay (con_app hw hEL hmem hS hcz hEN70 W44.old (Nat.le_trans W0.n0 (Nat.le_of_eq g1.symm)) (Nat.le_trans W0.n0 (Nat.le_trans X39.1 g37)) (Nat.ne_of_lt (Nat.lt_of_lt_of_le A1.lt (Nat.le_trans (Nat.le_trans (Nat.le_trans (Nat.le_trans (Nat.le_trans (Nat.le_trans (Nat.le_trans (Nat.le_trans (Nat.le_trans (Nat.le_trans (Nat.le_trans (Nat.le_trans (Nat.le_refl _) K2.1) E3.1) K7.1) K13.1) E14.1) K17.1) K23.1) E24.1) K27.1) K33.1) E34.1) g37))) (Z43.ext X46) F44 (lb rfl)) W44 (tw hw 96 rfl) (tw hw 73 rfl) (len := 3) (wd := 0) (by decide) (by decide) (fun _ q => nomatch q)) ZE45 rfl (lenOf pd_21 rfl) rfl (lb rfl) d11_57 60 rfl 14 504 (lb rfl) (lb rfl) (lb rfl) (lb rfl) ?_
  intro v47 T47 h47 u47 W47 R47 hq
  obtain ⟨rfl, K47, F47⟩ := hq
  have Z47 : Own.SBd G.Z h47 o1 b37 70 [101, 118, 101, 110, 116, 115, 61, ca0, cb0, 32, 105, 110, 115, 101, 114, 116, 101, 100, 61, ca1, cb1, 32, 117, 112, 100, 97, 116, 101, 100, 61, ca2, cb2, 32, 114, 101, 115, 116, 111, 114, 101, 100, 61, ca3, cb3, 32, 100, 101, 108, 101, 116, 101, 100, 61] := F47
  show Own.Go _ _ _ _ _ 60 #[.val (.ref a)] [(.ref o1)]
  refine Own.aloadN W47 d11_60 61 rfl (.ref a) rfl rfl ?_
  have X48 : Ext h h43 := Own.Ext.kp X40 K43 (allS (Nat.le_of_eq g1.symm) (allS (Nat.le_trans X39.1 g37) all0))
  have X49 : Ext h h44 := Own.Ext.tr X48 E44
  have X50 : Ext h h47 := Own.Ext.kp X49 K47 (allS (Nat.le_of_eq g1.symm) (allS (Nat.le_trans X39.1 g37) all0))
  refine Own.getF W47 (tw hw 58 rfl) Via.refl (F_deleted.ext X50) d11_61 64 rfl ?_
  intro T51 W51
  have ZE52 := Z47.exa
  refine Own.callV W51 (tw hw 139 rfl) (tw hw 140 rfl) (fun s q => notFace_of_selects (args := #[]) (mvT (s := s) q (tw hw 142 rfl))) (tw hw 142 rfl) (tw hw 141 rfl) (by decide) (argsL := [(.long x4)]) (rest := []) (Own.Con.pay (con_apj hw hEL hmem hS hcz W51.old (Nat.le_trans W0.n0 (Nat.le_of_eq g1.symm)) (Nat.le_trans W0.n0 (Nat.le_trans X39.1 g37)) (Nat.ne_of_lt (Nat.lt_of_lt_of_le A1.lt (Nat.le_trans (Nat.le_trans (Nat.le_trans (Nat.le_trans (Nat.le_trans (Nat.le_trans (Nat.le_trans (Nat.le_trans (Nat.le_trans (Nat.le_trans (Nat.le_trans (Nat.le_trans (Nat.le_refl _) K2.1) E3.1) K7.1) K13.1) E14.1) K17.1) K23.1) E24.1) K27.1) K33.1) E34.1) g37))) Z47 hEN70 L4 (lb rfl)) W51 (tw hw 143 rfl) (tw hw 73 rfl) (len := 3) (wd := 0) (by decide) (by decide) (fun _ q => nomatch q)) ZE52 rfl (lenOf pd_22 rfl) rfl (lb rfl) d11_64 67 rfl 14 504 (lb rfl) (lb rfl) (lb rfl) (lb rfl) ?_
  intro v53 T53 h53 u53 W53 R53 hq
  obtain ⟨rfl, K53, F53⟩ := hq
  have Z53 : Own.SBd G.Z h53 o1 b37 70 [101, 118, 101, 110, 116, 115, 61, ca0, cb0, 32, 105, 110, 115, 101, 114, 116, 101, 100, 61, ca1, cb1, 32, 117, 112, 100, 97, 116, 101, 100, 61, ca2, cb2, 32, 114, 101, 115, 116, 111, 114, 101, 100, 61, ca3, cb3, 32, 100, 101, 108, 101, 116, 101, 100, 61, ca4, cb4] := F53
  show Own.Go _ _ _ _ _ 67 #[.val (.ref a)] [(.ref o1)]
  refine Own.ldcR W53 (tw hw 191 rfl) (Own.sAtomsN (wS hw)) (by rw [hE]; decide) (vs := [.int 32, .int 117, .int 110, .int 99, .int 104, .int 97, .int 110, .int 103, .int 101, .int 100, .int 61]) (z := (11 : Int32)) ⟨by decide, by decide⟩ (by decide) (by decide) d11_67 69 rfl 44 (by decide) (by decide) 16 552 (lb rfl) (lb rfl) (lb rfl) (lb rfl) ?_
  intro v54 T54 h54 o54 b54 q54 W54 R54 E54 fa54 fc54 fv54 fb54 ne54
  have F54 : Own.Str G.Z h54 o54 [32, 117, 110, 99, 104, 97, 110, 103, 101, 100, 61] := ⟨fa54, fc54, by decide, by decide, b54, q54, fv54, fb54⟩
  have X56 : Ext h53 h54 := E54
  have ZE55 := (Z53.ext X56).exa
  refine Own.callV W54 (tw hw 92 rfl) (tw hw 93 rfl) (fun s q => notFace_of_selects (args := #[]) (mvT (s := s) q (tw hw 95 rfl))) (tw hw 95 rfl) (tw hw 94 rfl) (by decide) (argsL := [(.ref o54)]) (rest := []) (Own.Con.pay (con_app hw hEL hmem hS hcz hEN70 W54.old (Nat.le_trans W0.n0 (Nat.le_of_eq g1.symm)) (Nat.le_trans W0.n0 (Nat.le_trans X39.1 g37)) (Nat.ne_of_lt (Nat.lt_of_lt_of_le A1.lt (Nat.le_trans (Nat.le_trans (Nat.le_trans (Nat.le_trans (Nat.le_trans (Nat.le_trans (Nat.le_trans (Nat.le_trans (Nat.le_trans (Nat.le_trans (Nat.le_trans (Nat.le_trans (Nat.le_refl _) K2.1) E3.1) K7.1) K13.1) E14.1) K17.1) K23.1) E24.1) K27.1) K33.1) E34.1) g37))) (Z53.ext X56) F54 (lb rfl)) W54 (tw hw 96 rfl) (tw hw 73 rfl) (len := 3) (wd := 0) (by decide) (by decide) (fun _ q => nomatch q)) ZE55 rfl (lenOf pd_21 rfl) rfl (lb rfl) d11_69 72 rfl 16 552 (lb rfl) (lb rfl) (lb rfl) (lb rfl) ?_
  intro v57 T57 h57 u57 W57 R57 hq
  obtain ⟨rfl, K57, F57⟩ := hq
  have Z57 : Own.SBd G.Z h57 o1 b37 70 [101, 118, 101, 110, 116, 115, 61, ca0, cb0, 32, 105, 110, 115, 101, 114, 116, 101, 100, 61, ca1, cb1, 32, 117, 112, 100, 97, 116, 101, 100, 61, ca2, cb2, 32, 114, 101, 115, 116, 111, 114, 101, 100, 61, ca3, cb3, 32, 100, 101, 108, 101, 116, 101, 100, 61, ca4, cb4, 32, 117, 110, 99, 104, 97, 110, 103, 101, 100, 61] := F57
  show Own.Go _ _ _ _ _ 72 #[.val (.ref a)] [(.ref o1)]
  refine Own.aloadN W57 d11_72 73 rfl (.ref a) rfl rfl ?_
  have X58 : Ext h h53 := Own.Ext.kp X50 K53 (allS (Nat.le_of_eq g1.symm) (allS (Nat.le_trans X39.1 g37) all0))
  have X59 : Ext h h54 := Own.Ext.tr X58 E54
  have X60 : Ext h h57 := Own.Ext.kp X59 K57 (allS (Nat.le_of_eq g1.symm) (allS (Nat.le_trans X39.1 g37) all0))
  refine Own.getF W57 (tw hw 60 rfl) Via.refl (F_unchanged.ext X60) d11_73 76 rfl ?_
  intro T61 W61
  have ZE62 := Z57.exa
  refine Own.callV W61 (tw hw 139 rfl) (tw hw 140 rfl) (fun s q => notFace_of_selects (args := #[]) (mvT (s := s) q (tw hw 142 rfl))) (tw hw 142 rfl) (tw hw 141 rfl) (by decide) (argsL := [(.long x5)]) (rest := []) (Own.Con.pay (con_apj hw hEL hmem hS hcz W61.old (Nat.le_trans W0.n0 (Nat.le_of_eq g1.symm)) (Nat.le_trans W0.n0 (Nat.le_trans X39.1 g37)) (Nat.ne_of_lt (Nat.lt_of_lt_of_le A1.lt (Nat.le_trans (Nat.le_trans (Nat.le_trans (Nat.le_trans (Nat.le_trans (Nat.le_trans (Nat.le_trans (Nat.le_trans (Nat.le_trans (Nat.le_trans (Nat.le_trans (Nat.le_trans (Nat.le_refl _) K2.1) E3.1) K7.1) K13.1) E14.1) K17.1) K23.1) E24.1) K27.1) K33.1) E34.1) g37))) Z57 hEN70 L5 (lb rfl)) W61 (tw hw 143 rfl) (tw hw 73 rfl) (len := 3) (wd := 0) (by decide) (by decide) (fun _ q => nomatch q)) ZE62 rfl (lenOf pd_22 rfl) rfl (lb rfl) d11_76 79 rfl 16 552 (lb rfl) (lb rfl) (lb rfl) (lb rfl) ?_
  intro v63 T63 h63 u63 W63 R63 hq
  obtain ⟨rfl, K63, F63⟩ := hq
  have Z63 : Own.SBd G.Z h63 o1 b37 70 [101, 118, 101, 110, 116, 115, 61, ca0, cb0, 32, 105, 110, 115, 101, 114, 116, 101, 100, 61, ca1, cb1, 32, 117, 112, 100, 97, 116, 101, 100, 61, ca2, cb2, 32, 114, 101, 115, 116, 111, 114, 101, 100, 61, ca3, cb3, 32, 100, 101, 108, 101, 116, 101, 100, 61, ca4, cb4, 32, 117, 110, 99, 104, 97, 110, 103, 101, 100, 61, ca5, cb5] := F63
  show Own.Go _ _ _ _ _ 79 #[.val (.ref a)] [(.ref o1)]
  refine Own.ldcR W63 (tw hw 192 rfl) (Own.sAtomsN (wS hw)) (by rw [hE]; decide) (vs := [.int 32, .int 115, .int 116, .int 97, .int 108, .int 101, .int 61]) (z := (7 : Int32)) ⟨by decide, by decide⟩ (by decide) (by decide) d11_79 81 rfl 28 (by decide) (by decide) 18 584 (lb rfl) (lb rfl) (lb rfl) (lb rfl) ?_
  intro v64 T64 h64 o64 b64 q64 W64 R64 E64 fa64 fc64 fv64 fb64 ne64
  have F64 : Own.Str G.Z h64 o64 [32, 115, 116, 97, 108, 101, 61] := ⟨fa64, fc64, by decide, by decide, b64, q64, fv64, fb64⟩
  have X66 : Ext h63 h64 := E64
  have ZE65 := (Z63.ext X66).exa
  refine Own.callV W64 (tw hw 92 rfl) (tw hw 93 rfl) (fun s q => notFace_of_selects (args := #[]) (mvT (s := s) q (tw hw 95 rfl))) (tw hw 95 rfl) (tw hw 94 rfl) (by decide) (argsL := [(.ref o64)]) (rest := []) (Own.Con.pay (con_appG hw hEL hmem hS hcz W64.old (Nat.le_trans W0.n0 (Nat.le_of_eq g1.symm)) (Nat.le_trans W0.n0 (Nat.le_trans X39.1 g37)) (Nat.ne_of_lt (Nat.lt_of_lt_of_le A1.lt (Nat.le_trans (Nat.le_trans (Nat.le_trans (Nat.le_trans (Nat.le_trans (Nat.le_trans (Nat.le_trans (Nat.le_trans (Nat.le_trans (Nat.le_trans (Nat.le_trans (Nat.le_trans (Nat.le_refl _) K2.1) E3.1) K7.1) K13.1) E14.1) K17.1) K23.1) E24.1) K27.1) K33.1) E34.1) g37))) (Z63.ext X66) hEN142 F64 (lb rfl) (lb rfl) (lb rfl)) W64 (tw hw 96 rfl) (tw hw 73 rfl) (len := 3) (wd := 0) (by decide) (by decide) (fun _ q => nomatch q)) ZE65 rfl (lenOf pd_21 rfl) rfl (lb rfl) d11_81 84 rfl 19 726 (lb rfl) (lb rfl) (lb rfl) (lb rfl) ?_
  intro v67 T67 h67 u67 W67 R67 hq
  obtain ⟨rfl, K67, b67, g67, F67⟩ := hq
  have Z67 : Own.SBd G.Z h67 o1 b67 142 [101, 118, 101, 110, 116, 115, 61, ca0, cb0, 32, 105, 110, 115, 101, 114, 116, 101, 100, 61, ca1, cb1, 32, 117, 112, 100, 97, 116, 101, 100, 61, ca2, cb2, 32, 114, 101, 115, 116, 111, 114, 101, 100, 61, ca3, cb3, 32, 100, 101, 108, 101, 116, 101, 100, 61, ca4, cb4, 32, 117, 110, 99, 104, 97, 110, 103, 101, 100, 61, ca5, cb5, 32, 115, 116, 97, 108, 101, 61] := F67
  show Own.Go _ _ _ _ _ 84 #[.val (.ref a)] [(.ref o1)]
  refine Own.aloadN W67 d11_84 85 rfl (.ref a) rfl rfl ?_
  have X68 : Ext h h63 := Own.Ext.kp X60 K63 (allS (Nat.le_of_eq g1.symm) (allS (Nat.le_trans X39.1 g37) all0))
  have X69 : Ext h h64 := Own.Ext.tr X68 E64
  have X70 : Ext h h67 := Own.Ext.kp X69 K67 (allS (Nat.le_of_eq g1.symm) all0)
  refine Own.getF W67 (tw hw 62 rfl) Via.refl (F_stale.ext X70) d11_85 88 rfl ?_
  intro T71 W71
  have ZE72 := Z67.exa
  refine Own.callV W71 (tw hw 139 rfl) (tw hw 140 rfl) (fun s q => notFace_of_selects (args := #[]) (mvT (s := s) q (tw hw 142 rfl))) (tw hw 142 rfl) (tw hw 141 rfl) (by decide) (argsL := [(.long x6)]) (rest := []) (Own.Con.pay (con_apj hw hEL hmem hS hcz W71.old (Nat.le_trans W0.n0 (Nat.le_of_eq g1.symm)) (Nat.le_trans W0.n0 (Nat.le_trans X69.1 g67)) (Nat.ne_of_lt (Nat.lt_of_lt_of_le A1.lt (Nat.le_trans (Nat.le_trans (Nat.le_trans (Nat.le_trans (Nat.le_trans (Nat.le_trans (Nat.le_trans (Nat.le_trans (Nat.le_trans (Nat.le_trans (Nat.le_trans (Nat.le_trans (Nat.le_trans (Nat.le_trans (Nat.le_trans (Nat.le_trans (Nat.le_trans (Nat.le_trans (Nat.le_trans (Nat.le_trans (Nat.le_trans (Nat.le_refl _) K2.1) E3.1) K7.1) K13.1) E14.1) K17.1) K23.1) E24.1) K27.1) K33.1) E34.1) K37.1) K43.1) E44.1) K47.1) K53.1) E54.1) K57.1) K63.1) E64.1) g67))) Z67 hEN142 L6 (lb rfl)) W71 (tw hw 143 rfl) (tw hw 73 rfl) (len := 3) (wd := 0) (by decide) (by decide) (fun _ q => nomatch q)) ZE72 rfl (lenOf pd_22 rfl) rfl (lb rfl) d11_88 91 rfl 19 726 (lb rfl) (lb rfl) (lb rfl) (lb rfl) ?_
  intro v73 T73 h73 u73 W73 R73 hq
  obtain ⟨rfl, K73, F73⟩ := hq
  have Z73 : Own.SBd G.Z h73 o1 b67 142 [101, 118, 101, 110, 116, 115, 61, ca0, cb0, 32, 105, 110, 115, 101, 114, 116, 101, 100, 61, ca1, cb1, 32, 117, 112, 100, 97, 116, 101, 100, 61, ca2, cb2, 32, 114, 101, 115, 116, 111, 114, 101, 100, 61, ca3, cb3, 32, 100, 101, 108, 101, 116, 101, 100, 61, ca4, cb4, 32, 117, 110, 99, 104, 97, 110, 103, 101, 100, 61, ca5, cb5, 32, 115, 116, 97, 108, 101, 61, ca6, cb6] := F73
  show Own.Go _ _ _ _ _ 91 #[.val (.ref a)] [(.ref o1)]
  refine Own.ldcR W73 (tw hw 193 rfl) (Own.sAtomsN (wS hw)) (by rw [hE]; decide) (vs := [.int 32, .int 115, .int 107, .int 105, .int 112, .int 112, .int 101, .int 100, .int 61]) (z := (9 : Int32)) ⟨by decide, by decide⟩ (by decide) (by decide) d11_91 93 rfl 36 (by decide) (by decide) 21 766 (lb rfl) (lb rfl) (lb rfl) (lb rfl) ?_
  intro v74 T74 h74 o74 b74 q74 W74 R74 E74 fa74 fc74 fv74 fb74 ne74
  have F74 : Own.Str G.Z h74 o74 [32, 115, 107, 105, 112, 112, 101, 100, 61] := ⟨fa74, fc74, by decide, by decide, b74, q74, fv74, fb74⟩
  have X76 : Ext h73 h74 := E74
  have ZE75 := (Z73.ext X76).exa
  refine Own.callV W74 (tw hw 92 rfl) (tw hw 93 rfl) (fun s q => notFace_of_selects (args := #[]) (mvT (s := s) q (tw hw 95 rfl))) (tw hw 95 rfl) (tw hw 94 rfl) (by decide) (argsL := [(.ref o74)]) (rest := []) (Own.Con.pay (con_app hw hEL hmem hS hcz hEN142 W74.old (Nat.le_trans W0.n0 (Nat.le_of_eq g1.symm)) (Nat.le_trans W0.n0 (Nat.le_trans X69.1 g67)) (Nat.ne_of_lt (Nat.lt_of_lt_of_le A1.lt (Nat.le_trans (Nat.le_trans (Nat.le_trans (Nat.le_trans (Nat.le_trans (Nat.le_trans (Nat.le_trans (Nat.le_trans (Nat.le_trans (Nat.le_trans (Nat.le_trans (Nat.le_trans (Nat.le_trans (Nat.le_trans (Nat.le_trans (Nat.le_trans (Nat.le_trans (Nat.le_trans (Nat.le_trans (Nat.le_trans (Nat.le_trans (Nat.le_refl _) K2.1) E3.1) K7.1) K13.1) E14.1) K17.1) K23.1) E24.1) K27.1) K33.1) E34.1) K37.1) K43.1) E44.1) K47.1) K53.1) E54.1) K57.1) K63.1) E64.1) g67))) (Z73.ext X76) F74 (lb rfl)) W74 (tw hw 96 rfl) (tw hw 73 rfl) (len := 3) (wd := 0) (by decide) (by decide) (fun _ q => nomatch q)) ZE75 rfl (lenOf pd_21 rfl) rfl (lb rfl) d11_93 96 rfl 21 766 (lb rfl) (lb rfl) (lb rfl) (lb rfl) ?_
  intro v77 T77 h77 u77 W77 R77 hq
  obtain ⟨rfl, K77, F77⟩ := hq
  have Z77 : Own.SBd G.Z h77 o1 b67 142 [101, 118, 101, 110, 116, 115, 61, ca0, cb0, 32, 105, 110, 115, 101, 114, 116, 101, 100, 61, ca1, cb1, 32, 117, 112, 100, 97, 116, 101, 100, 61, ca2, cb2, 32, 114, 101, 115, 116, 111, 114, 101, 100, 61, ca3, cb3, 32, 100, 101, 108, 101, 116, 101, 100, 61, ca4, cb4, 32, 117, 110, 99, 104, 97, 110, 103, 101, 100, 61, ca5, cb5, 32, 115, 116, 97, 108, 101, 61, ca6, cb6, 32, 115, 107, 105, 112, 112, 101, 100, 61] := F77
  show Own.Go _ _ _ _ _ 96 #[.val (.ref a)] [(.ref o1)]
  refine Own.aloadN W77 d11_96 97 rfl (.ref a) rfl rfl ?_
  have X78 : Ext h h73 := Own.Ext.kp X70 K73 (allS (Nat.le_of_eq g1.symm) (allS (Nat.le_trans X69.1 g67) all0))
  have X79 : Ext h h74 := Own.Ext.tr X78 E74
  have X80 : Ext h h77 := Own.Ext.kp X79 K77 (allS (Nat.le_of_eq g1.symm) (allS (Nat.le_trans X69.1 g67) all0))
  refine Own.getF W77 (tw hw 64 rfl) Via.refl (F_skipped.ext X80) d11_97 100 rfl ?_
  intro T81 W81
  have ZE82 := Z77.exa
  refine Own.callV W81 (tw hw 139 rfl) (tw hw 140 rfl) (fun s q => notFace_of_selects (args := #[]) (mvT (s := s) q (tw hw 142 rfl))) (tw hw 142 rfl) (tw hw 141 rfl) (by decide) (argsL := [(.long x7)]) (rest := []) (Own.Con.pay (con_apj hw hEL hmem hS hcz W81.old (Nat.le_trans W0.n0 (Nat.le_of_eq g1.symm)) (Nat.le_trans W0.n0 (Nat.le_trans X69.1 g67)) (Nat.ne_of_lt (Nat.lt_of_lt_of_le A1.lt (Nat.le_trans (Nat.le_trans (Nat.le_trans (Nat.le_trans (Nat.le_trans (Nat.le_trans (Nat.le_trans (Nat.le_trans (Nat.le_trans (Nat.le_trans (Nat.le_trans (Nat.le_trans (Nat.le_trans (Nat.le_trans (Nat.le_trans (Nat.le_trans (Nat.le_trans (Nat.le_trans (Nat.le_trans (Nat.le_trans (Nat.le_trans (Nat.le_refl _) K2.1) E3.1) K7.1) K13.1) E14.1) K17.1) K23.1) E24.1) K27.1) K33.1) E34.1) K37.1) K43.1) E44.1) K47.1) K53.1) E54.1) K57.1) K63.1) E64.1) g67))) Z77 hEN142 L7 (lb rfl)) W81 (tw hw 143 rfl) (tw hw 73 rfl) (len := 3) (wd := 0) (by decide) (by decide) (fun _ q => nomatch q)) ZE82 rfl (lenOf pd_22 rfl) rfl (lb rfl) d11_100 103 rfl 21 766 (lb rfl) (lb rfl) (lb rfl) (lb rfl) ?_
  intro v83 T83 h83 u83 W83 R83 hq
  obtain ⟨rfl, K83, F83⟩ := hq
  have Z83 : Own.SBd G.Z h83 o1 b67 142 [101, 118, 101, 110, 116, 115, 61, ca0, cb0, 32, 105, 110, 115, 101, 114, 116, 101, 100, 61, ca1, cb1, 32, 117, 112, 100, 97, 116, 101, 100, 61, ca2, cb2, 32, 114, 101, 115, 116, 111, 114, 101, 100, 61, ca3, cb3, 32, 100, 101, 108, 101, 116, 101, 100, 61, ca4, cb4, 32, 117, 110, 99, 104, 97, 110, 103, 101, 100, 61, ca5, cb5, 32, 115, 116, 97, 108, 101, 61, ca6, cb6, 32, 115, 107, 105, 112, 112, 101, 100, 61, ca7, cb7] := F83
  show Own.Go _ _ _ _ _ 103 #[.val (.ref a)] [(.ref o1)]
  have ZE84 := Z83.exa
  refine Own.callV W83 (tw hw 194 rfl) (tw hw 195 rfl) (fun s q => notFace_of_selects (args := #[]) (mvT (s := s) q (tw hw 197 rfl))) (tw hw 197 rfl) (tw hw 196 rfl) (by decide) (argsL := []) (rest := []) (Own.Con.pay (con_tos hw hEL hmem hS hcz W83.old Z83 (lb rfl) (lb rfl)) W83 (tw hw 198 rfl) (tw hw 73 rfl) (len := 3) (wd := 0) (by decide) (by decide) (fun _ q => nomatch q)) ZE84 rfl (lenOf pd_23 rfl) rfl (lb rfl) d11_103 106 rfl 23 912 (lb rfl) (lb rfl) (lb rfl) (lb rfl) ?_
  intro v85 T85 h85 u85 W85 R85 hq
  obtain ⟨o85, rfl, E85, g85, S85⟩ := hq
  show Own.Go _ _ _ _ _ 106 #[.val (.ref a)] [(.ref o85)]
  have X86 : Ext h h83 := Own.Ext.kp X80 K83 (allS (Nat.le_of_eq g1.symm) (allS (Nat.le_trans X69.1 g67) all0))
  have X87 : Ext h h85 := Own.Ext.tr X86 E85
  exact Own.retA W85 (by decide) (by decide) rfl rfl rfl d11_106 ⟨o85, rfl, X87, (Nat.le_trans X86.1 g85), S85⟩
set_option maxRecDepth 65536 in
set_option maxHeartbeats 40000000 in
theorem con_tsE {G : Own.Gl} (hw : ∀ d ∈ tables_1, d.before G.a0 G.Z = true) (hEL : EW G.Z G.a0 G.EL) (hmem : True) {cz : Int32} (hS : Sta G.Z G.Z.heap Own.ST "COMPACT_STRINGS" "Z" (.int cz)) (hcz : ¬ cz = 0) (hE : G.EL = consts_1) (hEN16 : Own.EN G.Z G.a0 G.EL 16) (hEN34 : Own.EN G.Z G.a0 G.EL 34) (hEN70 : Own.EN G.Z G.a0 G.EL 70) (hEN142 : Own.EN G.Z G.a0 G.EL 142) {dg1 : Addr} {kg1 : ClassId} (SDO : Sta G.Z G.Z.heap "java/lang/Integer" "DigitOnes" "[B" (.ref dg1)) (DG1 : Arv G.Z G.Z.heap dg1 kg1 .byte 100 (Own.digL Own.onesF) (.int 0)) {dg2 : Addr} {kg2 : ClassId} (SDT : Sta G.Z G.Z.heap "java/lang/Integer" "DigitTens" "[B" (.ref dg2)) (DG2 : Arv G.Z G.Z.heap dg2 kg2 .byte 100 (Own.digL Own.tensF) (.int 0)) {a : Addr} {h : Heap} (hO : Old G.Z G.n0 h) (F_events : Fld G.Z h a "com/example/couplet/couplet/core/EventCounts" "events" "J" (.long (-9223372036854775808))) (F_inserted : Fld G.Z h a "com/example/couplet/couplet/core/EventCounts" "inserted" "J" (.long 9223372036854775807)) (F_updated : Fld G.Z h a "com/example/couplet/couplet/core/EventCounts" "updated" "J" (.long (-1))) (F_restored : Fld G.Z h a "com/example/couplet/couplet/core/EventCounts" "restored" "J" (.long 2147483648)) (F_deleted : Fld G.Z h a "com/example/couplet/couplet/core/EventCounts" "deleted" "J" (.long (-2147483649))) (F_unchanged : Fld G.Z h a "com/example/couplet/couplet/core/EventCounts" "unchanged" "J" (.long 0)) (F_stale : Fld G.Z h a "com/example/couplet/couplet/core/EventCounts" "stale" "J" (.long 1)) (F_skipped : Fld G.Z h a "com/example/couplet/couplet/core/EventCounts" "skipped" "J" (.long 10)) :
    Own.Con G [] bTsE #[.ref a] h [] (fun v h' => ∃ o : Addr, v = some (.ref o) ∧ Ext h h' ∧ h.size ≤ o ∧ Own.Str G.Z h' o [101, 118, 101, 110, 116, 115, 61, 45, 57, 50, 50, 51, 51, 55, 50, 48, 51, 54, 56, 53, 52, 55, 55, 53, 56, 48, 56, 32, 105, 110, 115, 101, 114, 116, 101, 100, 61, 57, 50, 50, 51, 51, 55, 50, 48, 51, 54, 56, 53, 52, 55, 55, 53, 56, 48, 55, 32, 117, 112, 100, 97, 116, 101, 100, 61, 45, 49, 32, 114, 101, 115, 116, 111, 114, 101, 100, 61, 50, 49, 52, 55, 52, 56, 51, 54, 52, 56, 32, 100, 101, 108, 101, 116, 101, 100, 61, 45, 50, 49, 52, 55, 52, 56, 51, 54, 52, 57, 32, 117, 110, 99, 104, 97, 110, 103, 101, 100, 61, 48, 32, 115, 116, 97, 108, 101, 61, 49, 32, 115, 107, 105, 112, 112, 101, 100, 61, 49, 48]) := by
  refine Own.Con.intro (plainFor_of_name pn_8) hO hEL _ (fun m => ef_bTsE m a) ?_
  intro X T0 W0 sf
  refine Own.newO W0 (tw hw 71 rfl) (tw hw 72 rfl) (tw hw 73 rfl) d11_0 3 rfl 1 4 (by decide) (by decide) (by decide) (by decide) ?_
  intro T1 h1 o1 g1 W1 E1 A1 D1 s1 k1
  have F1_value : Fld G.Z h1 o1 "java/lang/AbstractStringBuilder" "value" "[B" .null := D1 (Or.inl (tw hw 86 rfl)) (ty := (.array .byte)) (by decide)
  have F1_coder : Fld G.Z h1 o1 "java/lang/AbstractStringBuilder" "coder" "B" (.int 0) := D1 (Or.inl (tw hw 88 rfl)) (ty := .byte) (by decide)
  have F1_count : Fld G.Z h1 o1 "java/lang/AbstractStringBuilder" "count" "I" (.int 0) := D1 (Or.inl (tw hw 113 rfl)) (ty := .int) (by decide)
  refine Own.dup W1 d11_3 4 rfl rfl ?_
  refine Own.callX W1 rfl (tw hw 74 rfl) (tw hw 75 rfl) (tw hw 76 rfl) (by decide) (argsL := []) (rest := [(.ref o1)]) (Own.Con.pay (con_si hw hEL hmem hS hcz W1.old (Nat.le_trans W0.n0 (Nat.le_of_eq g1.symm)) A1 F1_value F1_coder F1_count) W1 (tw hw 76 rfl) (tw hw 73 rfl) (len := 3) (wd := 1) (by decide) (by decide) (fun _ q => nomatch q)) rfl (lenOf pd_20 rfl) rfl (lb rfl) d11_4 7 rfl 2 20 (lb rfl) (lb rfl) (lb rfl) (lb rfl) ?_
  intro v2 T2 h2 u2 W2 R2 hq
  obtain ⟨rfl, K2, b2, g2, F2⟩ := hq
  show Own.Go _ _ _ _ _ 7 #[.val (.ref a)] [(.ref o1)]
  refine Own.ldcR W2 (tw hw 89 rfl) (Own.sAtomsN (wS hw)) (by rw [hE]; decide) (vs := [.int 101, .int 118, .int 101, .int 110, .int 116, .int 115, .int 61]) (z := (7 : Int32)) ⟨by decide, by decide⟩ (by decide) (by decide) d11_7 9 rfl 28 (by decide) (by decide) 4 52 (lb rfl) (lb rfl) (lb rfl) (lb rfl) ?_
  intro v3 T3 h3 o3 b3 q3 W3 R3 E3 fa3 fc3 fv3 fb3 ne3
  have F3 : Own.Str G.Z h3 o3 [101, 118, 101, 110, 116, 115, 61] := ⟨fa3, fc3, by decide, by decide, b3, q3, fv3, fb3⟩
  have X5 : Ext h2 h3 := E3
  have ZE4 := (F2.ext X5).exa
  have X6 : Ext h h1 := E1
  refine Own.callV W3 (tw hw 92 rfl) (tw hw 93 rfl) (fun s q => notFace_of_selects (args := #[]) (mvT (s := s) q (tw hw 95 rfl))) (tw hw 95 rfl) (tw hw 94 rfl) (by decide) (argsL := [(.ref o3)]) (rest := []) (Own.Con.pay (con_app hw hEL hmem hS hcz hEN16 W3.old (Nat.le_trans W0.n0 (Nat.le_of_eq g1.symm)) (Nat.le_trans W0.n0 (Nat.le_trans X6.1 g2)) (Nat.ne_of_lt (Nat.lt_of_lt_of_le A1.lt g2)) (F2.ext X5) F3 (lb rfl)) W3 (tw hw 96 rfl) (tw hw 73 rfl) (len := 3) (wd := 0) (by decide) (by decide) (fun _ q => nomatch q)) ZE4 rfl (lenOf pd_21 rfl) rfl (lb rfl) d11_9 12 rfl 4 52 (lb rfl) (lb rfl) (lb rfl) (lb rfl) ?_
  intro v7 T7 h7 u7 W7 R7 hq
  obtain ⟨rfl, K7, F7⟩ := hq
  have Z7 : Own.SBd G.Z h7 o1 b2 16 [101, 118, 101, 110, 116, 115, 61] := F7
  show Own.Go _ _ _ _ _ 12 #[.val (.ref a)] [(.ref o1)]
  refine Own.aloadN W7 d11_12 13 rfl (.ref a) rfl rfl ?_
  have X8 : Ext h h2 := Own.Ext.kp X6 K2 (allS (Nat.le_of_eq g1.symm) all0)
  have X9 : Ext h h3 := Own.Ext.tr X8 E3
  have X10 : Ext h h7 := Own.Ext.kp X9 K7 (allS (Nat.le_of_eq g1.symm) (allS (Nat.le_trans X6.1 g2) all0))
  refine Own.getF W7 (tw hw 50 rfl) Via.refl (F_events.ext X10) d11_13 16 rfl ?_
  intro T11 W11
  have ZE12 := Z7.exa
  refine Own.callV W11 (tw hw 139 rfl) (tw hw 140 rfl) (fun s q => notFace_of_selects (args := #[]) (mvT (s := s) q (tw hw 142 rfl))) (tw hw 142 rfl) (tw hw 141 rfl) (by decide) (argsL := [(.long (-9223372036854775808))]) (rest := []) (Own.Con.pay (con_apjG hw hEL hmem hS hcz W11.old (Nat.le_trans W0.n0 (Nat.le_of_eq g1.symm)) (Nat.le_trans W0.n0 (Nat.le_trans X6.1 g2)) (Nat.ne_of_lt (Nat.lt_of_lt_of_le A1.lt g2)) Z7 hEN34 (lt_min hw hEL SDO DG1 SDT DG2) (lb rfl) (lb rfl) (lb rfl)) W11 (tw hw 143 rfl) (tw hw 73 rfl) (len := 3) (wd := 0) (by decide) (by decide) (fun _ q => nomatch q)) ZE12 rfl (lenOf pd_22 rfl) rfl (lb rfl) d11_16 19 rfl 5 194 (lb rfl) (lb rfl) (lb rfl) (lb rfl) ?_
  intro v13 T13 h13 u13 W13 R13 hq
  obtain ⟨rfl, K13, b13, g13, F13⟩ := hq
  have Z13 : Own.SBd G.Z h13 o1 b13 34 [101, 118, 101, 110, 116, 115, 61, 45, 57, 50, 50, 51, 51, 55, 50, 48, 51, 54, 56, 53, 52, 55, 55, 53, 56, 48, 56] := F13
  show Own.Go _ _ _ _ _ 19 #[.val (.ref a)] [(.ref o1)]
  refine Own.ldcR W13 (tw hw 164 rfl) (Own.sAtomsN (wS hw)) (by rw [hE]; decide) (vs := [.int 32, .int 105, .int 110, .int 115, .int 101, .int 114, .int 116, .int 101, .int 100, .int 61]) (z := (10 : Int32)) ⟨by decide, by decide⟩ (by decide) (by decide) d11_19 21 rfl 40 (by decide) (by decide) 7 238 (lb rfl) (lb rfl) (lb rfl) (lb rfl) ?_
  intro v14 T14 h14 o14 b14 q14 W14 R14 E14 fa14 fc14 fv14 fb14 ne14
  have F14 : Own.Str G.Z h14 o14 [32, 105, 110, 115, 101, 114, 116, 101, 100, 61] := ⟨fa14, fc14, by decide, by decide, b14, q14, fv14, fb14⟩
  have X16 : Ext h13 h14 := E14
  have ZE15 := (Z13.ext X16).exa
  refine Own.callV W14 (tw hw 92 rfl) (tw hw 93 rfl) (fun s q => notFace_of_selects (args := #[]) (mvT (s := s) q (tw hw 95 rfl))) (tw hw 95 rfl) (tw hw 94 rfl) (by decide) (argsL := [(.ref o14)]) (rest := []) (Own.Con.pay (con_appG hw hEL hmem hS hcz W14.old (Nat.le_trans W0.n0 (Nat.le_of_eq g1.symm)) (Nat.le_trans W0.n0 (Nat.le_trans X10.1 g13)) (Nat.ne_of_lt (Nat.lt_of_lt_of_le A1.lt (Nat.le_trans (Nat.le_trans (Nat.le_trans (Nat.le_trans (Nat.le_refl _) K2.1) E3.1) K7.1) g13))) (Z13.ext X16) hEN70 F14 (lb rfl) (lb rfl) (lb rfl)) W14 (tw hw 96 rfl) (tw hw 73 rfl) (len := 3) (wd := 0) (by decide) (by decide) (fun _ q => nomatch q)) ZE15 rfl (lenOf pd_21 rfl) rfl (lb rfl) d11_21 24 rfl 8 380 (lb rfl) (lb rfl) (lb rfl) (lb rfl) ?_
  intro v17 T17 h17 u17 W17 R17 hq
  obtain ⟨rfl, K17, b17, g17, F17⟩ := hq
  have Z17 : Own.SBd G.Z h17 o1 b17 70 [101, 118, 101, 110, 116, 115, 61, 45, 57, 50, 50, 51, 51, 55, 50, 48, 51, 54, 56, 53, 52, 55, 55, 53, 56, 48, 56, 32, 105, 110, 115, 101, 114, 116, 101, 100, 61] := F17
  show Own.Go _ _ _ _ _ 24 #[.val (.ref a)] [(.ref o1)]
  refine Own.aloadN W17 d11_24 25 rfl (.ref a) rfl rfl ?_
  have X18 : Ext h h13 := Own.Ext.kp X10 K13 (allS (Nat.le_of_eq g1.symm) all0)
  have X19 : Ext h h14 := Own.Ext.tr X18 E14
  have X20 : Ext h h17 := Own.Ext.kp X19 K17 (allS (Nat.le_of_eq g1.symm) all0)
  refine Own.getF W17 (tw hw 52 rfl) Via.refl (F_inserted.ext X20) d11_25 28 rfl ?_
  intro T21 W21
  have ZE22 := Z17.exa
  refine Own.callV W21 (tw hw 139 rfl) (tw hw 140 rfl) (fun s q => notFace_of_selects (args := #[]) (mvT (s := s) q (tw hw 142 rfl))) (tw hw 142 rfl) (tw hw 141 rfl) (by decide) (argsL := [(.long 9223372036854775807)]) (rest := []) (Own.Con.pay (con_apj hw hEL hmem hS hcz W21.old (Nat.le_trans W0.n0 (Nat.le_of_eq g1.symm)) (Nat.le_trans W0.n0 (Nat.le_trans X19.1 g17)) (Nat.ne_of_lt (Nat.lt_of_lt_of_le A1.lt (Nat.le_trans (Nat.le_trans (Nat.le_trans (Nat.le_trans (Nat.le_trans (Nat.le_trans (Nat.le_refl _) K2.1) E3.1) K7.1) K13.1) E14.1) g17))) Z17 hEN70 (lt_max hw hEL SDO DG1 SDT DG2) (lb rfl)) W21 (tw hw 143 rfl) (tw hw 73 rfl) (len := 3) (wd := 0) (by decide) (by decide) (fun _ q => nomatch q)) ZE22 rfl (lenOf pd_22 rfl) rfl (lb rfl) d11_28 31 rfl 8 380 (lb rfl) (lb rfl) (lb rfl) (lb rfl) ?_
  intro v23 T23 h23 u23 W23 R23 hq
  obtain ⟨rfl, K23, F23⟩ := hq
  have Z23 : Own.SBd G.Z h23 o1 b17 70 [101, 118, 101, 110, 116, 115, 61, 45, 57, 50, 50, 51, 51, 55, 50, 48, 51, 54, 56, 53, 52, 55, 55, 53, 56, 48, 56, 32, 105, 110, 115, 101, 114, 116, 101, 100, 61, 57, 50, 50, 51, 51, 55, 50, 48, 51, 54, 56, 53, 52, 55, 55, 53, 56, 48, 55] := F23
  show Own.Go _ _ _ _ _ 31 #[.val (.ref a)] [(.ref o1)]
  refine Own.ldcR W23 (tw hw 188 rfl) (Own.sAtomsN (wS hw)) (by rw [hE]; decide) (vs := [.int 32, .int 117, .int 112, .int 100, .int 97, .int 116, .int 101, .int 100, .int 61]) (z := (9 : Int32)) ⟨by decide, by decide⟩ (by decide) (by decide) d11_31 33 rfl 36 (by decide) (by decide) 10 420 (lb rfl) (lb rfl) (lb rfl) (lb rfl) ?_
  intro v24 T24 h24 o24 b24 q24 W24 R24 E24 fa24 fc24 fv24 fb24 ne24
  have F24 : Own.Str G.Z h24 o24 [32, 117, 112, 100, 97, 116, 101, 100, 61] := ⟨fa24, fc24, by decide, by decide, b24, q24, fv24, fb24⟩
  have X26 : Ext h23 h24 := E24
  have ZE25 := (Z23.ext X26).exa
  refine Own.callV W24 (tw hw 92 rfl) (tw hw 93 rfl) (fun s q => notFace_of_selects (args := #[]) (mvT (s := s) q (tw hw 95 rfl))) (tw hw 95 rfl) (tw hw 94 rfl) (by decide) (argsL := [(.ref o24)]) (rest := []) (Own.Con.pay (con_app hw hEL hmem hS hcz hEN70 W24.old (Nat.le_trans W0.n0 (Nat.le_of_eq g1.symm)) (Nat.le_trans W0.n0 (Nat.le_trans X19.1 g17)) (Nat.ne_of_lt (Nat.lt_of_lt_of_le A1.lt (Nat.le_trans (Nat.le_trans (Nat.le_trans (Nat.le_trans (Nat.le_trans (Nat.le_trans (Nat.le_refl _) K2.1) E3.1) K7.1) K13.1) E14.1) g17))) (Z23.ext X26) F24 (lb rfl)) W24 (tw hw 96 rfl) (tw hw 73 rfl) (len := 3) (wd := 0) (by decide) (by decide) (fun _ q => nomatch q)) ZE25 rfl (lenOf pd_21 rfl) rfl (lb rfl) d11_33 36 rfl 10 420 (lb rfl) (lb rfl) (lb rfl) (lb rfl) ?_
  intro v27 T27 h27 u27 W27 R27 hq
  obtain ⟨rfl, K27, F27⟩ := hq
  have Z27 : Own.SBd G.Z h27 o1 b17 70 [101, 118, 101, 110, 116, 115, 61, 45, 57, 50, 50, 51, 51, 55, 50, 48, 51, 54, 56, 53, 52, 55, 55, 53, 56, 48, 56, 32, 105, 110, 115, 101, 114, 116, 101, 100, 61, 57, 50, 50, 51, 51, 55, 50, 48, 51, 54, 56, 53, 52, 55, 55, 53, 56, 48, 55, 32, 117, 112, 100, 97, 116, 101, 100, 61] := F27
  show Own.Go _ _ _ _ _ 36 #[.val (.ref a)] [(.ref o1)]
  refine Own.aloadN W27 d11_36 37 rfl (.ref a) rfl rfl ?_
  have X28 : Ext h h23 := Own.Ext.kp X20 K23 (allS (Nat.le_of_eq g1.symm) (allS (Nat.le_trans X19.1 g17) all0))
  have X29 : Ext h h24 := Own.Ext.tr X28 E24
  have X30 : Ext h h27 := Own.Ext.kp X29 K27 (allS (Nat.le_of_eq g1.symm) (allS (Nat.le_trans X19.1 g17) all0))
  refine Own.getF W27 (tw hw 54 rfl) Via.refl (F_updated.ext X30) d11_37 40 rfl ?_
  intro T31 W31
  have ZE32 := Z27.exa
  refine Own.callV W31 (tw hw 139 rfl) (tw hw 140 rfl) (fun s q => notFace_of_selects (args := #[]) (mvT (s := s) q (tw hw 142 rfl))) (tw hw 142 rfl) (tw hw 141 rfl) (by decide) (argsL := [(.long (-1))]) (rest := []) (Own.Con.pay (con_apj hw hEL hmem hS hcz W31.old (Nat.le_trans W0.n0 (Nat.le_of_eq g1.symm)) (Nat.le_trans W0.n0 (Nat.le_trans X19.1 g17)) (Nat.ne_of_lt (Nat.lt_of_lt_of_le A1.lt (Nat.le_trans (Nat.le_trans (Nat.le_trans (Nat.le_trans (Nat.le_trans (Nat.le_trans (Nat.le_refl _) K2.1) E3.1) K7.1) K13.1) E14.1) g17))) Z27 hEN70 (lt_m1 hw hEL SDO DG1 SDT DG2) (lb rfl)) W31 (tw hw 143 rfl) (tw hw 73 rfl) (len := 3) (wd := 0) (by decide) (by decide) (fun _ q => nomatch q)) ZE32 rfl (lenOf pd_22 rfl) rfl (lb rfl) d11_40 43 rfl 10 420 (lb rfl) (lb rfl) (lb rfl) (lb rfl) ?_
  intro v33 T33 h33 u33 W33 R33 hq
  obtain ⟨rfl, K33, F33⟩ := hq
  have Z33 : Own.SBd G.Z h33 o1 b17 70 [101, 118, 101, 110, 116, 115, 61, 45, 57, 50, 50, 51, 51, 55, 50, 48, 51, 54, 56, 53, 52, 55, 55, 53, 56, 48, 56, 32, 105, 110, 115, 101, 114, 116, 101, 100, 61, 57, 50, 50, 51, 51, 55, 50, 48, 51, 54, 56, 53, 52, 55, 55, 53, 56, 48, 55, 32, 117, 112, 100, 97, 116, 101, 100, 61, 45, 49] := F33
  show Own.Go _ _ _ _ _ 43 #[.val (.ref a)] [(.ref o1)]
  refine Own.ldcR W33 (tw hw 189 rfl) (Own.sAtomsN (wS hw)) (by rw [hE]; decide) (vs := [.int 32, .int 114, .int 101, .int 115, .int 116, .int 111, .int 114, .int 101, .int 100, .int 61]) (z := (10 : Int32)) ⟨by decide, by decide⟩ (by decide) (by decide) d11_43 45 rfl 40 (by decide) (by decide) 12 464 (lb rfl) (lb rfl) (lb rfl) (lb rfl) ?_
  intro v34 T34 h34 o34 b34 q34 W34 R34 E34 fa34 fc34 fv34 fb34 ne34
  have F34 : Own.Str G.Z h34 o34 [32, 114, 101, 115, 116, 111, 114, 101, 100, 61] := ⟨fa34, fc34, by decide, by decide, b34, q34, fv34, fb34⟩
  have X36 : Ext h33 h34 := E34
  have ZE35 := (Z33.ext X36).exa
  refine Own.callV W34 (tw hw 92 rfl) (tw hw 93 rfl) (fun s q => notFace_of_selects (args := #[]) (mvT (s := s) q (tw hw 95 rfl))) (tw hw 95 rfl) (tw hw 94 rfl) (by decide) (argsL := [(.ref o34)]) (rest := []) (Own.Con.pay (con_appG hw hEL hmem hS hcz W34.old (Nat.le_trans W0.n0 (Nat.le_of_eq g1.symm)) (Nat.le_trans W0.n0 (Nat.le_trans X19.1 g17)) (Nat.ne_of_lt (Nat.lt_of_lt_of_le A1.lt (Nat.le_trans (Nat.le_trans (Nat.le_trans (Nat.le_trans (Nat.le_trans (Nat.le_trans (Nat.le_refl _) K2.1) E3.1) K7.1) K13.1) E14.1) g17))) (Z33.ext X36) hEN142 F34 (lb rfl) (lb rfl) (lb rfl)) W34 (tw hw 96 rfl) (tw hw 73 rfl) (len := 3) (wd := 0) (by decide) (by decide) (fun _ q => nomatch q)) ZE35 rfl (lenOf pd_21 rfl) rfl (lb rfl) d11_45 48 rfl 13 606 (lb rfl) (lb rfl) (lb rfl) (lb rfl) ?_
  intro v37 T37 h37 u37 W37 R37 hq
  obtain ⟨rfl, K37, b37, g37, F37⟩ := hq
  have Z37 : Own.SBd G.Z h37 o1 b37 142 [101, 118, 101, 110, 116, 115, 61, 45, 57, 50, 50, 51, 51, 55, 50, 48, 51, 54, 56, 53, 52, 55, 55, 53, 56, 48, 56, 32, 105, 110, 115, 101, 114, 116, 101, 100, 61, 57, 50, 50, 51, 51, 55, 50, 48, 51, 54, 56, 53, 52, 55, 55, 53, 56, 48, 55, 32, 117, 112, 100, 97, 116, 101, 100, 61, 45, 49, 32, 114, 101, 115, 116, 111, 114, 101, 100, 61] := F37
  show Own.Go _ _ _ _ _ 48 #[.val (.ref a)] [(.ref o1)]
  refine Own.aloadN W37 d11_48 49 rfl (.ref a) rfl rfl ?_
  have X38 : Ext h h33 := Own.Ext.kp X30 K33 (allS (Nat.le_of_eq g1.symm) (allS (Nat.le_trans X19.1 g17) all0))
  have X39 : Ext h h34 := Own.Ext.tr X38 E34
  have X40 : Ext h h37 := Own.Ext.kp X39 K37 (allS (Nat.le_of_eq g1.symm) all0)
  refine Own.getF W37 (tw hw 56 rfl) Via.refl (F_restored.ext X40) d11_49 52 rfl ?_
  intro T41 W41
  have ZE42 := Z37.exa
  refine Own.callV W41 (tw hw 139 rfl) (tw hw 140 rfl) (fun s q => notFace_of_selects (args := #[]) (mvT (s := s) q (tw hw 142 rfl))) (tw hw 142 rfl) (tw hw 141 rfl) (by decide) (argsL := [(.long 2147483648)]) (rest := []) (Own.Con.pay (con_apj hw hEL hmem hS hcz W41.old (Nat.le_trans W0.n0 (Nat.le_of_eq g1.symm)) (Nat.le_trans W0.n0 (Nat.le_trans X39.1 g37)) (Nat.ne_of_lt (Nat.lt_of_lt_of_le A1.lt (Nat.le_trans (Nat.le_trans (Nat.le_trans (Nat.le_trans (Nat.le_trans (Nat.le_trans (Nat.le_trans (Nat.le_trans (Nat.le_trans (Nat.le_trans (Nat.le_trans (Nat.le_trans (Nat.le_refl _) K2.1) E3.1) K7.1) K13.1) E14.1) K17.1) K23.1) E24.1) K27.1) K33.1) E34.1) g37))) Z37 hEN142 (lt_i31 hw hEL SDO DG1 SDT DG2) (lb rfl)) W41 (tw hw 143 rfl) (tw hw 73 rfl) (len := 3) (wd := 0) (by decide) (by decide) (fun _ q => nomatch q)) ZE42 rfl (lenOf pd_22 rfl) rfl (lb rfl) d11_52 55 rfl 13 606 (lb rfl) (lb rfl) (lb rfl) (lb rfl) ?_
  intro v43 T43 h43 u43 W43 R43 hq
  obtain ⟨rfl, K43, F43⟩ := hq
  have Z43 : Own.SBd G.Z h43 o1 b37 142 [101, 118, 101, 110, 116, 115, 61, 45, 57, 50, 50, 51, 51, 55, 50, 48, 51, 54, 56, 53, 52, 55, 55, 53, 56, 48, 56, 32, 105, 110, 115, 101, 114, 116, 101, 100, 61, 57, 50, 50, 51, 51, 55, 50, 48, 51, 54, 56, 53, 52, 55, 55, 53, 56, 48, 55, 32, 117, 112, 100, 97, 116, 101, 100, 61, 45, 49, 32, 114, 101, 115, 116, 111, 114, 101, 100, 61, 50, 49, 52, 55, 52, 56, 51, 54, 52, 56] := F43
  show Own.Go _ _ _ _ _ 55 #[.val (.ref a)] [(.ref o1)]
  refine Own.ldcR W43 (tw hw 190 rfl) (Own.sAtomsN (wS hw)) (by rw [hE]; decide) (vs := [.int 32, .int 100, .int 101, .int 108, .int 101, .int 116, .int 101, .int 100, .int 61]) (z := (9 : Int32)) ⟨by decide, by decide⟩ (by decide) (by decide) d11_55 57 rfl 36 (by decide) (by decide) 15 646 (lb rfl) (lb rfl) (lb rfl) (lb rfl) ?_
  intro v44 T44 h44 o44 b44 q44 W44 R44 E44 fa44 fc44 fv44 fb44 ne44
  have F44 : Own.Str G.Z h44 o44 [32, 100, 101, 108, 101, 116, 101, 100, 61] := ⟨fa44, fc44, by decide, by decide, b44, q44, fv44, fb44⟩
  have X46 : Ext h43 h44 := E44
  have ZE45 := (Z43.ext X46).exa
  refine Own.callV W44 (tw hw 92 rfl) (tw hw 93 rfl) (fun s q => notFace_of_selects (args := #[]) (mvT (s := s) q (tw hw 95 rfl))) (tw hw 95 rfl) (tw hw 94 rfl) (by decide) (argsL := [(.ref o44)]) (rest := []) (Own.Con.pay (con_app hw hEL hmem hS hcz hEN142 W44.old (Nat.le_trans W0.n0 (Nat.le_of_eq g1.symm)) (Nat.le_trans W0.n0 (Nat.le_trans X39.1 g37)) (Nat.ne_of_lt (Nat.lt_of_lt_of_le A1.lt (Nat.le_trans (Nat.le_trans (Nat.le_trans (Nat.le_trans (Nat.le_trans (Nat.le_trans (Nat.le_trans (Nat.le_trans (Nat.le_trans (Nat.le_trans (Nat.le_trans (Nat.le_trans (Nat.le_refl _) K2.1) E3.1) K7.1) K13.1) E14.1) K17.1) K23.1) E24.1) K27.1) K33.1) E34.1) g37))) (Z43.ext X46) F44 (lb rfl)) W44 (tw hw 96 rfl) (tw hw 73 rfl) (len := 3) (wd := 0) (by decide) (by decide) (fun _ q => nomatch q)) ZE45 rfl (lenOf pd_21 rfl) rfl (lb rfl) d11_57 60 rfl 15 646 (lb rfl) (lb rfl) (lb rfl) (lb rfl) ?_
  intro v47 T47 h47 u47 W47 R47 hq
  obtain ⟨rfl, K47, F47⟩ := hq
  have Z47 : Own.SBd G.Z h47 o1 b37 142 [101, 118, 101, 110, 116, 115, 61, 45, 57, 50, 50, 51, 51, 55, 50, 48, 51, 54, 56, 53, 52, 55, 55, 53, 56, 48, 56, 32, 105, 110, 115, 101, 114, 116, 101, 100, 61, 57, 50, 50, 51, 51, 55, 50, 48, 51, 54, 56, 53, 52, 55, 55, 53, 56, 48, 55, 32, 117, 112, 100, 97, 116, 101, 100, 61, 45, 49, 32, 114, 101, 115, 116, 111, 114, 101, 100, 61, 50, 49, 52, 55, 52, 56, 51, 54, 52, 56, 32, 100, 101, 108, 101, 116, 101, 100, 61] := F47
  show Own.Go _ _ _ _ _ 60 #[.val (.ref a)] [(.ref o1)]
  refine Own.aloadN W47 d11_60 61 rfl (.ref a) rfl rfl ?_
  have X48 : Ext h h43 := Own.Ext.kp X40 K43 (allS (Nat.le_of_eq g1.symm) (allS (Nat.le_trans X39.1 g37) all0))
  have X49 : Ext h h44 := Own.Ext.tr X48 E44
  have X50 : Ext h h47 := Own.Ext.kp X49 K47 (allS (Nat.le_of_eq g1.symm) (allS (Nat.le_trans X39.1 g37) all0))
  refine Own.getF W47 (tw hw 58 rfl) Via.refl (F_deleted.ext X50) d11_61 64 rfl ?_
  intro T51 W51
  have ZE52 := Z47.exa
  refine Own.callV W51 (tw hw 139 rfl) (tw hw 140 rfl) (fun s q => notFace_of_selects (args := #[]) (mvT (s := s) q (tw hw 142 rfl))) (tw hw 142 rfl) (tw hw 141 rfl) (by decide) (argsL := [(.long (-2147483649))]) (rest := []) (Own.Con.pay (con_apj hw hEL hmem hS hcz W51.old (Nat.le_trans W0.n0 (Nat.le_of_eq g1.symm)) (Nat.le_trans W0.n0 (Nat.le_trans X39.1 g37)) (Nat.ne_of_lt (Nat.lt_of_lt_of_le A1.lt (Nat.le_trans (Nat.le_trans (Nat.le_trans (Nat.le_trans (Nat.le_trans (Nat.le_trans (Nat.le_trans (Nat.le_trans (Nat.le_trans (Nat.le_trans (Nat.le_trans (Nat.le_trans (Nat.le_refl _) K2.1) E3.1) K7.1) K13.1) E14.1) K17.1) K23.1) E24.1) K27.1) K33.1) E34.1) g37))) Z47 hEN142 (lt_mi31 hw hEL SDO DG1 SDT DG2) (lb rfl)) W51 (tw hw 143 rfl) (tw hw 73 rfl) (len := 3) (wd := 0) (by decide) (by decide) (fun _ q => nomatch q)) ZE52 rfl (lenOf pd_22 rfl) rfl (lb rfl) d11_64 67 rfl 15 646 (lb rfl) (lb rfl) (lb rfl) (lb rfl) ?_
  intro v53 T53 h53 u53 W53 R53 hq
  obtain ⟨rfl, K53, F53⟩ := hq
  have Z53 : Own.SBd G.Z h53 o1 b37 142 [101, 118, 101, 110, 116, 115, 61, 45, 57, 50, 50, 51, 51, 55, 50, 48, 51, 54, 56, 53, 52, 55, 55, 53, 56, 48, 56, 32, 105, 110, 115, 101, 114, 116, 101, 100, 61, 57, 50, 50, 51, 51, 55, 50, 48, 51, 54, 56, 53, 52, 55, 55, 53, 56, 48, 55, 32, 117, 112, 100, 97, 116, 101, 100, 61, 45, 49, 32, 114, 101, 115, 116, 111, 114, 101, 100, 61, 50, 49, 52, 55, 52, 56, 51, 54, 52, 56, 32, 100, 101, 108, 101, 116, 101, 100, 61, 45, 50, 49, 52, 55, 52, 56, 51, 54, 52, 57] := F53
  show Own.Go _ _ _ _ _ 67 #[.val (.ref a)] [(.ref o1)]
  refine Own.ldcR W53 (tw hw 191 rfl) (Own.sAtomsN (wS hw)) (by rw [hE]; decide) (vs := [.int 32, .int 117, .int 110, .int 99, .int 104, .int 97, .int 110, .int 103, .int 101, .int 100, .int 61]) (z := (11 : Int32)) ⟨by decide, by decide⟩ (by decide) (by decide) d11_67 69 rfl 44 (by decide) (by decide) 17 694 (lb rfl) (lb rfl) (lb rfl) (lb rfl) ?_
  intro v54 T54 h54 o54 b54 q54 W54 R54 E54 fa54 fc54 fv54 fb54 ne54
  have F54 : Own.Str G.Z h54 o54 [32, 117, 110, 99, 104, 97, 110, 103, 101, 100, 61] := ⟨fa54, fc54, by decide, by decide, b54, q54, fv54, fb54⟩
  have X56 : Ext h53 h54 := E54
  have ZE55 := (Z53.ext X56).exa
  refine Own.callV W54 (tw hw 92 rfl) (tw hw 93 rfl) (fun s q => notFace_of_selects (args := #[]) (mvT (s := s) q (tw hw 95 rfl))) (tw hw 95 rfl) (tw hw 94 rfl) (by decide) (argsL := [(.ref o54)]) (rest := []) (Own.Con.pay (con_app hw hEL hmem hS hcz hEN142 W54.old (Nat.le_trans W0.n0 (Nat.le_of_eq g1.symm)) (Nat.le_trans W0.n0 (Nat.le_trans X39.1 g37)) (Nat.ne_of_lt (Nat.lt_of_lt_of_le A1.lt (Nat.le_trans (Nat.le_trans (Nat.le_trans (Nat.le_trans (Nat.le_trans (Nat.le_trans (Nat.le_trans (Nat.le_trans (Nat.le_trans (Nat.le_trans (Nat.le_trans (Nat.le_trans (Nat.le_refl _) K2.1) E3.1) K7.1) K13.1) E14.1) K17.1) K23.1) E24.1) K27.1) K33.1) E34.1) g37))) (Z53.ext X56) F54 (lb rfl)) W54 (tw hw 96 rfl) (tw hw 73 rfl) (len := 3) (wd := 0) (by decide) (by decide) (fun _ q => nomatch q)) ZE55 rfl (lenOf pd_21 rfl) rfl (lb rfl) d11_69 72 rfl 17 694 (lb rfl) (lb rfl) (lb rfl) (lb rfl) ?_
  intro v57 T57 h57 u57 W57 R57 hq
  obtain ⟨rfl, K57, F57⟩ := hq
  have Z57 : Own.SBd G.Z h57 o1 b37 142 [101, 118, 101, 110, 116, 115, 61, 45, 57, 50, 50, 51, 51, 55, 50, 48, 51, 54, 56, 53, 52, 55, 55, 53, 56, 48, 56, 32, 105, 110, 115, 101, 114, 116, 101, 100, 61, 57, 50, 50, 51, 51, 55, 50, 48, 51, 54, 56, 53, 52, 55, 55, 53, 56, 48, 55, 32, 117, 112, 100, 97, 116, 101, 100, 61, 45, 49, 32, 114, 101, 115, 116, 111, 114, 101, 100, 61, 50, 49, 52, 55, 52, 56, 51, 54, 52, 56, 32, 100, 101, 108, 101, 116, 101, 100, 61, 45, 50, 49, 52, 55, 52, 56, 51, 54, 52, 57, 32, 117, 110, 99, 104, 97, 110, 103, 101, 100, 61] := F57
  show Own.Go _ _ _ _ _ 72 #[.val (.ref a)] [(.ref o1)]
  refine Own.aloadN W57 d11_72 73 rfl (.ref a) rfl rfl ?_
  have X58 : Ext h h53 := Own.Ext.kp X50 K53 (allS (Nat.le_of_eq g1.symm) (allS (Nat.le_trans X39.1 g37) all0))
  have X59 : Ext h h54 := Own.Ext.tr X58 E54
  have X60 : Ext h h57 := Own.Ext.kp X59 K57 (allS (Nat.le_of_eq g1.symm) (allS (Nat.le_trans X39.1 g37) all0))
  refine Own.getF W57 (tw hw 60 rfl) Via.refl (F_unchanged.ext X60) d11_73 76 rfl ?_
  intro T61 W61
  have ZE62 := Z57.exa
  refine Own.callV W61 (tw hw 139 rfl) (tw hw 140 rfl) (fun s q => notFace_of_selects (args := #[]) (mvT (s := s) q (tw hw 142 rfl))) (tw hw 142 rfl) (tw hw 141 rfl) (by decide) (argsL := [(.long 0)]) (rest := []) (Own.Con.pay (con_apj hw hEL hmem hS hcz W61.old (Nat.le_trans W0.n0 (Nat.le_of_eq g1.symm)) (Nat.le_trans W0.n0 (Nat.le_trans X39.1 g37)) (Nat.ne_of_lt (Nat.lt_of_lt_of_le A1.lt (Nat.le_trans (Nat.le_trans (Nat.le_trans (Nat.le_trans (Nat.le_trans (Nat.le_trans (Nat.le_trans (Nat.le_trans (Nat.le_trans (Nat.le_trans (Nat.le_trans (Nat.le_trans (Nat.le_refl _) K2.1) E3.1) K7.1) K13.1) E14.1) K17.1) K23.1) E24.1) K27.1) K33.1) E34.1) g37))) Z57 hEN142 (lt_z hw hEL SDO DG1 SDT DG2) (lb rfl)) W61 (tw hw 143 rfl) (tw hw 73 rfl) (len := 3) (wd := 0) (by decide) (by decide) (fun _ q => nomatch q)) ZE62 rfl (lenOf pd_22 rfl) rfl (lb rfl) d11_76 79 rfl 17 694 (lb rfl) (lb rfl) (lb rfl) (lb rfl) ?_
  intro v63 T63 h63 u63 W63 R63 hq
  obtain ⟨rfl, K63, F63⟩ := hq
  have Z63 : Own.SBd G.Z h63 o1 b37 142 [101, 118, 101, 110, 116, 115, 61, 45, 57, 50, 50, 51, 51, 55, 50, 48, 51, 54, 56, 53, 52, 55, 55, 53, 56, 48, 56, 32, 105, 110, 115, 101, 114, 116, 101, 100, 61, 57, 50, 50, 51, 51, 55, 50, 48, 51, 54, 56, 53, 52, 55, 55, 53, 56, 48, 55, 32, 117, 112, 100, 97, 116, 101, 100, 61, 45, 49, 32, 114, 101, 115, 116, 111, 114, 101, 100, 61, 50, 49, 52, 55, 52, 56, 51, 54, 52, 56, 32, 100, 101, 108, 101, 116, 101, 100, 61, 45, 50, 49, 52, 55, 52, 56, 51, 54, 52, 57, 32, 117, 110, 99, 104, 97, 110, 103, 101, 100, 61, 48] := F63
  show Own.Go _ _ _ _ _ 79 #[.val (.ref a)] [(.ref o1)]
  refine Own.ldcR W63 (tw hw 192 rfl) (Own.sAtomsN (wS hw)) (by rw [hE]; decide) (vs := [.int 32, .int 115, .int 116, .int 97, .int 108, .int 101, .int 61]) (z := (7 : Int32)) ⟨by decide, by decide⟩ (by decide) (by decide) d11_79 81 rfl 28 (by decide) (by decide) 19 726 (lb rfl) (lb rfl) (lb rfl) (lb rfl) ?_
  intro v64 T64 h64 o64 b64 q64 W64 R64 E64 fa64 fc64 fv64 fb64 ne64
  have F64 : Own.Str G.Z h64 o64 [32, 115, 116, 97, 108, 101, 61] := ⟨fa64, fc64, by decide, by decide, b64, q64, fv64, fb64⟩
  have X66 : Ext h63 h64 := E64
  have ZE65 := (Z63.ext X66).exa
  refine Own.callV W64 (tw hw 92 rfl) (tw hw 93 rfl) (fun s q => notFace_of_selects (args := #[]) (mvT (s := s) q (tw hw 95 rfl))) (tw hw 95 rfl) (tw hw 94 rfl) (by decide) (argsL := [(.ref o64)]) (rest := []) (Own.Con.pay (con_app hw hEL hmem hS hcz hEN142 W64.old (Nat.le_trans W0.n0 (Nat.le_of_eq g1.symm)) (Nat.le_trans W0.n0 (Nat.le_trans X39.1 g37)) (Nat.ne_of_lt (Nat.lt_of_lt_of_le A1.lt (Nat.le_trans (Nat.le_trans (Nat.le_trans (Nat.le_trans (Nat.le_trans (Nat.le_trans (Nat.le_trans (Nat.le_trans (Nat.le_trans (Nat.le_trans (Nat.le_trans (Nat.le_trans (Nat.le_refl _) K2.1) E3.1) K7.1) K13.1) E14.1) K17.1) K23.1) E24.1) K27.1) K33.1) E34.1) g37))) (Z63.ext X66) F64 (lb rfl)) W64 (tw hw 96 rfl) (tw hw 73 rfl) (len := 3) (wd := 0) (by decide) (by decide) (fun _ q => nomatch q)) ZE65 rfl (lenOf pd_21 rfl) rfl (lb rfl) d11_81 84 rfl 19 726 (lb rfl) (lb rfl) (lb rfl) (lb rfl) ?_
  intro v67 T67 h67 u67 W67 R67 hq
  obtain ⟨rfl, K67, F67⟩ := hq
  have Z67 : Own.SBd G.Z h67 o1 b37 142 [101, 118, 101, 110, 116, 115, 61, 45, 57, 50, 50, 51, 51, 55, 50, 48, 51, 54, 56, 53, 52, 55, 55, 53, 56, 48, 56, 32, 105, 110, 115, 101, 114, 116, 101, 100, 61, 57, 50, 50, 51, 51, 55, 50, 48, 51, 54, 56, 53, 52, 55, 55, 53, 56, 48, 55, 32, 117, 112, 100, 97, 116, 101, 100, 61, 45, 49, 32, 114, 101, 115, 116, 111, 114, 101, 100, 61, 50, 49, 52, 55, 52, 56, 51, 54, 52, 56, 32, 100, 101, 108, 101, 116, 101, 100, 61, 45, 50, 49, 52, 55, 52, 56, 51, 54, 52, 57, 32, 117, 110, 99, 104, 97, 110, 103, 101, 100, 61, 48, 32, 115, 116, 97, 108, 101, 61] := F67
  show Own.Go _ _ _ _ _ 84 #[.val (.ref a)] [(.ref o1)]
  refine Own.aloadN W67 d11_84 85 rfl (.ref a) rfl rfl ?_
  have X68 : Ext h h63 := Own.Ext.kp X60 K63 (allS (Nat.le_of_eq g1.symm) (allS (Nat.le_trans X39.1 g37) all0))
  have X69 : Ext h h64 := Own.Ext.tr X68 E64
  have X70 : Ext h h67 := Own.Ext.kp X69 K67 (allS (Nat.le_of_eq g1.symm) (allS (Nat.le_trans X39.1 g37) all0))
  refine Own.getF W67 (tw hw 62 rfl) Via.refl (F_stale.ext X70) d11_85 88 rfl ?_
  intro T71 W71
  have ZE72 := Z67.exa
  refine Own.callV W71 (tw hw 139 rfl) (tw hw 140 rfl) (fun s q => notFace_of_selects (args := #[]) (mvT (s := s) q (tw hw 142 rfl))) (tw hw 142 rfl) (tw hw 141 rfl) (by decide) (argsL := [(.long 1)]) (rest := []) (Own.Con.pay (con_apj hw hEL hmem hS hcz W71.old (Nat.le_trans W0.n0 (Nat.le_of_eq g1.symm)) (Nat.le_trans W0.n0 (Nat.le_trans X39.1 g37)) (Nat.ne_of_lt (Nat.lt_of_lt_of_le A1.lt (Nat.le_trans (Nat.le_trans (Nat.le_trans (Nat.le_trans (Nat.le_trans (Nat.le_trans (Nat.le_trans (Nat.le_trans (Nat.le_trans (Nat.le_trans (Nat.le_trans (Nat.le_trans (Nat.le_refl _) K2.1) E3.1) K7.1) K13.1) E14.1) K17.1) K23.1) E24.1) K27.1) K33.1) E34.1) g37))) Z67 hEN142 (lt_one hw hEL SDO DG1 SDT DG2) (lb rfl)) W71 (tw hw 143 rfl) (tw hw 73 rfl) (len := 3) (wd := 0) (by decide) (by decide) (fun _ q => nomatch q)) ZE72 rfl (lenOf pd_22 rfl) rfl (lb rfl) d11_88 91 rfl 19 726 (lb rfl) (lb rfl) (lb rfl) (lb rfl) ?_
  intro v73 T73 h73 u73 W73 R73 hq
  obtain ⟨rfl, K73, F73⟩ := hq
  have Z73 : Own.SBd G.Z h73 o1 b37 142 [101, 118, 101, 110, 116, 115, 61, 45, 57, 50, 50, 51, 51, 55, 50, 48, 51, 54, 56, 53, 52, 55, 55, 53, 56, 48, 56, 32, 105, 110, 115, 101, 114, 116, 101, 100, 61, 57, 50, 50, 51, 51, 55, 50, 48, 51, 54, 56, 53, 52, 55, 55, 53, 56, 48, 55, 32, 117, 112, 100, 97, 116, 101, 100, 61, 45, 49, 32, 114, 101, 115, 116, 111, 114, 101, 100, 61, 50, 49, 52, 55, 52, 56, 51, 54, 52, 56, 32, 100, 101, 108, 101, 116, 101, 100, 61, 45, 50, 49, 52, 55, 52, 56, 51, 54, 52, 57, 32, 117, 110, 99, 104, 97, 110, 103, 101, 100, 61, 48, 32, 115, 116, 97, 108, 101, 61, 49] := F73
  show Own.Go _ _ _ _ _ 91 #[.val (.ref a)] [(.ref o1)]
  refine Own.ldcR W73 (tw hw 193 rfl) (Own.sAtomsN (wS hw)) (by rw [hE]; decide) (vs := [.int 32, .int 115, .int 107, .int 105, .int 112, .int 112, .int 101, .int 100, .int 61]) (z := (9 : Int32)) ⟨by decide, by decide⟩ (by decide) (by decide) d11_91 93 rfl 36 (by decide) (by decide) 21 766 (lb rfl) (lb rfl) (lb rfl) (lb rfl) ?_
  intro v74 T74 h74 o74 b74 q74 W74 R74 E74 fa74 fc74 fv74 fb74 ne74
  have F74 : Own.Str G.Z h74 o74 [32, 115, 107, 105, 112, 112, 101, 100, 61] := ⟨fa74, fc74, by decide, by decide, b74, q74, fv74, fb74⟩
  have X76 : Ext h73 h74 := E74
  have ZE75 := (Z73.ext X76).exa
  refine Own.callV W74 (tw hw 92 rfl) (tw hw 93 rfl) (fun s q => notFace_of_selects (args := #[]) (mvT (s := s) q (tw hw 95 rfl))) (tw hw 95 rfl) (tw hw 94 rfl) (by decide) (argsL := [(.ref o74)]) (rest := []) (Own.Con.pay (con_app hw hEL hmem hS hcz hEN142 W74.old (Nat.le_trans W0.n0 (Nat.le_of_eq g1.symm)) (Nat.le_trans W0.n0 (Nat.le_trans X39.1 g37)) (Nat.ne_of_lt (Nat.lt_of_lt_of_le A1.lt (Nat.le_trans (Nat.le_trans (Nat.le_trans (Nat.le_trans (Nat.le_trans (Nat.le_trans (Nat.le_trans (Nat.le_trans (Nat.le_trans (Nat.le_trans (Nat.le_trans (Nat.le_trans (Nat.le_refl _) K2.1) E3.1) K7.1) K13.1) E14.1) K17.1) K23.1) E24.1) K27.1) K33.1) E34.1) g37))) (Z73.ext X76) F74 (lb rfl)) W74 (tw hw 96 rfl) (tw hw 73 rfl) (len := 3) (wd := 0) (by decide) (by decide) (fun _ q => nomatch q)) ZE75 rfl (lenOf pd_21 rfl) rfl (lb rfl) d11_93 96 rfl 21 766 (lb rfl) (lb rfl) (lb rfl) (lb rfl) ?_
  intro v77 T77 h77 u77 W77 R77 hq
  obtain ⟨rfl, K77, F77⟩ := hq
  have Z77 : Own.SBd G.Z h77 o1 b37 142 [101, 118, 101, 110, 116, 115, 61, 45, 57, 50, 50, 51, 51, 55, 50, 48, 51, 54, 56, 53, 52, 55, 55, 53, 56, 48, 56, 32, 105, 110, 115, 101, 114, 116, 101, 100, 61, 57, 50, 50, 51, 51, 55, 50, 48, 51, 54, 56, 53, 52, 55, 55, 53, 56, 48, 55, 32, 117, 112, 100, 97, 116, 101, 100, 61, 45, 49, 32, 114, 101, 115, 116, 111, 114, 101, 100, 61, 50, 49, 52, 55, 52, 56, 51, 54, 52, 56, 32, 100, 101, 108, 101, 116, 101, 100, 61, 45, 50, 49, 52, 55, 52, 56, 51, 54, 52, 57, 32, 117, 110, 99, 104, 97, 110, 103, 101, 100, 61, 48, 32, 115, 116, 97, 108, 101, 61, 49, 32, 115, 107, 105, 112, 112, 101, 100, 61] := F77
  show Own.Go _ _ _ _ _ 96 #[.val (.ref a)] [(.ref o1)]
  refine Own.aloadN W77 d11_96 97 rfl (.ref a) rfl rfl ?_
  have X78 : Ext h h73 := Own.Ext.kp X70 K73 (allS (Nat.le_of_eq g1.symm) (allS (Nat.le_trans X39.1 g37) all0))
  have X79 : Ext h h74 := Own.Ext.tr X78 E74
  have X80 : Ext h h77 := Own.Ext.kp X79 K77 (allS (Nat.le_of_eq g1.symm) (allS (Nat.le_trans X39.1 g37) all0))
  refine Own.getF W77 (tw hw 64 rfl) Via.refl (F_skipped.ext X80) d11_97 100 rfl ?_
  intro T81 W81
  have ZE82 := Z77.exa
  refine Own.callV W81 (tw hw 139 rfl) (tw hw 140 rfl) (fun s q => notFace_of_selects (args := #[]) (mvT (s := s) q (tw hw 142 rfl))) (tw hw 142 rfl) (tw hw 141 rfl) (by decide) (argsL := [(.long 10)]) (rest := []) (Own.Con.pay (con_apj hw hEL hmem hS hcz W81.old (Nat.le_trans W0.n0 (Nat.le_of_eq g1.symm)) (Nat.le_trans W0.n0 (Nat.le_trans X39.1 g37)) (Nat.ne_of_lt (Nat.lt_of_lt_of_le A1.lt (Nat.le_trans (Nat.le_trans (Nat.le_trans (Nat.le_trans (Nat.le_trans (Nat.le_trans (Nat.le_trans (Nat.le_trans (Nat.le_trans (Nat.le_trans (Nat.le_trans (Nat.le_trans (Nat.le_refl _) K2.1) E3.1) K7.1) K13.1) E14.1) K17.1) K23.1) E24.1) K27.1) K33.1) E34.1) g37))) Z77 hEN142 (lt_ten hw hEL SDO DG1 SDT DG2) (lb rfl)) W81 (tw hw 143 rfl) (tw hw 73 rfl) (len := 3) (wd := 0) (by decide) (by decide) (fun _ q => nomatch q)) ZE82 rfl (lenOf pd_22 rfl) rfl (lb rfl) d11_100 103 rfl 21 766 (lb rfl) (lb rfl) (lb rfl) (lb rfl) ?_
  intro v83 T83 h83 u83 W83 R83 hq
  obtain ⟨rfl, K83, F83⟩ := hq
  have Z83 : Own.SBd G.Z h83 o1 b37 142 [101, 118, 101, 110, 116, 115, 61, 45, 57, 50, 50, 51, 51, 55, 50, 48, 51, 54, 56, 53, 52, 55, 55, 53, 56, 48, 56, 32, 105, 110, 115, 101, 114, 116, 101, 100, 61, 57, 50, 50, 51, 51, 55, 50, 48, 51, 54, 56, 53, 52, 55, 55, 53, 56, 48, 55, 32, 117, 112, 100, 97, 116, 101, 100, 61, 45, 49, 32, 114, 101, 115, 116, 111, 114, 101, 100, 61, 50, 49, 52, 55, 52, 56, 51, 54, 52, 56, 32, 100, 101, 108, 101, 116, 101, 100, 61, 45, 50, 49, 52, 55, 52, 56, 51, 54, 52, 57, 32, 117, 110, 99, 104, 97, 110, 103, 101, 100, 61, 48, 32, 115, 116, 97, 108, 101, 61, 49, 32, 115, 107, 105, 112, 112, 101, 100, 61, 49, 48] := F83
  show Own.Go _ _ _ _ _ 103 #[.val (.ref a)] [(.ref o1)]
  have ZE84 := Z83.exa
  refine Own.callV W83 (tw hw 194 rfl) (tw hw 195 rfl) (fun s q => notFace_of_selects (args := #[]) (mvT (s := s) q (tw hw 197 rfl))) (tw hw 197 rfl) (tw hw 196 rfl) (by decide) (argsL := []) (rest := []) (Own.Con.pay (con_tos hw hEL hmem hS hcz W83.old Z83 (lb rfl) (lb rfl)) W83 (tw hw 198 rfl) (tw hw 73 rfl) (len := 3) (wd := 0) (by decide) (by decide) (fun _ q => nomatch q)) ZE84 rfl (lenOf pd_23 rfl) rfl (lb rfl) d11_103 106 rfl 23 912 (lb rfl) (lb rfl) (lb rfl) (lb rfl) ?_
  intro v85 T85 h85 u85 W85 R85 hq
  obtain ⟨o85, rfl, E85, g85, S85⟩ := hq
  show Own.Go _ _ _ _ _ 106 #[.val (.ref a)] [(.ref o85)]
  have X86 : Ext h h83 := Own.Ext.kp X80 K83 (allS (Nat.le_of_eq g1.symm) (allS (Nat.le_trans X39.1 g37) all0))
  have X87 : Ext h h85 := Own.Ext.tr X86 E85
  exact Own.retA W85 (by decide) (by decide) rfl rfl rfl d11_106 ⟨o85, rfl, X87, (Nat.le_trans X86.1 g85), S85⟩
set_option maxRecDepth 65536 in
set_option maxHeartbeats 40000000 in
theorem con_law {G : Own.Gl} (hw : ∀ d ∈ tables_1, d.before G.a0 G.Z = true) (hEL : EW G.Z G.a0 G.EL) (hmem : True) {cz : Int32} (hS : Sta G.Z G.Z.heap Own.ST "COMPACT_STRINGS" "Z" (.int cz)) (hcz : ¬ cz = 0) (hE : G.EL = consts_1) (hEN16 : Own.EN G.Z G.a0 G.EL 16) (hEN34 : Own.EN G.Z G.a0 G.EL 34) (hEN70 : Own.EN G.Z G.a0 G.EL 70) (hEN142 : Own.EN G.Z G.a0 G.EL 142) {dg1 : Addr} {kg1 : ClassId} (SDO : Sta G.Z G.Z.heap "java/lang/Integer" "DigitOnes" "[B" (.ref dg1)) (DG1 : Arv G.Z G.Z.heap dg1 kg1 .byte 100 (Own.digL Own.onesF) (.int 0)) {dg2 : Addr} {kg2 : ClassId} (SDT : Sta G.Z G.Z.heap "java/lang/Integer" "DigitTens" "[B" (.ref dg2)) (DG2 : Arv G.Z G.Z.heap dg2 kg2 .byte 100 (Own.digL Own.tensF) (.int 0)) (p0 : Int32) (p1 : Int32) (p2 : Int32) (p3 : Int32) {h : Heap} (hO : Old G.Z G.n0 h) :
    Own.Con G tables_1 bLaw #[.int p0, .int p1, .int p2, .int p3] h [] (fun v h' => v = some (.int 1)) := by
  refine Own.Con.intro (plainFor_of_name pn_0) hO hEL _ (fun m => ef_law m p0 p1 p2 p3) ?_
  intro X T0 W0 sf
  refine Own.iloadN W0 at_0 1 rfl p0 rfl ?_
  refine Own.ldcI W0 (tw hw 0 rfl) at_1 3 rfl ?_
  refine Own.iand W0 at_3 4 rfl ?_
  refine Own.bipush W0 at_4 6 rfl 99 rfl ?_
  refine Own.irem W0 at_6 7 rfl (by decide) ?_
  refine Own.istore W0 at_7 9 rfl #[.val (.int p0), .val (.int p1), .val (.int p2), .val (.int p3), .val (.int (kA p0)), .unset, .unset, .unset, .unset, .unset, .unset, .unset, .unset, .unset, .unset, .unset, .unset, .unset] rfl ?_
  refine Own.iloadN W0 at_9 10 rfl p0 rfl ?_
  refine Own.bipush W0 at_10 12 rfl 16 rfl ?_
  refine Own.iushr W0 at_12 13 rfl ?_
  refine Own.bipush W0 at_13 15 rfl 99 rfl ?_
  refine Own.irem W0 at_15 16 rfl (by decide) ?_
  refine Own.istore W0 at_16 18 rfl #[.val (.int p0), .val (.int p1), .val (.int p2), .val (.int p3), .val (.int (kA p0)), .val (.int (kB p0)), .unset, .unset, .unset, .unset, .unset, .unset, .unset, .unset, .unset, .unset, .unset, .unset] rfl ?_
  refine Own.iloadN W0 at_18 19 rfl p1 rfl ?_
  refine Own.ldcI W0 (tw hw 0 rfl) at_19 21 rfl ?_
  refine Own.iand W0 at_21 22 rfl ?_
  refine Own.bipush W0 at_22 24 rfl 99 rfl ?_
  refine Own.irem W0 at_24 25 rfl (by decide) ?_
  refine Own.istore W0 at_25 27 rfl #[.val (.int p0), .val (.int p1), .val (.int p2), .val (.int p3), .val (.int (kA p0)), .val (.int (kB p0)), .val (.int (kA p1)), .unset, .unset, .unset, .unset, .unset, .unset, .unset, .unset, .unset, .unset, .unset] rfl ?_
  refine Own.iloadN W0 at_27 28 rfl p1 rfl ?_
  refine Own.bipush W0 at_28 30 rfl 16 rfl ?_
  refine Own.iushr W0 at_30 31 rfl ?_
  refine Own.bipush W0 at_31 33 rfl 99 rfl ?_
  refine Own.irem W0 at_33 34 rfl (by decide) ?_
  refine Own.istore W0 at_34 36 rfl #[.val (.int p0), .val (.int p1), .val (.int p2), .val (.int p3), .val (.int (kA p0)), .val (.int (kB p0)), .val (.int (kA p1)), .val (.int (kB p1)), .unset, .unset, .unset, .unset, .unset, .unset, .unset, .unset, .unset, .unset] rfl ?_
  refine Own.iloadN W0 at_36 37 rfl p2 rfl ?_
  refine Own.ldcI W0 (tw hw 0 rfl) at_37 39 rfl ?_
  refine Own.iand W0 at_39 40 rfl ?_
  refine Own.bipush W0 at_40 42 rfl 99 rfl ?_
  refine Own.irem W0 at_42 43 rfl (by decide) ?_
  refine Own.istore W0 at_43 45 rfl #[.val (.int p0), .val (.int p1), .val (.int p2), .val (.int p3), .val (.int (kA p0)), .val (.int (kB p0)), .val (.int (kA p1)), .val (.int (kB p1)), .val (.int (kA p2)), .unset, .unset, .unset, .unset, .unset, .unset, .unset, .unset, .unset] rfl ?_
  refine Own.iloadN W0 at_45 46 rfl p2 rfl ?_
  refine Own.bipush W0 at_46 48 rfl 16 rfl ?_
  refine Own.iushr W0 at_48 49 rfl ?_
  refine Own.bipush W0 at_49 51 rfl 99 rfl ?_
  refine Own.irem W0 at_51 52 rfl (by decide) ?_
  refine Own.istore W0 at_52 54 rfl #[.val (.int p0), .val (.int p1), .val (.int p2), .val (.int p3), .val (.int (kA p0)), .val (.int (kB p0)), .val (.int (kA p1)), .val (.int (kB p1)), .val (.int (kA p2)), .val (.int (kB p2)), .unset, .unset, .unset, .unset, .unset, .unset, .unset, .unset] rfl ?_
  refine Own.iloadN W0 at_54 55 rfl p3 rfl ?_
  refine Own.ldcI W0 (tw hw 0 rfl) at_55 57 rfl ?_
  refine Own.iand W0 at_57 58 rfl ?_
  refine Own.bipush W0 at_58 60 rfl 99 rfl ?_
  refine Own.irem W0 at_60 61 rfl (by decide) ?_
  refine Own.istore W0 at_61 63 rfl #[.val (.int p0), .val (.int p1), .val (.int p2), .val (.int p3), .val (.int (kA p0)), .val (.int (kB p0)), .val (.int (kA p1)), .val (.int (kB p1)), .val (.int (kA p2)), .val (.int (kB p2)), .val (.int (kA p3)), .unset, .unset, .unset, .unset, .unset, .unset, .unset] rfl ?_
  refine Own.iloadN W0 at_63 64 rfl p3 rfl ?_
  refine Own.bipush W0 at_64 66 rfl 16 rfl ?_
  refine Own.iushr W0 at_66 67 rfl ?_
  refine Own.bipush W0 at_67 69 rfl 99 rfl ?_
  refine Own.irem W0 at_69 70 rfl (by decide) ?_
  refine Own.istore W0 at_70 72 rfl #[.val (.int p0), .val (.int p1), .val (.int p2), .val (.int p3), .val (.int (kA p0)), .val (.int (kB p0)), .val (.int (kA p1)), .val (.int (kB p1)), .val (.int (kA p2)), .val (.int (kB p2)), .val (.int (kA p3)), .val (.int (kB p3)), .unset, .unset, .unset, .unset, .unset, .unset] rfl ?_
  refine Own.bipush W0 at_72 74 rfl 88 rfl ?_
  refine Own.newA W0 (tw hw 1 rfl) at_74 76 rfl (by decide) 88 (by decide) (by decide) 1 88 (by decide) (by decide) (by decide) (by decide) ?_
  intro T1 h1 o1 c1 g1 W1 E1 A1 s1 k1
  have V1 : Arv G.Z h1 o1 c1 .char (88 : Int32) [.int 0, .int 0, .int 0, .int 0, .int 0, .int 0, .int 0, .int 0, .int 0, .int 0, .int 0, .int 0, .int 0, .int 0, .int 0, .int 0, .int 0, .int 0, .int 0, .int 0, .int 0, .int 0, .int 0, .int 0, .int 0, .int 0, .int 0, .int 0, .int 0, .int 0, .int 0, .int 0, .int 0, .int 0, .int 0, .int 0, .int 0, .int 0, .int 0, .int 0, .int 0, .int 0, .int 0, .int 0, .int 0, .int 0, .int 0, .int 0, .int 0, .int 0, .int 0, .int 0, .int 0, .int 0, .int 0, .int 0, .int 0, .int 0, .int 0, .int 0, .int 0, .int 0, .int 0, .int 0, .int 0, .int 0, .int 0, .int 0, .int 0, .int 0, .int 0, .int 0, .int 0, .int 0, .int 0, .int 0, .int 0, .int 0, .int 0, .int 0, .int 0, .int 0, .int 0, .int 0, .int 0, .int 0, .int 0, .int 0] (.int 0) := A1
  refine Own.dup W1 at_76 77 rfl rfl ?_
  refine Own.iconst W1 at_77 78 rfl 0 rfl ?_
  refine Own.bipush W1 at_78 80 rfl 101 rfl ?_
  refine Own.castore W1 V1 0 (by decide) (by decide) (lb rfl) (Nat.le_trans W0.n0 (Nat.le_of_eq g1.symm)) (x' := (101 : Int32)) (by decide) at_80 81 rfl ?_
  intro T2 h2 W2 Q2 A2 k2
  refine Own.dup W2 at_81 82 rfl rfl ?_
  refine Own.iconst W2 at_82 83 rfl 1 rfl ?_
  refine Own.bipush W2 at_83 85 rfl 118 rfl ?_
  refine Own.castore W2 A2 1 (by decide) (by decide) (lb rfl) (Nat.le_trans W0.n0 (Nat.le_of_eq g1.symm)) (x' := (118 : Int32)) (by decide) at_85 86 rfl ?_
  intro T3 h3 W3 Q3 A3 k3
  refine Own.dup W3 at_86 87 rfl rfl ?_
  refine Own.iconst W3 at_87 88 rfl 2 rfl ?_
  refine Own.bipush W3 at_88 90 rfl 101 rfl ?_
  refine Own.castore W3 A3 2 (by decide) (by decide) (lb rfl) (Nat.le_trans W0.n0 (Nat.le_of_eq g1.symm)) (x' := (101 : Int32)) (by decide) at_90 91 rfl ?_
  intro T4 h4 W4 Q4 A4 k4
  refine Own.dup W4 at_91 92 rfl rfl ?_
  refine Own.iconst W4 at_92 93 rfl 3 rfl ?_
  refine Own.bipush W4 at_93 95 rfl 110 rfl ?_
  refine Own.castore W4 A4 3 (by decide) (by decide) (lb rfl) (Nat.le_trans W0.n0 (Nat.le_of_eq g1.symm)) (x' := (110 : Int32)) (by decide) at_95 96 rfl ?_
  intro T5 h5 W5 Q5 A5 k5
  refine Own.dup W5 at_96 97 rfl rfl ?_
  refine Own.iconst W5 at_97 98 rfl 4 rfl ?_
  refine Own.bipush W5 at_98 100 rfl 116 rfl ?_
  refine Own.castore W5 A5 4 (by decide) (by decide) (lb rfl) (Nat.le_trans W0.n0 (Nat.le_of_eq g1.symm)) (x' := (116 : Int32)) (by decide) at_100 101 rfl ?_
  intro T6 h6 W6 Q6 A6 k6
  refine Own.dup W6 at_101 102 rfl rfl ?_
  refine Own.iconst W6 at_102 103 rfl 5 rfl ?_
  refine Own.bipush W6 at_103 105 rfl 115 rfl ?_
  refine Own.castore W6 A6 5 (by decide) (by decide) (lb rfl) (Nat.le_trans W0.n0 (Nat.le_of_eq g1.symm)) (x' := (115 : Int32)) (by decide) at_105 106 rfl ?_
  intro T7 h7 W7 Q7 A7 k7
  refine Own.dup W7 at_106 107 rfl rfl ?_
  refine Own.bipush W7 at_107 109 rfl 6 rfl ?_
  refine Own.bipush W7 at_109 111 rfl 61 rfl ?_
  refine Own.castore W7 A7 6 (by decide) (by decide) (lb rfl) (Nat.le_trans W0.n0 (Nat.le_of_eq g1.symm)) (x' := (61 : Int32)) (by decide) at_111 112 rfl ?_
  intro T8 h8 W8 Q8 A8 k8
  refine Own.dup W8 at_112 113 rfl rfl ?_
  refine Own.bipush W8 at_113 115 rfl 7 rfl ?_
  refine Own.bipush W8 at_115 117 rfl 95 rfl ?_
  refine Own.castore W8 A8 7 (by decide) (by decide) (lb rfl) (Nat.le_trans W0.n0 (Nat.le_of_eq g1.symm)) (x' := (95 : Int32)) (by decide) at_117 118 rfl ?_
  intro T9 h9 W9 Q9 A9 k9
  have V9 : Arv G.Z h9 o1 c1 .char (88 : Int32) [.int 101, .int 118, .int 101, .int 110, .int 116, .int 115, .int 61, .int 95, .int 0, .int 0, .int 0, .int 0, .int 0, .int 0, .int 0, .int 0, .int 0, .int 0, .int 0, .int 0, .int 0, .int 0, .int 0, .int 0, .int 0, .int 0, .int 0, .int 0, .int 0, .int 0, .int 0, .int 0, .int 0, .int 0, .int 0, .int 0, .int 0, .int 0, .int 0, .int 0, .int 0, .int 0, .int 0, .int 0, .int 0, .int 0, .int 0, .int 0, .int 0, .int 0, .int 0, .int 0, .int 0, .int 0, .int 0, .int 0, .int 0, .int 0, .int 0, .int 0, .int 0, .int 0, .int 0, .int 0, .int 0, .int 0, .int 0, .int 0, .int 0, .int 0, .int 0, .int 0, .int 0, .int 0, .int 0, .int 0, .int 0, .int 0, .int 0, .int 0, .int 0, .int 0, .int 0, .int 0, .int 0, .int 0, .int 0, .int 0] (.int 0) := A9
  refine Own.dup W9 at_118 119 rfl rfl ?_
  refine Own.bipush W9 at_119 121 rfl 8 rfl ?_
  refine Own.bipush W9 at_121 123 rfl 95 rfl ?_
  refine Own.castore W9 V9 8 (by decide) (by decide) (lb rfl) (Nat.le_trans W0.n0 (Nat.le_of_eq g1.symm)) (x' := (95 : Int32)) (by decide) at_123 124 rfl ?_
  intro T10 h10 W10 Q10 A10 k10
  refine Own.dup W10 at_124 125 rfl rfl ?_
  refine Own.bipush W10 at_125 127 rfl 9 rfl ?_
  refine Own.bipush W10 at_127 129 rfl 32 rfl ?_
  refine Own.castore W10 A10 9 (by decide) (by decide) (lb rfl) (Nat.le_trans W0.n0 (Nat.le_of_eq g1.symm)) (x' := (32 : Int32)) (by decide) at_129 130 rfl ?_
  intro T11 h11 W11 Q11 A11 k11
  refine Own.dup W11 at_130 131 rfl rfl ?_
  refine Own.bipush W11 at_131 133 rfl 10 rfl ?_
  refine Own.bipush W11 at_133 135 rfl 105 rfl ?_
  refine Own.castore W11 A11 10 (by decide) (by decide) (lb rfl) (Nat.le_trans W0.n0 (Nat.le_of_eq g1.symm)) (x' := (105 : Int32)) (by decide) at_135 136 rfl ?_
  intro T12 h12 W12 Q12 A12 k12
  refine Own.dup W12 at_136 137 rfl rfl ?_
  refine Own.bipush W12 at_137 139 rfl 11 rfl ?_
  refine Own.bipush W12 at_139 141 rfl 110 rfl ?_
  refine Own.castore W12 A12 11 (by decide) (by decide) (lb rfl) (Nat.le_trans W0.n0 (Nat.le_of_eq g1.symm)) (x' := (110 : Int32)) (by decide) at_141 142 rfl ?_
  intro T13 h13 W13 Q13 A13 k13
  refine Own.dup W13 at_142 143 rfl rfl ?_
  refine Own.bipush W13 at_143 145 rfl 12 rfl ?_
  refine Own.bipush W13 at_145 147 rfl 115 rfl ?_
  refine Own.castore W13 A13 12 (by decide) (by decide) (lb rfl) (Nat.le_trans W0.n0 (Nat.le_of_eq g1.symm)) (x' := (115 : Int32)) (by decide) at_147 148 rfl ?_
  intro T14 h14 W14 Q14 A14 k14
  refine Own.dup W14 at_148 149 rfl rfl ?_
  refine Own.bipush W14 at_149 151 rfl 13 rfl ?_
  refine Own.bipush W14 at_151 153 rfl 101 rfl ?_
  refine Own.castore W14 A14 13 (by decide) (by decide) (lb rfl) (Nat.le_trans W0.n0 (Nat.le_of_eq g1.symm)) (x' := (101 : Int32)) (by decide) at_153 154 rfl ?_
  intro T15 h15 W15 Q15 A15 k15
  refine Own.dup W15 at_154 155 rfl rfl ?_
  refine Own.bipush W15 at_155 157 rfl 14 rfl ?_
  refine Own.bipush W15 at_157 159 rfl 114 rfl ?_
  refine Own.castore W15 A15 14 (by decide) (by decide) (lb rfl) (Nat.le_trans W0.n0 (Nat.le_of_eq g1.symm)) (x' := (114 : Int32)) (by decide) at_159 160 rfl ?_
  intro T16 h16 W16 Q16 A16 k16
  refine Own.dup W16 at_160 161 rfl rfl ?_
  refine Own.bipush W16 at_161 163 rfl 15 rfl ?_
  refine Own.bipush W16 at_163 165 rfl 116 rfl ?_
  refine Own.castore W16 A16 15 (by decide) (by decide) (lb rfl) (Nat.le_trans W0.n0 (Nat.le_of_eq g1.symm)) (x' := (116 : Int32)) (by decide) at_165 166 rfl ?_
  intro T17 h17 W17 Q17 A17 k17
  have V17 : Arv G.Z h17 o1 c1 .char (88 : Int32) [.int 101, .int 118, .int 101, .int 110, .int 116, .int 115, .int 61, .int 95, .int 95, .int 32, .int 105, .int 110, .int 115, .int 101, .int 114, .int 116, .int 0, .int 0, .int 0, .int 0, .int 0, .int 0, .int 0, .int 0, .int 0, .int 0, .int 0, .int 0, .int 0, .int 0, .int 0, .int 0, .int 0, .int 0, .int 0, .int 0, .int 0, .int 0, .int 0, .int 0, .int 0, .int 0, .int 0, .int 0, .int 0, .int 0, .int 0, .int 0, .int 0, .int 0, .int 0, .int 0, .int 0, .int 0, .int 0, .int 0, .int 0, .int 0, .int 0, .int 0, .int 0, .int 0, .int 0, .int 0, .int 0, .int 0, .int 0, .int 0, .int 0, .int 0, .int 0, .int 0, .int 0, .int 0, .int 0, .int 0, .int 0, .int 0, .int 0, .int 0, .int 0, .int 0, .int 0, .int 0, .int 0, .int 0, .int 0, .int 0] (.int 0) := A17
  refine Own.dup W17 at_166 167 rfl rfl ?_
  refine Own.bipush W17 at_167 169 rfl 16 rfl ?_
  refine Own.bipush W17 at_169 171 rfl 101 rfl ?_
  refine Own.castore W17 V17 16 (by decide) (by decide) (lb rfl) (Nat.le_trans W0.n0 (Nat.le_of_eq g1.symm)) (x' := (101 : Int32)) (by decide) at_171 172 rfl ?_
  intro T18 h18 W18 Q18 A18 k18
  refine Own.dup W18 at_172 173 rfl rfl ?_
  refine Own.bipush W18 at_173 175 rfl 17 rfl ?_
  refine Own.bipush W18 at_175 177 rfl 100 rfl ?_
  refine Own.castore W18 A18 17 (by decide) (by decide) (lb rfl) (Nat.le_trans W0.n0 (Nat.le_of_eq g1.symm)) (x' := (100 : Int32)) (by decide) at_177 178 rfl ?_
  intro T19 h19 W19 Q19 A19 k19
  refine Own.dup W19 at_178 179 rfl rfl ?_
  refine Own.bipush W19 at_179 181 rfl 18 rfl ?_
  refine Own.bipush W19 at_181 183 rfl 61 rfl ?_
  refine Own.castore W19 A19 18 (by decide) (by decide) (lb rfl) (Nat.le_trans W0.n0 (Nat.le_of_eq g1.symm)) (x' := (61 : Int32)) (by decide) at_183 184 rfl ?_
  intro T20 h20 W20 Q20 A20 k20
  refine Own.dup W20 at_184 185 rfl rfl ?_
  refine Own.bipush W20 at_185 187 rfl 19 rfl ?_
  refine Own.bipush W20 at_187 189 rfl 95 rfl ?_
  refine Own.castore W20 A20 19 (by decide) (by decide) (lb rfl) (Nat.le_trans W0.n0 (Nat.le_of_eq g1.symm)) (x' := (95 : Int32)) (by decide) at_189 190 rfl ?_
  intro T21 h21 W21 Q21 A21 k21
  refine Own.dup W21 at_190 191 rfl rfl ?_
  refine Own.bipush W21 at_191 193 rfl 20 rfl ?_
  refine Own.bipush W21 at_193 195 rfl 95 rfl ?_
  refine Own.castore W21 A21 20 (by decide) (by decide) (lb rfl) (Nat.le_trans W0.n0 (Nat.le_of_eq g1.symm)) (x' := (95 : Int32)) (by decide) at_195 196 rfl ?_
  intro T22 h22 W22 Q22 A22 k22
  refine Own.dup W22 at_196 197 rfl rfl ?_
  refine Own.bipush W22 at_197 199 rfl 21 rfl ?_
  refine Own.bipush W22 at_199 201 rfl 32 rfl ?_
  refine Own.castore W22 A22 21 (by decide) (by decide) (lb rfl) (Nat.le_trans W0.n0 (Nat.le_of_eq g1.symm)) (x' := (32 : Int32)) (by decide) at_201 202 rfl ?_
  intro T23 h23 W23 Q23 A23 k23
  refine Own.dup W23 at_202 203 rfl rfl ?_
  refine Own.bipush W23 at_203 205 rfl 22 rfl ?_
  refine Own.bipush W23 at_205 207 rfl 117 rfl ?_
  refine Own.castore W23 A23 22 (by decide) (by decide) (lb rfl) (Nat.le_trans W0.n0 (Nat.le_of_eq g1.symm)) (x' := (117 : Int32)) (by decide) at_207 208 rfl ?_
  intro T24 h24 W24 Q24 A24 k24
  refine Own.dup W24 at_208 209 rfl rfl ?_
  refine Own.bipush W24 at_209 211 rfl 23 rfl ?_
  refine Own.bipush W24 at_211 213 rfl 112 rfl ?_
  refine Own.castore W24 A24 23 (by decide) (by decide) (lb rfl) (Nat.le_trans W0.n0 (Nat.le_of_eq g1.symm)) (x' := (112 : Int32)) (by decide) at_213 214 rfl ?_
  intro T25 h25 W25 Q25 A25 k25
  have V25 : Arv G.Z h25 o1 c1 .char (88 : Int32) [.int 101, .int 118, .int 101, .int 110, .int 116, .int 115, .int 61, .int 95, .int 95, .int 32, .int 105, .int 110, .int 115, .int 101, .int 114, .int 116, .int 101, .int 100, .int 61, .int 95, .int 95, .int 32, .int 117, .int 112, .int 0, .int 0, .int 0, .int 0, .int 0, .int 0, .int 0, .int 0, .int 0, .int 0, .int 0, .int 0, .int 0, .int 0, .int 0, .int 0, .int 0, .int 0, .int 0, .int 0, .int 0, .int 0, .int 0, .int 0, .int 0, .int 0, .int 0, .int 0, .int 0, .int 0, .int 0, .int 0, .int 0, .int 0, .int 0, .int 0, .int 0, .int 0, .int 0, .int 0, .int 0, .int 0, .int 0, .int 0, .int 0, .int 0, .int 0, .int 0, .int 0, .int 0, .int 0, .int 0, .int 0, .int 0, .int 0, .int 0, .int 0, .int 0, .int 0, .int 0, .int 0, .int 0, .int 0, .int 0] (.int 0) := A25
  refine Own.dup W25 at_214 215 rfl rfl ?_
  refine Own.bipush W25 at_215 217 rfl 24 rfl ?_
  refine Own.bipush W25 at_217 219 rfl 100 rfl ?_
  refine Own.castore W25 V25 24 (by decide) (by decide) (lb rfl) (Nat.le_trans W0.n0 (Nat.le_of_eq g1.symm)) (x' := (100 : Int32)) (by decide) at_219 220 rfl ?_
  intro T26 h26 W26 Q26 A26 k26
  refine Own.dup W26 at_220 221 rfl rfl ?_
  refine Own.bipush W26 at_221 223 rfl 25 rfl ?_
  refine Own.bipush W26 at_223 225 rfl 97 rfl ?_
  refine Own.castore W26 A26 25 (by decide) (by decide) (lb rfl) (Nat.le_trans W0.n0 (Nat.le_of_eq g1.symm)) (x' := (97 : Int32)) (by decide) at_225 226 rfl ?_
  intro T27 h27 W27 Q27 A27 k27
  refine Own.dup W27 at_226 227 rfl rfl ?_
  refine Own.bipush W27 at_227 229 rfl 26 rfl ?_
  refine Own.bipush W27 at_229 231 rfl 116 rfl ?_
  refine Own.castore W27 A27 26 (by decide) (by decide) (lb rfl) (Nat.le_trans W0.n0 (Nat.le_of_eq g1.symm)) (x' := (116 : Int32)) (by decide) at_231 232 rfl ?_
  intro T28 h28 W28 Q28 A28 k28
  refine Own.dup W28 at_232 233 rfl rfl ?_
  refine Own.bipush W28 at_233 235 rfl 27 rfl ?_
  refine Own.bipush W28 at_235 237 rfl 101 rfl ?_
  refine Own.castore W28 A28 27 (by decide) (by decide) (lb rfl) (Nat.le_trans W0.n0 (Nat.le_of_eq g1.symm)) (x' := (101 : Int32)) (by decide) at_237 238 rfl ?_
  intro T29 h29 W29 Q29 A29 k29
  refine Own.dup W29 at_238 239 rfl rfl ?_
  refine Own.bipush W29 at_239 241 rfl 28 rfl ?_
  refine Own.bipush W29 at_241 243 rfl 100 rfl ?_
  refine Own.castore W29 A29 28 (by decide) (by decide) (lb rfl) (Nat.le_trans W0.n0 (Nat.le_of_eq g1.symm)) (x' := (100 : Int32)) (by decide) at_243 244 rfl ?_
  intro T30 h30 W30 Q30 A30 k30
  refine Own.dup W30 at_244 245 rfl rfl ?_
  refine Own.bipush W30 at_245 247 rfl 29 rfl ?_
  refine Own.bipush W30 at_247 249 rfl 61 rfl ?_
  refine Own.castore W30 A30 29 (by decide) (by decide) (lb rfl) (Nat.le_trans W0.n0 (Nat.le_of_eq g1.symm)) (x' := (61 : Int32)) (by decide) at_249 250 rfl ?_
  intro T31 h31 W31 Q31 A31 k31
  refine Own.dup W31 at_250 251 rfl rfl ?_
  refine Own.bipush W31 at_251 253 rfl 30 rfl ?_
  refine Own.bipush W31 at_253 255 rfl 95 rfl ?_
  refine Own.castore W31 A31 30 (by decide) (by decide) (lb rfl) (Nat.le_trans W0.n0 (Nat.le_of_eq g1.symm)) (x' := (95 : Int32)) (by decide) at_255 256 rfl ?_
  intro T32 h32 W32 Q32 A32 k32
  refine Own.dup W32 at_256 257 rfl rfl ?_
  refine Own.bipush W32 at_257 259 rfl 31 rfl ?_
  refine Own.bipush W32 at_259 261 rfl 95 rfl ?_
  refine Own.castore W32 A32 31 (by decide) (by decide) (lb rfl) (Nat.le_trans W0.n0 (Nat.le_of_eq g1.symm)) (x' := (95 : Int32)) (by decide) at_261 262 rfl ?_
  intro T33 h33 W33 Q33 A33 k33
  have V33 : Arv G.Z h33 o1 c1 .char (88 : Int32) [.int 101, .int 118, .int 101, .int 110, .int 116, .int 115, .int 61, .int 95, .int 95, .int 32, .int 105, .int 110, .int 115, .int 101, .int 114, .int 116, .int 101, .int 100, .int 61, .int 95, .int 95, .int 32, .int 117, .int 112, .int 100, .int 97, .int 116, .int 101, .int 100, .int 61, .int 95, .int 95, .int 0, .int 0, .int 0, .int 0, .int 0, .int 0, .int 0, .int 0, .int 0, .int 0, .int 0, .int 0, .int 0, .int 0, .int 0, .int 0, .int 0, .int 0, .int 0, .int 0, .int 0, .int 0, .int 0, .int 0, .int 0, .int 0, .int 0, .int 0, .int 0, .int 0, .int 0, .int 0, .int 0, .int 0, .int 0, .int 0, .int 0, .int 0, .int 0, .int 0, .int 0, .int 0, .int 0, .int 0, .int 0, .int 0, .int 0, .int 0, .int 0, .int 0, .int 0, .int 0, .int 0, .int 0, .int 0, .int 0] (.int 0) := A33
  refine Own.dup W33 at_262 263 rfl rfl ?_
  refine Own.bipush W33 at_263 265 rfl 32 rfl ?_
  refine Own.bipush W33 at_265 267 rfl 32 rfl ?_
  refine Own.castore W33 V33 32 (by decide) (by decide) (lb rfl) (Nat.le_trans W0.n0 (Nat.le_of_eq g1.symm)) (x' := (32 : Int32)) (by decide) at_267 268 rfl ?_
  intro T34 h34 W34 Q34 A34 k34
  refine Own.dup W34 at_268 269 rfl rfl ?_
  refine Own.bipush W34 at_269 271 rfl 33 rfl ?_
  refine Own.bipush W34 at_271 273 rfl 114 rfl ?_
  refine Own.castore W34 A34 33 (by decide) (by decide) (lb rfl) (Nat.le_trans W0.n0 (Nat.le_of_eq g1.symm)) (x' := (114 : Int32)) (by decide) at_273 274 rfl ?_
  intro T35 h35 W35 Q35 A35 k35
  refine Own.dup W35 at_274 275 rfl rfl ?_
  refine Own.bipush W35 at_275 277 rfl 34 rfl ?_
  refine Own.bipush W35 at_277 279 rfl 101 rfl ?_
  refine Own.castore W35 A35 34 (by decide) (by decide) (lb rfl) (Nat.le_trans W0.n0 (Nat.le_of_eq g1.symm)) (x' := (101 : Int32)) (by decide) at_279 280 rfl ?_
  intro T36 h36 W36 Q36 A36 k36
  refine Own.dup W36 at_280 281 rfl rfl ?_
  refine Own.bipush W36 at_281 283 rfl 35 rfl ?_
  refine Own.bipush W36 at_283 285 rfl 115 rfl ?_
  refine Own.castore W36 A36 35 (by decide) (by decide) (lb rfl) (Nat.le_trans W0.n0 (Nat.le_of_eq g1.symm)) (x' := (115 : Int32)) (by decide) at_285 286 rfl ?_
  intro T37 h37 W37 Q37 A37 k37
  refine Own.dup W37 at_286 287 rfl rfl ?_
  refine Own.bipush W37 at_287 289 rfl 36 rfl ?_
  refine Own.bipush W37 at_289 291 rfl 116 rfl ?_
  refine Own.castore W37 A37 36 (by decide) (by decide) (lb rfl) (Nat.le_trans W0.n0 (Nat.le_of_eq g1.symm)) (x' := (116 : Int32)) (by decide) at_291 292 rfl ?_
  intro T38 h38 W38 Q38 A38 k38
  refine Own.dup W38 at_292 293 rfl rfl ?_
  refine Own.bipush W38 at_293 295 rfl 37 rfl ?_
  refine Own.bipush W38 at_295 297 rfl 111 rfl ?_
  refine Own.castore W38 A38 37 (by decide) (by decide) (lb rfl) (Nat.le_trans W0.n0 (Nat.le_of_eq g1.symm)) (x' := (111 : Int32)) (by decide) at_297 298 rfl ?_
  intro T39 h39 W39 Q39 A39 k39
  refine Own.dup W39 at_298 299 rfl rfl ?_
  refine Own.bipush W39 at_299 301 rfl 38 rfl ?_
  refine Own.bipush W39 at_301 303 rfl 114 rfl ?_
  refine Own.castore W39 A39 38 (by decide) (by decide) (lb rfl) (Nat.le_trans W0.n0 (Nat.le_of_eq g1.symm)) (x' := (114 : Int32)) (by decide) at_303 304 rfl ?_
  intro T40 h40 W40 Q40 A40 k40
  refine Own.dup W40 at_304 305 rfl rfl ?_
  refine Own.bipush W40 at_305 307 rfl 39 rfl ?_
  refine Own.bipush W40 at_307 309 rfl 101 rfl ?_
  refine Own.castore W40 A40 39 (by decide) (by decide) (lb rfl) (Nat.le_trans W0.n0 (Nat.le_of_eq g1.symm)) (x' := (101 : Int32)) (by decide) at_309 310 rfl ?_
  intro T41 h41 W41 Q41 A41 k41
  have V41 : Arv G.Z h41 o1 c1 .char (88 : Int32) [.int 101, .int 118, .int 101, .int 110, .int 116, .int 115, .int 61, .int 95, .int 95, .int 32, .int 105, .int 110, .int 115, .int 101, .int 114, .int 116, .int 101, .int 100, .int 61, .int 95, .int 95, .int 32, .int 117, .int 112, .int 100, .int 97, .int 116, .int 101, .int 100, .int 61, .int 95, .int 95, .int 32, .int 114, .int 101, .int 115, .int 116, .int 111, .int 114, .int 101, .int 0, .int 0, .int 0, .int 0, .int 0, .int 0, .int 0, .int 0, .int 0, .int 0, .int 0, .int 0, .int 0, .int 0, .int 0, .int 0, .int 0, .int 0, .int 0, .int 0, .int 0, .int 0, .int 0, .int 0, .int 0, .int 0, .int 0, .int 0, .int 0, .int 0, .int 0, .int 0, .int 0, .int 0, .int 0, .int 0, .int 0, .int 0, .int 0, .int 0, .int 0, .int 0, .int 0, .int 0, .int 0, .int 0, .int 0, .int 0] (.int 0) := A41
  refine Own.dup W41 at_310 311 rfl rfl ?_
  refine Own.bipush W41 at_311 313 rfl 40 rfl ?_
  refine Own.bipush W41 at_313 315 rfl 100 rfl ?_
  refine Own.castore W41 V41 40 (by decide) (by decide) (lb rfl) (Nat.le_trans W0.n0 (Nat.le_of_eq g1.symm)) (x' := (100 : Int32)) (by decide) at_315 316 rfl ?_
  intro T42 h42 W42 Q42 A42 k42
  refine Own.dup W42 at_316 317 rfl rfl ?_
  refine Own.bipush W42 at_317 319 rfl 41 rfl ?_
  refine Own.bipush W42 at_319 321 rfl 61 rfl ?_
  refine Own.castore W42 A42 41 (by decide) (by decide) (lb rfl) (Nat.le_trans W0.n0 (Nat.le_of_eq g1.symm)) (x' := (61 : Int32)) (by decide) at_321 322 rfl ?_
  intro T43 h43 W43 Q43 A43 k43
  refine Own.dup W43 at_322 323 rfl rfl ?_
  refine Own.bipush W43 at_323 325 rfl 42 rfl ?_
  refine Own.bipush W43 at_325 327 rfl 95 rfl ?_
  refine Own.castore W43 A43 42 (by decide) (by decide) (lb rfl) (Nat.le_trans W0.n0 (Nat.le_of_eq g1.symm)) (x' := (95 : Int32)) (by decide) at_327 328 rfl ?_
  intro T44 h44 W44 Q44 A44 k44
  refine Own.dup W44 at_328 329 rfl rfl ?_
  refine Own.bipush W44 at_329 331 rfl 43 rfl ?_
  refine Own.bipush W44 at_331 333 rfl 95 rfl ?_
  refine Own.castore W44 A44 43 (by decide) (by decide) (lb rfl) (Nat.le_trans W0.n0 (Nat.le_of_eq g1.symm)) (x' := (95 : Int32)) (by decide) at_333 334 rfl ?_
  intro T45 h45 W45 Q45 A45 k45
  refine Own.dup W45 at_334 335 rfl rfl ?_
  refine Own.bipush W45 at_335 337 rfl 44 rfl ?_
  refine Own.bipush W45 at_337 339 rfl 32 rfl ?_
  refine Own.castore W45 A45 44 (by decide) (by decide) (lb rfl) (Nat.le_trans W0.n0 (Nat.le_of_eq g1.symm)) (x' := (32 : Int32)) (by decide) at_339 340 rfl ?_
  intro T46 h46 W46 Q46 A46 k46
  refine Own.dup W46 at_340 341 rfl rfl ?_
  refine Own.bipush W46 at_341 343 rfl 45 rfl ?_
  refine Own.bipush W46 at_343 345 rfl 100 rfl ?_
  refine Own.castore W46 A46 45 (by decide) (by decide) (lb rfl) (Nat.le_trans W0.n0 (Nat.le_of_eq g1.symm)) (x' := (100 : Int32)) (by decide) at_345 346 rfl ?_
  intro T47 h47 W47 Q47 A47 k47
  refine Own.dup W47 at_346 347 rfl rfl ?_
  refine Own.bipush W47 at_347 349 rfl 46 rfl ?_
  refine Own.bipush W47 at_349 351 rfl 101 rfl ?_
  refine Own.castore W47 A47 46 (by decide) (by decide) (lb rfl) (Nat.le_trans W0.n0 (Nat.le_of_eq g1.symm)) (x' := (101 : Int32)) (by decide) at_351 352 rfl ?_
  intro T48 h48 W48 Q48 A48 k48
  refine Own.dup W48 at_352 353 rfl rfl ?_
  refine Own.bipush W48 at_353 355 rfl 47 rfl ?_
  refine Own.bipush W48 at_355 357 rfl 108 rfl ?_
  refine Own.castore W48 A48 47 (by decide) (by decide) (lb rfl) (Nat.le_trans W0.n0 (Nat.le_of_eq g1.symm)) (x' := (108 : Int32)) (by decide) at_357 358 rfl ?_
  intro T49 h49 W49 Q49 A49 k49
  have V49 : Arv G.Z h49 o1 c1 .char (88 : Int32) [.int 101, .int 118, .int 101, .int 110, .int 116, .int 115, .int 61, .int 95, .int 95, .int 32, .int 105, .int 110, .int 115, .int 101, .int 114, .int 116, .int 101, .int 100, .int 61, .int 95, .int 95, .int 32, .int 117, .int 112, .int 100, .int 97, .int 116, .int 101, .int 100, .int 61, .int 95, .int 95, .int 32, .int 114, .int 101, .int 115, .int 116, .int 111, .int 114, .int 101, .int 100, .int 61, .int 95, .int 95, .int 32, .int 100, .int 101, .int 108, .int 0, .int 0, .int 0, .int 0, .int 0, .int 0, .int 0, .int 0, .int 0, .int 0, .int 0, .int 0, .int 0, .int 0, .int 0, .int 0, .int 0, .int 0, .int 0, .int 0, .int 0, .int 0, .int 0, .int 0, .int 0, .int 0, .int 0, .int 0, .int 0, .int 0, .int 0, .int 0, .int 0, .int 0, .int 0, .int 0, .int 0, .int 0, .int 0, .int 0] (.int 0) := A49
  refine Own.dup W49 at_358 359 rfl rfl ?_
  refine Own.bipush W49 at_359 361 rfl 48 rfl ?_
  refine Own.bipush W49 at_361 363 rfl 101 rfl ?_
  refine Own.castore W49 V49 48 (by decide) (by decide) (lb rfl) (Nat.le_trans W0.n0 (Nat.le_of_eq g1.symm)) (x' := (101 : Int32)) (by decide) at_363 364 rfl ?_
  intro T50 h50 W50 Q50 A50 k50
  refine Own.dup W50 at_364 365 rfl rfl ?_
  refine Own.bipush W50 at_365 367 rfl 49 rfl ?_
  refine Own.bipush W50 at_367 369 rfl 116 rfl ?_
  refine Own.castore W50 A50 49 (by decide) (by decide) (lb rfl) (Nat.le_trans W0.n0 (Nat.le_of_eq g1.symm)) (x' := (116 : Int32)) (by decide) at_369 370 rfl ?_
  intro T51 h51 W51 Q51 A51 k51
  refine Own.dup W51 at_370 371 rfl rfl ?_
  refine Own.bipush W51 at_371 373 rfl 50 rfl ?_
  refine Own.bipush W51 at_373 375 rfl 101 rfl ?_
  refine Own.castore W51 A51 50 (by decide) (by decide) (lb rfl) (Nat.le_trans W0.n0 (Nat.le_of_eq g1.symm)) (x' := (101 : Int32)) (by decide) at_375 376 rfl ?_
  intro T52 h52 W52 Q52 A52 k52
  refine Own.dup W52 at_376 377 rfl rfl ?_
  refine Own.bipush W52 at_377 379 rfl 51 rfl ?_
  refine Own.bipush W52 at_379 381 rfl 100 rfl ?_
  refine Own.castore W52 A52 51 (by decide) (by decide) (lb rfl) (Nat.le_trans W0.n0 (Nat.le_of_eq g1.symm)) (x' := (100 : Int32)) (by decide) at_381 382 rfl ?_
  intro T53 h53 W53 Q53 A53 k53
  refine Own.dup W53 at_382 383 rfl rfl ?_
  refine Own.bipush W53 at_383 385 rfl 52 rfl ?_
  refine Own.bipush W53 at_385 387 rfl 61 rfl ?_
  refine Own.castore W53 A53 52 (by decide) (by decide) (lb rfl) (Nat.le_trans W0.n0 (Nat.le_of_eq g1.symm)) (x' := (61 : Int32)) (by decide) at_387 388 rfl ?_
  intro T54 h54 W54 Q54 A54 k54
  refine Own.dup W54 at_388 389 rfl rfl ?_
  refine Own.bipush W54 at_389 391 rfl 53 rfl ?_
  refine Own.bipush W54 at_391 393 rfl 95 rfl ?_
  refine Own.castore W54 A54 53 (by decide) (by decide) (lb rfl) (Nat.le_trans W0.n0 (Nat.le_of_eq g1.symm)) (x' := (95 : Int32)) (by decide) at_393 394 rfl ?_
  intro T55 h55 W55 Q55 A55 k55
  refine Own.dup W55 at_394 395 rfl rfl ?_
  refine Own.bipush W55 at_395 397 rfl 54 rfl ?_
  refine Own.bipush W55 at_397 399 rfl 95 rfl ?_
  refine Own.castore W55 A55 54 (by decide) (by decide) (lb rfl) (Nat.le_trans W0.n0 (Nat.le_of_eq g1.symm)) (x' := (95 : Int32)) (by decide) at_399 400 rfl ?_
  intro T56 h56 W56 Q56 A56 k56
  refine Own.dup W56 at_400 401 rfl rfl ?_
  refine Own.bipush W56 at_401 403 rfl 55 rfl ?_
  refine Own.bipush W56 at_403 405 rfl 32 rfl ?_
  refine Own.castore W56 A56 55 (by decide) (by decide) (lb rfl) (Nat.le_trans W0.n0 (Nat.le_of_eq g1.symm)) (x' := (32 : Int32)) (by decide) at_405 406 rfl ?_
  intro T57 h57 W57 Q57 A57 k57
  have V57 : Arv G.Z h57 o1 c1 .char (88 : Int32) [.int 101, .int 118, .int 101, .int 110, .int 116, .int 115, .int 61, .int 95, .int 95, .int 32, .int 105, .int 110, .int 115, .int 101, .int 114, .int 116, .int 101, .int 100, .int 61, .int 95, .int 95, .int 32, .int 117, .int 112, .int 100, .int 97, .int 116, .int 101, .int 100, .int 61, .int 95, .int 95, .int 32, .int 114, .int 101, .int 115, .int 116, .int 111, .int 114, .int 101, .int 100, .int 61, .int 95, .int 95, .int 32, .int 100, .int 101, .int 108, .int 101, .int 116, .int 101, .int 100, .int 61, .int 95, .int 95, .int 32, .int 0, .int 0, .int 0, .int 0, .int 0, .int 0, .int 0, .int 0, .int 0, .int 0, .int 0, .int 0, .int 0, .int 0, .int 0, .int 0, .int 0, .int 0, .int 0, .int 0, .int 0, .int 0, .int 0, .int 0, .int 0, .int 0, .int 0, .int 0, .int 0, .int 0, .int 0, .int 0] (.int 0) := A57
  refine Own.dup W57 at_406 407 rfl rfl ?_
  refine Own.bipush W57 at_407 409 rfl 56 rfl ?_
  refine Own.bipush W57 at_409 411 rfl 117 rfl ?_
  refine Own.castore W57 V57 56 (by decide) (by decide) (lb rfl) (Nat.le_trans W0.n0 (Nat.le_of_eq g1.symm)) (x' := (117 : Int32)) (by decide) at_411 412 rfl ?_
  intro T58 h58 W58 Q58 A58 k58
  refine Own.dup W58 at_412 413 rfl rfl ?_
  refine Own.bipush W58 at_413 415 rfl 57 rfl ?_
  refine Own.bipush W58 at_415 417 rfl 110 rfl ?_
  refine Own.castore W58 A58 57 (by decide) (by decide) (lb rfl) (Nat.le_trans W0.n0 (Nat.le_of_eq g1.symm)) (x' := (110 : Int32)) (by decide) at_417 418 rfl ?_
  intro T59 h59 W59 Q59 A59 k59
  refine Own.dup W59 at_418 419 rfl rfl ?_
  refine Own.bipush W59 at_419 421 rfl 58 rfl ?_
  refine Own.bipush W59 at_421 423 rfl 99 rfl ?_
  refine Own.castore W59 A59 58 (by decide) (by decide) (lb rfl) (Nat.le_trans W0.n0 (Nat.le_of_eq g1.symm)) (x' := (99 : Int32)) (by decide) at_423 424 rfl ?_
  intro T60 h60 W60 Q60 A60 k60
  refine Own.dup W60 at_424 425 rfl rfl ?_
  refine Own.bipush W60 at_425 427 rfl 59 rfl ?_
  refine Own.bipush W60 at_427 429 rfl 104 rfl ?_
  refine Own.castore W60 A60 59 (by decide) (by decide) (lb rfl) (Nat.le_trans W0.n0 (Nat.le_of_eq g1.symm)) (x' := (104 : Int32)) (by decide) at_429 430 rfl ?_
  intro T61 h61 W61 Q61 A61 k61
  refine Own.dup W61 at_430 431 rfl rfl ?_
  refine Own.bipush W61 at_431 433 rfl 60 rfl ?_
  refine Own.bipush W61 at_433 435 rfl 97 rfl ?_
  refine Own.castore W61 A61 60 (by decide) (by decide) (lb rfl) (Nat.le_trans W0.n0 (Nat.le_of_eq g1.symm)) (x' := (97 : Int32)) (by decide) at_435 436 rfl ?_
  intro T62 h62 W62 Q62 A62 k62
  refine Own.dup W62 at_436 437 rfl rfl ?_
  refine Own.bipush W62 at_437 439 rfl 61 rfl ?_
  refine Own.bipush W62 at_439 441 rfl 110 rfl ?_
  refine Own.castore W62 A62 61 (by decide) (by decide) (lb rfl) (Nat.le_trans W0.n0 (Nat.le_of_eq g1.symm)) (x' := (110 : Int32)) (by decide) at_441 442 rfl ?_
  intro T63 h63 W63 Q63 A63 k63
  refine Own.dup W63 at_442 443 rfl rfl ?_
  refine Own.bipush W63 at_443 445 rfl 62 rfl ?_
  refine Own.bipush W63 at_445 447 rfl 103 rfl ?_
  refine Own.castore W63 A63 62 (by decide) (by decide) (lb rfl) (Nat.le_trans W0.n0 (Nat.le_of_eq g1.symm)) (x' := (103 : Int32)) (by decide) at_447 448 rfl ?_
  intro T64 h64 W64 Q64 A64 k64
  refine Own.dup W64 at_448 449 rfl rfl ?_
  refine Own.bipush W64 at_449 451 rfl 63 rfl ?_
  refine Own.bipush W64 at_451 453 rfl 101 rfl ?_
  refine Own.castore W64 A64 63 (by decide) (by decide) (lb rfl) (Nat.le_trans W0.n0 (Nat.le_of_eq g1.symm)) (x' := (101 : Int32)) (by decide) at_453 454 rfl ?_
  intro T65 h65 W65 Q65 A65 k65
  have V65 : Arv G.Z h65 o1 c1 .char (88 : Int32) [.int 101, .int 118, .int 101, .int 110, .int 116, .int 115, .int 61, .int 95, .int 95, .int 32, .int 105, .int 110, .int 115, .int 101, .int 114, .int 116, .int 101, .int 100, .int 61, .int 95, .int 95, .int 32, .int 117, .int 112, .int 100, .int 97, .int 116, .int 101, .int 100, .int 61, .int 95, .int 95, .int 32, .int 114, .int 101, .int 115, .int 116, .int 111, .int 114, .int 101, .int 100, .int 61, .int 95, .int 95, .int 32, .int 100, .int 101, .int 108, .int 101, .int 116, .int 101, .int 100, .int 61, .int 95, .int 95, .int 32, .int 117, .int 110, .int 99, .int 104, .int 97, .int 110, .int 103, .int 101, .int 0, .int 0, .int 0, .int 0, .int 0, .int 0, .int 0, .int 0, .int 0, .int 0, .int 0, .int 0, .int 0, .int 0, .int 0, .int 0, .int 0, .int 0, .int 0, .int 0, .int 0, .int 0, .int 0, .int 0] (.int 0) := A65
  refine Own.dup W65 at_454 455 rfl rfl ?_
  refine Own.bipush W65 at_455 457 rfl 64 rfl ?_
  refine Own.bipush W65 at_457 459 rfl 100 rfl ?_
  refine Own.castore W65 V65 64 (by decide) (by decide) (lb rfl) (Nat.le_trans W0.n0 (Nat.le_of_eq g1.symm)) (x' := (100 : Int32)) (by decide) at_459 460 rfl ?_
  intro T66 h66 W66 Q66 A66 k66
  refine Own.dup W66 at_460 461 rfl rfl ?_
  refine Own.bipush W66 at_461 463 rfl 65 rfl ?_
  refine Own.bipush W66 at_463 465 rfl 61 rfl ?_
  refine Own.castore W66 A66 65 (by decide) (by decide) (lb rfl) (Nat.le_trans W0.n0 (Nat.le_of_eq g1.symm)) (x' := (61 : Int32)) (by decide) at_465 466 rfl ?_
  intro T67 h67 W67 Q67 A67 k67
  refine Own.dup W67 at_466 467 rfl rfl ?_
  refine Own.bipush W67 at_467 469 rfl 66 rfl ?_
  refine Own.bipush W67 at_469 471 rfl 95 rfl ?_
  refine Own.castore W67 A67 66 (by decide) (by decide) (lb rfl) (Nat.le_trans W0.n0 (Nat.le_of_eq g1.symm)) (x' := (95 : Int32)) (by decide) at_471 472 rfl ?_
  intro T68 h68 W68 Q68 A68 k68
  refine Own.dup W68 at_472 473 rfl rfl ?_
  refine Own.bipush W68 at_473 475 rfl 67 rfl ?_
  refine Own.bipush W68 at_475 477 rfl 95 rfl ?_
  refine Own.castore W68 A68 67 (by decide) (by decide) (lb rfl) (Nat.le_trans W0.n0 (Nat.le_of_eq g1.symm)) (x' := (95 : Int32)) (by decide) at_477 478 rfl ?_
  intro T69 h69 W69 Q69 A69 k69
  refine Own.dup W69 at_478 479 rfl rfl ?_
  refine Own.bipush W69 at_479 481 rfl 68 rfl ?_
  refine Own.bipush W69 at_481 483 rfl 32 rfl ?_
  refine Own.castore W69 A69 68 (by decide) (by decide) (lb rfl) (Nat.le_trans W0.n0 (Nat.le_of_eq g1.symm)) (x' := (32 : Int32)) (by decide) at_483 484 rfl ?_
  intro T70 h70 W70 Q70 A70 k70
  refine Own.dup W70 at_484 485 rfl rfl ?_
  refine Own.bipush W70 at_485 487 rfl 69 rfl ?_
  refine Own.bipush W70 at_487 489 rfl 115 rfl ?_
  refine Own.castore W70 A70 69 (by decide) (by decide) (lb rfl) (Nat.le_trans W0.n0 (Nat.le_of_eq g1.symm)) (x' := (115 : Int32)) (by decide) at_489 490 rfl ?_
  intro T71 h71 W71 Q71 A71 k71
  refine Own.dup W71 at_490 491 rfl rfl ?_
  refine Own.bipush W71 at_491 493 rfl 70 rfl ?_
  refine Own.bipush W71 at_493 495 rfl 116 rfl ?_
  refine Own.castore W71 A71 70 (by decide) (by decide) (lb rfl) (Nat.le_trans W0.n0 (Nat.le_of_eq g1.symm)) (x' := (116 : Int32)) (by decide) at_495 496 rfl ?_
  intro T72 h72 W72 Q72 A72 k72
  refine Own.dup W72 at_496 497 rfl rfl ?_
  refine Own.bipush W72 at_497 499 rfl 71 rfl ?_
  refine Own.bipush W72 at_499 501 rfl 97 rfl ?_
  refine Own.castore W72 A72 71 (by decide) (by decide) (lb rfl) (Nat.le_trans W0.n0 (Nat.le_of_eq g1.symm)) (x' := (97 : Int32)) (by decide) at_501 502 rfl ?_
  intro T73 h73 W73 Q73 A73 k73
  have V73 : Arv G.Z h73 o1 c1 .char (88 : Int32) [.int 101, .int 118, .int 101, .int 110, .int 116, .int 115, .int 61, .int 95, .int 95, .int 32, .int 105, .int 110, .int 115, .int 101, .int 114, .int 116, .int 101, .int 100, .int 61, .int 95, .int 95, .int 32, .int 117, .int 112, .int 100, .int 97, .int 116, .int 101, .int 100, .int 61, .int 95, .int 95, .int 32, .int 114, .int 101, .int 115, .int 116, .int 111, .int 114, .int 101, .int 100, .int 61, .int 95, .int 95, .int 32, .int 100, .int 101, .int 108, .int 101, .int 116, .int 101, .int 100, .int 61, .int 95, .int 95, .int 32, .int 117, .int 110, .int 99, .int 104, .int 97, .int 110, .int 103, .int 101, .int 100, .int 61, .int 95, .int 95, .int 32, .int 115, .int 116, .int 97, .int 0, .int 0, .int 0, .int 0, .int 0, .int 0, .int 0, .int 0, .int 0, .int 0, .int 0, .int 0, .int 0, .int 0, .int 0, .int 0] (.int 0) := A73
  refine Own.dup W73 at_502 503 rfl rfl ?_
  refine Own.bipush W73 at_503 505 rfl 72 rfl ?_
  refine Own.bipush W73 at_505 507 rfl 108 rfl ?_
  refine Own.castore W73 V73 72 (by decide) (by decide) (lb rfl) (Nat.le_trans W0.n0 (Nat.le_of_eq g1.symm)) (x' := (108 : Int32)) (by decide) at_507 508 rfl ?_
  intro T74 h74 W74 Q74 A74 k74
  refine Own.dup W74 at_508 509 rfl rfl ?_
  refine Own.bipush W74 at_509 511 rfl 73 rfl ?_
  refine Own.bipush W74 at_511 513 rfl 101 rfl ?_
  refine Own.castore W74 A74 73 (by decide) (by decide) (lb rfl) (Nat.le_trans W0.n0 (Nat.le_of_eq g1.symm)) (x' := (101 : Int32)) (by decide) at_513 514 rfl ?_
  intro T75 h75 W75 Q75 A75 k75
  refine Own.dup W75 at_514 515 rfl rfl ?_
  refine Own.bipush W75 at_515 517 rfl 74 rfl ?_
  refine Own.bipush W75 at_517 519 rfl 61 rfl ?_
  refine Own.castore W75 A75 74 (by decide) (by decide) (lb rfl) (Nat.le_trans W0.n0 (Nat.le_of_eq g1.symm)) (x' := (61 : Int32)) (by decide) at_519 520 rfl ?_
  intro T76 h76 W76 Q76 A76 k76
  refine Own.dup W76 at_520 521 rfl rfl ?_
  refine Own.bipush W76 at_521 523 rfl 75 rfl ?_
  refine Own.bipush W76 at_523 525 rfl 95 rfl ?_
  refine Own.castore W76 A76 75 (by decide) (by decide) (lb rfl) (Nat.le_trans W0.n0 (Nat.le_of_eq g1.symm)) (x' := (95 : Int32)) (by decide) at_525 526 rfl ?_
  intro T77 h77 W77 Q77 A77 k77
  refine Own.dup W77 at_526 527 rfl rfl ?_
  refine Own.bipush W77 at_527 529 rfl 76 rfl ?_
  refine Own.bipush W77 at_529 531 rfl 95 rfl ?_
  refine Own.castore W77 A77 76 (by decide) (by decide) (lb rfl) (Nat.le_trans W0.n0 (Nat.le_of_eq g1.symm)) (x' := (95 : Int32)) (by decide) at_531 532 rfl ?_
  intro T78 h78 W78 Q78 A78 k78
  refine Own.dup W78 at_532 533 rfl rfl ?_
  refine Own.bipush W78 at_533 535 rfl 77 rfl ?_
  refine Own.bipush W78 at_535 537 rfl 32 rfl ?_
  refine Own.castore W78 A78 77 (by decide) (by decide) (lb rfl) (Nat.le_trans W0.n0 (Nat.le_of_eq g1.symm)) (x' := (32 : Int32)) (by decide) at_537 538 rfl ?_
  intro T79 h79 W79 Q79 A79 k79
  refine Own.dup W79 at_538 539 rfl rfl ?_
  refine Own.bipush W79 at_539 541 rfl 78 rfl ?_
  refine Own.bipush W79 at_541 543 rfl 115 rfl ?_
  refine Own.castore W79 A79 78 (by decide) (by decide) (lb rfl) (Nat.le_trans W0.n0 (Nat.le_of_eq g1.symm)) (x' := (115 : Int32)) (by decide) at_543 544 rfl ?_
  intro T80 h80 W80 Q80 A80 k80
  refine Own.dup W80 at_544 545 rfl rfl ?_
  refine Own.bipush W80 at_545 547 rfl 79 rfl ?_
  refine Own.bipush W80 at_547 549 rfl 107 rfl ?_
  refine Own.castore W80 A80 79 (by decide) (by decide) (lb rfl) (Nat.le_trans W0.n0 (Nat.le_of_eq g1.symm)) (x' := (107 : Int32)) (by decide) at_549 550 rfl ?_
  intro T81 h81 W81 Q81 A81 k81
  have V81 : Arv G.Z h81 o1 c1 .char (88 : Int32) [.int 101, .int 118, .int 101, .int 110, .int 116, .int 115, .int 61, .int 95, .int 95, .int 32, .int 105, .int 110, .int 115, .int 101, .int 114, .int 116, .int 101, .int 100, .int 61, .int 95, .int 95, .int 32, .int 117, .int 112, .int 100, .int 97, .int 116, .int 101, .int 100, .int 61, .int 95, .int 95, .int 32, .int 114, .int 101, .int 115, .int 116, .int 111, .int 114, .int 101, .int 100, .int 61, .int 95, .int 95, .int 32, .int 100, .int 101, .int 108, .int 101, .int 116, .int 101, .int 100, .int 61, .int 95, .int 95, .int 32, .int 117, .int 110, .int 99, .int 104, .int 97, .int 110, .int 103, .int 101, .int 100, .int 61, .int 95, .int 95, .int 32, .int 115, .int 116, .int 97, .int 108, .int 101, .int 61, .int 95, .int 95, .int 32, .int 115, .int 107, .int 0, .int 0, .int 0, .int 0, .int 0, .int 0, .int 0, .int 0] (.int 0) := A81
  refine Own.dup W81 at_550 551 rfl rfl ?_
  refine Own.bipush W81 at_551 553 rfl 80 rfl ?_
  refine Own.bipush W81 at_553 555 rfl 105 rfl ?_
  refine Own.castore W81 V81 80 (by decide) (by decide) (lb rfl) (Nat.le_trans W0.n0 (Nat.le_of_eq g1.symm)) (x' := (105 : Int32)) (by decide) at_555 556 rfl ?_
  intro T82 h82 W82 Q82 A82 k82
  refine Own.dup W82 at_556 557 rfl rfl ?_
  refine Own.bipush W82 at_557 559 rfl 81 rfl ?_
  refine Own.bipush W82 at_559 561 rfl 112 rfl ?_
  refine Own.castore W82 A82 81 (by decide) (by decide) (lb rfl) (Nat.le_trans W0.n0 (Nat.le_of_eq g1.symm)) (x' := (112 : Int32)) (by decide) at_561 562 rfl ?_
  intro T83 h83 W83 Q83 A83 k83
  refine Own.dup W83 at_562 563 rfl rfl ?_
  refine Own.bipush W83 at_563 565 rfl 82 rfl ?_
  refine Own.bipush W83 at_565 567 rfl 112 rfl ?_
  refine Own.castore W83 A83 82 (by decide) (by decide) (lb rfl) (Nat.le_trans W0.n0 (Nat.le_of_eq g1.symm)) (x' := (112 : Int32)) (by decide) at_567 568 rfl ?_
  intro T84 h84 W84 Q84 A84 k84
  refine Own.dup W84 at_568 569 rfl rfl ?_
  refine Own.bipush W84 at_569 571 rfl 83 rfl ?_
  refine Own.bipush W84 at_571 573 rfl 101 rfl ?_
  refine Own.castore W84 A84 83 (by decide) (by decide) (lb rfl) (Nat.le_trans W0.n0 (Nat.le_of_eq g1.symm)) (x' := (101 : Int32)) (by decide) at_573 574 rfl ?_
  intro T85 h85 W85 Q85 A85 k85
  refine Own.dup W85 at_574 575 rfl rfl ?_
  refine Own.bipush W85 at_575 577 rfl 84 rfl ?_
  refine Own.bipush W85 at_577 579 rfl 100 rfl ?_
  refine Own.castore W85 A85 84 (by decide) (by decide) (lb rfl) (Nat.le_trans W0.n0 (Nat.le_of_eq g1.symm)) (x' := (100 : Int32)) (by decide) at_579 580 rfl ?_
  intro T86 h86 W86 Q86 A86 k86
  refine Own.dup W86 at_580 581 rfl rfl ?_
  refine Own.bipush W86 at_581 583 rfl 85 rfl ?_
  refine Own.bipush W86 at_583 585 rfl 61 rfl ?_
  refine Own.castore W86 A86 85 (by decide) (by decide) (lb rfl) (Nat.le_trans W0.n0 (Nat.le_of_eq g1.symm)) (x' := (61 : Int32)) (by decide) at_585 586 rfl ?_
  intro T87 h87 W87 Q87 A87 k87
  refine Own.dup W87 at_586 587 rfl rfl ?_
  refine Own.bipush W87 at_587 589 rfl 86 rfl ?_
  refine Own.bipush W87 at_589 591 rfl 95 rfl ?_
  refine Own.castore W87 A87 86 (by decide) (by decide) (lb rfl) (Nat.le_trans W0.n0 (Nat.le_of_eq g1.symm)) (x' := (95 : Int32)) (by decide) at_591 592 rfl ?_
  intro T88 h88 W88 Q88 A88 k88
  refine Own.dup W88 at_592 593 rfl rfl ?_
  refine Own.bipush W88 at_593 595 rfl 87 rfl ?_
  refine Own.bipush W88 at_595 597 rfl 95 rfl ?_
  refine Own.castore W88 A88 87 (by decide) (by decide) (lb rfl) (Nat.le_trans W0.n0 (Nat.le_of_eq g1.symm)) (x' := (95 : Int32)) (by decide) at_597 598 rfl ?_
  intro T89 h89 W89 Q89 A89 k89
  have V89 : Arv G.Z h89 o1 c1 .char (88 : Int32) [.int 101, .int 118, .int 101, .int 110, .int 116, .int 115, .int 61, .int 95, .int 95, .int 32, .int 105, .int 110, .int 115, .int 101, .int 114, .int 116, .int 101, .int 100, .int 61, .int 95, .int 95, .int 32, .int 117, .int 112, .int 100, .int 97, .int 116, .int 101, .int 100, .int 61, .int 95, .int 95, .int 32, .int 114, .int 101, .int 115, .int 116, .int 111, .int 114, .int 101, .int 100, .int 61, .int 95, .int 95, .int 32, .int 100, .int 101, .int 108, .int 101, .int 116, .int 101, .int 100, .int 61, .int 95, .int 95, .int 32, .int 117, .int 110, .int 99, .int 104, .int 97, .int 110, .int 103, .int 101, .int 100, .int 61, .int 95, .int 95, .int 32, .int 115, .int 116, .int 97, .int 108, .int 101, .int 61, .int 95, .int 95, .int 32, .int 115, .int 107, .int 105, .int 112, .int 112, .int 101, .int 100, .int 61, .int 95, .int 95] (.int 0) := A89
  refine Own.astore W89 at_598 600 rfl rfl #[.val (.int p0), .val (.int p1), .val (.int p2), .val (.int p3), .val (.int (kA p0)), .val (.int (kB p0)), .val (.int (kA p1)), .val (.int (kB p1)), .val (.int (kA p2)), .val (.int (kB p2)), .val (.int (kA p3)), .val (.int (kB p3)), .val (.ref o1), .unset, .unset, .unset, .unset, .unset] rfl ?_
  refine Own.aload W89 at_600 602 rfl (.ref o1) rfl rfl ?_
  refine Own.bipush W89 at_602 604 rfl 7 rfl ?_
  refine Own.iload W89 at_604 606 rfl (kA p0) rfl ?_
  refine Own.callS W89 (tw hw 2 rfl) (tw hw 3 rfl) (tw hw 4 rfl) (tw hw 5 rfl) (by decide) (argsL := [(.ref o1), .int 7, (.int (kA p0))]) (rest := []) (Own.Con.pay (con_put7 hw hEL rfl (kA p0) W89.old (Nat.le_trans W0.n0 (Nat.le_of_eq g1.symm)) rfl V89) W89 (tw hw 5 rfl) (tw hw 4 rfl) (len := 3) (wd := 0) (by decide) (by decide) (fun _ q => nomatch q)) rfl (lenOf pd_24 rfl) rfl (lb rfl) at_606 609 rfl 1 88 (lb rfl) (lb rfl) (lb rfl) (lb rfl) ?_
  intro v90 T90 h90 u90 W90 R90 hq
  obtain ⟨rfl, K90, A90⟩ := hq
  have V90 : Arv G.Z h90 o1 c1 .char (88 : Int32) [.int 101, .int 118, .int 101, .int 110, .int 116, .int 115, .int 61, (.int (cA (kA p0))), (.int (cB (kA p0))), .int 32, .int 105, .int 110, .int 115, .int 101, .int 114, .int 116, .int 101, .int 100, .int 61, .int 95, .int 95, .int 32, .int 117, .int 112, .int 100, .int 97, .int 116, .int 101, .int 100, .int 61, .int 95, .int 95, .int 32, .int 114, .int 101, .int 115, .int 116, .int 111, .int 114, .int 101, .int 100, .int 61, .int 95, .int 95, .int 32, .int 100, .int 101, .int 108, .int 101, .int 116, .int 101, .int 100, .int 61, .int 95, .int 95, .int 32, .int 117, .int 110, .int 99, .int 104, .int 97, .int 110, .int 103, .int 101, .int 100, .int 61, .int 95, .int 95, .int 32, .int 115, .int 116, .int 97, .int 108, .int 101, .int 61, .int 95, .int 95, .int 32, .int 115, .int 107, .int 105, .int 112, .int 112, .int 101, .int 100, .int 61, .int 95, .int 95] (.int 0) := A90
  show Own.Go _ _ _ _ _ 609 #[.val (.int p0), .val (.int p1), .val (.int p2), .val (.int p3), .val (.int (kA p0)), .val (.int (kB p0)), .val (.int (kA p1)), .val (.int (kB p1)), .val (.int (kA p2)), .val (.int (kB p2)), .val (.int (kA p3)), .val (.int (kB p3)), .val (.ref o1), .unset, .unset, .unset, .unset, .unset] []
  refine Own.aload W90 at_609 611 rfl (.ref o1) rfl rfl ?_
  refine Own.bipush W90 at_611 613 rfl 19 rfl ?_
  refine Own.iload W90 at_613 615 rfl (kB p0) rfl ?_
  refine Own.callS W90 (tw hw 2 rfl) (tw hw 3 rfl) (tw hw 4 rfl) (tw hw 5 rfl) (by decide) (argsL := [(.ref o1), .int 19, (.int (kB p0))]) (rest := []) (Own.Con.pay (con_put19 hw hEL rfl (kB p0) W90.old (Nat.le_trans W0.n0 (Nat.le_of_eq g1.symm)) rfl V90) W90 (tw hw 5 rfl) (tw hw 4 rfl) (len := 3) (wd := 0) (by decide) (by decide) (fun _ q => nomatch q)) rfl (lenOf pd_24 rfl) rfl (lb rfl) at_615 618 rfl 1 88 (lb rfl) (lb rfl) (lb rfl) (lb rfl) ?_
  intro v91 T91 h91 u91 W91 R91 hq
  obtain ⟨rfl, K91, A91⟩ := hq
  have V91 : Arv G.Z h91 o1 c1 .char (88 : Int32) [.int 101, .int 118, .int 101, .int 110, .int 116, .int 115, .int 61, (.int (cA (kA p0))), (.int (cB (kA p0))), .int 32, .int 105, .int 110, .int 115, .int 101, .int 114, .int 116, .int 101, .int 100, .int 61, (.int (cA (kB p0))), (.int (cB (kB p0))), .int 32, .int 117, .int 112, .int 100, .int 97, .int 116, .int 101, .int 100, .int 61, .int 95, .int 95, .int 32, .int 114, .int 101, .int 115, .int 116, .int 111, .int 114, .int 101, .int 100, .int 61, .int 95, .int 95, .int 32, .int 100, .int 101, .int 108, .int 101, .int 116, .int 101, .int 100, .int 61, .int 95, .int 95, .int 32, .int 117, .int 110, .int 99, .int 104, .int 97, .int 110, .int 103, .int 101, .int 100, .int 61, .int 95, .int 95, .int 32, .int 115, .int 116, .int 97, .int 108, .int 101, .int 61, .int 95, .int 95, .int 32, .int 115, .int 107, .int 105, .int 112, .int 112, .int 101, .int 100, .int 61, .int 95, .int 95] (.int 0) := A91
  show Own.Go _ _ _ _ _ 618 #[.val (.int p0), .val (.int p1), .val (.int p2), .val (.int p3), .val (.int (kA p0)), .val (.int (kB p0)), .val (.int (kA p1)), .val (.int (kB p1)), .val (.int (kA p2)), .val (.int (kB p2)), .val (.int (kA p3)), .val (.int (kB p3)), .val (.ref o1), .unset, .unset, .unset, .unset, .unset] []
  refine Own.aload W91 at_618 620 rfl (.ref o1) rfl rfl ?_
  refine Own.bipush W91 at_620 622 rfl 30 rfl ?_
  refine Own.iload W91 at_622 624 rfl (kA p1) rfl ?_
  refine Own.callS W91 (tw hw 2 rfl) (tw hw 3 rfl) (tw hw 4 rfl) (tw hw 5 rfl) (by decide) (argsL := [(.ref o1), .int 30, (.int (kA p1))]) (rest := []) (Own.Con.pay (con_put30 hw hEL rfl (kA p1) W91.old (Nat.le_trans W0.n0 (Nat.le_of_eq g1.symm)) rfl V91) W91 (tw hw 5 rfl) (tw hw 4 rfl) (len := 3) (wd := 0) (by decide) (by decide) (fun _ q => nomatch q)) rfl (lenOf pd_24 rfl) rfl (lb rfl) at_624 627 rfl 1 88 (lb rfl) (lb rfl) (lb rfl) (lb rfl) ?_
  intro v92 T92 h92 u92 W92 R92 hq
  obtain ⟨rfl, K92, A92⟩ := hq
  have V92 : Arv G.Z h92 o1 c1 .char (88 : Int32) [.int 101, .int 118, .int 101, .int 110, .int 116, .int 115, .int 61, (.int (cA (kA p0))), (.int (cB (kA p0))), .int 32, .int 105, .int 110, .int 115, .int 101, .int 114, .int 116, .int 101, .int 100, .int 61, (.int (cA (kB p0))), (.int (cB (kB p0))), .int 32, .int 117, .int 112, .int 100, .int 97, .int 116, .int 101, .int 100, .int 61, (.int (cA (kA p1))), (.int (cB (kA p1))), .int 32, .int 114, .int 101, .int 115, .int 116, .int 111, .int 114, .int 101, .int 100, .int 61, .int 95, .int 95, .int 32, .int 100, .int 101, .int 108, .int 101, .int 116, .int 101, .int 100, .int 61, .int 95, .int 95, .int 32, .int 117, .int 110, .int 99, .int 104, .int 97, .int 110, .int 103, .int 101, .int 100, .int 61, .int 95, .int 95, .int 32, .int 115, .int 116, .int 97, .int 108, .int 101, .int 61, .int 95, .int 95, .int 32, .int 115, .int 107, .int 105, .int 112, .int 112, .int 101, .int 100, .int 61, .int 95, .int 95] (.int 0) := A92
  show Own.Go _ _ _ _ _ 627 #[.val (.int p0), .val (.int p1), .val (.int p2), .val (.int p3), .val (.int (kA p0)), .val (.int (kB p0)), .val (.int (kA p1)), .val (.int (kB p1)), .val (.int (kA p2)), .val (.int (kB p2)), .val (.int (kA p3)), .val (.int (kB p3)), .val (.ref o1), .unset, .unset, .unset, .unset, .unset] []
  refine Own.aload W92 at_627 629 rfl (.ref o1) rfl rfl ?_
  refine Own.bipush W92 at_629 631 rfl 42 rfl ?_
  refine Own.iload W92 at_631 633 rfl (kB p1) rfl ?_
  refine Own.callS W92 (tw hw 2 rfl) (tw hw 3 rfl) (tw hw 4 rfl) (tw hw 5 rfl) (by decide) (argsL := [(.ref o1), .int 42, (.int (kB p1))]) (rest := []) (Own.Con.pay (con_put42 hw hEL rfl (kB p1) W92.old (Nat.le_trans W0.n0 (Nat.le_of_eq g1.symm)) rfl V92) W92 (tw hw 5 rfl) (tw hw 4 rfl) (len := 3) (wd := 0) (by decide) (by decide) (fun _ q => nomatch q)) rfl (lenOf pd_24 rfl) rfl (lb rfl) at_633 636 rfl 1 88 (lb rfl) (lb rfl) (lb rfl) (lb rfl) ?_
  intro v93 T93 h93 u93 W93 R93 hq
  obtain ⟨rfl, K93, A93⟩ := hq
  have V93 : Arv G.Z h93 o1 c1 .char (88 : Int32) [.int 101, .int 118, .int 101, .int 110, .int 116, .int 115, .int 61, (.int (cA (kA p0))), (.int (cB (kA p0))), .int 32, .int 105, .int 110, .int 115, .int 101, .int 114, .int 116, .int 101, .int 100, .int 61, (.int (cA (kB p0))), (.int (cB (kB p0))), .int 32, .int 117, .int 112, .int 100, .int 97, .int 116, .int 101, .int 100, .int 61, (.int (cA (kA p1))), (.int (cB (kA p1))), .int 32, .int 114, .int 101, .int 115, .int 116, .int 111, .int 114, .int 101, .int 100, .int 61, (.int (cA (kB p1))), (.int (cB (kB p1))), .int 32, .int 100, .int 101, .int 108, .int 101, .int 116, .int 101, .int 100, .int 61, .int 95, .int 95, .int 32, .int 117, .int 110, .int 99, .int 104, .int 97, .int 110, .int 103, .int 101, .int 100, .int 61, .int 95, .int 95, .int 32, .int 115, .int 116, .int 97, .int 108, .int 101, .int 61, .int 95, .int 95, .int 32, .int 115, .int 107, .int 105, .int 112, .int 112, .int 101, .int 100, .int 61, .int 95, .int 95] (.int 0) := A93
  show Own.Go _ _ _ _ _ 636 #[.val (.int p0), .val (.int p1), .val (.int p2), .val (.int p3), .val (.int (kA p0)), .val (.int (kB p0)), .val (.int (kA p1)), .val (.int (kB p1)), .val (.int (kA p2)), .val (.int (kB p2)), .val (.int (kA p3)), .val (.int (kB p3)), .val (.ref o1), .unset, .unset, .unset, .unset, .unset] []
  refine Own.aload W93 at_636 638 rfl (.ref o1) rfl rfl ?_
  refine Own.bipush W93 at_638 640 rfl 53 rfl ?_
  refine Own.iload W93 at_640 642 rfl (kA p2) rfl ?_
  refine Own.callS W93 (tw hw 2 rfl) (tw hw 3 rfl) (tw hw 4 rfl) (tw hw 5 rfl) (by decide) (argsL := [(.ref o1), .int 53, (.int (kA p2))]) (rest := []) (Own.Con.pay (con_put53 hw hEL rfl (kA p2) W93.old (Nat.le_trans W0.n0 (Nat.le_of_eq g1.symm)) rfl V93) W93 (tw hw 5 rfl) (tw hw 4 rfl) (len := 3) (wd := 0) (by decide) (by decide) (fun _ q => nomatch q)) rfl (lenOf pd_24 rfl) rfl (lb rfl) at_642 645 rfl 1 88 (lb rfl) (lb rfl) (lb rfl) (lb rfl) ?_
  intro v94 T94 h94 u94 W94 R94 hq
  obtain ⟨rfl, K94, A94⟩ := hq
  have V94 : Arv G.Z h94 o1 c1 .char (88 : Int32) [.int 101, .int 118, .int 101, .int 110, .int 116, .int 115, .int 61, (.int (cA (kA p0))), (.int (cB (kA p0))), .int 32, .int 105, .int 110, .int 115, .int 101, .int 114, .int 116, .int 101, .int 100, .int 61, (.int (cA (kB p0))), (.int (cB (kB p0))), .int 32, .int 117, .int 112, .int 100, .int 97, .int 116, .int 101, .int 100, .int 61, (.int (cA (kA p1))), (.int (cB (kA p1))), .int 32, .int 114, .int 101, .int 115, .int 116, .int 111, .int 114, .int 101, .int 100, .int 61, (.int (cA (kB p1))), (.int (cB (kB p1))), .int 32, .int 100, .int 101, .int 108, .int 101, .int 116, .int 101, .int 100, .int 61, (.int (cA (kA p2))), (.int (cB (kA p2))), .int 32, .int 117, .int 110, .int 99, .int 104, .int 97, .int 110, .int 103, .int 101, .int 100, .int 61, .int 95, .int 95, .int 32, .int 115, .int 116, .int 97, .int 108, .int 101, .int 61, .int 95, .int 95, .int 32, .int 115, .int 107, .int 105, .int 112, .int 112, .int 101, .int 100, .int 61, .int 95, .int 95] (.int 0) := A94
  show Own.Go _ _ _ _ _ 645 #[.val (.int p0), .val (.int p1), .val (.int p2), .val (.int p3), .val (.int (kA p0)), .val (.int (kB p0)), .val (.int (kA p1)), .val (.int (kB p1)), .val (.int (kA p2)), .val (.int (kB p2)), .val (.int (kA p3)), .val (.int (kB p3)), .val (.ref o1), .unset, .unset, .unset, .unset, .unset] []
  refine Own.aload W94 at_645 647 rfl (.ref o1) rfl rfl ?_
  refine Own.bipush W94 at_647 649 rfl 66 rfl ?_
  refine Own.iload W94 at_649 651 rfl (kB p2) rfl ?_
  refine Own.callS W94 (tw hw 2 rfl) (tw hw 3 rfl) (tw hw 4 rfl) (tw hw 5 rfl) (by decide) (argsL := [(.ref o1), .int 66, (.int (kB p2))]) (rest := []) (Own.Con.pay (con_put66 hw hEL rfl (kB p2) W94.old (Nat.le_trans W0.n0 (Nat.le_of_eq g1.symm)) rfl V94) W94 (tw hw 5 rfl) (tw hw 4 rfl) (len := 3) (wd := 0) (by decide) (by decide) (fun _ q => nomatch q)) rfl (lenOf pd_24 rfl) rfl (lb rfl) at_651 654 rfl 1 88 (lb rfl) (lb rfl) (lb rfl) (lb rfl) ?_
  intro v95 T95 h95 u95 W95 R95 hq
  obtain ⟨rfl, K95, A95⟩ := hq
  have V95 : Arv G.Z h95 o1 c1 .char (88 : Int32) [.int 101, .int 118, .int 101, .int 110, .int 116, .int 115, .int 61, (.int (cA (kA p0))), (.int (cB (kA p0))), .int 32, .int 105, .int 110, .int 115, .int 101, .int 114, .int 116, .int 101, .int 100, .int 61, (.int (cA (kB p0))), (.int (cB (kB p0))), .int 32, .int 117, .int 112, .int 100, .int 97, .int 116, .int 101, .int 100, .int 61, (.int (cA (kA p1))), (.int (cB (kA p1))), .int 32, .int 114, .int 101, .int 115, .int 116, .int 111, .int 114, .int 101, .int 100, .int 61, (.int (cA (kB p1))), (.int (cB (kB p1))), .int 32, .int 100, .int 101, .int 108, .int 101, .int 116, .int 101, .int 100, .int 61, (.int (cA (kA p2))), (.int (cB (kA p2))), .int 32, .int 117, .int 110, .int 99, .int 104, .int 97, .int 110, .int 103, .int 101, .int 100, .int 61, (.int (cA (kB p2))), (.int (cB (kB p2))), .int 32, .int 115, .int 116, .int 97, .int 108, .int 101, .int 61, .int 95, .int 95, .int 32, .int 115, .int 107, .int 105, .int 112, .int 112, .int 101, .int 100, .int 61, .int 95, .int 95] (.int 0) := A95
  show Own.Go _ _ _ _ _ 654 #[.val (.int p0), .val (.int p1), .val (.int p2), .val (.int p3), .val (.int (kA p0)), .val (.int (kB p0)), .val (.int (kA p1)), .val (.int (kB p1)), .val (.int (kA p2)), .val (.int (kB p2)), .val (.int (kA p3)), .val (.int (kB p3)), .val (.ref o1), .unset, .unset, .unset, .unset, .unset] []
  refine Own.aload W95 at_654 656 rfl (.ref o1) rfl rfl ?_
  refine Own.bipush W95 at_656 658 rfl 75 rfl ?_
  refine Own.iload W95 at_658 660 rfl (kA p3) rfl ?_
  refine Own.callS W95 (tw hw 2 rfl) (tw hw 3 rfl) (tw hw 4 rfl) (tw hw 5 rfl) (by decide) (argsL := [(.ref o1), .int 75, (.int (kA p3))]) (rest := []) (Own.Con.pay (con_put75 hw hEL rfl (kA p3) W95.old (Nat.le_trans W0.n0 (Nat.le_of_eq g1.symm)) rfl V95) W95 (tw hw 5 rfl) (tw hw 4 rfl) (len := 3) (wd := 0) (by decide) (by decide) (fun _ q => nomatch q)) rfl (lenOf pd_24 rfl) rfl (lb rfl) at_660 663 rfl 1 88 (lb rfl) (lb rfl) (lb rfl) (lb rfl) ?_
  intro v96 T96 h96 u96 W96 R96 hq
  obtain ⟨rfl, K96, A96⟩ := hq
  have V96 : Arv G.Z h96 o1 c1 .char (88 : Int32) [.int 101, .int 118, .int 101, .int 110, .int 116, .int 115, .int 61, (.int (cA (kA p0))), (.int (cB (kA p0))), .int 32, .int 105, .int 110, .int 115, .int 101, .int 114, .int 116, .int 101, .int 100, .int 61, (.int (cA (kB p0))), (.int (cB (kB p0))), .int 32, .int 117, .int 112, .int 100, .int 97, .int 116, .int 101, .int 100, .int 61, (.int (cA (kA p1))), (.int (cB (kA p1))), .int 32, .int 114, .int 101, .int 115, .int 116, .int 111, .int 114, .int 101, .int 100, .int 61, (.int (cA (kB p1))), (.int (cB (kB p1))), .int 32, .int 100, .int 101, .int 108, .int 101, .int 116, .int 101, .int 100, .int 61, (.int (cA (kA p2))), (.int (cB (kA p2))), .int 32, .int 117, .int 110, .int 99, .int 104, .int 97, .int 110, .int 103, .int 101, .int 100, .int 61, (.int (cA (kB p2))), (.int (cB (kB p2))), .int 32, .int 115, .int 116, .int 97, .int 108, .int 101, .int 61, (.int (cA (kA p3))), (.int (cB (kA p3))), .int 32, .int 115, .int 107, .int 105, .int 112, .int 112, .int 101, .int 100, .int 61, .int 95, .int 95] (.int 0) := A96
  show Own.Go _ _ _ _ _ 663 #[.val (.int p0), .val (.int p1), .val (.int p2), .val (.int p3), .val (.int (kA p0)), .val (.int (kB p0)), .val (.int (kA p1)), .val (.int (kB p1)), .val (.int (kA p2)), .val (.int (kB p2)), .val (.int (kA p3)), .val (.int (kB p3)), .val (.ref o1), .unset, .unset, .unset, .unset, .unset] []
  refine Own.aload W96 at_663 665 rfl (.ref o1) rfl rfl ?_
  refine Own.bipush W96 at_665 667 rfl 86 rfl ?_
  refine Own.iload W96 at_667 669 rfl (kB p3) rfl ?_
  refine Own.callS W96 (tw hw 2 rfl) (tw hw 3 rfl) (tw hw 4 rfl) (tw hw 5 rfl) (by decide) (argsL := [(.ref o1), .int 86, (.int (kB p3))]) (rest := []) (Own.Con.pay (con_put86 hw hEL rfl (kB p3) W96.old (Nat.le_trans W0.n0 (Nat.le_of_eq g1.symm)) rfl V96) W96 (tw hw 5 rfl) (tw hw 4 rfl) (len := 3) (wd := 0) (by decide) (by decide) (fun _ q => nomatch q)) rfl (lenOf pd_24 rfl) rfl (lb rfl) at_669 672 rfl 1 88 (lb rfl) (lb rfl) (lb rfl) (lb rfl) ?_
  intro v97 T97 h97 u97 W97 R97 hq
  obtain ⟨rfl, K97, A97⟩ := hq
  have V97 : Arv G.Z h97 o1 c1 .char (88 : Int32) [.int 101, .int 118, .int 101, .int 110, .int 116, .int 115, .int 61, (.int (cA (kA p0))), (.int (cB (kA p0))), .int 32, .int 105, .int 110, .int 115, .int 101, .int 114, .int 116, .int 101, .int 100, .int 61, (.int (cA (kB p0))), (.int (cB (kB p0))), .int 32, .int 117, .int 112, .int 100, .int 97, .int 116, .int 101, .int 100, .int 61, (.int (cA (kA p1))), (.int (cB (kA p1))), .int 32, .int 114, .int 101, .int 115, .int 116, .int 111, .int 114, .int 101, .int 100, .int 61, (.int (cA (kB p1))), (.int (cB (kB p1))), .int 32, .int 100, .int 101, .int 108, .int 101, .int 116, .int 101, .int 100, .int 61, (.int (cA (kA p2))), (.int (cB (kA p2))), .int 32, .int 117, .int 110, .int 99, .int 104, .int 97, .int 110, .int 103, .int 101, .int 100, .int 61, (.int (cA (kB p2))), (.int (cB (kB p2))), .int 32, .int 115, .int 116, .int 97, .int 108, .int 101, .int 61, (.int (cA (kA p3))), (.int (cB (kA p3))), .int 32, .int 115, .int 107, .int 105, .int 112, .int 112, .int 101, .int 100, .int 61, (.int (cA (kB p3))), (.int (cB (kB p3)))] (.int 0) := A97
  show Own.Go _ _ _ _ _ 672 #[.val (.int p0), .val (.int p1), .val (.int p2), .val (.int p3), .val (.int (kA p0)), .val (.int (kB p0)), .val (.int (kA p1)), .val (.int (kB p1)), .val (.int (kA p2)), .val (.int (kB p2)), .val (.int (kA p3)), .val (.int (kB p3)), .val (.ref o1), .unset, .unset, .unset, .unset, .unset] []
  refine Own.newO W97 (tw hw 6 rfl) (tw hw 7 rfl) (tw hw 8 rfl) at_672 675 rfl 2 92 (by decide) (by decide) (by decide) (by decide) ?_
  intro T98 h98 o98 g98 W98 E98 A98 D98 s98 k98
  have F98_coder : Fld G.Z h98 o98 "java/lang/String" "coder" "B" (.int 0) := D98 (Or.inr (tw hw 32 rfl)) (ty := .byte) (by decide)
  have F98_value : Fld G.Z h98 o98 "java/lang/String" "value" "[B" .null := D98 (Or.inr (tw hw 34 rfl)) (ty := (.array .byte)) (by decide)
  refine Own.dup W98 at_675 676 rfl rfl ?_
  refine Own.aload W98 at_676 678 rfl (.ref o1) rfl rfl ?_
  have X99 : Ext h h1 := E1
  have X100 : Ext h h2 := Own.Ext.wr' X99 Q2 (Nat.le_of_eq g1.symm)
  have X101 : Ext h h3 := Own.Ext.wr' X100 Q3 (Nat.le_of_eq g1.symm)
  have X102 : Ext h h4 := Own.Ext.wr' X101 Q4 (Nat.le_of_eq g1.symm)
  have X103 : Ext h h5 := Own.Ext.wr' X102 Q5 (Nat.le_of_eq g1.symm)
  have X104 : Ext h h6 := Own.Ext.wr' X103 Q6 (Nat.le_of_eq g1.symm)
  have X105 : Ext h h7 := Own.Ext.wr' X104 Q7 (Nat.le_of_eq g1.symm)
  have X106 : Ext h h8 := Own.Ext.wr' X105 Q8 (Nat.le_of_eq g1.symm)
  have X107 : Ext h h9 := Own.Ext.wr' X106 Q9 (Nat.le_of_eq g1.symm)
  have X108 : Ext h h10 := Own.Ext.wr' X107 Q10 (Nat.le_of_eq g1.symm)
  have X109 : Ext h h11 := Own.Ext.wr' X108 Q11 (Nat.le_of_eq g1.symm)
  have X110 : Ext h h12 := Own.Ext.wr' X109 Q12 (Nat.le_of_eq g1.symm)
  have X111 : Ext h h13 := Own.Ext.wr' X110 Q13 (Nat.le_of_eq g1.symm)
  have X112 : Ext h h14 := Own.Ext.wr' X111 Q14 (Nat.le_of_eq g1.symm)
  have X113 : Ext h h15 := Own.Ext.wr' X112 Q15 (Nat.le_of_eq g1.symm)
  have X114 : Ext h h16 := Own.Ext.wr' X113 Q16 (Nat.le_of_eq g1.symm)
  have X115 : Ext h h17 := Own.Ext.wr' X114 Q17 (Nat.le_of_eq g1.symm)
  have X116 : Ext h h18 := Own.Ext.wr' X115 Q18 (Nat.le_of_eq g1.symm)
  have X117 : Ext h h19 := Own.Ext.wr' X116 Q19 (Nat.le_of_eq g1.symm)
  have X118 : Ext h h20 := Own.Ext.wr' X117 Q20 (Nat.le_of_eq g1.symm)
  have X119 : Ext h h21 := Own.Ext.wr' X118 Q21 (Nat.le_of_eq g1.symm)
  have X120 : Ext h h22 := Own.Ext.wr' X119 Q22 (Nat.le_of_eq g1.symm)
  have X121 : Ext h h23 := Own.Ext.wr' X120 Q23 (Nat.le_of_eq g1.symm)
  have X122 : Ext h h24 := Own.Ext.wr' X121 Q24 (Nat.le_of_eq g1.symm)
  have X123 : Ext h h25 := Own.Ext.wr' X122 Q25 (Nat.le_of_eq g1.symm)
  have X124 : Ext h h26 := Own.Ext.wr' X123 Q26 (Nat.le_of_eq g1.symm)
  have X125 : Ext h h27 := Own.Ext.wr' X124 Q27 (Nat.le_of_eq g1.symm)
  have X126 : Ext h h28 := Own.Ext.wr' X125 Q28 (Nat.le_of_eq g1.symm)
  have X127 : Ext h h29 := Own.Ext.wr' X126 Q29 (Nat.le_of_eq g1.symm)
  have X128 : Ext h h30 := Own.Ext.wr' X127 Q30 (Nat.le_of_eq g1.symm)
  have X129 : Ext h h31 := Own.Ext.wr' X128 Q31 (Nat.le_of_eq g1.symm)
  have X130 : Ext h h32 := Own.Ext.wr' X129 Q32 (Nat.le_of_eq g1.symm)
  have X131 : Ext h h33 := Own.Ext.wr' X130 Q33 (Nat.le_of_eq g1.symm)
  have X132 : Ext h h34 := Own.Ext.wr' X131 Q34 (Nat.le_of_eq g1.symm)
  have X133 : Ext h h35 := Own.Ext.wr' X132 Q35 (Nat.le_of_eq g1.symm)
  have X134 : Ext h h36 := Own.Ext.wr' X133 Q36 (Nat.le_of_eq g1.symm)
  have X135 : Ext h h37 := Own.Ext.wr' X134 Q37 (Nat.le_of_eq g1.symm)
  have X136 : Ext h h38 := Own.Ext.wr' X135 Q38 (Nat.le_of_eq g1.symm)
  have X137 : Ext h h39 := Own.Ext.wr' X136 Q39 (Nat.le_of_eq g1.symm)
  have X138 : Ext h h40 := Own.Ext.wr' X137 Q40 (Nat.le_of_eq g1.symm)
  have X139 : Ext h h41 := Own.Ext.wr' X138 Q41 (Nat.le_of_eq g1.symm)
  have X140 : Ext h h42 := Own.Ext.wr' X139 Q42 (Nat.le_of_eq g1.symm)
  have X141 : Ext h h43 := Own.Ext.wr' X140 Q43 (Nat.le_of_eq g1.symm)
  have X142 : Ext h h44 := Own.Ext.wr' X141 Q44 (Nat.le_of_eq g1.symm)
  have X143 : Ext h h45 := Own.Ext.wr' X142 Q45 (Nat.le_of_eq g1.symm)
  have X144 : Ext h h46 := Own.Ext.wr' X143 Q46 (Nat.le_of_eq g1.symm)
  have X145 : Ext h h47 := Own.Ext.wr' X144 Q47 (Nat.le_of_eq g1.symm)
  have X146 : Ext h h48 := Own.Ext.wr' X145 Q48 (Nat.le_of_eq g1.symm)
  have X147 : Ext h h49 := Own.Ext.wr' X146 Q49 (Nat.le_of_eq g1.symm)
  have X148 : Ext h h50 := Own.Ext.wr' X147 Q50 (Nat.le_of_eq g1.symm)
  have X149 : Ext h h51 := Own.Ext.wr' X148 Q51 (Nat.le_of_eq g1.symm)
  have X150 : Ext h h52 := Own.Ext.wr' X149 Q52 (Nat.le_of_eq g1.symm)
  have X151 : Ext h h53 := Own.Ext.wr' X150 Q53 (Nat.le_of_eq g1.symm)
  have X152 : Ext h h54 := Own.Ext.wr' X151 Q54 (Nat.le_of_eq g1.symm)
  have X153 : Ext h h55 := Own.Ext.wr' X152 Q55 (Nat.le_of_eq g1.symm)
  have X154 : Ext h h56 := Own.Ext.wr' X153 Q56 (Nat.le_of_eq g1.symm)
  have X155 : Ext h h57 := Own.Ext.wr' X154 Q57 (Nat.le_of_eq g1.symm)
  have X156 : Ext h h58 := Own.Ext.wr' X155 Q58 (Nat.le_of_eq g1.symm)
  have X157 : Ext h h59 := Own.Ext.wr' X156 Q59 (Nat.le_of_eq g1.symm)
  have X158 : Ext h h60 := Own.Ext.wr' X157 Q60 (Nat.le_of_eq g1.symm)
  have X159 : Ext h h61 := Own.Ext.wr' X158 Q61 (Nat.le_of_eq g1.symm)
  have X160 : Ext h h62 := Own.Ext.wr' X159 Q62 (Nat.le_of_eq g1.symm)
  have X161 : Ext h h63 := Own.Ext.wr' X160 Q63 (Nat.le_of_eq g1.symm)
  have X162 : Ext h h64 := Own.Ext.wr' X161 Q64 (Nat.le_of_eq g1.symm)
  have X163 : Ext h h65 := Own.Ext.wr' X162 Q65 (Nat.le_of_eq g1.symm)
  have X164 : Ext h h66 := Own.Ext.wr' X163 Q66 (Nat.le_of_eq g1.symm)
  have X165 : Ext h h67 := Own.Ext.wr' X164 Q67 (Nat.le_of_eq g1.symm)
  have X166 : Ext h h68 := Own.Ext.wr' X165 Q68 (Nat.le_of_eq g1.symm)
  have X167 : Ext h h69 := Own.Ext.wr' X166 Q69 (Nat.le_of_eq g1.symm)
  have X168 : Ext h h70 := Own.Ext.wr' X167 Q70 (Nat.le_of_eq g1.symm)
  have X169 : Ext h h71 := Own.Ext.wr' X168 Q71 (Nat.le_of_eq g1.symm)
  have X170 : Ext h h72 := Own.Ext.wr' X169 Q72 (Nat.le_of_eq g1.symm)
  have X171 : Ext h h73 := Own.Ext.wr' X170 Q73 (Nat.le_of_eq g1.symm)
  have X172 : Ext h h74 := Own.Ext.wr' X171 Q74 (Nat.le_of_eq g1.symm)
  have X173 : Ext h h75 := Own.Ext.wr' X172 Q75 (Nat.le_of_eq g1.symm)
  have X174 : Ext h h76 := Own.Ext.wr' X173 Q76 (Nat.le_of_eq g1.symm)
  have X175 : Ext h h77 := Own.Ext.wr' X174 Q77 (Nat.le_of_eq g1.symm)
  have X176 : Ext h h78 := Own.Ext.wr' X175 Q78 (Nat.le_of_eq g1.symm)
  have X177 : Ext h h79 := Own.Ext.wr' X176 Q79 (Nat.le_of_eq g1.symm)
  have X178 : Ext h h80 := Own.Ext.wr' X177 Q80 (Nat.le_of_eq g1.symm)
  have X179 : Ext h h81 := Own.Ext.wr' X178 Q81 (Nat.le_of_eq g1.symm)
  have X180 : Ext h h82 := Own.Ext.wr' X179 Q82 (Nat.le_of_eq g1.symm)
  have X181 : Ext h h83 := Own.Ext.wr' X180 Q83 (Nat.le_of_eq g1.symm)
  have X182 : Ext h h84 := Own.Ext.wr' X181 Q84 (Nat.le_of_eq g1.symm)
  have X183 : Ext h h85 := Own.Ext.wr' X182 Q85 (Nat.le_of_eq g1.symm)
  have X184 : Ext h h86 := Own.Ext.wr' X183 Q86 (Nat.le_of_eq g1.symm)
  have X185 : Ext h h87 := Own.Ext.wr' X184 Q87 (Nat.le_of_eq g1.symm)
  have X186 : Ext h h88 := Own.Ext.wr' X185 Q88 (Nat.le_of_eq g1.symm)
  have X187 : Ext h h89 := Own.Ext.wr' X186 Q89 (Nat.le_of_eq g1.symm)
  have X188 : Ext h h90 := Own.Ext.kp X187 K90 (allS (Nat.le_of_eq g1.symm) all0)
  have X189 : Ext h h91 := Own.Ext.kp X188 K91 (allS (Nat.le_of_eq g1.symm) all0)
  have X190 : Ext h h92 := Own.Ext.kp X189 K92 (allS (Nat.le_of_eq g1.symm) all0)
  have X191 : Ext h h93 := Own.Ext.kp X190 K93 (allS (Nat.le_of_eq g1.symm) all0)
  have X192 : Ext h h94 := Own.Ext.kp X191 K94 (allS (Nat.le_of_eq g1.symm) all0)
  have X193 : Ext h h95 := Own.Ext.kp X192 K95 (allS (Nat.le_of_eq g1.symm) all0)
  have X194 : Ext h h96 := Own.Ext.kp X193 K96 (allS (Nat.le_of_eq g1.symm) all0)
  have X195 : Ext h h97 := Own.Ext.kp X194 K97 (allS (Nat.le_of_eq g1.symm) all0)
  have X196 : Ext h97 h98 := E98
  refine Own.callX W98 rfl (tw hw 9 rfl) (tw hw 10 rfl) (tw hw 11 rfl) (by decide) (argsL := [(.ref o1)]) (rest := [(.ref o98)]) (Own.payStrN (wS hw) W98 (cs := [101, 118, 101, 110, 116, 115, 61, (cA (kA p0)), (cB (kA p0)), 32, 105, 110, 115, 101, 114, 116, 101, 100, 61, (cA (kB p0)), (cB (kB p0)), 32, 117, 112, 100, 97, 116, 101, 100, 61, (cA (kA p1)), (cB (kA p1)), 32, 114, 101, 115, 116, 111, 114, 101, 100, 61, (cA (kB p1)), (cB (kB p1)), 32, 100, 101, 108, 101, 116, 101, 100, 61, (cA (kA p2)), (cB (kA p2)), 32, 117, 110, 99, 104, 97, 110, 103, 101, 100, 61, (cA (kB p2)), (cB (kB p2)), 32, 115, 116, 97, 108, 101, 61, (cA (kA p3)), (cB (kA p3)), 32, 115, 107, 105, 112, 112, 101, 100, 61, (cA (kB p3)), (cB (kB p3))]) (z := (88 : Int32)) (cz := cz) (Nat.le_trans W0.n0 (Nat.le_trans X195.1 (Nat.le_of_eq g98.symm))) s98 A98 F98_value F98_coder ((V97.ext X196)) (by simp) rfl (rgS (by decide) (rgS (by decide) (rgS (by decide) (rgS (by decide) (rgS (by decide) (rgS (by decide) (rgS (by decide) (rgS (rgA (kA_ok p0)) (rgS (rgB (kA_ok p0)) (rgS (by decide) (rgS (by decide) (rgS (by decide) (rgS (by decide) (rgS (by decide) (rgS (by decide) (rgS (by decide) (rgS (by decide) (rgS (by decide) (rgS (by decide) (rgS (rgA (kB_ok p0)) (rgS (rgB (kB_ok p0)) (rgS (by decide) (rgS (by decide) (rgS (by decide) (rgS (by decide) (rgS (by decide) (rgS (by decide) (rgS (by decide) (rgS (by decide) (rgS (by decide) (rgS (rgA (kA_ok p1)) (rgS (rgB (kA_ok p1)) (rgS (by decide) (rgS (by decide) (rgS (by decide) (rgS (by decide) (rgS (by decide) (rgS (by decide) (rgS (by decide) (rgS (by decide) (rgS (by decide) (rgS (by decide) (rgS (rgA (kB_ok p1)) (rgS (rgB (kB_ok p1)) (rgS (by decide) (rgS (by decide) (rgS (by decide) (rgS (by decide) (rgS (by decide) (rgS (by decide) (rgS (by decide) (rgS (by decide) (rgS (by decide) (rgS (rgA (kA_ok p2)) (rgS (rgB (kA_ok p2)) (rgS (by decide) (rgS (by decide) (rgS (by decide) (rgS (by decide) (rgS (by decide) (rgS (by decide) (rgS (by decide) (rgS (by decide) (rgS (by decide) (rgS (by decide) (rgS (by decide) (rgS (rgA (kB_ok p2)) (rgS (rgB (kB_ok p2)) (rgS (by decide) (rgS (by decide) (rgS (by decide) (rgS (by decide) (rgS (by decide) (rgS (by decide) (rgS (by decide) (rgS (rgA (kA_ok p3)) (rgS (rgB (kA_ok p3)) (rgS (by decide) (rgS (by decide) (rgS (by decide) (rgS (by decide) (rgS (by decide) (rgS (by decide) (rgS (by decide) (rgS (by decide) (rgS (by decide) (rgS (rgA (kB_ok p3)) (rgS (rgB (kB_ok p3)) rg0)))))))))))))))))))))))))))))))))))))))))))))))))))))))))))))))))))))))))))))))))))))))) (lb rfl) hS hcz (len := 3) (wd := 1) (by decide) (by decide)) rfl (lenOf pd_25 rfl) rfl (lb rfl) at_678 681 rfl 3 180 (lb rfl) (lb rfl) (lb rfl) (lb rfl) ?_
  intro v197 T197 h197 u197 W197 R197 hq
  obtain ⟨rfl, K197, F197⟩ := hq
  show Own.Go _ _ _ _ _ 681 #[.val (.int p0), .val (.int p1), .val (.int p2), .val (.int p3), .val (.int (kA p0)), .val (.int (kB p0)), .val (.int (kA p1)), .val (.int (kB p1)), .val (.int (kA p2)), .val (.int (kB p2)), .val (.int (kA p3)), .val (.int (kB p3)), .val (.ref o1), .unset, .unset, .unset, .unset, .unset] [(.ref o98)]
  refine Own.astore W197 at_681 683 rfl rfl #[.val (.int p0), .val (.int p1), .val (.int p2), .val (.int p3), .val (.int (kA p0)), .val (.int (kB p0)), .val (.int (kA p1)), .val (.int (kB p1)), .val (.int (kA p2)), .val (.int (kB p2)), .val (.int (kA p3)), .val (.int (kB p3)), .val (.ref o1), .val (.ref o98), .unset, .unset, .unset, .unset] rfl ?_
  refine Own.newO W197 (tw hw 35 rfl) (tw hw 36 rfl) (tw hw 37 rfl) at_683 686 rfl 4 188 (by decide) (by decide) (by decide) (by decide) ?_
  intro T198 h198 o198 g198 W198 E198 A198 D198 s198 k198
  have F198_events : Fld G.Z h198 o198 "com/example/couplet/couplet/core/EventCounts" "events" "J" (.long 0) := D198 (Or.inr (tw hw 51 rfl)) (ty := .long) (by decide)
  have F198_inserted : Fld G.Z h198 o198 "com/example/couplet/couplet/core/EventCounts" "inserted" "J" (.long 0) := D198 (Or.inr (tw hw 53 rfl)) (ty := .long) (by decide)
  have F198_updated : Fld G.Z h198 o198 "com/example/couplet/couplet/core/EventCounts" "updated" "J" (.long 0) := D198 (Or.inr (tw hw 55 rfl)) (ty := .long) (by decide)
  have F198_restored : Fld G.Z h198 o198 "com/example/couplet/couplet/core/EventCounts" "restored" "J" (.long 0) := D198 (Or.inr (tw hw 57 rfl)) (ty := .long) (by decide)
  have F198_deleted : Fld G.Z h198 o198 "com/example/couplet/couplet/core/EventCounts" "deleted" "J" (.long 0) := D198 (Or.inr (tw hw 59 rfl)) (ty := .long) (by decide)
  have F198_unchanged : Fld G.Z h198 o198 "com/example/couplet/couplet/core/EventCounts" "unchanged" "J" (.long 0) := D198 (Or.inr (tw hw 61 rfl)) (ty := .long) (by decide)
  have F198_stale : Fld G.Z h198 o198 "com/example/couplet/couplet/core/EventCounts" "stale" "J" (.long 0) := D198 (Or.inr (tw hw 63 rfl)) (ty := .long) (by decide)
  have F198_skipped : Fld G.Z h198 o198 "com/example/couplet/couplet/core/EventCounts" "skipped" "J" (.long 0) := D198 (Or.inr (tw hw 65 rfl)) (ty := .long) (by decide)
  refine Own.dup W198 at_686 687 rfl rfl ?_
  refine Own.iload W198 at_687 689 rfl (kA p0) rfl ?_
  refine Own.callS W198 (tw hw 38 rfl) (tw hw 39 rfl) (tw hw 4 rfl) (tw hw 40 rfl) (by decide) (argsL := [(.int (kA p0))]) (rest := [(.ref o198), (.ref o198)]) (Own.Con.pay (con_val hw hEL (kA p0) W198.old) W198 (tw hw 40 rfl) (tw hw 4 rfl) (len := 3) (wd := 2) (by decide) (by decide) (fun _ q => nomatch q)) rfl (lenOf pd_26 rfl) rfl (lb rfl) at_689 692 rfl 4 188 (lb rfl) (lb rfl) (lb rfl) (lb rfl) ?_
  intro v199 T199 h199 u199 W199 R199 hq
  obtain ⟨rfl, eh199⟩ := hq
  have ei199 := eh199.symm; subst ei199
  have sf200 := R199.safe A198.lt s198
  show Own.Go _ _ _ _ _ 692 #[.val (.int p0), .val (.int p1), .val (.int p2), .val (.int p3), .val (.int (kA p0)), .val (.int (kB p0)), .val (.int (kA p1)), .val (.int (kB p1)), .val (.int (kA p2)), .val (.int (kB p2)), .val (.int (kA p3)), .val (.int (kB p3)), .val (.ref o1), .val (.ref o98), .unset, .unset, .unset, .unset] [(.long (valF (kA p0))), (.ref o198), (.ref o198)]
  refine Own.iload W199 at_692 694 rfl (kB p0) rfl ?_
  refine Own.callS W199 (tw hw 38 rfl) (tw hw 39 rfl) (tw hw 4 rfl) (tw hw 40 rfl) (by decide) (argsL := [(.int (kB p0))]) (rest := [(.long (valF (kA p0))), (.ref o198), (.ref o198)]) (Own.Con.pay (con_val hw hEL (kB p0) W199.old) W199 (tw hw 40 rfl) (tw hw 4 rfl) (len := 3) (wd := 4) (by decide) (by decide) (fun _ q => nomatch q)) rfl (lenOf pd_26 rfl) rfl (lb rfl) at_694 697 rfl 4 188 (lb rfl) (lb rfl) (lb rfl) (lb rfl) ?_
  intro v201 T201 h201 u201 W201 R201 hq
  obtain ⟨rfl, eh201⟩ := hq
  have ei201 := eh201.symm; subst ei201
  have sf202 := R201.safe A198.lt sf200
  show Own.Go _ _ _ _ _ 697 #[.val (.int p0), .val (.int p1), .val (.int p2), .val (.int p3), .val (.int (kA p0)), .val (.int (kB p0)), .val (.int (kA p1)), .val (.int (kB p1)), .val (.int (kA p2)), .val (.int (kB p2)), .val (.int (kA p3)), .val (.int (kB p3)), .val (.ref o1), .val (.ref o98), .unset, .unset, .unset, .unset] [(.long (valF (kB p0))), (.long (valF (kA p0))), (.ref o198), (.ref o198)]
  refine Own.iload W201 at_697 699 rfl (kA p1) rfl ?_
  refine Own.callS W201 (tw hw 38 rfl) (tw hw 39 rfl) (tw hw 4 rfl) (tw hw 40 rfl) (by decide) (argsL := [(.int (kA p1))]) (rest := [(.long (valF (kB p0))), (.long (valF (kA p0))), (.ref o198), (.ref o198)]) (Own.Con.pay (con_val hw hEL (kA p1) W201.old) W201 (tw hw 40 rfl) (tw hw 4 rfl) (len := 3) (wd := 6) (by decide) (by decide) (fun _ q => nomatch q)) rfl (lenOf pd_26 rfl) rfl (lb rfl) at_699 702 rfl 4 188 (lb rfl) (lb rfl) (lb rfl) (lb rfl) ?_
  intro v203 T203 h203 u203 W203 R203 hq
  obtain ⟨rfl, eh203⟩ := hq
  have ei203 := eh203.symm; subst ei203
  have sf204 := R203.safe A198.lt sf202
  show Own.Go _ _ _ _ _ 702 #[.val (.int p0), .val (.int p1), .val (.int p2), .val (.int p3), .val (.int (kA p0)), .val (.int (kB p0)), .val (.int (kA p1)), .val (.int (kB p1)), .val (.int (kA p2)), .val (.int (kB p2)), .val (.int (kA p3)), .val (.int (kB p3)), .val (.ref o1), .val (.ref o98), .unset, .unset, .unset, .unset] [(.long (valF (kA p1))), (.long (valF (kB p0))), (.long (valF (kA p0))), (.ref o198), (.ref o198)]
  refine Own.iload W203 at_702 704 rfl (kB p1) rfl ?_
  refine Own.callS W203 (tw hw 38 rfl) (tw hw 39 rfl) (tw hw 4 rfl) (tw hw 40 rfl) (by decide) (argsL := [(.int (kB p1))]) (rest := [(.long (valF (kA p1))), (.long (valF (kB p0))), (.long (valF (kA p0))), (.ref o198), (.ref o198)]) (Own.Con.pay (con_val hw hEL (kB p1) W203.old) W203 (tw hw 40 rfl) (tw hw 4 rfl) (len := 3) (wd := 8) (by decide) (by decide) (fun _ q => nomatch q)) rfl (lenOf pd_26 rfl) rfl (lb rfl) at_704 707 rfl 4 188 (lb rfl) (lb rfl) (lb rfl) (lb rfl) ?_
  intro v205 T205 h205 u205 W205 R205 hq
  obtain ⟨rfl, eh205⟩ := hq
  have ei205 := eh205.symm; subst ei205
  have sf206 := R205.safe A198.lt sf204
  show Own.Go _ _ _ _ _ 707 #[.val (.int p0), .val (.int p1), .val (.int p2), .val (.int p3), .val (.int (kA p0)), .val (.int (kB p0)), .val (.int (kA p1)), .val (.int (kB p1)), .val (.int (kA p2)), .val (.int (kB p2)), .val (.int (kA p3)), .val (.int (kB p3)), .val (.ref o1), .val (.ref o98), .unset, .unset, .unset, .unset] [(.long (valF (kB p1))), (.long (valF (kA p1))), (.long (valF (kB p0))), (.long (valF (kA p0))), (.ref o198), (.ref o198)]
  refine Own.iload W205 at_707 709 rfl (kA p2) rfl ?_
  refine Own.callS W205 (tw hw 38 rfl) (tw hw 39 rfl) (tw hw 4 rfl) (tw hw 40 rfl) (by decide) (argsL := [(.int (kA p2))]) (rest := [(.long (valF (kB p1))), (.long (valF (kA p1))), (.long (valF (kB p0))), (.long (valF (kA p0))), (.ref o198), (.ref o198)]) (Own.Con.pay (con_val hw hEL (kA p2) W205.old) W205 (tw hw 40 rfl) (tw hw 4 rfl) (len := 3) (wd := 10) (by decide) (by decide) (fun _ q => nomatch q)) rfl (lenOf pd_26 rfl) rfl (lb rfl) at_709 712 rfl 4 188 (lb rfl) (lb rfl) (lb rfl) (lb rfl) ?_
  intro v207 T207 h207 u207 W207 R207 hq
  obtain ⟨rfl, eh207⟩ := hq
  have ei207 := eh207.symm; subst ei207
  have sf208 := R207.safe A198.lt sf206
  show Own.Go _ _ _ _ _ 712 #[.val (.int p0), .val (.int p1), .val (.int p2), .val (.int p3), .val (.int (kA p0)), .val (.int (kB p0)), .val (.int (kA p1)), .val (.int (kB p1)), .val (.int (kA p2)), .val (.int (kB p2)), .val (.int (kA p3)), .val (.int (kB p3)), .val (.ref o1), .val (.ref o98), .unset, .unset, .unset, .unset] [(.long (valF (kA p2))), (.long (valF (kB p1))), (.long (valF (kA p1))), (.long (valF (kB p0))), (.long (valF (kA p0))), (.ref o198), (.ref o198)]
  refine Own.iload W207 at_712 714 rfl (kB p2) rfl ?_
  refine Own.callS W207 (tw hw 38 rfl) (tw hw 39 rfl) (tw hw 4 rfl) (tw hw 40 rfl) (by decide) (argsL := [(.int (kB p2))]) (rest := [(.long (valF (kA p2))), (.long (valF (kB p1))), (.long (valF (kA p1))), (.long (valF (kB p0))), (.long (valF (kA p0))), (.ref o198), (.ref o198)]) (Own.Con.pay (con_val hw hEL (kB p2) W207.old) W207 (tw hw 40 rfl) (tw hw 4 rfl) (len := 3) (wd := 12) (by decide) (by decide) (fun _ q => nomatch q)) rfl (lenOf pd_26 rfl) rfl (lb rfl) at_714 717 rfl 4 188 (lb rfl) (lb rfl) (lb rfl) (lb rfl) ?_
  intro v209 T209 h209 u209 W209 R209 hq
  obtain ⟨rfl, eh209⟩ := hq
  have ei209 := eh209.symm; subst ei209
  have sf210 := R209.safe A198.lt sf208
  show Own.Go _ _ _ _ _ 717 #[.val (.int p0), .val (.int p1), .val (.int p2), .val (.int p3), .val (.int (kA p0)), .val (.int (kB p0)), .val (.int (kA p1)), .val (.int (kB p1)), .val (.int (kA p2)), .val (.int (kB p2)), .val (.int (kA p3)), .val (.int (kB p3)), .val (.ref o1), .val (.ref o98), .unset, .unset, .unset, .unset] [(.long (valF (kB p2))), (.long (valF (kA p2))), (.long (valF (kB p1))), (.long (valF (kA p1))), (.long (valF (kB p0))), (.long (valF (kA p0))), (.ref o198), (.ref o198)]
  refine Own.iload W209 at_717 719 rfl (kA p3) rfl ?_
  refine Own.callS W209 (tw hw 38 rfl) (tw hw 39 rfl) (tw hw 4 rfl) (tw hw 40 rfl) (by decide) (argsL := [(.int (kA p3))]) (rest := [(.long (valF (kB p2))), (.long (valF (kA p2))), (.long (valF (kB p1))), (.long (valF (kA p1))), (.long (valF (kB p0))), (.long (valF (kA p0))), (.ref o198), (.ref o198)]) (Own.Con.pay (con_val hw hEL (kA p3) W209.old) W209 (tw hw 40 rfl) (tw hw 4 rfl) (len := 3) (wd := 14) (by decide) (by decide) (fun _ q => nomatch q)) rfl (lenOf pd_26 rfl) rfl (lb rfl) at_719 722 rfl 4 188 (lb rfl) (lb rfl) (lb rfl) (lb rfl) ?_
  intro v211 T211 h211 u211 W211 R211 hq
  obtain ⟨rfl, eh211⟩ := hq
  have ei211 := eh211.symm; subst ei211
  have sf212 := R211.safe A198.lt sf210
  show Own.Go _ _ _ _ _ 722 #[.val (.int p0), .val (.int p1), .val (.int p2), .val (.int p3), .val (.int (kA p0)), .val (.int (kB p0)), .val (.int (kA p1)), .val (.int (kB p1)), .val (.int (kA p2)), .val (.int (kB p2)), .val (.int (kA p3)), .val (.int (kB p3)), .val (.ref o1), .val (.ref o98), .unset, .unset, .unset, .unset] [(.long (valF (kA p3))), (.long (valF (kB p2))), (.long (valF (kA p2))), (.long (valF (kB p1))), (.long (valF (kA p1))), (.long (valF (kB p0))), (.long (valF (kA p0))), (.ref o198), (.ref o198)]
  refine Own.iload W211 at_722 724 rfl (kB p3) rfl ?_
  refine Own.callS W211 (tw hw 38 rfl) (tw hw 39 rfl) (tw hw 4 rfl) (tw hw 40 rfl) (by decide) (argsL := [(.int (kB p3))]) (rest := [(.long (valF (kA p3))), (.long (valF (kB p2))), (.long (valF (kA p2))), (.long (valF (kB p1))), (.long (valF (kA p1))), (.long (valF (kB p0))), (.long (valF (kA p0))), (.ref o198), (.ref o198)]) (Own.Con.pay (con_val hw hEL (kB p3) W211.old) W211 (tw hw 40 rfl) (tw hw 4 rfl) (len := 3) (wd := 16) (by decide) (by decide) (fun _ q => nomatch q)) rfl (lenOf pd_26 rfl) rfl (lb rfl) at_724 727 rfl 4 188 (lb rfl) (lb rfl) (lb rfl) (lb rfl) ?_
  intro v213 T213 h213 u213 W213 R213 hq
  obtain ⟨rfl, eh213⟩ := hq
  have ei213 := eh213.symm; subst ei213
  have sf214 := R213.safe A198.lt sf212
  show Own.Go _ _ _ _ _ 727 #[.val (.int p0), .val (.int p1), .val (.int p2), .val (.int p3), .val (.int (kA p0)), .val (.int (kB p0)), .val (.int (kA p1)), .val (.int (kB p1)), .val (.int (kA p2)), .val (.int (kB p2)), .val (.int (kA p3)), .val (.int (kB p3)), .val (.ref o1), .val (.ref o98), .unset, .unset, .unset, .unset] [(.long (valF (kB p3))), (.long (valF (kA p3))), (.long (valF (kB p2))), (.long (valF (kA p2))), (.long (valF (kB p1))), (.long (valF (kA p1))), (.long (valF (kB p0))), (.long (valF (kA p0))), (.ref o198), (.ref o198)]
  have X215 : Ext h h98 := Own.Ext.tr X195 E98
  have X216 : Ext h h197 := Own.Ext.kp X215 K197 (allS (Nat.le_trans X195.1 (Nat.le_of_eq g98.symm)) all0)
  refine Own.callX W213 rfl (tw hw 41 rfl) (tw hw 42 rfl) (tw hw 43 rfl) (by decide) (argsL := [(.long (valF (kA p0))), (.long (valF (kB p0))), (.long (valF (kA p1))), (.long (valF (kB p1))), (.long (valF (kA p2))), (.long (valF (kB p2))), (.long (valF (kA p3))), (.long (valF (kB p3)))]) (rest := [(.ref o198)]) (Own.Con.pay (con_ec hw hEL W213.old (Nat.le_trans W0.n0 (Nat.le_trans X216.1 (Nat.le_of_eq g198.symm))) A198 F198_events F198_inserted F198_updated F198_restored F198_deleted F198_unchanged F198_stale F198_skipped) W213 (tw hw 43 rfl) (tw hw 37 rfl) (len := 3) (wd := 1) (by decide) (by decide) (fun _ q => nomatch q)) rfl (lenOf pd_27 rfl) rfl (lb rfl) at_727 730 rfl 4 188 (lb rfl) (lb rfl) (lb rfl) (lb rfl) ?_
  intro v217 T217 h217 u217 W217 R217 hq
  obtain ⟨rfl, K217, E217, G217_events, G217_inserted, G217_updated, G217_restored, G217_deleted, G217_unchanged, G217_stale, G217_skipped⟩ := hq
  show Own.Go _ _ _ _ _ 730 #[.val (.int p0), .val (.int p1), .val (.int p2), .val (.int p3), .val (.int (kA p0)), .val (.int (kB p0)), .val (.int (kA p1)), .val (.int (kB p1)), .val (.int (kA p2)), .val (.int (kB p2)), .val (.int (kA p3)), .val (.int (kB p3)), .val (.ref o1), .val (.ref o98), .unset, .unset, .unset, .unset] [(.ref o198)]
  refine Own.astore W217 at_730 732 rfl rfl #[.val (.int p0), .val (.int p1), .val (.int p2), .val (.int p3), .val (.int (kA p0)), .val (.int (kB p0)), .val (.int (kA p1)), .val (.int (kB p1)), .val (.int (kA p2)), .val (.int (kB p2)), .val (.int (kA p3)), .val (.int (kB p3)), .val (.ref o1), .val (.ref o98), .val (.ref o198), .unset, .unset, .unset] rfl ?_
  refine Own.aload W217 at_732 734 rfl (.ref o98) rfl rfl ?_
  refine Own.aload W217 at_734 736 rfl (.ref o198) rfl rfl ?_
  refine Own.callV W217 (tw hw 66 rfl) (tw hw 67 rfl) (fun s q => notFace_of_selects (args := #[]) (mvT (s := s) q (tw hw 69 rfl))) (tw hw 69 rfl) (tw hw 68 rfl) (by decide) (argsL := []) (rest := [(.ref o98)]) (Own.Con.pay (con_tsD hw hEL hmem hS hcz hE hEN16 hEN34 hEN70 hEN142 (lt2 hw hEL SDO DG1 SDT DG2 (kA_ok p0)) (lt2 hw hEL SDO DG1 SDT DG2 (kB_ok p0)) (lt2 hw hEL SDO DG1 SDT DG2 (kA_ok p1)) (lt2 hw hEL SDO DG1 SDT DG2 (kB_ok p1)) (lt2 hw hEL SDO DG1 SDT DG2 (kA_ok p2)) (lt2 hw hEL SDO DG1 SDT DG2 (kB_ok p2)) (lt2 hw hEL SDO DG1 SDT DG2 (kA_ok p3)) (lt2 hw hEL SDO DG1 SDT DG2 (kB_ok p3)) W217.old G217_events G217_inserted G217_updated G217_restored G217_deleted G217_unchanged G217_stale G217_skipped) W217 (tw hw 70 rfl) (tw hw 37 rfl) (len := 3) (wd := 1) (by decide) (by decide) (fun _ q => nomatch q)) E217 rfl (lenOf pd_23 rfl) rfl (lb rfl) at_736 739 rfl 27 1168 (lb rfl) (lb rfl) (lb rfl) (lb rfl) ?_
  intro v218 T218 h218 u218 W218 R218 hq
  obtain ⟨o218, rfl, E218, g218, S218⟩ := hq
  have Z218 : Own.Str G.Z h218 o218 [101, 118, 101, 110, 116, 115, 61, (cA (kA p0)), (cB (kA p0)), 32, 105, 110, 115, 101, 114, 116, 101, 100, 61, (cA (kB p0)), (cB (kB p0)), 32, 117, 112, 100, 97, 116, 101, 100, 61, (cA (kA p1)), (cB (kA p1)), 32, 114, 101, 115, 116, 111, 114, 101, 100, 61, (cA (kB p1)), (cB (kB p1)), 32, 100, 101, 108, 101, 116, 101, 100, 61, (cA (kA p2)), (cB (kA p2)), 32, 117, 110, 99, 104, 97, 110, 103, 101, 100, 61, (cA (kB p2)), (cB (kB p2)), 32, 115, 116, 97, 108, 101, 61, (cA (kA p3)), (cB (kA p3)), 32, 115, 107, 105, 112, 112, 101, 100, 61, (cA (kB p3)), (cB (kB p3))] := S218
  show Own.Go _ _ _ _ _ 739 #[.val (.int p0), .val (.int p1), .val (.int p2), .val (.int p3), .val (.int (kA p0)), .val (.int (kB p0)), .val (.int (kA p1)), .val (.int (kB p1)), .val (.int (kA p2)), .val (.int (kB p2)), .val (.int (kA p3)), .val (.int (kB p3)), .val (.ref o1), .val (.ref o98), .val (.ref o198), .unset, .unset, .unset] [(.ref o218), (.ref o98)]
  have X220 : Ext h197 h198 := E198
  have X221 : Ext h197 h217 := Own.Ext.kp X220 K217 (allS (Nat.le_of_eq g198.symm) all0)
  have X222 : Ext h197 h218 := Own.Ext.tr X221 E218
  have ZX219 := (F197.ext X222).exa
  refine Own.callV W218 (tw hw 229 rfl) (tw hw 230 rfl) (fun s q => notFace_of_selects (args := #[]) (mvT (s := s) q (tw hw 232 rfl))) (tw hw 232 rfl) (tw hw 231 rfl) (by decide) (argsL := [(.ref o218)]) (rest := []) (Own.payEq (wQ hw) (kI := 4) (tw hw 7 rfl) W218 (F197.ext X222) Z218 hS hcz (len := 3) (wd := 0) (by decide) (by decide)) ZX219 rfl (lenOf pd_28 rfl) rfl (lb rfl) at_739 742 rfl 27 1168 (lb rfl) (lb rfl) (lb rfl) (lb rfl) ?_
  intro v223 T223 h223 u223 W223 R223 hq
  obtain ⟨hv223, eh223⟩ := hq
  have ei223 := eh223.symm; subst ei223
  rcases hv223 with ⟨rfl, -⟩ | ⟨-, ne223⟩
  rotate_left
  · exact absurd rfl ne223
  show Own.Go _ _ _ _ _ 742 #[.val (.int p0), .val (.int p1), .val (.int p2), .val (.int p3), .val (.int (kA p0)), .val (.int (kB p0)), .val (.int (kA p1)), .val (.int (kB p1)), .val (.int (kA p2)), .val (.int (kB p2)), .val (.int (kA p3)), .val (.int (kB p3)), .val (.ref o1), .val (.ref o98), .val (.ref o198), .unset, .unset, .unset] [.int 1]
  refine Own.istore W223 at_742 744 rfl #[.val (.int p0), .val (.int p1), .val (.int p2), .val (.int p3), .val (.int (kA p0)), .val (.int (kB p0)), .val (.int (kA p1)), .val (.int (kB p1)), .val (.int (kA p2)), .val (.int (kB p2)), .val (.int (kA p3)), .val (.int (kB p3)), .val (.ref o1), .val (.ref o98), .val (.ref o198), .val (.int 1), .unset, .unset] rfl ?_
  refine Own.newO W223 (tw hw 35 rfl) (tw hw 36 rfl) (tw hw 37 rfl) at_744 747 rfl 28 1176 (by decide) (by decide) (by decide) (by decide) ?_
  intro T224 h224 o224 g224 W224 E224 A224 D224 s224 k224
  have F224_events : Fld G.Z h224 o224 "com/example/couplet/couplet/core/EventCounts" "events" "J" (.long 0) := D224 (Or.inr (tw hw 51 rfl)) (ty := .long) (by decide)
  have F224_inserted : Fld G.Z h224 o224 "com/example/couplet/couplet/core/EventCounts" "inserted" "J" (.long 0) := D224 (Or.inr (tw hw 53 rfl)) (ty := .long) (by decide)
  have F224_updated : Fld G.Z h224 o224 "com/example/couplet/couplet/core/EventCounts" "updated" "J" (.long 0) := D224 (Or.inr (tw hw 55 rfl)) (ty := .long) (by decide)
  have F224_restored : Fld G.Z h224 o224 "com/example/couplet/couplet/core/EventCounts" "restored" "J" (.long 0) := D224 (Or.inr (tw hw 57 rfl)) (ty := .long) (by decide)
  have F224_deleted : Fld G.Z h224 o224 "com/example/couplet/couplet/core/EventCounts" "deleted" "J" (.long 0) := D224 (Or.inr (tw hw 59 rfl)) (ty := .long) (by decide)
  have F224_unchanged : Fld G.Z h224 o224 "com/example/couplet/couplet/core/EventCounts" "unchanged" "J" (.long 0) := D224 (Or.inr (tw hw 61 rfl)) (ty := .long) (by decide)
  have F224_stale : Fld G.Z h224 o224 "com/example/couplet/couplet/core/EventCounts" "stale" "J" (.long 0) := D224 (Or.inr (tw hw 63 rfl)) (ty := .long) (by decide)
  have F224_skipped : Fld G.Z h224 o224 "com/example/couplet/couplet/core/EventCounts" "skipped" "J" (.long 0) := D224 (Or.inr (tw hw 65 rfl)) (ty := .long) (by decide)
  refine Own.dup W224 at_747 748 rfl rfl ?_
  refine Own.ldc2 W224 (tw hw 239 rfl) at_748 751 rfl ?_
  refine Own.ldc2 W224 (tw hw 240 rfl) at_751 754 rfl ?_
  refine Own.ldc2 W224 (tw hw 241 rfl) at_754 757 rfl ?_
  refine Own.ldc2 W224 (tw hw 242 rfl) at_757 760 rfl ?_
  refine Own.ldc2 W224 (tw hw 243 rfl) at_760 763 rfl ?_
  refine Own.lconst W224 at_763 764 rfl (0 : Int64) rfl ?_
  refine Own.lconst W224 at_764 765 rfl (1 : Int64) rfl ?_
  refine Own.ldc2 W224 (tw hw 244 rfl) at_765 768 rfl ?_
  have X225 : Ext h h198 := Own.Ext.tr X216 E198
  have X226 : Ext h h217 := Own.Ext.kp X225 K217 (allS (Nat.le_trans X216.1 (Nat.le_of_eq g198.symm)) all0)
  have X227 : Ext h h218 := Own.Ext.tr X226 E218
  refine Own.callX W224 rfl (tw hw 41 rfl) (tw hw 42 rfl) (tw hw 43 rfl) (by decide) (argsL := [(.long (-9223372036854775808)), (.long 9223372036854775807), (.long (-1)), (.long 2147483648), (.long (-2147483649)), (.long 0), (.long 1), (.long 10)]) (rest := [(.ref o224)]) (Own.Con.pay (con_ec hw hEL W224.old (Nat.le_trans W0.n0 (Nat.le_trans X227.1 (Nat.le_of_eq g224.symm))) A224 F224_events F224_inserted F224_updated F224_restored F224_deleted F224_unchanged F224_stale F224_skipped) W224 (tw hw 43 rfl) (tw hw 37 rfl) (len := 3) (wd := 1) (by decide) (by decide) (fun _ q => nomatch q)) rfl (lenOf pd_27 rfl) rfl (lb rfl) at_768 771 rfl 28 1176 (lb rfl) (lb rfl) (lb rfl) (lb rfl) ?_
  intro v228 T228 h228 u228 W228 R228 hq
  obtain ⟨rfl, K228, E228, G228_events, G228_inserted, G228_updated, G228_restored, G228_deleted, G228_unchanged, G228_stale, G228_skipped⟩ := hq
  show Own.Go _ _ _ _ _ 771 #[.val (.int p0), .val (.int p1), .val (.int p2), .val (.int p3), .val (.int (kA p0)), .val (.int (kB p0)), .val (.int (kA p1)), .val (.int (kB p1)), .val (.int (kA p2)), .val (.int (kB p2)), .val (.int (kA p3)), .val (.int (kB p3)), .val (.ref o1), .val (.ref o98), .val (.ref o198), .val (.int 1), .unset, .unset] [(.ref o224)]
  refine Own.astore W228 at_771 773 rfl rfl #[.val (.int p0), .val (.int p1), .val (.int p2), .val (.int p3), .val (.int (kA p0)), .val (.int (kB p0)), .val (.int (kA p1)), .val (.int (kB p1)), .val (.int (kA p2)), .val (.int (kB p2)), .val (.int (kA p3)), .val (.int (kB p3)), .val (.ref o1), .val (.ref o98), .val (.ref o198), .val (.int 1), .val (.ref o224), .unset] rfl ?_
  refine Own.ldcR W228 (tw hw 245 rfl) (Own.sAtomsN (wS hw)) (by rw [hE]; decide) (vs := [.int 101, .int 118, .int 101, .int 110, .int 116, .int 115, .int 61, .int 45, .int 57, .int 50, .int 50, .int 51, .int 51, .int 55, .int 50, .int 48, .int 51, .int 54, .int 56, .int 53, .int 52, .int 55, .int 55, .int 53, .int 56, .int 48, .int 56, .int 32, .int 105, .int 110, .int 115, .int 101, .int 114, .int 116, .int 101, .int 100, .int 61, .int 57, .int 50, .int 50, .int 51, .int 51, .int 55, .int 50, .int 48, .int 51, .int 54, .int 56, .int 53, .int 52, .int 55, .int 55, .int 53, .int 56, .int 48, .int 55, .int 32, .int 117, .int 112, .int 100, .int 97, .int 116, .int 101, .int 100, .int 61, .int 45, .int 49, .int 32, .int 114, .int 101, .int 115, .int 116, .int 111, .int 114, .int 101, .int 100, .int 61, .int 50, .int 49, .int 52, .int 55, .int 52, .int 56, .int 51, .int 54, .int 52, .int 56, .int 32, .int 100, .int 101, .int 108, .int 101, .int 116, .int 101, .int 100, .int 61, .int 45, .int 50, .int 49, .int 52, .int 55, .int 52, .int 56, .int 51, .int 54, .int 52, .int 57, .int 32, .int 117, .int 110, .int 99, .int 104, .int 97, .int 110, .int 103, .int 101, .int 100, .int 61, .int 48, .int 32, .int 115, .int 116, .int 97, .int 108, .int 101, .int 61, .int 49, .int 32, .int 115, .int 107, .int 105, .int 112, .int 112, .int 101, .int 100, .int 61, .int 49, .int 48]) (z := (138 : Int32)) ⟨by decide, by decide⟩ (by decide) (by decide) at_773 775 rfl 552 (by decide) (by decide) 30 1732 (lb rfl) (lb rfl) (lb rfl) (lb rfl) ?_
  intro v229 T229 h229 o229 b229 q229 W229 R229 E229 fa229 fc229 fv229 fb229 ne229
  have F229 : Own.Str G.Z h229 o229 [101, 118, 101, 110, 116, 115, 61, 45, 57, 50, 50, 51, 51, 55, 50, 48, 51, 54, 56, 53, 52, 55, 55, 53, 56, 48, 56, 32, 105, 110, 115, 101, 114, 116, 101, 100, 61, 57, 50, 50, 51, 51, 55, 50, 48, 51, 54, 56, 53, 52, 55, 55, 53, 56, 48, 55, 32, 117, 112, 100, 97, 116, 101, 100, 61, 45, 49, 32, 114, 101, 115, 116, 111, 114, 101, 100, 61, 50, 49, 52, 55, 52, 56, 51, 54, 52, 56, 32, 100, 101, 108, 101, 116, 101, 100, 61, 45, 50, 49, 52, 55, 52, 56, 51, 54, 52, 57, 32, 117, 110, 99, 104, 97, 110, 103, 101, 100, 61, 48, 32, 115, 116, 97, 108, 101, 61, 49, 32, 115, 107, 105, 112, 112, 101, 100, 61, 49, 48] := ⟨fa229, fc229, by decide, by decide, b229, q229, fv229, fb229⟩
  refine Own.aload W229 at_775 777 rfl (.ref o224) rfl rfl ?_
  have X230 : Ext h228 h229 := E229
  refine Own.callV W229 (tw hw 66 rfl) (tw hw 67 rfl) (fun s q => notFace_of_selects (args := #[]) (mvT (s := s) q (tw hw 69 rfl))) (tw hw 69 rfl) (tw hw 68 rfl) (by decide) (argsL := []) (rest := [(.ref o229)]) (Own.Con.pay (con_tsE hw hEL hmem hS hcz hE hEN16 hEN34 hEN70 hEN142 SDO DG1 SDT DG2 W229.old (G228_events.ext X230) (G228_inserted.ext X230) (G228_updated.ext X230) (G228_restored.ext X230) (G228_deleted.ext X230) (G228_unchanged.ext X230) (G228_stale.ext X230) (G228_skipped.ext X230)) W229 (tw hw 70 rfl) (tw hw 37 rfl) (len := 3) (wd := 1) (by decide) (by decide) (fun _ q => nomatch q)) (E228.ext X230) rfl (lenOf pd_23 rfl) rfl (lb rfl) at_777 780 rfl 53 2712 (lb rfl) (lb rfl) (lb rfl) (lb rfl) ?_
  intro v231 T231 h231 u231 W231 R231 hq
  obtain ⟨o231, rfl, E231, g231, S231⟩ := hq
  have Z231 : Own.Str G.Z h231 o231 [101, 118, 101, 110, 116, 115, 61, 45, 57, 50, 50, 51, 51, 55, 50, 48, 51, 54, 56, 53, 52, 55, 55, 53, 56, 48, 56, 32, 105, 110, 115, 101, 114, 116, 101, 100, 61, 57, 50, 50, 51, 51, 55, 50, 48, 51, 54, 56, 53, 52, 55, 55, 53, 56, 48, 55, 32, 117, 112, 100, 97, 116, 101, 100, 61, 45, 49, 32, 114, 101, 115, 116, 111, 114, 101, 100, 61, 50, 49, 52, 55, 52, 56, 51, 54, 52, 56, 32, 100, 101, 108, 101, 116, 101, 100, 61, 45, 50, 49, 52, 55, 52, 56, 51, 54, 52, 57, 32, 117, 110, 99, 104, 97, 110, 103, 101, 100, 61, 48, 32, 115, 116, 97, 108, 101, 61, 49, 32, 115, 107, 105, 112, 112, 101, 100, 61, 49, 48] := S231
  show Own.Go _ _ _ _ _ 780 #[.val (.int p0), .val (.int p1), .val (.int p2), .val (.int p3), .val (.int (kA p0)), .val (.int (kB p0)), .val (.int (kA p1)), .val (.int (kB p1)), .val (.int (kA p2)), .val (.int (kB p2)), .val (.int (kA p3)), .val (.int (kB p3)), .val (.ref o1), .val (.ref o98), .val (.ref o198), .val (.int 1), .val (.ref o224), .unset] [(.ref o231), (.ref o229)]
  have X233 : Ext h229 h231 := E231
  have ZX232 := (F229.ext X233).exa
  refine Own.callV W231 (tw hw 229 rfl) (tw hw 230 rfl) (fun s q => notFace_of_selects (args := #[]) (mvT (s := s) q (tw hw 232 rfl))) (tw hw 232 rfl) (tw hw 231 rfl) (by decide) (argsL := [(.ref o231)]) (rest := []) (Own.payEq (wQ hw) (kI := 4) (tw hw 7 rfl) W231 (F229.ext X233) Z231 hS hcz (len := 3) (wd := 0) (by decide) (by decide)) ZX232 rfl (lenOf pd_28 rfl) rfl (lb rfl) at_780 783 rfl 53 2712 (lb rfl) (lb rfl) (lb rfl) (lb rfl) ?_
  intro v234 T234 h234 u234 W234 R234 hq
  obtain ⟨hv234, eh234⟩ := hq
  have ei234 := eh234.symm; subst ei234
  rcases hv234 with ⟨rfl, -⟩ | ⟨-, ne234⟩
  rotate_left
  · exact absurd rfl ne234
  show Own.Go _ _ _ _ _ 783 #[.val (.int p0), .val (.int p1), .val (.int p2), .val (.int p3), .val (.int (kA p0)), .val (.int (kB p0)), .val (.int (kA p1)), .val (.int (kB p1)), .val (.int (kA p2)), .val (.int (kB p2)), .val (.int (kA p3)), .val (.int (kB p3)), .val (.ref o1), .val (.ref o98), .val (.ref o198), .val (.int 1), .val (.ref o224), .unset] [.int 1]
  refine Own.istore W234 at_783 785 rfl #[.val (.int p0), .val (.int p1), .val (.int p2), .val (.int p3), .val (.int (kA p0)), .val (.int (kB p0)), .val (.int (kA p1)), .val (.int (kB p1)), .val (.int (kA p2)), .val (.int (kB p2)), .val (.int (kA p3)), .val (.int (kB p3)), .val (.ref o1), .val (.ref o98), .val (.ref o198), .val (.int 1), .val (.ref o224), .val (.int 1)] rfl ?_
  refine Own.iload W234 at_785 787 rfl 1 rfl ?_
  refine Own.ifNo W234 at_787 790 (by decide) rfl ?_
  refine Own.iload W234 at_790 792 rfl 1 rfl ?_
  refine Own.ifNo W234 at_792 795 (by decide) rfl ?_
  refine Own.iconst W234 at_795 796 rfl 1 rfl ?_
  refine Own.goto W234 at_796 800 (by decide) (by decide) ?_
  exact Own.retB W234 (by decide) (by decide) rfl at_800 rfl rfl
theorem elW {G : Own.Gl} (hw : ∀ d ∈ tables_1, d.before G.a0 G.Z = true) : EW G.Z G.a0 consts_1 := (EW.cons (tw hw 89 rfl) (by decide +kernel) (EW.cons (tw hw 164 rfl) (by decide +kernel) (EW.cons (tw hw 188 rfl) (by decide +kernel) (EW.cons (tw hw 189 rfl) (by decide +kernel) (EW.cons (tw hw 190 rfl) (by decide +kernel) (EW.cons (tw hw 191 rfl) (by decide +kernel) (EW.cons (tw hw 192 rfl) (by decide +kernel) (EW.cons (tw hw 193 rfl) (by decide +kernel) (EW.cons (tw hw 245 rfl) (by decide +kernel) EW.nil)))))))))
theorem enW16 {G : Own.Gl} (hw : ∀ d ∈ tables_1, d.before G.a0 G.Z = true) : Own.EN G.Z G.a0 consts_1 16 := (Own.EN.cons (tw hw 89 rfl) (by decide +kernel) (by decide +kernel) (Own.EN.cons (tw hw 164 rfl) (by decide +kernel) (by decide +kernel) (Own.EN.cons (tw hw 188 rfl) (by decide +kernel) (by decide +kernel) (Own.EN.cons (tw hw 189 rfl) (by decide +kernel) (by decide +kernel) (Own.EN.cons (tw hw 190 rfl) (by decide +kernel) (by decide +kernel) (Own.EN.cons (tw hw 191 rfl) (by decide +kernel) (by decide +kernel) (Own.EN.cons (tw hw 192 rfl) (by decide +kernel) (by decide +kernel) (Own.EN.cons (tw hw 193 rfl) (by decide +kernel) (by decide +kernel) (Own.EN.cons (tw hw 245 rfl) (by decide +kernel) (by decide +kernel) Own.EN.nil)))))))))
theorem enW34 {G : Own.Gl} (hw : ∀ d ∈ tables_1, d.before G.a0 G.Z = true) : Own.EN G.Z G.a0 consts_1 34 := (Own.EN.cons (tw hw 89 rfl) (by decide +kernel) (by decide +kernel) (Own.EN.cons (tw hw 164 rfl) (by decide +kernel) (by decide +kernel) (Own.EN.cons (tw hw 188 rfl) (by decide +kernel) (by decide +kernel) (Own.EN.cons (tw hw 189 rfl) (by decide +kernel) (by decide +kernel) (Own.EN.cons (tw hw 190 rfl) (by decide +kernel) (by decide +kernel) (Own.EN.cons (tw hw 191 rfl) (by decide +kernel) (by decide +kernel) (Own.EN.cons (tw hw 192 rfl) (by decide +kernel) (by decide +kernel) (Own.EN.cons (tw hw 193 rfl) (by decide +kernel) (by decide +kernel) (Own.EN.cons (tw hw 245 rfl) (by decide +kernel) (by decide +kernel) Own.EN.nil)))))))))
theorem enW70 {G : Own.Gl} (hw : ∀ d ∈ tables_1, d.before G.a0 G.Z = true) : Own.EN G.Z G.a0 consts_1 70 := (Own.EN.cons (tw hw 89 rfl) (by decide +kernel) (by decide +kernel) (Own.EN.cons (tw hw 164 rfl) (by decide +kernel) (by decide +kernel) (Own.EN.cons (tw hw 188 rfl) (by decide +kernel) (by decide +kernel) (Own.EN.cons (tw hw 189 rfl) (by decide +kernel) (by decide +kernel) (Own.EN.cons (tw hw 190 rfl) (by decide +kernel) (by decide +kernel) (Own.EN.cons (tw hw 191 rfl) (by decide +kernel) (by decide +kernel) (Own.EN.cons (tw hw 192 rfl) (by decide +kernel) (by decide +kernel) (Own.EN.cons (tw hw 193 rfl) (by decide +kernel) (by decide +kernel) (Own.EN.cons (tw hw 245 rfl) (by decide +kernel) (by decide +kernel) Own.EN.nil)))))))))
theorem enW142 {G : Own.Gl} (hw : ∀ d ∈ tables_1, d.before G.a0 G.Z = true) : Own.EN G.Z G.a0 consts_1 142 := (Own.EN.cons (tw hw 89 rfl) (by decide +kernel) (by decide +kernel) (Own.EN.cons (tw hw 164 rfl) (by decide +kernel) (by decide +kernel) (Own.EN.cons (tw hw 188 rfl) (by decide +kernel) (by decide +kernel) (Own.EN.cons (tw hw 189 rfl) (by decide +kernel) (by decide +kernel) (Own.EN.cons (tw hw 190 rfl) (by decide +kernel) (by decide +kernel) (Own.EN.cons (tw hw 191 rfl) (by decide +kernel) (by decide +kernel) (Own.EN.cons (tw hw 192 rfl) (by decide +kernel) (by decide +kernel) (Own.EN.cons (tw hw 193 rfl) (by decide +kernel) (by decide +kernel) (Own.EN.cons (tw hw 245 rfl) (by decide +kernel) (by decide +kernel) Own.EN.nil)))))))))
set_option maxRecDepth 65536 in
set_option maxHeartbeats 40000000 in
theorem comes_1 {Post : Tables → Env → Array Value → State → Outcome → State → Prop} (hpost : ∀ tb e args s v u, (limb_1_1.after args s (.returned v) u = true ∧ limb_1_2.after args s (.returned v) u = true ∧ True) → ReturnedEndW s (.returned v) u (Jvm.fieldLocs frame_1_writes args s ++ Jvm.arrayLocs frame_1_arrays args s ++ Jvm.staticLocs frame_1_statics s) 64 11264 → Post tb e args s (.returned v) u) :
    ArmFor flags0 classFile x code maxLocals ret World_1 tables_1 room_1 Calls_1 rest_1 Pre_1 Post := by
  intro l hfl _ _ p e ha hc hk s m args below hf hA hF happ hP
  obtain ⟨hcalls, hrest, hpre⟩ := hP
  obtain ⟨-, -, -, hnamed, -, -, -, hat⟩ := (Spec.applies_iff hf).mp happ
  obtain ⟨hg, hn⟩ := and_e (Cond.before_iff.mp (show (Jvm.Cond.and given_1 narrow_1).before args s = true from hpre))
  obtain ⟨hcnt, g1⟩ := and_e hg
  obtain ⟨a0, g2⟩ := and_e g1
  obtain ⟨a1, g3⟩ := and_e g2
  obtain ⟨a2, g4⟩ := and_e g3
  have a3 := g4
  obtain ⟨w0, w1, w2, w3, rfl⟩ : ∃ w0 w1 w2 w3 : Value, args = #[w0, w1, w2, w3] := by
    have hs : args.size = 4 := by simpa [Cond.value, given_1] using hcnt
    obtain ⟨L⟩ := args
    match L, hs with
    | [w0, w1, w2, w3], _ => exact ⟨w0, w1, w2, w3, rfl⟩
  have hw := fun d (hd : d ∈ tables_1) => atoms_spec (ws := Jvm.Cond.code x code maxLocals ret :: tables_1) hat d (List.mem_cons_of_mem _ hd)
  have hfit : Fit s := fun {y c} hc i hi => by
    obtain ⟨ha, rfl⟩ := Array.getElem?_eq_some_iff.mp hc
    have q := List.all_eq_true.mp ((Array.all_eq_true_iff_forall_mem.mp hF) _ (Array.getElem_mem ha)) i (List.mem_range.mpr hi)
    simpa [Array.getElem?_eq_getElem hi] using q
  obtain ⟨hsets, hown0⟩ := atoms_of _ (rest_1_c_eq ▸ (show rest_1_c.before _ s = true from hrest))
  obtain ⟨i0, ei0⟩ := is_v a0
  obtain rfl : w0 = (.int i0) := Option.some.inj ei0
  obtain ⟨i1, ei1⟩ := is_v a1
  obtain rfl : w1 = (.int i1) := Option.some.inj ei1
  obtain ⟨i2, ei2⟩ := is_v a2
  obtain rfl : w2 = (.int i2) := Option.some.inj ei2
  obtain ⟨i3, ei3⟩ := is_v a3
  obtain rfl : w3 = (.int i3) := Option.some.inj ei3
  have n3 := not_v (Cond.before_iff.mp (hsets _ (List.mem_of_getElem? (i := 2) rfl)))
  obtain ⟨cz, ecz⟩ := is_v (Cond.before_iff.mp (hsets _ (List.mem_of_getElem? (i := 1) rfl)))
  have S8 : Sta s s.heap "java/lang/String" "COMPACT_STRINGS" "Z" (.int cz) := Sta.start ecz (Or.inl (hsets _ (List.mem_of_getElem? (i := 0) rfl)))
  have hcz : ¬ (cz = (0 : Int32)) := gotF (Cond.eq_ints ecz (Term.int_eval (0))) n3
  obtain ⟨fm, efm, rfm⟩ := isR_v (Cond.before_iff.mp (hsets _ (List.mem_of_getElem? (i := 8) rfl)))
  have SF : Sta s s.heap "jdk/internal/util/Preconditions" "SIOOBE_FORMATTER" "Ljava/util/function/BiFunction;" fm := Sta.start efm (Or.inl (hsets _ (List.mem_of_getElem? (i := 7) rfl)))
  let G : Own.Gl := (l, s, #[(.int i0), (.int i1), (.int i2), (.int i3)], consts_1, s.heap.size)
  have hw' : ∀ d ∈ tables_1, d.before G.a0 G.Z = true := hw
  have hEL : EW G.Z G.a0 G.EL := elW hw'
  have hcw : Jvm.Lit.compactW.before G.a0 G.Z = true := hsets _ (List.mem_of_getElem? (i := 2) rfl)
  have hCH : CHv G.Z G.EL G.Z.vm G.Z.heap := CHv.start hEL (fun q hq => hcalls.1 q hq) hcw (tw hw' 24 rfl) (tw hw' 7 rfl)
  obtain ⟨dg1, kg1, ev_dg1, DG1⟩ := Own.digStart (F := Own.onesF) hfit (fun idx => by simp only [Term.eval]) (hsets _ (List.mem_of_getElem? (i := 12) rfl)) (hsets _ (List.mem_of_getElem? (i := 13) rfl)) (hsets _ (List.mem_of_getElem? (i := 14) rfl)) (fun r hr => rfl) (tw hw' 24 rfl)
  have SDO : Sta s s.heap "java/lang/Integer" "DigitOnes" "[B" (.ref dg1) := Sta.start ev_dg1 (Or.inl (hsets _ (List.mem_of_getElem? (i := 11) rfl)))
  obtain ⟨dg2, kg2, ev_dg2, DG2⟩ := Own.digStart (F := Own.tensF) hfit (fun idx => by simp only [Term.eval]) (hsets _ (List.mem_of_getElem? (i := 17) rfl)) (hsets _ (List.mem_of_getElem? (i := 18) rfl)) (hsets _ (List.mem_of_getElem? (i := 19) rfl)) (fun r hr => rfl) (tw hw' 24 rfl)
  have SDT : Sta s s.heap "java/lang/Integer" "DigitTens" "[B" (.ref dg2) := Sta.start ev_dg2 (Or.inl (hsets _ (List.mem_of_getElem? (i := 16) rfl)))
  obtain ⟨n, o, h1, h2, h3, v, L, rfl, ⟨hv, N, -⟩, -, hq⟩ := con_law (G := G) hw' hEL trivial S8 hcz rfl (enW16 hw') (enW34 hw') (enW70 hw') (enW142 hw') SDO DG1 SDT DG2 i0 i1 i2 i3 (Old.start s) p e ha hc hk s m _ below hf ((Spec.applies_iff_loose hf).mp happ).1 ⟨rfl, State.Warmed39.refl s, rfl, hCH, fun _ q => nomatch q⟩ trivial
  subst hv
  exact ⟨n, _, h1, h2, h3, hpost _ _ _ _ _ _ ⟨Cond.after_iff.mpr rfl, Cond.after_iff.mpr (eq_i res_at (Term.int_eval (1)) rfl), trivial⟩ ⟨hq.1, hq.2.1, hq.2.2.1, (hq.2.2.2.sift fun y hy => Or.inr (N y hy)).mono (by decide) (by decide)⟩⟩
theorem main_1_1 : Claimed_1_1 := comes_1 fun _ _ _ _ _ _ h hF => ⟨h.1, hF⟩
theorem main_1_2 : Claimed_1_2 := comes_1 fun _ _ _ _ _ _ h hF => ⟨h.2.1, hF⟩
end Jvm.Pilot.@@N@@
namespace Jvm.Pilot.@@N@@
open Jvm Jvm.ClassFile Sem Op Lib Jvm.Free Jvm.Stand Jvm.Pilot.@@N@@.Jvm.D
/-! MADE BY PROGRAM (witnessworld.py) out of the Statement's table words and the real class files: 30 classes; the members and pool entries that the words name. The judged class is class 1, her method 3. -/
namespace start1
open Jvm.ClassFile
def u (s : String) : CpInfo := .utf8 (stringToUtf16 s)
/-- a pool by its gaps: so many unusable entries, then the entry; so many at the end -/
def gap : Nat → List CpInfo → List CpInfo
  | 0, r => r
  | n + 1, r => .unusable :: gap n r
def poolList (es : List (Nat × CpInfo)) (last : Nat) : List CpInfo := es.foldr (fun e r => gap e.1 (e.2 :: r)) (gap last [])
def pool (es : List (Nat × CpInfo)) (last : Nat) : Array CpInfo := ⟨poolList es last⟩
def fileOf (pool : Array CpInfo) (this : Nat) (attrs : Array Attribute := #[]) (ms : Array MethodInfo := #[]) (fl : Nat := 33) (sup : Nat := 0) (ifs : Array Nat := #[]) (fds : Array FieldInfo := #[]) : ClassFile where
  minorVersion := 0
  majorVersion := 65
  constantPool := pool
  accessFlags := fl
  thisClass := this
  superClass := sup
  interfaces := ifs
  fields := fds
  methods := ms
  attributes := attrs
def plain (name : String) (sup : Option ClassId) : Class where
  name := name
  kind := .ordinary
  loader := none
  accessFlags := 33
  super := sup
  interfaces := #[]
  cf := none
  fields := #[]
  methods := #[]
  instanceTypes := #[]
  staticTypes := #[]
  resolved := #[]
  callSites := []
  init := .initialized
  statics := none
  mirror := none

def pool0 : Array CpInfo := pool [(5, u "<init>"), (0, u "()V"), (1, .class_ 10), (1, u "java/lang/Object")] 113

def k0c0 : Code := { maxStack := 0, maxLocals := 1, code := object_method_1_code, exceptionTable := #[], attributes := #[] }
def k0m0 : Method := { name := "<init>", desc := "()V", sig := { parameters := [], returnType := none }, accessFlags := 1, code := some k0c0 }
/-- java/lang/Object -/
def k0 : Class := { plain "java/lang/Object" none with
  accessFlags := 33
  interfaces := #[]
  cf := some (fileOf pool0 8 #[] #[{ accessFlags := 1, nameIndex := 5, descriptorIndex := 6, attributes := #[] }] 33 0 #[] #[])
  fields := #[]
  methods := #[k0m0]
  instanceTypes := #[]
  staticTypes := #[]
  resolved := Array.replicate 124 none
  statics := none }

def pool1 : Array CpInfo := pool [(2, .class_ 4), (1, u "java/lang/Object"), (0, u "<init>"), (0, u "()V"), (0, .integer 65535), (0, .methodref 9 10), (0, .class_ 11), (0, .nameAndType 12 13), (0, u "com/example/couplet/couplet/core/EventCountsToStringPinLaw"), (0, u "put"), (0, u "([CII)V"), (0, .class_ 15), (0, u "java/lang/String"), (0, .methodref 14 17), (0, .nameAndType 5 18), (0, u "([C)V"), (0, .class_ 20), (0, u "com/example/couplet/couplet/core/EventCounts"), (0, .methodref 9 22), (0, .nameAndType 23 24), (0, u "val"), (0, u "(I)J"), (0, .methodref 19 26), (0, .nameAndType 5 27), (0, u "(JJJJJJJJ)V"), (0, .methodref 19 29), (0, .nameAndType 30 31), (0, u "toString"), (0, u "()Ljava/lang/String;"), (0, .methodref 14 33), (0, .nameAndType 34 35), (0, u "equals"), (0, u "(Ljava/lang/Object;)Z"), (0, .long 9223372036854775808), (1, .long 9223372036854775807), (1, .long 18446744073709551615), (1, .long 2147483648), (1, .long 18446744071562067967), (1, .long 10), (1, .string 49), (0, u "events=-9223372036854775808 inserted=9223372036854775807 updated=-1 restored=2147483648 deleted=-2147483649 unchanged=0 stale=1 skipped=10"), (3, u "law"), (0, u "(IIII)Z")] 4

def k1m0 : Method := { name := "<init>", desc := "()V", sig := { parameters := [], returnType := none }, accessFlags := 1, code := none }
def k1c1 : Code := { maxStack := 4, maxLocals := 1, code := method_2_code, exceptionTable := #[], attributes := #[] }
def k1m1 : Method := { name := "val", desc := "(I)J", sig := { parameters := [.int], returnType := some .long }, accessFlags := 10, code := some k1c1 }
def k1c2 : Code := { maxStack := 5, maxLocals := 4, code := method_3_code, exceptionTable := #[], attributes := #[] }
def k1m2 : Method := { name := "put", desc := "([CII)V", sig := { parameters := [(.array .char), .int, .int], returnType := none }, accessFlags := 10, code := some k1c2 }
def k1c3 : Code := { maxStack := 18, maxLocals := 18, code := code, exceptionTable := #[], attributes := #[] }
def k1m3 : Method := { name := "law", desc := "(IIII)Z", sig := { parameters := [.int, .int, .int, .int], returnType := some .boolean }, accessFlags := 9, code := some k1c3 }
/-- com/example/couplet/couplet/core/EventCountsToStringPinLaw -/
def k1 : Class := { plain "com/example/couplet/couplet/core/EventCountsToStringPinLaw" (some 0) with
  accessFlags := 49
  interfaces := #[]
  cf := some (fileOf pool1 9 #[] #[{ accessFlags := 1, nameIndex := 5, descriptorIndex := 6, attributes := #[] }, { accessFlags := 10, nameIndex := 23, descriptorIndex := 24, attributes := #[] }, { accessFlags := 10, nameIndex := 12, descriptorIndex := 13, attributes := #[] }, { accessFlags := 9, nameIndex := 53, descriptorIndex := 54, attributes := #[] }] 49 2 #[] #[])
  fields := #[]
  methods := #[k1m0, k1m1, k1m2, k1m3]
  instanceTypes := #[]
  staticTypes := #[]
  resolved := Array.replicate 59 none
  statics := none }

def pool2 : Array CpInfo := pool [(1, .class_ 2), (0, u "java/io/Serializable"), (0, .class_ 4), (0, u "java/lang/Object")] 2

/-- java/io/Serializable -/
def k2 : Class := { plain "java/io/Serializable" (some 0) with
  accessFlags := 1537
  interfaces := #[]
  cf := some (fileOf pool2 1 #[] #[] 1537 3 #[] #[])
  fields := #[]
  methods := #[]
  instanceTypes := #[]
  staticTypes := #[]
  resolved := Array.replicate 7 none
  statics := none }

def pool3 : Array CpInfo := pool [(1, .class_ 2), (0, u "java/lang/Comparable"), (0, .class_ 4), (0, u "java/lang/Object")] 7

/-- java/lang/Comparable -/
def k3 : Class := { plain "java/lang/Comparable" (some 0) with
  accessFlags := 1537
  interfaces := #[]
  cf := some (fileOf pool3 1 #[] #[] 1537 3 #[] #[])
  fields := #[]
  methods := #[]
  instanceTypes := #[]
  staticTypes := #[]
  resolved := Array.replicate 12 none
  statics := none }

def pool4 : Array CpInfo := pool [(2, .class_ 4), (1, u "java/lang/CharSequence"), (42, .class_ 48), (0, u "java/lang/CharSequence$1CodePointIterator"), (10, .class_ 60), (0, u "java/lang/CharSequence$1CharIterator"), (5, .class_ 67), (0, u "java/lang/Object")] 63

/-- java/lang/CharSequence -/
def k4 : Class := { plain "java/lang/CharSequence" (some 0) with
  accessFlags := 1537
  interfaces := #[]
  cf := some (fileOf pool4 2 #[.nestMembers #[47, 59]] #[] 1537 66 #[] #[])
  fields := #[]
  methods := #[]
  instanceTypes := #[]
  staticTypes := #[]
  resolved := Array.replicate 131 none
  statics := none }

def pool5 : Array CpInfo := pool [(1, .class_ 2), (0, u "java/lang/constant/Constable"), (0, .class_ 4), (0, u "java/lang/Object")] 6

/-- java/lang/constant/Constable -/
def k5 : Class := { plain "java/lang/constant/Constable" (some 0) with
  accessFlags := 1537
  interfaces := #[]
  cf := some (fileOf pool5 1 #[] #[] 1537 3 #[] #[])
  fields := #[]
  methods := #[]
  instanceTypes := #[]
  staticTypes := #[]
  resolved := Array.replicate 11 none
  statics := none }

def pool6 : Array CpInfo := pool [(1, .class_ 2), (0, u "java/lang/constant/ConstantDesc"), (0, .class_ 4), (0, u "java/lang/Object")] 32

/-- java/lang/constant/ConstantDesc -/
def k6 : Class := { plain "java/lang/constant/ConstantDesc" (some 0) with
  accessFlags := 1537
  interfaces := #[]
  cf := some (fileOf pool6 1 #[] #[] 1537 3 #[] #[])
  fields := #[]
  methods := #[]
  instanceTypes := #[]
  staticTypes := #[]
  resolved := Array.replicate 37 none
  statics := none }

def pool7 : Array CpInfo := pool [(1, .methodref 2 3), (0, .class_ 4), (0, .nameAndType 5 6), (0, u "java/lang/Object"), (0, u "<init>"), (0, u "()V"), (2, .fieldref 10 11), (0, .class_ 12), (0, .nameAndType 13 14), (0, u "java/lang/String"), (0, u "value"), (0, u "[B"), (0, .fieldref 10 16), (0, .nameAndType 17 18), (0, u "coder"), (0, u "B"), (2, u "hash"), (0, u "I"), (2, u "hashIsZero"), (0, u "Z"), (0, .methodref 10 28), (0, .nameAndType 5 29), (0, u "([CIILjava/lang/Void;)V"), (8, .fieldref 10 39), (0, .nameAndType 40 26), (0, u "COMPACT_STRINGS"), (1, .class_ 44), (1, u "java/lang/StringUTF16"), (0, u "compress"), (1, .methodref 42 48), (0, .nameAndType 49 50), (0, u "coderFromArrayLen"), (0, u "([BI)B"), (3, .methodref 55 56), (0, .class_ 57), (0, .nameAndType 58 59), (0, u "java/util/Arrays"), (0, u "copyOfRange"), (0, u "([BII)[B"), (47, .class_ 109), (1, u "java/lang/StringLatin1"), (32, u "()Z"), (34, .methodref 42 178), (0, .nameAndType 45 179), (0, u "([CII)[B"), (13, .class_ 195), (1, u "java/lang/System"), (16, .methodref 193 213), (0, .nameAndType 214 215), (0, u "arraycopy"), (0, u "(Ljava/lang/Object;ILjava/lang/Object;II)V"), (118, u "()I"), (0, .methodref 10 336), (0, .nameAndType 17 337), (0, u "()B"), (2, u "()[B"), (148, .methodref 10 490), (0, .nameAndType 5 491), (0, u "(Ljava/lang/AbstractStringBuilder;Ljava/lang/Void;)V"), (1, .nameAndType 494 142), (0, u "isLatin1"), (11, .nameAndType 507 334), (0, u "length"), (24, u "getBytes"), (8, .methodref 107 542), (0, .nameAndType 543 544), (0, u "equals"), (0, u "([B[B)Z"), (4, .methodref 550 506), (0, .class_ 551), (0, u "java/lang/AbstractStringBuilder"), (0, .methodref 550 553), (0, .nameAndType 554 340), (0, u "getValue"), (18, u "(Ljava/lang/Object;)Z"), (1, .class_ 576), (0, u "java/lang/CharSequence"), (22, u "CASE_INSENSITIVE_ORDER"), (0, u "Ljava/util/Comparator;"), (220, u "([BIB)V"), (188, u "([C)V"), (36, .methodref 550 493), (53, u "serialPersistentFields"), (0, u "[Ljava/io/ObjectStreamField;"), (0, .class_ 1104), (0, u "java/lang/String$CaseInsensitiveComparator"), (1, .class_ 1107), (0, u "java/io/Serializable"), (0, .class_ 1109), (0, u "java/lang/Comparable"), (0, .class_ 1111), (0, u "java/lang/constant/Constable"), (0, .class_ 1113), (0, u "java/lang/constant/ConstantDesc"), (2, u "serialVersionUID"), (0, u "J"), (3, u "REPL"), (0, u "C"), (2, u "LATIN1"), (1, u "UTF16"), (105, u "(Ljava/lang/StringBuilder;)V")] 217

def k7m0 : Method := { name := "<init>", desc := "()V", sig := { parameters := [], returnType := none }, accessFlags := 1, code := none }
def k7c1 : Code := { maxStack := 5, maxLocals := 2, code := jdk_42_method_3_code, exceptionTable := #[], attributes := #[] }
def k7m1 : Method := { name := "<init>", desc := "([C)V", sig := { parameters := [(.array .char)], returnType := none }, accessFlags := 1, code := some k7c1 }
def k7c2 : Code := { maxStack := 3, maxLocals := 2, code := jdk_42_method_53_code, exceptionTable := #[], attributes := #[] }
def k7m2 : Method := { name := "<init>", desc := "(Ljava/lang/StringBuilder;)V", sig := { parameters := [(.object "java/lang/StringBuilder")], returnType := none }, accessFlags := 1, code := some k7c2 }
def k7c3 : Code := { maxStack := 2, maxLocals := 1, code := jdk_42_method_54_code, exceptionTable := #[], attributes := #[] }
def k7m3 : Method := { name := "length", desc := "()I", sig := { parameters := [], returnType := some .int }, accessFlags := 1, code := some k7c3 }
def k7c4 : Code := { maxStack := 2, maxLocals := 3, code := jdk_42_method_66_code, exceptionTable := #[], attributes := #[] }
def k7m4 : Method := { name := "equals", desc := "(Ljava/lang/Object;)Z", sig := { parameters := [(.object "java/lang/Object")], returnType := some .boolean }, accessFlags := 1, code := some k7c4 }
def k7c5 : Code := { maxStack := 5, maxLocals := 4, code := jdk_42_method_147_code, exceptionTable := #[], attributes := #[] }
def k7m5 : Method := { name := "getBytes", desc := "([BIB)V", sig := { parameters := [(.array .byte), .int, .byte], returnType := none }, accessFlags := 0, code := some k7c5 }
def k7c6 : Code := { maxStack := 4, maxLocals := 6, code := jdk_42_method_149_code, exceptionTable := #[], attributes := #[] }
def k7m6 : Method := { name := "<init>", desc := "([CIILjava/lang/Void;)V", sig := { parameters := [(.array .char), .int, .int, (.object "java/lang/Void")], returnType := none }, accessFlags := 2, code := some k7c6 }
def k7c7 : Code := { maxStack := 5, maxLocals := 5, code := jdk_42_method_150_code, exceptionTable := #[], attributes := #[] }
def k7m7 : Method := { name := "<init>", desc := "(Ljava/lang/AbstractStringBuilder;Ljava/lang/Void;)V", sig := { parameters := [(.object "java/lang/AbstractStringBuilder"), (.object "java/lang/Void")], returnType := none }, accessFlags := 0, code := some k7c7 }
def k7c8 : Code := { maxStack := 1, maxLocals := 1, code := jdk_42_method_152_code, exceptionTable := #[], attributes := #[] }
def k7m8 : Method := { name := "coder", desc := "()B", sig := { parameters := [], returnType := some .byte }, accessFlags := 0, code := some k7c8 }
/-- java/lang/String -/
def k7 : Class := { plain "java/lang/String" (some 0) with
  accessFlags := 49
  interfaces := #[2, 3, 4, 5, 6]
  cf := some (fileOf pool7 10 #[.nestMembers #[1103]] #[{ accessFlags := 1, nameIndex := 5, descriptorIndex := 6, attributes := #[] }, { accessFlags := 1, nameIndex := 5, descriptorIndex := 1010, attributes := #[] }, { accessFlags := 1, nameIndex := 5, descriptorIndex := 1233, attributes := #[] }, { accessFlags := 1, nameIndex := 507, descriptorIndex := 334, attributes := #[] }, { accessFlags := 1, nameIndex := 543, descriptorIndex := 573, attributes := #[] }, { accessFlags := 0, nameIndex := 532, descriptorIndex := 821, attributes := #[] }, { accessFlags := 2, nameIndex := 5, descriptorIndex := 29, attributes := #[] }, { accessFlags := 0, nameIndex := 5, descriptorIndex := 491, attributes := #[] }, { accessFlags := 0, nameIndex := 17, descriptorIndex := 337, attributes := #[] }] 49 2 #[1106, 1108, 575, 1110, 1112] #[{ accessFlags := 18, nameIndex := 13, descriptorIndex := 14, attributes := #[] }, { accessFlags := 18, nameIndex := 17, descriptorIndex := 18, attributes := #[] }, { accessFlags := 2, nameIndex := 21, descriptorIndex := 22, attributes := #[] }, { accessFlags := 2, nameIndex := 25, descriptorIndex := 26, attributes := #[] }, { accessFlags := 26, nameIndex := 1116, descriptorIndex := 1117, attributes := #[] }, { accessFlags := 24, nameIndex := 40, descriptorIndex := 26, attributes := #[] }, { accessFlags := 26, nameIndex := 1101, descriptorIndex := 1102, attributes := #[] }, { accessFlags := 26, nameIndex := 1121, descriptorIndex := 1122, attributes := #[] }, { accessFlags := 25, nameIndex := 599, descriptorIndex := 600, attributes := #[] }, { accessFlags := 24, nameIndex := 1125, descriptorIndex := 18, attributes := #[] }, { accessFlags := 24, nameIndex := 1127, descriptorIndex := 18, attributes := #[] }])
  fields := #[{ name := "value", type := (.array .byte), accessFlags := 18, slot := 0, constantValue := 0 }, { name := "coder", type := .byte, accessFlags := 18, slot := 1, constantValue := 0 }, { name := "hash", type := .int, accessFlags := 2, slot := 2, constantValue := 0 }, { name := "hashIsZero", type := .boolean, accessFlags := 2, slot := 3, constantValue := 0 }, { name := "serialVersionUID", type := .long, accessFlags := 26, slot := 0, constantValue := 0 }, { name := "COMPACT_STRINGS", type := .boolean, accessFlags := 24, slot := 1, constantValue := 0 }, { name := "serialPersistentFields", type := (.array (.object "java/io/ObjectStreamField")), accessFlags := 26, slot := 2, constantValue := 0 }, { name := "REPL", type := .char, accessFlags := 26, slot := 3, constantValue := 0 }, { name := "CASE_INSENSITIVE_ORDER", type := (.object "java/util/Comparator"), accessFlags := 25, slot := 4, constantValue := 0 }, { name := "LATIN1", type := .byte, accessFlags := 24, slot := 5, constantValue := 0 }, { name := "UTF16", type := .byte, accessFlags := 24, slot := 6, constantValue := 0 }]
  methods := #[k7m0, k7m1, k7m2, k7m3, k7m4, k7m5, k7m6, k7m7, k7m8]
  instanceTypes := #[(.array .byte), .byte, .int, .boolean]
  staticTypes := #[.long, .boolean, (.array (.object "java/io/ObjectStreamField")), .char, (.object "java/util/Comparator"), .byte, .byte]
  resolved := Array.replicate 1451 none
  statics := some 0 }

def pool8 : Array CpInfo := pool [(6, .class_ 8), (1, u "java/lang/Object"), (0, u "<init>"), (0, u "()V"), (1, .class_ 14), (1, u "java/lang/StringUTF16"), (31, u "$assertionsDisabled"), (0, u "Z"), (13, u "HI_BYTE_SHIFT"), (0, u "I"), (2, u "LO_BYTE_SHIFT"), (49, .methodref 12 116), (0, .nameAndType 117 118), (0, u "compress"), (0, u "([CI[BII)I"), (3, u "([CII)[B"), (138, u "coderFromArrayLen"), (0, u "([BI)B"), (106, .class_ 371), (1, u "java/lang/StringUTF16$LinesSpliterator"), (58, u "MAX_LENGTH"), (196, .class_ 628), (0, u "java/lang/StringUTF16$CodePointsSpliterator"), (0, .class_ 630), (0, u "java/lang/StringUTF16$CharsSpliterator")] 4

def k8m0 : Method := { name := "<init>", desc := "()V", sig := { parameters := [], returnType := none }, accessFlags := 0, code := none }
def k8c1 : Code := { maxStack := 2, maxLocals := 2, code := jdk_52_method_15_code, exceptionTable := #[], attributes := #[] }
def k8m1 : Method := { name := "coderFromArrayLen", desc := "([BI)B", sig := { parameters := [(.array .byte), .int], returnType := some .byte }, accessFlags := 8, code := some k8c1 }
def k8c2 : Code := { maxStack := 5, maxLocals := 6, code := jdk_52_method_16_code, exceptionTable := #[], attributes := #[] }
def k8m2 : Method := { name := "compress", desc := "([CII)[B", sig := { parameters := [(.array .char), .int, .int], returnType := some (.array .byte) }, accessFlags := 9, code := some k8c2 }
def k8c3 : Code := { maxStack := 3, maxLocals := 7, code := jdk_52_method_21_code, exceptionTable := #[], attributes := #[] }
def k8m3 : Method := { name := "compress", desc := "([CI[BII)I", sig := { parameters := [(.array .char), .int, (.array .byte), .int, .int], returnType := some .int }, accessFlags := 9, code := some k8c3 }
/-- java/lang/StringUTF16 -/
def k8 : Class := { plain "java/lang/StringUTF16" (some 0) with
  accessFlags := 48
  interfaces := #[]
  cf := some (fileOf pool8 12 #[.nestMembers #[627, 629, 369]] #[{ accessFlags := 0, nameIndex := 9, descriptorIndex := 10, attributes := #[] }, { accessFlags := 8, nameIndex := 261, descriptorIndex := 262, attributes := #[] }, { accessFlags := 9, nameIndex := 117, descriptorIndex := 122, attributes := #[] }, { accessFlags := 9, nameIndex := 117, descriptorIndex := 118, attributes := #[] }] 48 6 #[] #[{ accessFlags := 26, nameIndex := 61, descriptorIndex := 62, attributes := #[] }, { accessFlags := 26, nameIndex := 65, descriptorIndex := 62, attributes := #[] }, { accessFlags := 24, nameIndex := 430, descriptorIndex := 62, attributes := #[] }, { accessFlags := 4120, nameIndex := 46, descriptorIndex := 47, attributes := #[] }])
  fields := #[{ name := "HI_BYTE_SHIFT", type := .int, accessFlags := 26, slot := 0, constantValue := 0 }, { name := "LO_BYTE_SHIFT", type := .int, accessFlags := 26, slot := 1, constantValue := 0 }, { name := "MAX_LENGTH", type := .int, accessFlags := 24, slot := 2, constantValue := 0 }, { name := "$assertionsDisabled", type := .boolean, accessFlags := 4120, slot := 3, constantValue := 0 }]
  methods := #[k8m0, k8m1, k8m2, k8m3]
  instanceTypes := #[]
  staticTypes := #[.int, .int, .int, .boolean]
  resolved := Array.replicate 635 none
  statics := none }

def pool9 : Array CpInfo := pool [(1, .methodref 2 3), (0, .class_ 4), (0, .nameAndType 5 6), (0, u "java/lang/Object"), (0, u "<init>"), (0, u "()V"), (0, .class_ 8), (0, u "java/lang/Record")] 13

def k9c0 : Code := { maxStack := 1, maxLocals := 1, code := jdk_30_method_1_code, exceptionTable := #[], attributes := #[] }
def k9m0 : Method := { name := "<init>", desc := "()V", sig := { parameters := [], returnType := none }, accessFlags := 4, code := some k9c0 }
/-- java/lang/Record -/
def k9 : Class := { plain "java/lang/Record" (some 0) with
  accessFlags := 1057
  interfaces := #[]
  cf := some (fileOf pool9 7 #[] #[{ accessFlags := 4, nameIndex := 5, descriptorIndex := 6, attributes := #[] }] 1057 2 #[] #[])
  fields := #[]
  methods := #[k9m0]
  instanceTypes := #[]
  staticTypes := #[]
  resolved := Array.replicate 22 none
  statics := none }

def pool10 : Array CpInfo := pool [(1, .methodref 2 3), (0, .class_ 4), (0, .nameAndType 5 6), (0, u "java/lang/Record"), (0, u "<init>"), (0, u "()V"), (0, .fieldref 8 9), (0, .class_ 10), (0, .nameAndType 11 12), (0, u "com/example/couplet/couplet/core/EventCounts"), (0, u "events"), (0, u "J"), (0, .fieldref 8 14), (0, .nameAndType 15 12), (0, u "inserted"), (0, .fieldref 8 17), (0, .nameAndType 18 12), (0, u "updated"), (0, .fieldref 8 20), (0, .nameAndType 21 12), (0, u "restored"), (0, .fieldref 8 23), (0, .nameAndType 24 12), (0, u "deleted"), (0, .fieldref 8 26), (0, .nameAndType 27 12), (0, u "unchanged"), (0, .fieldref 8 29), (0, .nameAndType 30 12), (0, u "stale"), (0, .fieldref 8 32), (0, .nameAndType 33 12), (0, u "skipped"), (0, .class_ 35), (0, u "java/lang/StringBuilder"), (0, .methodref 34 3), (0, .string 38), (0, u "events="), (0, .methodref 34 40), (0, .nameAndType 41 42), (0, u "append"), (0, u "(Ljava/lang/String;)Ljava/lang/StringBuilder;"), (0, .methodref 34 44), (0, .nameAndType 41 45), (0, u "(J)Ljava/lang/StringBuilder;"), (0, .string 47), (0, u " inserted="), (0, .string 49), (0, u " updated="), (0, .string 51), (0, u " restored="), (0, .string 53), (0, u " deleted="), (0, .string 55), (0, u " unchanged="), (0, .string 57), (0, u " stale="), (0, .string 59), (0, u " skipped="), (0, .methodref 34 61), (0, .nameAndType 62 63), (0, u "toString"), (0, u "()Ljava/lang/String;"), (8, u "(JJJJJJJJ)V")] 33

def k10c0 : Code := { maxStack := 3, maxLocals := 17, code := prog_7_method_1_code, exceptionTable := #[], attributes := #[] }
def k10m0 : Method := { name := "<init>", desc := "(JJJJJJJJ)V", sig := { parameters := [.long, .long, .long, .long, .long, .long, .long, .long], returnType := none }, accessFlags := 1, code := some k10c0 }
def k10c1 : Code := { maxStack := 3, maxLocals := 1, code := prog_7_method_2_code, exceptionTable := #[], attributes := #[] }
def k10m1 : Method := { name := "toString", desc := "()Ljava/lang/String;", sig := { parameters := [], returnType := some (.object "java/lang/String") }, accessFlags := 1, code := some k10c1 }
/-- com/example/couplet/couplet/core/EventCounts -/
def k10 : Class := { plain "com/example/couplet/couplet/core/EventCounts" (some 9) with
  accessFlags := 49
  interfaces := #[]
  cf := some (fileOf pool10 8 #[] #[{ accessFlags := 1, nameIndex := 5, descriptorIndex := 72, attributes := #[] }, { accessFlags := 1, nameIndex := 62, descriptorIndex := 63, attributes := #[] }] 49 2 #[] #[{ accessFlags := 18, nameIndex := 11, descriptorIndex := 12, attributes := #[] }, { accessFlags := 18, nameIndex := 15, descriptorIndex := 12, attributes := #[] }, { accessFlags := 18, nameIndex := 18, descriptorIndex := 12, attributes := #[] }, { accessFlags := 18, nameIndex := 21, descriptorIndex := 12, attributes := #[] }, { accessFlags := 18, nameIndex := 24, descriptorIndex := 12, attributes := #[] }, { accessFlags := 18, nameIndex := 27, descriptorIndex := 12, attributes := #[] }, { accessFlags := 18, nameIndex := 30, descriptorIndex := 12, attributes := #[] }, { accessFlags := 18, nameIndex := 33, descriptorIndex := 12, attributes := #[] }])
  fields := #[{ name := "events", type := .long, accessFlags := 18, slot := 0, constantValue := 0 }, { name := "inserted", type := .long, accessFlags := 18, slot := 1, constantValue := 0 }, { name := "updated", type := .long, accessFlags := 18, slot := 2, constantValue := 0 }, { name := "restored", type := .long, accessFlags := 18, slot := 3, constantValue := 0 }, { name := "deleted", type := .long, accessFlags := 18, slot := 4, constantValue := 0 }, { name := "unchanged", type := .long, accessFlags := 18, slot := 5, constantValue := 0 }, { name := "stale", type := .long, accessFlags := 18, slot := 6, constantValue := 0 }, { name := "skipped", type := .long, accessFlags := 18, slot := 7, constantValue := 0 }]
  methods := #[k10m0, k10m1]
  instanceTypes := #[.long, .long, .long, .long, .long, .long, .long, .long]
  staticTypes := #[]
  resolved := Array.replicate 106 none
  statics := none }

def pool11 : Array CpInfo := pool [(1, .class_ 2), (0, u "java/lang/Appendable"), (0, .class_ 4), (0, u "java/lang/Object")] 9

/-- java/lang/Appendable -/
def k11 : Class := { plain "java/lang/Appendable" (some 0) with
  accessFlags := 1537
  interfaces := #[]
  cf := some (fileOf pool11 1 #[] #[] 1537 3 #[] #[])
  fields := #[]
  methods := #[]
  instanceTypes := #[]
  staticTypes := #[]
  resolved := Array.replicate 14 none
  statics := none }

def pool12 : Array CpInfo := pool [(1, .class_ 2), (0, u "java/lang/String"), (0, .methodref 4 5), (0, .class_ 6), (0, .nameAndType 7 8), (0, u "java/lang/Object"), (0, u "<init>"), (0, u "()V"), (1, .class_ 12), (1, u "java/lang/AbstractStringBuilder"), (0, u "EMPTYVALUE"), (0, u "[B"), (0, .fieldref 10 16), (0, .nameAndType 17 14), (0, u "value"), (0, .fieldref 1 19), (0, .nameAndType 20 21), (0, u "COMPACT_STRINGS"), (0, u "Z"), (0, .fieldref 10 23), (0, .nameAndType 24 25), (0, u "coder"), (0, u "B"), (6, .methodref 1 33), (0, .nameAndType 34 35), (0, u "length"), (0, u "()I"), (3, .integer 2147483647), (0, .methodref 1 41), (0, .nameAndType 24 42), (0, u "()B"), (2, u "append"), (0, u "(Ljava/lang/String;)Ljava/lang/AbstractStringBuilder;"), (1, .class_ 49), (0, u "java/lang/CharSequence"), (19, u "(Ljava/lang/String;)V"), (5, u "maybeLatin1"), (3, .fieldref 10 80), (0, .nameAndType 81 82), (0, u "count"), (0, u "I"), (0, .methodref 10 84), (0, .nameAndType 85 86), (0, u "isLatin1"), (0, u "()Z"), (13, .methodref 10 101), (0, .nameAndType 102 103), (0, u "ensureCapacityInternal"), (0, u "(I)V"), (0, .methodref 10 105), (0, .nameAndType 106 107), (0, u "newCapacity"), (0, u "(I)I"), (0, .methodref 109 110), (0, .class_ 111), (0, .nameAndType 112 113), (0, u "java/util/Arrays"), (0, u "copyOf"), (0, u "([BI)[B"), (0, .methodref 115 116), (0, .class_ 117), (0, .nameAndType 118 119), (0, u "jdk/internal/util/ArraysSupport"), (0, u "newLength"), (0, u "(III)I"), (68, u "getChars"), (19, .methodref 10 209), (0, .nameAndType 210 211), (0, u "putStringAt"), (0, u "(ILjava/lang/String;)V"), (5, u "inflateIfNeededFor"), (2, .nameAndType 221 222), (0, u "getBytes"), (0, u "([BIB)V"), (24, u "stringSize"), (6, .methodref 255 256), (0, .class_ 257), (0, .nameAndType 247 258), (0, u "java/lang/Long"), (0, u "(J)I"), (0, .methodref 255 260), (0, .nameAndType 188 261), (0, u "(JI[B)I"), (135, .methodref 10 398), (0, .nameAndType 217 69), (0, .methodref 1 220), (3, u "()[B"), (40, .class_ 445), (0, u "java/lang/Appendable"), (67, u "(J)Ljava/lang/AbstractStringBuilder;"), (38, u "getValue")] 56

def k12m0 : Method := { name := "<init>", desc := "()V", sig := { parameters := [], returnType := none }, accessFlags := 0, code := none }
def k12c1 : Code := { maxStack := 2, maxLocals := 2, code := jdk_68_method_2_code, exceptionTable := #[], attributes := #[] }
def k12m1 : Method := { name := "<init>", desc := "(I)V", sig := { parameters := [.int], returnType := none }, accessFlags := 0, code := some k12c1 }
def k12c2 : Code := { maxStack := 1, maxLocals := 1, code := jdk_68_method_6_code, exceptionTable := #[], attributes := #[] }
def k12m2 : Method := { name := "length", desc := "()I", sig := { parameters := [], returnType := some .int }, accessFlags := 1, code := some k12c2 }
def k12c3 : Code := { maxStack := 4, maxLocals := 3, code := jdk_68_method_9_code, exceptionTable := #[], attributes := #[] }
def k12m3 : Method := { name := "ensureCapacityInternal", desc := "(I)V", sig := { parameters := [.int], returnType := none }, accessFlags := 2, code := some k12c3 }
def k12c4 : Code := { maxStack := 5, maxLocals := 6, code := jdk_68_method_10_code, exceptionTable := #[], attributes := #[] }
def k12m4 : Method := { name := "newCapacity", desc := "(I)I", sig := { parameters := [.int], returnType := some .int }, accessFlags := 2, code := some k12c4 }
def k12c5 : Code := { maxStack := 3, maxLocals := 3, code := jdk_68_method_22_code, exceptionTable := #[], attributes := #[] }
def k12m5 : Method := { name := "append", desc := "(Ljava/lang/String;)Ljava/lang/AbstractStringBuilder;", sig := { parameters := [(.object "java/lang/String")], returnType := some (.object "java/lang/AbstractStringBuilder") }, accessFlags := 1, code := some k12c5 }
def k12c6 : Code := { maxStack := 5, maxLocals := 5, code := jdk_68_method_33_code, exceptionTable := #[], attributes := #[] }
def k12m6 : Method := { name := "append", desc := "(J)Ljava/lang/AbstractStringBuilder;", sig := { parameters := [.long], returnType := some (.object "java/lang/AbstractStringBuilder") }, accessFlags := 1, code := some k12c6 }
def k12c7 : Code := { maxStack := 1, maxLocals := 1, code := jdk_68_method_64_code, exceptionTable := #[], attributes := #[] }
def k12m7 : Method := { name := "getValue", desc := "()[B", sig := { parameters := [], returnType := some (.array .byte) }, accessFlags := 16, code := some k12c7 }
def k12c8 : Code := { maxStack := 1, maxLocals := 1, code := jdk_68_method_68_code, exceptionTable := #[], attributes := #[] }
def k12m8 : Method := { name := "isLatin1", desc := "()Z", sig := { parameters := [], returnType := some .boolean }, accessFlags := 16, code := some k12c8 }
def k12c9 : Code := { maxStack := 2, maxLocals := 2, code := jdk_68_method_71_code, exceptionTable := #[], attributes := #[] }
def k12m9 : Method := { name := "inflateIfNeededFor", desc := "(Ljava/lang/String;)V", sig := { parameters := [(.object "java/lang/String")], returnType := none }, accessFlags := 2, code := some k12c9 }
def k12c10 : Code := { maxStack := 4, maxLocals := 3, code := jdk_68_method_73_code, exceptionTable := #[], attributes := #[] }
def k12m10 : Method := { name := "putStringAt", desc := "(ILjava/lang/String;)V", sig := { parameters := [.int, (.object "java/lang/String")], returnType := none }, accessFlags := 2, code := some k12c10 }
/-- java/lang/AbstractStringBuilder -/
def k12 : Class := { plain "java/lang/AbstractStringBuilder" (some 0) with
  accessFlags := 1056
  interfaces := #[11, 4]
  cf := some (fileOf pool12 10 #[] #[{ accessFlags := 0, nameIndex := 7, descriptorIndex := 8, attributes := #[] }, { accessFlags := 0, nameIndex := 7, descriptorIndex := 103, attributes := #[] }, { accessFlags := 1, nameIndex := 34, descriptorIndex := 35, attributes := #[] }, { accessFlags := 2, nameIndex := 102, descriptorIndex := 103, attributes := #[] }, { accessFlags := 2, nameIndex := 106, descriptorIndex := 107, attributes := #[] }, { accessFlags := 1, nameIndex := 45, descriptorIndex := 46, attributes := #[] }, { accessFlags := 1, nameIndex := 45, descriptorIndex := 513, attributes := #[] }, { accessFlags := 16, nameIndex := 552, descriptorIndex := 403, attributes := #[] }, { accessFlags := 16, nameIndex := 85, descriptorIndex := 86, attributes := #[] }, { accessFlags := 2, nameIndex := 217, descriptorIndex := 69, attributes := #[] }, { accessFlags := 2, nameIndex := 210, descriptorIndex := 211, attributes := #[] }] 1056 4 #[444, 48] #[{ accessFlags := 0, nameIndex := 17, descriptorIndex := 14, attributes := #[] }, { accessFlags := 0, nameIndex := 24, descriptorIndex := 25, attributes := #[] }, { accessFlags := 0, nameIndex := 75, descriptorIndex := 21, attributes := #[] }, { accessFlags := 0, nameIndex := 81, descriptorIndex := 82, attributes := #[] }, { accessFlags := 26, nameIndex := 13, descriptorIndex := 14, attributes := #[] }])
  fields := #[{ name := "value", type := (.array .byte), accessFlags := 0, slot := 0, constantValue := 0 }, { name := "coder", type := .byte, accessFlags := 0, slot := 1, constantValue := 0 }, { name := "maybeLatin1", type := .boolean, accessFlags := 0, slot := 2, constantValue := 0 }, { name := "count", type := .int, accessFlags := 0, slot := 3, constantValue := 0 }, { name := "EMPTYVALUE", type := (.array .byte), accessFlags := 26, slot := 0, constantValue := 0 }]
  methods := #[k12m0, k12m1, k12m2, k12m3, k12m4, k12m5, k12m6, k12m7, k12m8, k12m9, k12m10]
  instanceTypes := #[(.array .byte), .byte, .boolean, .int]
  staticTypes := #[(.array .byte)]
  resolved := Array.replicate 609 none
  statics := none }

def pool13 : Array CpInfo := pool [(1, .methodref 2 3), (0, .class_ 4), (0, .nameAndType 5 6), (0, u "java/lang/AbstractStringBuilder"), (0, u "<init>"), (0, u "(I)V"), (11, .class_ 20), (1, u "java/lang/String"), (3, .class_ 26), (1, u "java/lang/StringBuilder"), (0, u "append"), (0, u "(Ljava/lang/String;)Ljava/lang/StringBuilder;"), (0, .methodref 2 30), (0, .nameAndType 27 31), (0, u "(Ljava/lang/String;)Ljava/lang/AbstractStringBuilder;"), (24, .methodref 2 57), (0, .nameAndType 27 58), (0, u "(J)Ljava/lang/AbstractStringBuilder;"), (78, .methodref 18 138), (0, .nameAndType 5 139), (0, u "(Ljava/lang/StringBuilder;)V"), (5, u "()V"), (10, u "()I"), (124, u "(J)Ljava/lang/StringBuilder;"), (61, .methodref 2 344), (0, .nameAndType 345 156), (0, u "length"), (3, .class_ 350), (0, u "java/lang/Appendable"), (0, .class_ 352), (0, u "java/io/Serializable"), (0, .class_ 354), (0, u "java/lang/Comparable"), (0, .class_ 356), (0, u "java/lang/CharSequence"), (0, u "serialVersionUID"), (0, u "J"), (40, u "toString"), (0, u "()Ljava/lang/String;")] 21

def k13c0 : Code := { maxStack := 2, maxLocals := 1, code := jdk_67_method_1_code, exceptionTable := #[], attributes := #[] }
def k13m0 : Method := { name := "<init>", desc := "()V", sig := { parameters := [], returnType := none }, accessFlags := 1, code := some k13c0 }
def k13c1 : Code := { maxStack := 2, maxLocals := 2, code := jdk_67_method_7_code, exceptionTable := #[], attributes := #[] }
def k13m1 : Method := { name := "append", desc := "(Ljava/lang/String;)Ljava/lang/StringBuilder;", sig := { parameters := [(.object "java/lang/String")], returnType := some (.object "java/lang/StringBuilder") }, accessFlags := 1, code := some k13c1 }
def k13c2 : Code := { maxStack := 3, maxLocals := 3, code := jdk_67_method_16_code, exceptionTable := #[], attributes := #[] }
def k13m2 : Method := { name := "append", desc := "(J)Ljava/lang/StringBuilder;", sig := { parameters := [.long], returnType := some (.object "java/lang/StringBuilder") }, accessFlags := 1, code := some k13c2 }
def k13c3 : Code := { maxStack := 3, maxLocals := 1, code := jdk_67_method_42_code, exceptionTable := #[], attributes := #[] }
def k13m3 : Method := { name := "toString", desc := "()Ljava/lang/String;", sig := { parameters := [], returnType := some (.object "java/lang/String") }, accessFlags := 1, code := some k13c3 }
def k13c4 : Code := { maxStack := 1, maxLocals := 1, code := jdk_67_method_93_code, exceptionTable := #[], attributes := #[] }
def k13m4 : Method := { name := "length", desc := "()I", sig := { parameters := [], returnType := some .int }, accessFlags := 4161, code := some k13c4 }
/-- java/lang/StringBuilder -/
def k13 : Class := { plain "java/lang/StringBuilder" (some 12) with
  accessFlags := 49
  interfaces := #[11, 2, 3, 4]
  cf := some (fileOf pool13 24 #[] #[{ accessFlags := 1, nameIndex := 5, descriptorIndex := 145, attributes := #[] }, { accessFlags := 1, nameIndex := 27, descriptorIndex := 28, attributes := #[] }, { accessFlags := 1, nameIndex := 27, descriptorIndex := 281, attributes := #[] }, { accessFlags := 1, nameIndex := 399, descriptorIndex := 400, attributes := #[] }, { accessFlags := 4161, nameIndex := 345, descriptorIndex := 156, attributes := #[] }] 49 2 #[349, 351, 353, 355] #[{ accessFlags := 24, nameIndex := 357, descriptorIndex := 358, attributes := #[] }])
  fields := #[{ name := "serialVersionUID", type := .long, accessFlags := 24, slot := 0, constantValue := 0 }]
  methods := #[k13m0, k13m1, k13m2, k13m3, k13m4]
  instanceTypes := #[(.array .byte), .byte, .boolean, .int]
  staticTypes := #[.long]
  resolved := Array.replicate 422 none
  statics := none }

def pool14 : Array CpInfo := pool [(2, .class_ 4), (1, u "java/lang/Object"), (0, u "<init>"), (0, u "()V"), (1, .class_ 10), (1, u "java/lang/System"), (0, u "allowSecurityManager"), (0, u "I"), (16, u "cons"), (0, u "Ljava/io/Console;"), (77, .class_ 110), (1, u "java/lang/System$CallersHolder"), (43, u "initialErrStream"), (0, u "Ljava/io/PrintStream;"), (19, u "security"), (0, u "Ljava/lang/SecurityManager;"), (31, .class_ 209), (0, u "java/lang/System$1"), (7, u "props"), (0, u "Ljava/util/Properties;"), (2, u "lineSeparator"), (0, u "Ljava/lang/String;"), (96, .class_ 321), (1, u "java/lang/System$LoggerFinder"), (5, .class_ 328), (0, u "java/lang/System$Logger"), (67, u "err"), (2, u "out"), (91, u "notSupportedJnuEncoding"), (15, u "in"), (17, u "initialIn"), (0, u "Ljava/io/InputStream;"), (35, u "bootLayer"), (0, u "Ljava/lang/ModuleLayer;"), (99, .class_ 664), (0, u "java/lang/System$2"), (9, u "NEVER"), (2, u "MAYBE"), (49, u "arraycopy"), (0, u "(Ljava/lang/Object;ILjava/lang/Object;II)V"), (72, .class_ 802), (0, u "java/lang/System$Logger$Level")] 31

def k14m0 : Method := { name := "<init>", desc := "()V", sig := { parameters := [], returnType := none }, accessFlags := 2, code := none }
def k14m1 : Method := { name := "arraycopy", desc := "(Ljava/lang/Object;ILjava/lang/Object;II)V", sig := { parameters := [(.object "java/lang/Object"), .int, (.object "java/lang/Object"), .int, .int], returnType := none }, accessFlags := 265, code := none }
/-- java/lang/System -/
def k14 : Class := { plain "java/lang/System" (some 0) with
  accessFlags := 49
  interfaces := #[]
  cf := some (fileOf pool14 8 #[.nestMembers #[319, 327, 801, 108, 663, 208]] #[{ accessFlags := 2, nameIndex := 5, descriptorIndex := 6, attributes := #[] }, { accessFlags := 265, nameIndex := 727, descriptorIndex := 728, attributes := #[] }] 49 2 #[] #[{ accessFlags := 25, nameIndex := 507, descriptorIndex := 526, attributes := #[] }, { accessFlags := 25, nameIndex := 399, descriptorIndex := 155, attributes := #[] }, { accessFlags := 25, nameIndex := 396, descriptorIndex := 155, attributes := #[] }, { accessFlags := 10, nameIndex := 525, descriptorIndex := 526, attributes := #[] }, { accessFlags := 26, nameIndex := 674, descriptorIndex := 12, attributes := #[] }, { accessFlags := 26, nameIndex := 677, descriptorIndex := 12, attributes := #[] }, { accessFlags := 10, nameIndex := 11, descriptorIndex := 12, attributes := #[] }, { accessFlags := 74, nameIndex := 175, descriptorIndex := 176, attributes := #[] }, { accessFlags := 10, nameIndex := 491, descriptorIndex := 222, attributes := #[] }, { accessFlags := 74, nameIndex := 29, descriptorIndex := 30, attributes := #[] }, { accessFlags := 74, nameIndex := 154, descriptorIndex := 155, attributes := #[] }, { accessFlags := 10, nameIndex := 217, descriptorIndex := 218, attributes := #[] }, { accessFlags := 10, nameIndex := 221, descriptorIndex := 222, attributes := #[] }, { accessFlags := 8, nameIndex := 562, descriptorIndex := 563, attributes := #[] }])
  fields := #[{ name := "in", type := (.object "java/io/InputStream"), accessFlags := 25, slot := 0, constantValue := 0 }, { name := "out", type := (.object "java/io/PrintStream"), accessFlags := 25, slot := 1, constantValue := 0 }, { name := "err", type := (.object "java/io/PrintStream"), accessFlags := 25, slot := 2, constantValue := 0 }, { name := "initialIn", type := (.object "java/io/InputStream"), accessFlags := 10, slot := 3, constantValue := 0 }, { name := "NEVER", type := .int, accessFlags := 26, slot := 4, constantValue := 0 }, { name := "MAYBE", type := .int, accessFlags := 26, slot := 5, constantValue := 0 }, { name := "allowSecurityManager", type := .int, accessFlags := 10, slot := 6, constantValue := 0 }, { name := "security", type := (.object "java/lang/SecurityManager"), accessFlags := 74, slot := 7, constantValue := 0 }, { name := "notSupportedJnuEncoding", type := (.object "java/lang/String"), accessFlags := 10, slot := 8, constantValue := 0 }, { name := "cons", type := (.object "java/io/Console"), accessFlags := 74, slot := 9, constantValue := 0 }, { name := "initialErrStream", type := (.object "java/io/PrintStream"), accessFlags := 74, slot := 10, constantValue := 0 }, { name := "props", type := (.object "java/util/Properties"), accessFlags := 10, slot := 11, constantValue := 0 }, { name := "lineSeparator", type := (.object "java/lang/String"), accessFlags := 10, slot := 12, constantValue := 0 }, { name := "bootLayer", type := (.object "java/lang/ModuleLayer"), accessFlags := 8, slot := 13, constantValue := 0 }]
  methods := #[k14m0, k14m1]
  instanceTypes := #[]
  staticTypes := #[(.object "java/io/InputStream"), (.object "java/io/PrintStream"), (.object "java/io/PrintStream"), (.object "java/io/InputStream"), .int, .int, .int, (.object "java/lang/SecurityManager"), (.object "java/lang/String"), (.object "java/io/Console"), (.object "java/io/PrintStream"), (.object "java/util/Properties"), (.object "java/lang/String"), (.object "java/lang/ModuleLayer")]
  resolved := Array.replicate 834 none
  statics := none }

def pool15 : Array CpInfo := pool [(2, .class_ 4), (1, u "java/lang/Object"), (0, u "<init>"), (0, u "()V"), (1, .class_ 10), (1, u "java/lang/Number"), (2, .class_ 14), (0, u "java/io/Serializable"), (0, u "serialVersionUID"), (0, u "J")] 20

def k15m0 : Method := { name := "<init>", desc := "()V", sig := { parameters := [], returnType := none }, accessFlags := 1, code := none }
/-- java/lang/Number -/
def k15 : Class := { plain "java/lang/Number" (some 0) with
  accessFlags := 1057
  interfaces := #[2]
  cf := some (fileOf pool15 8 #[] #[{ accessFlags := 1, nameIndex := 5, descriptorIndex := 6, attributes := #[] }] 1057 2 #[13] #[{ accessFlags := 26, nameIndex := 15, descriptorIndex := 16, attributes := #[] }])
  fields := #[{ name := "serialVersionUID", type := .long, accessFlags := 26, slot := 0, constantValue := 0 }]
  methods := #[k15m0]
  instanceTypes := #[]
  staticTypes := #[.long]
  resolved := Array.replicate 37 none
  statics := none }

def pool16 : Array CpInfo := pool [(1, .class_ 2), (0, u "java/lang/Long"), (15, .class_ 20), (1, u "java/lang/Integer"), (32, .long 10), (47, u "(J)I"), (18, u "stringSize"), (2, u "getChars"), (0, u "(JI[B)I"), (4, .long 18446744071562067968), (1, .long 100), (1, .fieldref 18 134), (0, .nameAndType 135 136), (0, u "DigitOnes"), (0, u "[B"), (0, .fieldref 18 138), (0, .nameAndType 139 136), (0, u "DigitTens"), (0, .long 18446744073709551606), (94, .class_ 237), (1, u "java/lang/Long$LongCache"), (33, .class_ 272), (0, u "java/lang/Number"), (2, u "value"), (0, u "J"), (84, u "TYPE"), (0, u "Ljava/lang/Class;"), (0, .class_ 364), (0, u "java/lang/Comparable"), (0, .class_ 366), (0, u "java/lang/constant/Constable"), (0, .class_ 368), (0, u "java/lang/constant/ConstantDesc"), (0, u "MIN_VALUE"), (1, u "MAX_VALUE"), (4, u "SIZE"), (0, u "I"), (1, u "BYTES"), (1, u "serialVersionUID")] 142

def k16c0 : Code := { maxStack := 4, maxLocals := 11, code := jdk_35_method_14_code, exceptionTable := #[], attributes := #[] }
def k16m0 : Method := { name := "getChars", desc := "(JI[B)I", sig := { parameters := [.long, .int, (.array .byte)], returnType := some .int }, accessFlags := 8, code := some k16c0 }
def k16c1 : Code := { maxStack := 4, maxLocals := 6, code := jdk_35_method_15_code, exceptionTable := #[], attributes := #[] }
def k16m1 : Method := { name := "stringSize", desc := "(J)I", sig := { parameters := [.long], returnType := some .int }, accessFlags := 8, code := some k16c1 }
/-- java/lang/Long -/
def k16 : Class := { plain "java/lang/Long" (some 15) with
  accessFlags := 49
  interfaces := #[3, 5, 6]
  cf := some (fileOf pool16 1 #[.nestMembers #[235]] #[{ accessFlags := 8, nameIndex := 123, descriptorIndex := 124, attributes := #[] }, { accessFlags := 8, nameIndex := 120, descriptorIndex := 101, attributes := #[] }] 49 271 #[363, 365, 367] #[{ accessFlags := 25, nameIndex := 369, descriptorIndex := 276, attributes := #[] }, { accessFlags := 25, nameIndex := 371, descriptorIndex := 276, attributes := #[] }, { accessFlags := 25, nameIndex := 361, descriptorIndex := 362, attributes := #[] }, { accessFlags := 18, nameIndex := 275, descriptorIndex := 276, attributes := #[] }, { accessFlags := 25, nameIndex := 376, descriptorIndex := 377, attributes := #[] }, { accessFlags := 25, nameIndex := 379, descriptorIndex := 377, attributes := #[] }, { accessFlags := 26, nameIndex := 381, descriptorIndex := 276, attributes := #[] }])
  fields := #[{ name := "MIN_VALUE", type := .long, accessFlags := 25, slot := 0, constantValue := 0 }, { name := "MAX_VALUE", type := .long, accessFlags := 25, slot := 1, constantValue := 0 }, { name := "TYPE", type := (.object "java/lang/Class"), accessFlags := 25, slot := 2, constantValue := 0 }, { name := "value", type := .long, accessFlags := 18, slot := 0, constantValue := 0 }, { name := "SIZE", type := .int, accessFlags := 25, slot := 3, constantValue := 0 }, { name := "BYTES", type := .int, accessFlags := 25, slot := 4, constantValue := 0 }, { name := "serialVersionUID", type := .long, accessFlags := 26, slot := 5, constantValue := 0 }]
  methods := #[k16m0, k16m1]
  instanceTypes := #[.long]
  staticTypes := #[.long, .long, (.object "java/lang/Class"), .int, .int, .long]
  resolved := Array.replicate 524 none
  statics := none }

def pool17 : Array CpInfo := pool [(1, .class_ 2), (0, u "java/lang/Integer"), (16, u "digits"), (0, u "[C"), (64, u "DigitOnes"), (0, u "[B"), (2, u "DigitTens"), (99, .class_ 190), (0, u "java/lang/Integer$IntegerCache"), (3, u "I"), (8, .class_ 204), (0, u "java/lang/Number"), (2, u "value"), (94, u "TYPE"), (0, u "Ljava/lang/Class;"), (0, .class_ 305), (0, u "java/lang/Comparable"), (0, .class_ 307), (0, u "java/lang/constant/Constable"), (0, .class_ 309), (0, u "java/lang/constant/ConstantDesc"), (0, u "MIN_VALUE"), (1, u "MAX_VALUE"), (3, u "SIZE"), (1, u "BYTES"), (1, u "serialVersionUID"), (0, u "J")] 131

/-- java/lang/Integer -/
def k17 : Class := { plain "java/lang/Integer" (some 15) with
  accessFlags := 49
  interfaces := #[3, 5, 6]
  cf := some (fileOf pool17 1 #[.nestMembers #[189]] #[] 49 203 #[304, 306, 308] #[{ accessFlags := 25, nameIndex := 310, descriptorIndex := 194, attributes := #[] }, { accessFlags := 25, nameIndex := 312, descriptorIndex := 194, attributes := #[] }, { accessFlags := 25, nameIndex := 302, descriptorIndex := 303, attributes := #[] }, { accessFlags := 24, nameIndex := 19, descriptorIndex := 20, attributes := #[] }, { accessFlags := 24, nameIndex := 89, descriptorIndex := 86, attributes := #[] }, { accessFlags := 24, nameIndex := 85, descriptorIndex := 86, attributes := #[] }, { accessFlags := 18, nameIndex := 207, descriptorIndex := 194, attributes := #[] }, { accessFlags := 25, nameIndex := 316, descriptorIndex := 194, attributes := #[] }, { accessFlags := 25, nameIndex := 318, descriptorIndex := 194, attributes := #[] }, { accessFlags := 26, nameIndex := 320, descriptorIndex := 321, attributes := #[] }])
  fields := #[{ name := "MIN_VALUE", type := .int, accessFlags := 25, slot := 0, constantValue := 0 }, { name := "MAX_VALUE", type := .int, accessFlags := 25, slot := 1, constantValue := 0 }, { name := "TYPE", type := (.object "java/lang/Class"), accessFlags := 25, slot := 2, constantValue := 0 }, { name := "digits", type := (.array .char), accessFlags := 24, slot := 3, constantValue := 0 }, { name := "DigitTens", type := (.array .byte), accessFlags := 24, slot := 4, constantValue := 0 }, { name := "DigitOnes", type := (.array .byte), accessFlags := 24, slot := 5, constantValue := 0 }, { name := "value", type := .int, accessFlags := 18, slot := 0, constantValue := 0 }, { name := "SIZE", type := .int, accessFlags := 25, slot := 6, constantValue := 0 }, { name := "BYTES", type := .int, accessFlags := 25, slot := 7, constantValue := 0 }, { name := "serialVersionUID", type := .long, accessFlags := 26, slot := 8, constantValue := 0 }]
  methods := #[]
  instanceTypes := #[.int]
  staticTypes := #[.int, .int, (.object "java/lang/Class"), (.array .char), (.array .byte), (.array .byte), .int, .int, .long]
  resolved := Array.replicate 453 none
  statics := some 1 }

def pool18 : Array CpInfo := pool [(9, u "<init>"), (6, .class_ 18), (1, u "java/lang/Object"), (0, u "()V"), (1, .class_ 23), (1, u "jdk/internal/util/ArraysSupport"), (0, u "LOG2_ARRAY_LONG_INDEX_SCALE"), (0, u "I"), (2, u "U"), (0, u "Ljdk/internal/misc/Unsafe;"), (8, u "BIG_ENDIAN"), (0, u "Z"), (8, u "LOG2_BYTE_BIT_SIZE"), (4, u "LOG2_ARRAY_INT_INDEX_SCALE"), (54, u "JLA"), (0, u "Ljdk/internal/access/JavaLangAccess;"), (11, u "LOG2_ARRAY_BOOLEAN_INDEX_SCALE"), (9, u "LOG2_ARRAY_BYTE_INDEX_SCALE"), (5, u "LOG2_ARRAY_CHAR_INDEX_SCALE"), (5, u "LOG2_ARRAY_SHORT_INDEX_SCALE"), (18, u "LOG2_ARRAY_FLOAT_INDEX_SCALE"), (24, u "LOG2_ARRAY_DOUBLE_INDEX_SCALE"), (6, .methodref 195 196), (0, .class_ 197), (0, .nameAndType 198 199), (0, u "java/lang/Math"), (0, u "max"), (0, u "(II)I"), (0, .integer 2147483639), (76, u "T_BOOLEAN"), (2, u "T_CHAR"), (1, u "T_FLOAT"), (1, u "T_DOUBLE"), (1, u "T_BYTE"), (1, u "T_SHORT"), (1, u "T_INT"), (1, u "T_LONG"), (1, u "SOFT_MAX_ARRAY_LENGTH"), (56, u "newLength"), (0, u "(III)I")] 25

def k18m0 : Method := { name := "<init>", desc := "()V", sig := { parameters := [], returnType := none }, accessFlags := 2, code := none }
def k18c1 : Code := { maxStack := 3, maxLocals := 4, code := jdk_48_method_27_code, exceptionTable := #[], attributes := #[] }
def k18m1 : Method := { name := "newLength", desc := "(III)I", sig := { parameters := [.int, .int, .int], returnType := some .int }, accessFlags := 9, code := some k18c1 }
/-- jdk/internal/util/ArraysSupport -/
def k18 : Class := { plain "jdk/internal/util/ArraysSupport" (some 0) with
  accessFlags := 33
  interfaces := #[]
  cf := some (fileOf pool18 21 #[] #[{ accessFlags := 2, nameIndex := 9, descriptorIndex := 19, attributes := #[] }, { accessFlags := 9, nameIndex := 351, descriptorIndex := 352, attributes := #[] }] 33 16 #[] #[{ accessFlags := 24, nameIndex := 28, descriptorIndex := 29, attributes := #[] }, { accessFlags := 26, nameIndex := 38, descriptorIndex := 39, attributes := #[] }, { accessFlags := 25, nameIndex := 121, descriptorIndex := 25, attributes := #[] }, { accessFlags := 25, nameIndex := 131, descriptorIndex := 25, attributes := #[] }, { accessFlags := 25, nameIndex := 137, descriptorIndex := 25, attributes := #[] }, { accessFlags := 25, nameIndex := 143, descriptorIndex := 25, attributes := #[] }, { accessFlags := 25, nameIndex := 53, descriptorIndex := 25, attributes := #[] }, { accessFlags := 25, nameIndex := 24, descriptorIndex := 25, attributes := #[] }, { accessFlags := 25, nameIndex := 162, descriptorIndex := 25, attributes := #[] }, { accessFlags := 25, nameIndex := 187, descriptorIndex := 25, attributes := #[] }, { accessFlags := 26, nameIndex := 48, descriptorIndex := 25, attributes := #[] }, { accessFlags := 25, nameIndex := 277, descriptorIndex := 25, attributes := #[] }, { accessFlags := 25, nameIndex := 280, descriptorIndex := 25, attributes := #[] }, { accessFlags := 25, nameIndex := 282, descriptorIndex := 25, attributes := #[] }, { accessFlags := 25, nameIndex := 284, descriptorIndex := 25, attributes := #[] }, { accessFlags := 25, nameIndex := 286, descriptorIndex := 25, attributes := #[] }, { accessFlags := 25, nameIndex := 288, descriptorIndex := 25, attributes := #[] }, { accessFlags := 25, nameIndex := 290, descriptorIndex := 25, attributes := #[] }, { accessFlags := 25, nameIndex := 292, descriptorIndex := 25, attributes := #[] }, { accessFlags := 26, nameIndex := 108, descriptorIndex := 109, attributes := #[] }, { accessFlags := 25, nameIndex := 294, descriptorIndex := 25, attributes := #[] }])
  fields := #[{ name := "U", type := (.object "jdk/internal/misc/Unsafe"), accessFlags := 24, slot := 0, constantValue := 0 }, { name := "BIG_ENDIAN", type := .boolean, accessFlags := 26, slot := 1, constantValue := 0 }, { name := "LOG2_ARRAY_BOOLEAN_INDEX_SCALE", type := .int, accessFlags := 25, slot := 2, constantValue := 0 }, { name := "LOG2_ARRAY_BYTE_INDEX_SCALE", type := .int, accessFlags := 25, slot := 3, constantValue := 0 }, { name := "LOG2_ARRAY_CHAR_INDEX_SCALE", type := .int, accessFlags := 25, slot := 4, constantValue := 0 }, { name := "LOG2_ARRAY_SHORT_INDEX_SCALE", type := .int, accessFlags := 25, slot := 5, constantValue := 0 }, { name := "LOG2_ARRAY_INT_INDEX_SCALE", type := .int, accessFlags := 25, slot := 6, constantValue := 0 }, { name := "LOG2_ARRAY_LONG_INDEX_SCALE", type := .int, accessFlags := 25, slot := 7, constantValue := 0 }, { name := "LOG2_ARRAY_FLOAT_INDEX_SCALE", type := .int, accessFlags := 25, slot := 8, constantValue := 0 }, { name := "LOG2_ARRAY_DOUBLE_INDEX_SCALE", type := .int, accessFlags := 25, slot := 9, constantValue := 0 }, { name := "LOG2_BYTE_BIT_SIZE", type := .int, accessFlags := 26, slot := 10, constantValue := 0 }, { name := "T_BOOLEAN", type := .int, accessFlags := 25, slot := 11, constantValue := 0 }, { name := "T_CHAR", type := .int, accessFlags := 25, slot := 12, constantValue := 0 }, { name := "T_FLOAT", type := .int, accessFlags := 25, slot := 13, constantValue := 0 }, { name := "T_DOUBLE", type := .int, accessFlags := 25, slot := 14, constantValue := 0 }, { name := "T_BYTE", type := .int, accessFlags := 25, slot := 15, constantValue := 0 }, { name := "T_SHORT", type := .int, accessFlags := 25, slot := 16, constantValue := 0 }, { name := "T_INT", type := .int, accessFlags := 25, slot := 17, constantValue := 0 }, { name := "T_LONG", type := .int, accessFlags := 25, slot := 18, constantValue := 0 }, { name := "JLA", type := (.object "jdk/internal/access/JavaLangAccess"), accessFlags := 26, slot := 19, constantValue := 0 }, { name := "SOFT_MAX_ARRAY_LENGTH", type := .int, accessFlags := 25, slot := 20, constantValue := 0 }]
  methods := #[k18m0, k18m1]
  instanceTypes := #[]
  staticTypes := #[(.object "jdk/internal/misc/Unsafe"), .boolean, .int, .int, .int, .int, .int, .int, .int, .int, .int, .int, .int, .int, .int, .int, .int, .int, .int, (.object "jdk/internal/access/JavaLangAccess"), .int]
  resolved := Array.replicate 378 none
  statics := none }

def pool19 : Array CpInfo := pool [(1, .class_ 2), (0, u "java/lang/Math"), (1, .class_ 6), (1, u "java/lang/Object"), (0, u "<init>"), (0, u "()V"), (89, .class_ 100), (1, u "java/lang/Math$RandomNumberGeneratorHolder"), (71, u "negativeZeroFloatBits"), (0, u "J"), (2, u "negativeZeroDoubleBits"), (21, u "max"), (2, u "min"), (43, u "$assertionsDisabled"), (0, u "Z"), (88, u "(II)I"), (2, u "twoToTheDoubleScaleDown"), (0, u "D"), (4, u "twoToTheDoubleScaleUp"), (9, u "E"), (3, u "PI"), (2, u "TAU"), (2, u "DEGREES_TO_RADIANS"), (0, u "RADIANS_TO_DEGREES")] 94

def k19m0 : Method := { name := "<init>", desc := "()V", sig := { parameters := [], returnType := none }, accessFlags := 2, code := none }
def k19c1 : Code := { maxStack := 2, maxLocals := 2, code := jdk_29_method_65_code, exceptionTable := #[], attributes := #[] }
def k19m1 : Method := { name := "max", desc := "(II)I", sig := { parameters := [.int, .int], returnType := some .int }, accessFlags := 9, code := some k19c1 }
def k19c2 : Code := { maxStack := 2, maxLocals := 2, code := jdk_29_method_69_code, exceptionTable := #[], attributes := #[] }
def k19m2 : Method := { name := "min", desc := "(II)I", sig := { parameters := [.int, .int], returnType := some .int }, accessFlags := 9, code := some k19c2 }
/-- java/lang/Math -/
def k19 : Class := { plain "java/lang/Math" (some 0) with
  accessFlags := 49
  interfaces := #[]
  cf := some (fileOf pool19 1 #[.nestMembers #[98]] #[{ accessFlags := 2, nameIndex := 7, descriptorIndex := 8, attributes := #[] }, { accessFlags := 9, nameIndex := 198, descriptorIndex := 335, attributes := #[] }, { accessFlags := 9, nameIndex := 201, descriptorIndex := 335, attributes := #[] }] 49 4 #[] #[{ accessFlags := 25, nameIndex := 354, descriptorIndex := 339, attributes := #[] }, { accessFlags := 25, nameIndex := 358, descriptorIndex := 339, attributes := #[] }, { accessFlags := 25, nameIndex := 361, descriptorIndex := 339, attributes := #[] }, { accessFlags := 26, nameIndex := 364, descriptorIndex := 339, attributes := #[] }, { accessFlags := 26, nameIndex := 365, descriptorIndex := 339, attributes := #[] }, { accessFlags := 26, nameIndex := 172, descriptorIndex := 173, attributes := #[] }, { accessFlags := 26, nameIndex := 176, descriptorIndex := 173, attributes := #[] }, { accessFlags := 8, nameIndex := 344, descriptorIndex := 339, attributes := #[] }, { accessFlags := 8, nameIndex := 338, descriptorIndex := 339, attributes := #[] }, { accessFlags := 4120, nameIndex := 245, descriptorIndex := 246, attributes := #[] }])
  fields := #[{ name := "E", type := .double, accessFlags := 25, slot := 0, constantValue := 0 }, { name := "PI", type := .double, accessFlags := 25, slot := 1, constantValue := 0 }, { name := "TAU", type := .double, accessFlags := 25, slot := 2, constantValue := 0 }, { name := "DEGREES_TO_RADIANS", type := .double, accessFlags := 26, slot := 3, constantValue := 0 }, { name := "RADIANS_TO_DEGREES", type := .double, accessFlags := 26, slot := 4, constantValue := 0 }, { name := "negativeZeroFloatBits", type := .long, accessFlags := 26, slot := 5, constantValue := 0 }, { name := "negativeZeroDoubleBits", type := .long, accessFlags := 26, slot := 6, constantValue := 0 }, { name := "twoToTheDoubleScaleUp", type := .double, accessFlags := 8, slot := 7, constantValue := 0 }, { name := "twoToTheDoubleScaleDown", type := .double, accessFlags := 8, slot := 8, constantValue := 0 }, { name := "$assertionsDisabled", type := .boolean, accessFlags := 4120, slot := 9, constantValue := 0 }]
  methods := #[k19m0, k19m1, k19m2]
  instanceTypes := #[]
  staticTypes := #[.double, .double, .double, .double, .double, .long, .long, .double, .double, .boolean]
  resolved := Array.replicate 460 none
  statics := none }

def pool20 : Array CpInfo := pool [(2, .class_ 4), (1, u "java/lang/Object"), (0, u "<init>"), (0, u "()V"), (7, .class_ 16), (1, u "java/util/Arrays"), (57, .class_ 76), (1, u "java/util/Arrays$NaturalOrder"), (36, .class_ 115), (1, u "java/util/Arrays$LegacyMergeSort"), (1, u "Z"), (21, u "copyOfRange"), (10, .methodref 151 152), (0, .class_ 153), (0, .nameAndType 154 155), (0, u "java/lang/System"), (0, u "arraycopy"), (0, u "(Ljava/lang/Object;ILjava/lang/Object;II)V"), (146, u "copyOf"), (1, .methodref 305 306), (0, .class_ 307), (0, .nameAndType 308 309), (0, u "java/lang/Math"), (0, u "min"), (0, u "(II)I"), (29, .methodref 14 340), (0, .nameAndType 341 342), (0, u "copyOfRangeByte"), (0, u "([BII)[B"), (0, .methodref 14 344), (0, .nameAndType 345 346), (0, u "checkLength"), (0, u "(II)V"), (28, .class_ 376), (0, u "java/util/Arrays$ArrayList"), (68, u "$assertionsDisabled"), (269, u "MIN_ARRAY_SORT_GRAN"), (0, u "I"), (2, u "INSERTIONSORT_THRESHOLD"), (149, u "([BI)[B"), (105, .class_ 976), (0, u "java/util/Arrays$ArrayItr")] 52

def k20m0 : Method := { name := "<init>", desc := "()V", sig := { parameters := [], returnType := none }, accessFlags := 2, code := none }
def k20c1 : Code := { maxStack := 6, maxLocals := 3, code := jdk_65_method_121_code, exceptionTable := #[], attributes := #[] }
def k20m1 : Method := { name := "copyOf", desc := "([BI)[B", sig := { parameters := [(.array .byte), .int], returnType := some (.array .byte) }, accessFlags := 9, code := some k20c1 }
def k20c2 : Code := { maxStack := 4, maxLocals := 2, code := jdk_65_method_131_code, exceptionTable := #[], attributes := #[] }
def k20m2 : Method := { name := "checkLength", desc := "(II)V", sig := { parameters := [.int, .int], returnType := none }, accessFlags := 10, code := some k20c2 }
def k20c3 : Code := { maxStack := 3, maxLocals := 3, code := jdk_65_method_132_code, exceptionTable := #[], attributes := #[] }
def k20m3 : Method := { name := "copyOfRange", desc := "([BII)[B", sig := { parameters := [(.array .byte), .int, .int], returnType := some (.array .byte) }, accessFlags := 9, code := some k20c3 }
def k20c4 : Code := { maxStack := 6, maxLocals := 5, code := jdk_65_method_133_code, exceptionTable := #[], attributes := #[] }
def k20m4 : Method := { name := "copyOfRangeByte", desc := "([BII)[B", sig := { parameters := [(.array .byte), .int, .int], returnType := some (.array .byte) }, accessFlags := 10, code := some k20c4 }
/-- java/util/Arrays -/
def k20 : Class := { plain "java/util/Arrays" (some 0) with
  accessFlags := 49
  interfaces := #[]
  cf := some (fileOf pool20 14 #[.nestMembers #[975, 375, 113, 74]] #[{ accessFlags := 2, nameIndex := 5, descriptorIndex := 6, attributes := #[] }, { accessFlags := 9, nameIndex := 302, descriptorIndex := 869, attributes := #[] }, { accessFlags := 10, nameIndex := 345, descriptorIndex := 346, attributes := #[] }, { accessFlags := 9, nameIndex := 139, descriptorIndex := 342, attributes := #[] }, { accessFlags := 10, nameIndex := 341, descriptorIndex := 342, attributes := #[] }] 49 2 #[] #[{ accessFlags := 26, nameIndex := 715, descriptorIndex := 716, attributes := #[] }, { accessFlags := 26, nameIndex := 719, descriptorIndex := 716, attributes := #[] }, { accessFlags := 4120, nameIndex := 445, descriptorIndex := 117, attributes := #[] }])
  fields := #[{ name := "MIN_ARRAY_SORT_GRAN", type := .int, accessFlags := 26, slot := 0, constantValue := 0 }, { name := "INSERTIONSORT_THRESHOLD", type := .int, accessFlags := 26, slot := 1, constantValue := 0 }, { name := "$assertionsDisabled", type := .boolean, accessFlags := 4120, slot := 2, constantValue := 0 }]
  methods := #[k20m0, k20m1, k20m2, k20m3, k20m4]
  instanceTypes := #[]
  staticTypes := #[.int, .int, .boolean]
  resolved := Array.replicate 1029 none
  statics := none }

def pool21 : Array CpInfo := pool [(4, .class_ 6), (1, u "java/lang/Object"), (0, u "<init>"), (0, u "()V"), (5, .class_ 16), (1, u "java/lang/StringLatin1"), (104, u "$assertionsDisabled"), (0, u "Z"), (98, .class_ 223), (1, u "java/lang/StringLatin1$LinesSpliterator"), (57, u "equals"), (0, u "([B[B)Z"), (107, .class_ 391), (0, u "java/lang/StringLatin1$CharsSpliterator")] 3

def k21m0 : Method := { name := "<init>", desc := "()V", sig := { parameters := [], returnType := none }, accessFlags := 0, code := none }
def k21c1 : Code := { maxStack := 3, maxLocals := 3, code := jdk_43_method_13_code, exceptionTable := #[], attributes := #[] }
def k21m1 : Method := { name := "equals", desc := "([B[B)Z", sig := { parameters := [(.array .byte), (.array .byte)], returnType := some .boolean }, accessFlags := 9, code := some k21c1 }
/-- java/lang/StringLatin1 -/
def k21 : Class := { plain "java/lang/StringLatin1" (some 0) with
  accessFlags := 48
  interfaces := #[]
  cf := some (fileOf pool21 14 #[.nestMembers #[390, 221]] #[{ accessFlags := 0, nameIndex := 7, descriptorIndex := 8, attributes := #[] }, { accessFlags := 9, nameIndex := 281, descriptorIndex := 282, attributes := #[] }] 48 4 #[] #[{ accessFlags := 4120, nameIndex := 121, descriptorIndex := 122, attributes := #[] }])
  fields := #[{ name := "$assertionsDisabled", type := .boolean, accessFlags := 4120, slot := 0, constantValue := 0 }]
  methods := #[k21m0, k21m1]
  instanceTypes := #[]
  staticTypes := #[.boolean]
  resolved := Array.replicate 395 none
  statics := none }

def pool22 : Array CpInfo := pool [(2, .class_ 4), (1, u "java/lang/Object"), (0, u "<init>"), (0, u "()V"), (17, .class_ 26), (1, u "jdk/internal/util/Preconditions"), (28, .class_ 56), (0, u "jdk/internal/util/Preconditions$4"), (57, .class_ 115), (0, u "jdk/internal/util/Preconditions$1"), (7, u "SIOOBE_FORMATTER"), (0, u "Ljava/util/function/BiFunction;"), (0, .class_ 126), (0, u "jdk/internal/util/Preconditions$2"), (3, u "AIOOBE_FORMATTER"), (0, .class_ 132), (0, u "jdk/internal/util/Preconditions$3"), (3, u "IOOBE_FORMATTER")] 57

def k22m0 : Method := { name := "<init>", desc := "()V", sig := { parameters := [], returnType := none }, accessFlags := 1, code := none }
/-- jdk/internal/util/Preconditions -/
def k22 : Class := { plain "jdk/internal/util/Preconditions" (some 0) with
  accessFlags := 33
  interfaces := #[]
  cf := some (fileOf pool22 24 #[.nestMembers #[55, 131, 125, 114]] #[{ accessFlags := 1, nameIndex := 5, descriptorIndex := 6, attributes := #[] }] 33 2 #[] #[{ accessFlags := 25, nameIndex := 123, descriptorIndex := 124, attributes := #[] }, { accessFlags := 25, nameIndex := 130, descriptorIndex := 124, attributes := #[] }, { accessFlags := 25, nameIndex := 136, descriptorIndex := 124, attributes := #[] }])
  fields := #[{ name := "SIOOBE_FORMATTER", type := (.object "java/util/function/BiFunction"), accessFlags := 25, slot := 0, constantValue := 0 }, { name := "AIOOBE_FORMATTER", type := (.object "java/util/function/BiFunction"), accessFlags := 25, slot := 1, constantValue := 0 }, { name := "IOOBE_FORMATTER", type := (.object "java/util/function/BiFunction"), accessFlags := 25, slot := 2, constantValue := 0 }]
  methods := #[k22m0]
  instanceTypes := #[]
  staticTypes := #[(.object "java/util/function/BiFunction"), (.object "java/util/function/BiFunction"), (.object "java/util/function/BiFunction")]
  resolved := Array.replicate 194 none
  statics := some 2 }

def pool23 : Array CpInfo := pool [(1, u "java/lang/Cloneable"), (0, .class_ 1), (0, u "java/lang/Object"), (0, .class_ 3)] 3

/-- java/lang/Cloneable -/
def k23 : Class := { plain "java/lang/Cloneable" (some 0) with
  accessFlags := 1537
  interfaces := #[]
  cf := some (fileOf pool23 2 #[] #[] 1537 4 #[] #[])
  fields := #[]
  methods := #[]
  instanceTypes := #[]
  staticTypes := #[]
  resolved := Array.replicate 8 none
  statics := none }

/-- the primitive byte -/
def k24 : Class := { plain "byte" none with kind := .primitive 'B', accessFlags := 0x411 }
/-- [B -/
def k25 : Class := { plain "[B" (some 0) with kind := .array 24 .byte, interfaces := #[23, 2], accessFlags := 1041 }

/-- the primitive char -/
def k26 : Class := { plain "char" none with kind := .primitive 'C', accessFlags := 0x411 }
/-- [C -/
def k27 : Class := { plain "[C" (some 0) with kind := .array 26 .char, interfaces := #[23, 2], accessFlags := 1041 }

/-- the primitive int -/
def k28 : Class := { plain "int" none with kind := .primitive 'I', accessFlags := 0x411 }
/-- [I -/
def k29 : Class := { plain "[I" (some 0) with kind := .array 28 .int, interfaces := #[23, 2], accessFlags := 1041 }

def heap : Heap := #[{ cls := 7, slots := #[.long 0, .int 1, .null, .int 0, .null, .int 0, .int 0], vm := .statics 7 },
  { cls := 17, slots := #[.int 0, .int 0, .null, .null, .ref 4, .ref 3, .int 0, .int 0, .long 0], vm := .statics 17 },
  { cls := 22, slots := #[.null, .null, .null], vm := .statics 22 },
  { cls := 25, slots := #[.int 48, .int 49, .int 50, .int 51, .int 52, .int 53, .int 54, .int 55, .int 56, .int 57, .int 48, .int 49, .int 50, .int 51, .int 52, .int 53, .int 54, .int 55, .int 56, .int 57, .int 48, .int 49, .int 50, .int 51, .int 52, .int 53, .int 54, .int 55, .int 56, .int 57, .int 48, .int 49, .int 50, .int 51, .int 52, .int 53, .int 54, .int 55, .int 56, .int 57, .int 48, .int 49, .int 50, .int 51, .int 52, .int 53, .int 54, .int 55, .int 56, .int 57, .int 48, .int 49, .int 50, .int 51, .int 52, .int 53, .int 54, .int 55, .int 56, .int 57, .int 48, .int 49, .int 50, .int 51, .int 52, .int 53, .int 54, .int 55, .int 56, .int 57, .int 48, .int 49, .int 50, .int 51, .int 52, .int 53, .int 54, .int 55, .int 56, .int 57, .int 48, .int 49, .int 50, .int 51, .int 52, .int 53, .int 54, .int 55, .int 56, .int 57, .int 48, .int 49, .int 50, .int 51, .int 52, .int 53, .int 54, .int 55, .int 56, .int 57], vm := .none },
  { cls := 25, slots := #[.int 48, .int 48, .int 48, .int 48, .int 48, .int 48, .int 48, .int 48, .int 48, .int 48, .int 49, .int 49, .int 49, .int 49, .int 49, .int 49, .int 49, .int 49, .int 49, .int 49, .int 50, .int 50, .int 50, .int 50, .int 50, .int 50, .int 50, .int 50, .int 50, .int 50, .int 51, .int 51, .int 51, .int 51, .int 51, .int 51, .int 51, .int 51, .int 51, .int 51, .int 52, .int 52, .int 52, .int 52, .int 52, .int 52, .int 52, .int 52, .int 52, .int 52, .int 53, .int 53, .int 53, .int 53, .int 53, .int 53, .int 53, .int 53, .int 53, .int 53, .int 54, .int 54, .int 54, .int 54, .int 54, .int 54, .int 54, .int 54, .int 54, .int 54, .int 55, .int 55, .int 55, .int 55, .int 55, .int 55, .int 55, .int 55, .int 55, .int 55, .int 56, .int 56, .int 56, .int 56, .int 56, .int 56, .int 56, .int 56, .int 56, .int 56, .int 57, .int 57, .int 57, .int 57, .int 57, .int 57, .int 57, .int 57, .int 57, .int 57], vm := .none }]
def classes : Array Class := #[k0, k1, k2, k3, k4, k5, k6, k7, k8, k9, k10, k11, k12, k13, k14, k15, k16, k17, k18, k19, k20, k21, k22, k23, k24, k25, k26, k27, k28, k29]
def interned : List (Array UInt16 × Addr) := []
def slotsUsed : Nat := 219
def theMethod : MethodId := ⟨1, 3⟩
def args0 : Array Value := #[.int 5, .int 6, .int 7, .int 8]
def aboutOver (below : List Frame) : State where
  vm := { classes := classes, interned := interned.toArray }
  heap := heap
  slotsUsed := slotsUsed
  threads := #[{ frames := .invoking theMethod args0 :: below }]
def below0 : List Frame := [.native { method := ⟨0, 0⟩, args := #[] }]
def about1 : State := aboutOver below0
def p0 : Program := .bare "" "" ""
def e0 : Env := launch0.env 0 0 0
theorem w_frames : about1.frames = Frame.invoking theMethod args0 :: below0 := rfl
set_option maxRecDepth 65536 in
theorem w_args : argsFit about1.vm theMethod args0 = true := by decide +kernel
set_option maxRecDepth 65536 in
theorem w_heap : heapFits about1 = true := by decide +kernel
set_option maxRecDepth 65536 in
theorem w_runnable : about1.curStatus? = some .runnable := by decide +kernel
set_option maxRecDepth 65536 in
theorem w_alone : about1.alone = true := by decide +kernel
set_option maxRecDepth 65536 in
theorem w_named : about1.methodNamed? x = some theMethod := by decide +kernel
set_option maxRecDepth 65536 in
theorem w_hears : about1.hears theMethod below0 = true := by decide +kernel
set_option maxRecDepth 65536 in
theorem w_ripe : about1.ripe theMethod args0 below0 = true := by decide +kernel
theorem w_running : about1.status = .running := rfl
set_option maxRecDepth 65536 in
theorem w_room : about1.hasRoom e0.platform room_1 = true :=
  launch0.hasRoom_least _ room_1 (by decide +kernel) (by decide +kernel) (by decide +kernel) (by decide +kernel) (by decide +kernel) (by decide +kernel)
theorem allAtoms_all (ts : List Jvm.Cond) (a : Array Jvm.Value) (st : Jvm.State) : (allAtoms ts).before a st = ts.all (fun c => c.before a st) := by
  induction ts with
  | nil => rfl
  | cons c t ih =>
    show (Jvm.Cond.and c (allAtoms t)).before a st = _
    rw [Jvm.Cond.before_and, ih, List.all_cons]
def words1 : List Jvm.Cond := Jvm.Cond.code x code maxLocals ret :: tables_1
/-- a 'code' word, met by the world's own term for the bytes: nothing is compared byte by byte -/
theorem code_word {y : MethodName} {bytes : ByteArray} {mx : Nat} {rt : Option FieldType} {a : Array Value} {s : State} {m : MethodId} {meth : Method} {c : Code} (h1 : s.methodNamed? y = some m) (h2 : s.vm.method? m = some meth) (h3 : meth.code = some c) (h4 : c.code = bytes)
    (h5 : (c.maxLocals == mx && c.exceptionTable.isEmpty && decide (c.maxStack ≤ mostOperands) && decide (meth.sig.returnType = rt) && !meth.locks && decide (parseMethodDescriptor y.desc = some meth.sig)) = true) : (Jvm.Cond.code y bytes mx rt).before a s = true := by
  simp only [Bool.and_eq_true, beq_iff_eq, Bool.not_eq_true', decide_eq_true_eq] at h5
  obtain ⟨⟨⟨⟨⟨g1, g2⟩, g3⟩, g4⟩, g5⟩, g6⟩ := h5
  simp [Cond.before, Cond.holds, Cond.value, h1, h2, h3, h4, g1, g2, g3, g4, g5, g6]
def isCode : Jvm.Cond → Bool
  | .code _ _ _ _ => true
  | _ => false
theorem all_split {L : List Jvm.Cond} {P : Jvm.Cond → Bool} (h1 : L.all (fun c => isCode c || P c) = true) (h2 : ∀ c ∈ L.filter isCode, P c = true) : L.all P = true := by
  refine List.all_eq_true.mpr fun c hc => ?_
  have h := List.all_eq_true.mp h1 c hc
  rcases Bool.eq_false_or_eq_true (isCode c) with hi | hi
  · exact h2 c (List.mem_filter.mpr ⟨hc, hi⟩)
  · simpa [hi] using h
set_option maxRecDepth 65536 in
theorem w_c0 : (Jvm.Cond.code x code maxLocals ret).before args0 about1 = true := code_word (m := ⟨1, 3⟩) (meth := k1m3) (c := k1c3) (by decide +kernel) rfl rfl rfl (by decide +kernel)
set_option maxRecDepth 65536 in
theorem w_c1 : (Jvm.Cond.code ({ cls := "com/example/couplet/couplet/core/EventCountsToStringPinLaw", name := "put", desc := "([CII)V" } : Jvm.MethodName) method_3_code (4 : Nat) (Option.none : Option Jvm.ClassFile.FieldType)).before args0 about1 = true := code_word (m := ⟨1, 2⟩) (meth := k1m2) (c := k1c2) (by decide +kernel) rfl rfl rfl (by decide +kernel)
set_option maxRecDepth 65536 in
theorem w_c2 : (Jvm.Cond.code ({ cls := "java/lang/String", name := "<init>", desc := "([C)V" } : Jvm.MethodName) jdk_42_method_3_code (2 : Nat) (Option.none : Option Jvm.ClassFile.FieldType)).before args0 about1 = true := code_word (m := ⟨7, 1⟩) (meth := k7m1) (c := k7c1) (by decide +kernel) rfl rfl rfl (by decide +kernel)
set_option maxRecDepth 65536 in
theorem w_c3 : (Jvm.Cond.code ({ cls := "java/lang/String", name := "<init>", desc := "([CIILjava/lang/Void;)V" } : Jvm.MethodName) jdk_42_method_149_code (6 : Nat) (Option.none : Option Jvm.ClassFile.FieldType)).before args0 about1 = true := code_word (m := ⟨7, 6⟩) (meth := k7m6) (c := k7c6) (by decide +kernel) rfl rfl rfl (by decide +kernel)
set_option maxRecDepth 65536 in
theorem w_c4 : (Jvm.Cond.code ({ cls := "java/lang/Object", name := "<init>", desc := "()V" } : Jvm.MethodName) object_method_1_code (1 : Nat) (Option.none : Option Jvm.ClassFile.FieldType)).before args0 about1 = true := code_word (m := ⟨0, 0⟩) (meth := k0m0) (c := k0c0) (by decide +kernel) rfl rfl rfl (by decide +kernel)
set_option maxRecDepth 65536 in
theorem w_c5 : (Jvm.Cond.code ({ cls := "java/lang/StringUTF16", name := "compress", desc := "([CII)[B" } : Jvm.MethodName) jdk_52_method_16_code (6 : Nat) (Option.some (Jvm.ClassFile.FieldType.array Jvm.ClassFile.FieldType.byte))).before args0 about1 = true := code_word (m := ⟨8, 2⟩) (meth := k8m2) (c := k8c2) (by decide +kernel) rfl rfl rfl (by decide +kernel)
set_option maxRecDepth 65536 in
theorem w_c6 : (Jvm.Cond.code ({ cls := "java/lang/StringUTF16", name := "compress", desc := "([CI[BII)I" } : Jvm.MethodName) jdk_52_method_21_code (7 : Nat) (Option.some Jvm.ClassFile.FieldType.int)).before args0 about1 = true := code_word (m := ⟨8, 3⟩) (meth := k8m3) (c := k8c3) (by decide +kernel) rfl rfl rfl (by decide +kernel)
set_option maxRecDepth 65536 in
theorem w_c7 : (Jvm.Cond.code ({ cls := "java/lang/StringUTF16", name := "coderFromArrayLen", desc := "([BI)B" } : Jvm.MethodName) jdk_52_method_15_code (2 : Nat) (Option.some Jvm.ClassFile.FieldType.byte)).before args0 about1 = true := code_word (m := ⟨8, 1⟩) (meth := k8m1) (c := k8c1) (by decide +kernel) rfl rfl rfl (by decide +kernel)
set_option maxRecDepth 65536 in
theorem w_c8 : (Jvm.Cond.code ({ cls := "com/example/couplet/couplet/core/EventCountsToStringPinLaw", name := "val", desc := "(I)J" } : Jvm.MethodName) method_2_code (1 : Nat) (Option.some Jvm.ClassFile.FieldType.long)).before args0 about1 = true := code_word (m := ⟨1, 1⟩) (meth := k1m1) (c := k1c1) (by decide +kernel) rfl rfl rfl (by decide +kernel)
set_option maxRecDepth 65536 in
theorem w_c9 : (Jvm.Cond.code ({ cls := "com/example/couplet/couplet/core/EventCounts", name := "<init>", desc := "(JJJJJJJJ)V" } : Jvm.MethodName) prog_7_method_1_code (17 : Nat) (Option.none : Option Jvm.ClassFile.FieldType)).before args0 about1 = true := code_word (m := ⟨10, 0⟩) (meth := k10m0) (c := k10c0) (by decide +kernel) rfl rfl rfl (by decide +kernel)
set_option maxRecDepth 65536 in
theorem w_c10 : (Jvm.Cond.code ({ cls := "java/lang/Record", name := "<init>", desc := "()V" } : Jvm.MethodName) jdk_30_method_1_code (1 : Nat) (Option.none : Option Jvm.ClassFile.FieldType)).before args0 about1 = true := code_word (m := ⟨9, 0⟩) (meth := k9m0) (c := k9c0) (by decide +kernel) rfl rfl rfl (by decide +kernel)
set_option maxRecDepth 65536 in
theorem w_c11 : (Jvm.Cond.code ({ cls := "com/example/couplet/couplet/core/EventCounts", name := "toString", desc := "()Ljava/lang/String;" } : Jvm.MethodName) prog_7_method_2_code (1 : Nat) (Option.some (Jvm.ClassFile.FieldType.object "java/lang/String"))).before args0 about1 = true := code_word (m := ⟨10, 1⟩) (meth := k10m1) (c := k10c1) (by decide +kernel) rfl rfl rfl (by decide +kernel)
set_option maxRecDepth 65536 in
theorem w_c12 : (Jvm.Cond.code ({ cls := "java/lang/StringBuilder", name := "<init>", desc := "()V" } : Jvm.MethodName) jdk_67_method_1_code (1 : Nat) (Option.none : Option Jvm.ClassFile.FieldType)).before args0 about1 = true := code_word (m := ⟨13, 0⟩) (meth := k13m0) (c := k13c0) (by decide +kernel) rfl rfl rfl (by decide +kernel)
set_option maxRecDepth 65536 in
theorem w_c13 : (Jvm.Cond.code ({ cls := "java/lang/AbstractStringBuilder", name := "<init>", desc := "(I)V" } : Jvm.MethodName) jdk_68_method_2_code (2 : Nat) (Option.none : Option Jvm.ClassFile.FieldType)).before args0 about1 = true := code_word (m := ⟨12, 1⟩) (meth := k12m1) (c := k12c1) (by decide +kernel) rfl rfl rfl (by decide +kernel)
set_option maxRecDepth 65536 in
theorem w_c14 : (Jvm.Cond.code ({ cls := "java/lang/StringBuilder", name := "append", desc := "(Ljava/lang/String;)Ljava/lang/StringBuilder;" } : Jvm.MethodName) jdk_67_method_7_code (2 : Nat) (Option.some (Jvm.ClassFile.FieldType.object "java/lang/StringBuilder"))).before args0 about1 = true := code_word (m := ⟨13, 1⟩) (meth := k13m1) (c := k13c1) (by decide +kernel) rfl rfl rfl (by decide +kernel)
set_option maxRecDepth 65536 in
theorem w_c15 : (Jvm.Cond.code ({ cls := "java/lang/AbstractStringBuilder", name := "append", desc := "(Ljava/lang/String;)Ljava/lang/AbstractStringBuilder;" } : Jvm.MethodName) jdk_68_method_22_code (3 : Nat) (Option.some (Jvm.ClassFile.FieldType.object "java/lang/AbstractStringBuilder"))).before args0 about1 = true := code_word (m := ⟨12, 5⟩) (meth := k12m5) (c := k12c5) (by decide +kernel) rfl rfl rfl (by decide +kernel)
set_option maxRecDepth 65536 in
theorem w_c16 : (Jvm.Cond.code ({ cls := "java/lang/String", name := "length", desc := "()I" } : Jvm.MethodName) jdk_42_method_54_code (1 : Nat) (Option.some Jvm.ClassFile.FieldType.int)).before args0 about1 = true := code_word (m := ⟨7, 3⟩) (meth := k7m3) (c := k7c3) (by decide +kernel) rfl rfl rfl (by decide +kernel)
set_option maxRecDepth 65536 in
theorem w_c17 : (Jvm.Cond.code ({ cls := "java/lang/String", name := "coder", desc := "()B" } : Jvm.MethodName) jdk_42_method_152_code (1 : Nat) (Option.some Jvm.ClassFile.FieldType.byte)).before args0 about1 = true := code_word (m := ⟨7, 8⟩) (meth := k7m8) (c := k7c8) (by decide +kernel) rfl rfl rfl (by decide +kernel)
set_option maxRecDepth 65536 in
theorem w_c18 : (Jvm.Cond.code ({ cls := "java/lang/AbstractStringBuilder", name := "ensureCapacityInternal", desc := "(I)V" } : Jvm.MethodName) jdk_68_method_9_code (3 : Nat) (Option.none : Option Jvm.ClassFile.FieldType)).before args0 about1 = true := code_word (m := ⟨12, 3⟩) (meth := k12m3) (c := k12c3) (by decide +kernel) rfl rfl rfl (by decide +kernel)
set_option maxRecDepth 65536 in
theorem w_c19 : (Jvm.Cond.code ({ cls := "java/lang/AbstractStringBuilder", name := "putStringAt", desc := "(ILjava/lang/String;)V" } : Jvm.MethodName) jdk_68_method_73_code (3 : Nat) (Option.none : Option Jvm.ClassFile.FieldType)).before args0 about1 = true := code_word (m := ⟨12, 10⟩) (meth := k12m10) (c := k12c10) (by decide +kernel) rfl rfl rfl (by decide +kernel)
set_option maxRecDepth 65536 in
theorem w_c20 : (Jvm.Cond.code ({ cls := "java/lang/AbstractStringBuilder", name := "inflateIfNeededFor", desc := "(Ljava/lang/String;)V" } : Jvm.MethodName) jdk_68_method_71_code (2 : Nat) (Option.none : Option Jvm.ClassFile.FieldType)).before args0 about1 = true := code_word (m := ⟨12, 9⟩) (meth := k12m9) (c := k12c9) (by decide +kernel) rfl rfl rfl (by decide +kernel)
set_option maxRecDepth 65536 in
theorem w_c21 : (Jvm.Cond.code ({ cls := "java/lang/String", name := "getBytes", desc := "([BIB)V" } : Jvm.MethodName) jdk_42_method_147_code (4 : Nat) (Option.none : Option Jvm.ClassFile.FieldType)).before args0 about1 = true := code_word (m := ⟨7, 5⟩) (meth := k7m5) (c := k7c5) (by decide +kernel) rfl rfl rfl (by decide +kernel)
set_option maxRecDepth 65536 in
theorem w_c22 : (Jvm.Cond.code ({ cls := "java/lang/StringBuilder", name := "append", desc := "(J)Ljava/lang/StringBuilder;" } : Jvm.MethodName) jdk_67_method_16_code (3 : Nat) (Option.some (Jvm.ClassFile.FieldType.object "java/lang/StringBuilder"))).before args0 about1 = true := code_word (m := ⟨13, 2⟩) (meth := k13m2) (c := k13c2) (by decide +kernel) rfl rfl rfl (by decide +kernel)
set_option maxRecDepth 65536 in
theorem w_c23 : (Jvm.Cond.code ({ cls := "java/lang/AbstractStringBuilder", name := "append", desc := "(J)Ljava/lang/AbstractStringBuilder;" } : Jvm.MethodName) jdk_68_method_33_code (5 : Nat) (Option.some (Jvm.ClassFile.FieldType.object "java/lang/AbstractStringBuilder"))).before args0 about1 = true := code_word (m := ⟨12, 6⟩) (meth := k12m6) (c := k12c6) (by decide +kernel) rfl rfl rfl (by decide +kernel)
set_option maxRecDepth 65536 in
theorem w_c24 : (Jvm.Cond.code ({ cls := "java/lang/Long", name := "stringSize", desc := "(J)I" } : Jvm.MethodName) jdk_35_method_15_code (6 : Nat) (Option.some Jvm.ClassFile.FieldType.int)).before args0 about1 = true := code_word (m := ⟨16, 1⟩) (meth := k16m1) (c := k16c1) (by decide +kernel) rfl rfl rfl (by decide +kernel)
set_option maxRecDepth 65536 in
theorem w_c25 : (Jvm.Cond.code ({ cls := "java/lang/AbstractStringBuilder", name := "isLatin1", desc := "()Z" } : Jvm.MethodName) jdk_68_method_68_code (1 : Nat) (Option.some Jvm.ClassFile.FieldType.boolean)).before args0 about1 = true := code_word (m := ⟨12, 8⟩) (meth := k12m8) (c := k12c8) (by decide +kernel) rfl rfl rfl (by decide +kernel)
set_option maxRecDepth 65536 in
theorem w_c26 : (Jvm.Cond.code ({ cls := "java/lang/Long", name := "getChars", desc := "(JI[B)I" } : Jvm.MethodName) jdk_35_method_14_code (11 : Nat) (Option.some Jvm.ClassFile.FieldType.int)).before args0 about1 = true := code_word (m := ⟨16, 0⟩) (meth := k16m0) (c := k16c0) (by decide +kernel) rfl rfl rfl (by decide +kernel)
set_option maxRecDepth 65536 in
theorem w_c27 : (Jvm.Cond.code ({ cls := "java/lang/AbstractStringBuilder", name := "newCapacity", desc := "(I)I" } : Jvm.MethodName) jdk_68_method_10_code (6 : Nat) (Option.some Jvm.ClassFile.FieldType.int)).before args0 about1 = true := code_word (m := ⟨12, 4⟩) (meth := k12m4) (c := k12c4) (by decide +kernel) rfl rfl rfl (by decide +kernel)
set_option maxRecDepth 65536 in
theorem w_c28 : (Jvm.Cond.code ({ cls := "jdk/internal/util/ArraysSupport", name := "newLength", desc := "(III)I" } : Jvm.MethodName) jdk_48_method_27_code (4 : Nat) (Option.some Jvm.ClassFile.FieldType.int)).before args0 about1 = true := code_word (m := ⟨18, 1⟩) (meth := k18m1) (c := k18c1) (by decide +kernel) rfl rfl rfl (by decide +kernel)
set_option maxRecDepth 65536 in
theorem w_c29 : (Jvm.Cond.code ({ cls := "java/lang/Math", name := "max", desc := "(II)I" } : Jvm.MethodName) jdk_29_method_65_code (2 : Nat) (Option.some Jvm.ClassFile.FieldType.int)).before args0 about1 = true := code_word (m := ⟨19, 1⟩) (meth := k19m1) (c := k19c1) (by decide +kernel) rfl rfl rfl (by decide +kernel)
set_option maxRecDepth 65536 in
theorem w_c30 : (Jvm.Cond.code ({ cls := "java/util/Arrays", name := "copyOf", desc := "([BI)[B" } : Jvm.MethodName) jdk_65_method_121_code (3 : Nat) (Option.some (Jvm.ClassFile.FieldType.array Jvm.ClassFile.FieldType.byte))).before args0 about1 = true := code_word (m := ⟨20, 1⟩) (meth := k20m1) (c := k20c1) (by decide +kernel) rfl rfl rfl (by decide +kernel)
set_option maxRecDepth 65536 in
theorem w_c31 : (Jvm.Cond.code ({ cls := "java/lang/Math", name := "min", desc := "(II)I" } : Jvm.MethodName) jdk_29_method_69_code (2 : Nat) (Option.some Jvm.ClassFile.FieldType.int)).before args0 about1 = true := code_word (m := ⟨19, 2⟩) (meth := k19m2) (c := k19c2) (by decide +kernel) rfl rfl rfl (by decide +kernel)
set_option maxRecDepth 65536 in
theorem w_c32 : (Jvm.Cond.code ({ cls := "java/lang/StringBuilder", name := "toString", desc := "()Ljava/lang/String;" } : Jvm.MethodName) jdk_67_method_42_code (1 : Nat) (Option.some (Jvm.ClassFile.FieldType.object "java/lang/String"))).before args0 about1 = true := code_word (m := ⟨13, 3⟩) (meth := k13m3) (c := k13c3) (by decide +kernel) rfl rfl rfl (by decide +kernel)
set_option maxRecDepth 65536 in
theorem w_c33 : (Jvm.Cond.code ({ cls := "java/lang/String", name := "<init>", desc := "(Ljava/lang/StringBuilder;)V" } : Jvm.MethodName) jdk_42_method_53_code (2 : Nat) (Option.none : Option Jvm.ClassFile.FieldType)).before args0 about1 = true := code_word (m := ⟨7, 2⟩) (meth := k7m2) (c := k7c2) (by decide +kernel) rfl rfl rfl (by decide +kernel)
set_option maxRecDepth 65536 in
theorem w_c34 : (Jvm.Cond.code ({ cls := "java/lang/String", name := "<init>", desc := "(Ljava/lang/AbstractStringBuilder;Ljava/lang/Void;)V" } : Jvm.MethodName) jdk_42_method_150_code (5 : Nat) (Option.none : Option Jvm.ClassFile.FieldType)).before args0 about1 = true := code_word (m := ⟨7, 7⟩) (meth := k7m7) (c := k7c7) (by decide +kernel) rfl rfl rfl (by decide +kernel)
set_option maxRecDepth 65536 in
theorem w_c35 : (Jvm.Cond.code ({ cls := "java/lang/AbstractStringBuilder", name := "getValue", desc := "()[B" } : Jvm.MethodName) jdk_68_method_64_code (1 : Nat) (Option.some (Jvm.ClassFile.FieldType.array Jvm.ClassFile.FieldType.byte))).before args0 about1 = true := code_word (m := ⟨12, 7⟩) (meth := k12m7) (c := k12c7) (by decide +kernel) rfl rfl rfl (by decide +kernel)
set_option maxRecDepth 65536 in
theorem w_c36 : (Jvm.Cond.code ({ cls := "java/lang/StringBuilder", name := "length", desc := "()I" } : Jvm.MethodName) jdk_67_method_93_code (1 : Nat) (Option.some Jvm.ClassFile.FieldType.int)).before args0 about1 = true := code_word (m := ⟨13, 4⟩) (meth := k13m4) (c := k13c4) (by decide +kernel) rfl rfl rfl (by decide +kernel)
set_option maxRecDepth 65536 in
theorem w_c37 : (Jvm.Cond.code ({ cls := "java/lang/AbstractStringBuilder", name := "length", desc := "()I" } : Jvm.MethodName) jdk_68_method_6_code (1 : Nat) (Option.some Jvm.ClassFile.FieldType.int)).before args0 about1 = true := code_word (m := ⟨12, 2⟩) (meth := k12m2) (c := k12c2) (by decide +kernel) rfl rfl rfl (by decide +kernel)
set_option maxRecDepth 65536 in
theorem w_c38 : (Jvm.Cond.code ({ cls := "java/util/Arrays", name := "copyOfRange", desc := "([BII)[B" } : Jvm.MethodName) jdk_65_method_132_code (3 : Nat) (Option.some (Jvm.ClassFile.FieldType.array Jvm.ClassFile.FieldType.byte))).before args0 about1 = true := code_word (m := ⟨20, 3⟩) (meth := k20m3) (c := k20c3) (by decide +kernel) rfl rfl rfl (by decide +kernel)
set_option maxRecDepth 65536 in
theorem w_c39 : (Jvm.Cond.code ({ cls := "java/util/Arrays", name := "copyOfRangeByte", desc := "([BII)[B" } : Jvm.MethodName) jdk_65_method_133_code (5 : Nat) (Option.some (Jvm.ClassFile.FieldType.array Jvm.ClassFile.FieldType.byte))).before args0 about1 = true := code_word (m := ⟨20, 4⟩) (meth := k20m4) (c := k20c4) (by decide +kernel) rfl rfl rfl (by decide +kernel)
set_option maxRecDepth 65536 in
theorem w_c40 : (Jvm.Cond.code ({ cls := "java/util/Arrays", name := "checkLength", desc := "(II)V" } : Jvm.MethodName) jdk_65_method_131_code (2 : Nat) (Option.none : Option Jvm.ClassFile.FieldType)).before args0 about1 = true := code_word (m := ⟨20, 2⟩) (meth := k20m2) (c := k20c2) (by decide +kernel) rfl rfl rfl (by decide +kernel)
set_option maxRecDepth 65536 in
theorem w_c41 : (Jvm.Cond.code ({ cls := "java/lang/String", name := "equals", desc := "(Ljava/lang/Object;)Z" } : Jvm.MethodName) jdk_42_method_66_code (3 : Nat) (Option.some Jvm.ClassFile.FieldType.boolean)).before args0 about1 = true := code_word (m := ⟨7, 4⟩) (meth := k7m4) (c := k7c4) (by decide +kernel) rfl rfl rfl (by decide +kernel)
set_option maxRecDepth 65536 in
theorem w_c42 : (Jvm.Cond.code ({ cls := "java/lang/StringLatin1", name := "equals", desc := "([B[B)Z" } : Jvm.MethodName) jdk_43_method_13_code (3 : Nat) (Option.some Jvm.ClassFile.FieldType.boolean)).before args0 about1 = true := code_word (m := ⟨21, 1⟩) (meth := k21m1) (c := k21c1) (by decide +kernel) rfl rfl rfl (by decide +kernel)
def codes1 : List Jvm.Cond := [Jvm.Cond.code x code maxLocals ret, Jvm.Cond.code ({ cls := "com/example/couplet/couplet/core/EventCountsToStringPinLaw", name := "put", desc := "([CII)V" } : Jvm.MethodName) method_3_code (4 : Nat) (Option.none : Option Jvm.ClassFile.FieldType), Jvm.Cond.code ({ cls := "java/lang/String", name := "<init>", desc := "([C)V" } : Jvm.MethodName) jdk_42_method_3_code (2 : Nat) (Option.none : Option Jvm.ClassFile.FieldType), Jvm.Cond.code ({ cls := "java/lang/String", name := "<init>", desc := "([CIILjava/lang/Void;)V" } : Jvm.MethodName) jdk_42_method_149_code (6 : Nat) (Option.none : Option Jvm.ClassFile.FieldType), Jvm.Cond.code ({ cls := "java/lang/Object", name := "<init>", desc := "()V" } : Jvm.MethodName) object_method_1_code (1 : Nat) (Option.none : Option Jvm.ClassFile.FieldType), Jvm.Cond.code ({ cls := "java/lang/StringUTF16", name := "compress", desc := "([CII)[B" } : Jvm.MethodName) jdk_52_method_16_code (6 : Nat) (Option.some (Jvm.ClassFile.FieldType.array Jvm.ClassFile.FieldType.byte)), Jvm.Cond.code ({ cls := "java/lang/StringUTF16", name := "compress", desc := "([CI[BII)I" } : Jvm.MethodName) jdk_52_method_21_code (7 : Nat) (Option.some Jvm.ClassFile.FieldType.int), Jvm.Cond.code ({ cls := "java/lang/StringUTF16", name := "coderFromArrayLen", desc := "([BI)B" } : Jvm.MethodName) jdk_52_method_15_code (2 : Nat) (Option.some Jvm.ClassFile.FieldType.byte), Jvm.Cond.code ({ cls := "com/example/couplet/couplet/core/EventCountsToStringPinLaw", name := "val", desc := "(I)J" } : Jvm.MethodName) method_2_code (1 : Nat) (Option.some Jvm.ClassFile.FieldType.long), Jvm.Cond.code ({ cls := "com/example/couplet/couplet/core/EventCounts", name := "<init>", desc := "(JJJJJJJJ)V" } : Jvm.MethodName) prog_7_method_1_code (17 : Nat) (Option.none : Option Jvm.ClassFile.FieldType), Jvm.Cond.code ({ cls := "java/lang/Record", name := "<init>", desc := "()V" } : Jvm.MethodName) jdk_30_method_1_code (1 : Nat) (Option.none : Option Jvm.ClassFile.FieldType), Jvm.Cond.code ({ cls := "com/example/couplet/couplet/core/EventCounts", name := "toString", desc := "()Ljava/lang/String;" } : Jvm.MethodName) prog_7_method_2_code (1 : Nat) (Option.some (Jvm.ClassFile.FieldType.object "java/lang/String")), Jvm.Cond.code ({ cls := "java/lang/StringBuilder", name := "<init>", desc := "()V" } : Jvm.MethodName) jdk_67_method_1_code (1 : Nat) (Option.none : Option Jvm.ClassFile.FieldType), Jvm.Cond.code ({ cls := "java/lang/AbstractStringBuilder", name := "<init>", desc := "(I)V" } : Jvm.MethodName) jdk_68_method_2_code (2 : Nat) (Option.none : Option Jvm.ClassFile.FieldType), Jvm.Cond.code ({ cls := "java/lang/StringBuilder", name := "append", desc := "(Ljava/lang/String;)Ljava/lang/StringBuilder;" } : Jvm.MethodName) jdk_67_method_7_code (2 : Nat) (Option.some (Jvm.ClassFile.FieldType.object "java/lang/StringBuilder")), Jvm.Cond.code ({ cls := "java/lang/AbstractStringBuilder", name := "append", desc := "(Ljava/lang/String;)Ljava/lang/AbstractStringBuilder;" } : Jvm.MethodName) jdk_68_method_22_code (3 : Nat) (Option.some (Jvm.ClassFile.FieldType.object "java/lang/AbstractStringBuilder")), Jvm.Cond.code ({ cls := "java/lang/String", name := "length", desc := "()I" } : Jvm.MethodName) jdk_42_method_54_code (1 : Nat) (Option.some Jvm.ClassFile.FieldType.int), Jvm.Cond.code ({ cls := "java/lang/String", name := "coder", desc := "()B" } : Jvm.MethodName) jdk_42_method_152_code (1 : Nat) (Option.some Jvm.ClassFile.FieldType.byte), Jvm.Cond.code ({ cls := "java/lang/AbstractStringBuilder", name := "ensureCapacityInternal", desc := "(I)V" } : Jvm.MethodName) jdk_68_method_9_code (3 : Nat) (Option.none : Option Jvm.ClassFile.FieldType), Jvm.Cond.code ({ cls := "java/lang/AbstractStringBuilder", name := "putStringAt", desc := "(ILjava/lang/String;)V" } : Jvm.MethodName) jdk_68_method_73_code (3 : Nat) (Option.none : Option Jvm.ClassFile.FieldType), Jvm.Cond.code ({ cls := "java/lang/AbstractStringBuilder", name := "inflateIfNeededFor", desc := "(Ljava/lang/String;)V" } : Jvm.MethodName) jdk_68_method_71_code (2 : Nat) (Option.none : Option Jvm.ClassFile.FieldType), Jvm.Cond.code ({ cls := "java/lang/String", name := "getBytes", desc := "([BIB)V" } : Jvm.MethodName) jdk_42_method_147_code (4 : Nat) (Option.none : Option Jvm.ClassFile.FieldType), Jvm.Cond.code ({ cls := "java/lang/StringBuilder", name := "append", desc := "(J)Ljava/lang/StringBuilder;" } : Jvm.MethodName) jdk_67_method_16_code (3 : Nat) (Option.some (Jvm.ClassFile.FieldType.object "java/lang/StringBuilder")), Jvm.Cond.code ({ cls := "java/lang/AbstractStringBuilder", name := "append", desc := "(J)Ljava/lang/AbstractStringBuilder;" } : Jvm.MethodName) jdk_68_method_33_code (5 : Nat) (Option.some (Jvm.ClassFile.FieldType.object "java/lang/AbstractStringBuilder")), Jvm.Cond.code ({ cls := "java/lang/Long", name := "stringSize", desc := "(J)I" } : Jvm.MethodName) jdk_35_method_15_code (6 : Nat) (Option.some Jvm.ClassFile.FieldType.int), Jvm.Cond.code ({ cls := "java/lang/AbstractStringBuilder", name := "isLatin1", desc := "()Z" } : Jvm.MethodName) jdk_68_method_68_code (1 : Nat) (Option.some Jvm.ClassFile.FieldType.boolean), Jvm.Cond.code ({ cls := "java/lang/Long", name := "getChars", desc := "(JI[B)I" } : Jvm.MethodName) jdk_35_method_14_code (11 : Nat) (Option.some Jvm.ClassFile.FieldType.int), Jvm.Cond.code ({ cls := "java/lang/AbstractStringBuilder", name := "newCapacity", desc := "(I)I" } : Jvm.MethodName) jdk_68_method_10_code (6 : Nat) (Option.some Jvm.ClassFile.FieldType.int), Jvm.Cond.code ({ cls := "jdk/internal/util/ArraysSupport", name := "newLength", desc := "(III)I" } : Jvm.MethodName) jdk_48_method_27_code (4 : Nat) (Option.some Jvm.ClassFile.FieldType.int), Jvm.Cond.code ({ cls := "java/lang/Math", name := "max", desc := "(II)I" } : Jvm.MethodName) jdk_29_method_65_code (2 : Nat) (Option.some Jvm.ClassFile.FieldType.int), Jvm.Cond.code ({ cls := "java/util/Arrays", name := "copyOf", desc := "([BI)[B" } : Jvm.MethodName) jdk_65_method_121_code (3 : Nat) (Option.some (Jvm.ClassFile.FieldType.array Jvm.ClassFile.FieldType.byte)), Jvm.Cond.code ({ cls := "java/lang/Math", name := "min", desc := "(II)I" } : Jvm.MethodName) jdk_29_method_69_code (2 : Nat) (Option.some Jvm.ClassFile.FieldType.int), Jvm.Cond.code ({ cls := "java/lang/StringBuilder", name := "toString", desc := "()Ljava/lang/String;" } : Jvm.MethodName) jdk_67_method_42_code (1 : Nat) (Option.some (Jvm.ClassFile.FieldType.object "java/lang/String")), Jvm.Cond.code ({ cls := "java/lang/String", name := "<init>", desc := "(Ljava/lang/StringBuilder;)V" } : Jvm.MethodName) jdk_42_method_53_code (2 : Nat) (Option.none : Option Jvm.ClassFile.FieldType), Jvm.Cond.code ({ cls := "java/lang/String", name := "<init>", desc := "(Ljava/lang/AbstractStringBuilder;Ljava/lang/Void;)V" } : Jvm.MethodName) jdk_42_method_150_code (5 : Nat) (Option.none : Option Jvm.ClassFile.FieldType), Jvm.Cond.code ({ cls := "java/lang/AbstractStringBuilder", name := "getValue", desc := "()[B" } : Jvm.MethodName) jdk_68_method_64_code (1 : Nat) (Option.some (Jvm.ClassFile.FieldType.array Jvm.ClassFile.FieldType.byte)), Jvm.Cond.code ({ cls := "java/lang/StringBuilder", name := "length", desc := "()I" } : Jvm.MethodName) jdk_67_method_93_code (1 : Nat) (Option.some Jvm.ClassFile.FieldType.int), Jvm.Cond.code ({ cls := "java/lang/AbstractStringBuilder", name := "length", desc := "()I" } : Jvm.MethodName) jdk_68_method_6_code (1 : Nat) (Option.some Jvm.ClassFile.FieldType.int), Jvm.Cond.code ({ cls := "java/util/Arrays", name := "copyOfRange", desc := "([BII)[B" } : Jvm.MethodName) jdk_65_method_132_code (3 : Nat) (Option.some (Jvm.ClassFile.FieldType.array Jvm.ClassFile.FieldType.byte)), Jvm.Cond.code ({ cls := "java/util/Arrays", name := "copyOfRangeByte", desc := "([BII)[B" } : Jvm.MethodName) jdk_65_method_133_code (5 : Nat) (Option.some (Jvm.ClassFile.FieldType.array Jvm.ClassFile.FieldType.byte)), Jvm.Cond.code ({ cls := "java/util/Arrays", name := "checkLength", desc := "(II)V" } : Jvm.MethodName) jdk_65_method_131_code (2 : Nat) (Option.none : Option Jvm.ClassFile.FieldType), Jvm.Cond.code ({ cls := "java/lang/String", name := "equals", desc := "(Ljava/lang/Object;)Z" } : Jvm.MethodName) jdk_42_method_66_code (3 : Nat) (Option.some Jvm.ClassFile.FieldType.boolean), Jvm.Cond.code ({ cls := "java/lang/StringLatin1", name := "equals", desc := "([B[B)Z" } : Jvm.MethodName) jdk_43_method_13_code (3 : Nat) (Option.some Jvm.ClassFile.FieldType.boolean)]
set_option maxRecDepth 65536 in
theorem codes_eq : words1.filter isCode = codes1 := rfl
theorem w_codes : ∀ c ∈ words1.filter isCode, c.before args0 about1 = true := by
  rw [codes_eq]
  intro c hc
  simp only [codes1, List.mem_cons, List.not_mem_nil, or_false] at hc
  rcases hc with rfl | rfl | rfl | rfl | rfl | rfl | rfl | rfl | rfl | rfl | rfl | rfl | rfl | rfl | rfl | rfl | rfl | rfl | rfl | rfl | rfl | rfl | rfl | rfl | rfl | rfl | rfl | rfl | rfl | rfl | rfl | rfl | rfl | rfl | rfl | rfl | rfl | rfl | rfl | rfl | rfl | rfl | rfl
  · exact w_c0
  · exact w_c1
  · exact w_c2
  · exact w_c3
  · exact w_c4
  · exact w_c5
  · exact w_c6
  · exact w_c7
  · exact w_c8
  · exact w_c9
  · exact w_c10
  · exact w_c11
  · exact w_c12
  · exact w_c13
  · exact w_c14
  · exact w_c15
  · exact w_c16
  · exact w_c17
  · exact w_c18
  · exact w_c19
  · exact w_c20
  · exact w_c21
  · exact w_c22
  · exact w_c23
  · exact w_c24
  · exact w_c25
  · exact w_c26
  · exact w_c27
  · exact w_c28
  · exact w_c29
  · exact w_c30
  · exact w_c31
  · exact w_c32
  · exact w_c33
  · exact w_c34
  · exact w_c35
  · exact w_c36
  · exact w_c37
  · exact w_c38
  · exact w_c39
  · exact w_c40
  · exact w_c41
  · exact w_c42
set_option maxRecDepth 65536 in
theorem w_t1 : (words1.take 24).all (fun c => isCode c || c.before args0 about1) = true := by decide +kernel
set_option maxRecDepth 65536 in
theorem w_t2 : ((words1.drop 24).take 24).all (fun c => isCode c || c.before args0 about1) = true := by decide +kernel
set_option maxRecDepth 65536 in
theorem w_t3 : (((words1.drop 24).drop 24).take 24).all (fun c => isCode c || c.before args0 about1) = true := by decide +kernel
set_option maxRecDepth 65536 in
theorem w_t4 : ((((words1.drop 24).drop 24).drop 24).take 24).all (fun c => isCode c || c.before args0 about1) = true := by decide +kernel
set_option maxRecDepth 65536 in
theorem w_t5 : (((((words1.drop 24).drop 24).drop 24).drop 24).take 24).all (fun c => isCode c || c.before args0 about1) = true := by decide +kernel
set_option maxRecDepth 65536 in
theorem w_t6 : ((((((words1.drop 24).drop 24).drop 24).drop 24).drop 24).take 24).all (fun c => isCode c || c.before args0 about1) = true := by decide +kernel
set_option maxRecDepth 65536 in
theorem w_t7 : (((((((words1.drop 24).drop 24).drop 24).drop 24).drop 24).drop 24).take 24).all (fun c => isCode c || c.before args0 about1) = true := by decide +kernel
set_option maxRecDepth 65536 in
theorem w_t8 : ((((((((words1.drop 24).drop 24).drop 24).drop 24).drop 24).drop 24).drop 24).take 24).all (fun c => isCode c || c.before args0 about1) = true := by decide +kernel
set_option maxRecDepth 65536 in
theorem w_t9 : (((((((((words1.drop 24).drop 24).drop 24).drop 24).drop 24).drop 24).drop 24).drop 24).take 24).all (fun c => isCode c || c.before args0 about1) = true := by decide +kernel
set_option maxRecDepth 65536 in
theorem w_t10 : ((((((((((words1.drop 24).drop 24).drop 24).drop 24).drop 24).drop 24).drop 24).drop 24).drop 24).take 24).all (fun c => isCode c || c.before args0 about1) = true := by decide +kernel
set_option maxRecDepth 65536 in
theorem w_t11 : ((((((((((words1.drop 24).drop 24).drop 24).drop 24).drop 24).drop 24).drop 24).drop 24).drop 24).drop 24).all (fun c => isCode c || c.before args0 about1) = true := by decide +kernel
theorem w_tables : (allAtoms (Jvm.Cond.code x code maxLocals ret :: tables_1)).before args0 about1 = true := by
  rw [allAtoms_all]
  show words1.all (fun c => c.before args0 about1) = true
  refine all_split ?_ w_codes
  rw [← List.take_append_drop 24 words1, List.all_append, w_t1, ← List.take_append_drop 24 (words1.drop 24), List.all_append, w_t2, ← List.take_append_drop 24 ((words1.drop 24).drop 24), List.all_append, w_t3, ← List.take_append_drop 24 (((words1.drop 24).drop 24).drop 24), List.all_append, w_t4, ← List.take_append_drop 24 ((((words1.drop 24).drop 24).drop 24).drop 24), List.all_append, w_t5, ← List.take_append_drop 24 (((((words1.drop 24).drop 24).drop 24).drop 24).drop 24), List.all_append, w_t6, ← List.take_append_drop 24 ((((((words1.drop 24).drop 24).drop 24).drop 24).drop 24).drop 24), List.all_append, w_t7, ← List.take_append_drop 24 (((((((words1.drop 24).drop 24).drop 24).drop 24).drop 24).drop 24).drop 24), List.all_append, w_t8, ← List.take_append_drop 24 ((((((((words1.drop 24).drop 24).drop 24).drop 24).drop 24).drop 24).drop 24).drop 24), List.all_append, w_t9, ← List.take_append_drop 24 (((((((((words1.drop 24).drop 24).drop 24).drop 24).drop 24).drop 24).drop 24).drop 24).drop 24), List.all_append, w_t10, w_t11]
  rfl
set_option maxRecDepth 65536 in
theorem w_rest : rest_1_c.before args0 about1 = true := by decide +kernel
set_option maxRecDepth 65536 in
theorem w_case : (Jvm.Cond.and given_1 narrow_1).before args0 about1 = true := by decide +kernel
set_option maxRecDepth 65536 in
theorem w_consts : constsHeld consts_1 about1 := Jvm.Lit.constsHeldB_iff.mp (by decide +kernel)
theorem w_applies : (headSpec (Jvm.Cond.code x code maxLocals ret :: tables_1) room_1).applies x e0.platform about1 = true :=
  (Spec.applies_iff w_frames).mpr ⟨w_running, w_runnable, w_alone, w_named, w_hears, w_ripe, w_room, w_tables⟩
theorem atStart : AtStart classFile x code maxLocals ret World_1 tables_1 room_1 Calls_1 rest_1 Pre_1 launch0 p0 e0 about1 theMethod args0 below0 :=
  ⟨lists_1, trivial, launch0.admits_env _ _ _, launch0.least_env, fairChoices_fair.cas, fairChoices_fair.clock, w_frames, w_args, w_heap, w_applies, ⟨w_consts, trivial⟩, w_rest, w_case⟩
end start1
theorem witness_1 : WitnessClaimed_1 := ⟨start1.p0, start1.e0, start1.about1, start1.theMethod, start1.args0, start1.below0, start1.atStart⟩
end Jvm.Pilot.@@N@@
