import JvmDerived
import JvmDerived.Pilot.@@N@@Statement
import JvmDerived.Pilot.@@N@@Code
set_option linter.unusedVariables false
set_option linter.unusedSimpArgs false
/- laws to paste: Road.backV, Road.eqW (cut by pick.py; bodies as the Statement names them) -/
namespace Jvm.Pilot.@@N@@
namespace StrChars
open Jvm Sem ClassFile Op Lib Jvm.Stand Jvm.Free.XT Jvm.Free.ALB Jvm.Free.JM Jvm.Free
open Jvm.Lib.Cold (StaticIs)
/-- a char array whose places are chars -/
def Ch (a : Addr) (A : Cell) (U : State) : Prop := Arr .char a A U ∧ Typed .char A
theorem Ch.mv {a : Addr} {A : Cell} {U U' : State} (h : Ch a A U) (hal : U.vm.Alike U'.vm) (hh : U'.heap = U.heap) : Ch a A U' := ⟨h.1.mv hal hh, h.2⟩
theorem Ch.keep {a : Addr} {A : Cell} {U U' : State} (h : Ch a A U) (hal : U.vm.Alike U'.vm) (hk : U'.heap[a]? = some A) : Ch a A U' := ⟨h.1.keep hal hk, h.2⟩
/-- what place i of a char[]'s cell holds -/
def cv (A : Cell) (i : Nat) : Int32 := match A.slots[i]? with | some (.int x) => x | _ => 0
theorem Ch.get {a : Addr} {A : Cell} {U : State} (h : Ch a A U) {i : Nat} (hi : i < A.slots.size) : A.slots[i]? = some (.int (cv A i)) := by
  have e := Array.getElem?_eq_getElem hi
  have f := h.2 i _ e
  unfold cv; rw [e]
  generalize A.slots[i] = v at f
  cases v <;> simp [fits] at f ⊢
/-- the byte that i2b leaves of a char -/
def lo8 (x : Int32) : Int32 := x.toInt8.toInt32
theorem fits_lo8 (y : Int32) : fits .byte (.int (lo8 y)) = true := by
  have h1 := y.toInt8.le_toInt
  have h2 := y.toInt8.toInt_lt
  simp only [lo8, fits, Bool.and_eq_true, decide_eq_true_eq, Int32.le_iff_toInt_le, Int8.toInt_toInt32, show (-128 : Int32).toInt = -128 from by decide, show (127 : Int32).toInt = 127 from by decide]
  omega
/-- A' is A but that each place j of lo .. hi - 1 holds f j -/
def Laid (A A' : Cell) (lo hi : Nat) (f : Nat → Value) : Prop := A'.cls = A.cls ∧ A'.vm = A.vm ∧ A'.slots.size = A.slots.size ∧ ∀ i, A'.slots[i]? = if lo ≤ i ∧ i < hi then some (f i) else A.slots[i]?
theorem Laid.zero (A : Cell) (lo : Nat) (f : Nat → Value) : Laid A A lo (lo + 0) f := ⟨rfl, rfl, rfl, fun i => by rw [if_neg (by omega)]⟩
theorem Laid.step {A Ak : Cell} {lo k : Nat} {f : Nat → Value} {v : Value} (h : Laid A Ak lo k f) (hlo : lo ≤ k) (hk : k < Ak.slots.size) (hv : v = f k) : Laid A (Ak.setSlot k v) lo (k + 1) f := by
  refine ⟨h.1, h.2.1, by simpa [Cell.setSlot] using h.2.2.1, fun i => ?_⟩
  by_cases e : k = i
  · subst e; rw [Cell.slots_setSlot_self v hk, if_pos (by omega), hv]
  · rw [Cell.slots_setSlot_ne v e, h.2.2.2 i]
    by_cases q : lo ≤ i ∧ i < k
    · rw [if_pos q, if_pos (by omega)]
    · rw [if_neg q, if_neg (by omega)]
def U16 : String := "java/lang/StringUTF16"
namespace Cmp5
def yN : MethodName := ⟨"java/lang/StringUTF16", "compress", "([CI[BII)I"⟩
abbrev yB : ByteArray := jdk_52_method_21_code
theorem d0 : decode yB 0 = .ok (.iconst 0, 1) := by decide +kernel
theorem d1 : decode yB 1 = .ok (.istore 5, 2) := by decide +kernel
theorem d3 : decode yB 3 = .ok (.iload 5, 2) := by decide +kernel
theorem d5 : decode yB 5 = .ok (.iload 4, 2) := by decide +kernel
theorem d7 : decode yB 7 = .ok (.if_icmp (.ge) 37, 3) := by decide +kernel
theorem d10 : decode yB 10 = .ok (.aload_n 0, 1) := by decide +kernel
theorem d11 : decode yB 11 = .ok (.iload_n 1, 1) := by decide +kernel
theorem d12 : decode yB 12 = .ok (.caload, 1) := by decide +kernel
theorem d13 : decode yB 13 = .ok (.istore 6, 2) := by decide +kernel
theorem d15 : decode yB 15 = .ok (.iload 6, 2) := by decide +kernel
theorem d17 : decode yB 17 = .ok (.sipush 255, 3) := by decide +kernel
theorem d20 : decode yB 20 = .ok (.if_icmp (.le) 6, 3) := by decide +kernel
theorem d26 : decode yB 26 = .ok (.aload_n 2, 1) := by decide +kernel
theorem d27 : decode yB 27 = .ok (.iload_n 3, 1) := by decide +kernel
theorem d28 : decode yB 28 = .ok (.iload 6, 2) := by decide +kernel
theorem d30 : decode yB 30 = .ok (.i2b, 1) := by decide +kernel
theorem d31 : decode yB 31 = .ok (.bastore, 1) := by decide +kernel
theorem d32 : decode yB 32 = .ok (.iinc 1 1, 3) := by decide +kernel
theorem d35 : decode yB 35 = .ok (.iinc 3 1, 3) := by decide +kernel
theorem d38 : decode yB 38 = .ok (.iinc 5 1, 3) := by decide +kernel
theorem d41 : decode yB 41 = .ok (.goto (-38), 3) := by decide +kernel
theorem d44 : decode yB 44 = .ok (.iload 4, 2) := by decide +kernel
theorem d46 : decode yB 46 = .ok (.ireturn, 1) := by decide +kernel
def site : List Cond := []
def tab : Cond := tabOf yN yB 7 (some .int) site
def P (b : Addr) (A : Cell) (d : Addr) (B : Cell) (o q len : Nat) (args : Array Value) (s : State) : Prop := args = #[.ref b, .int (Int32.ofNat o), .ref d, .int (Int32.ofNat q), .int (Int32.ofNat len)] ∧ Ch b A s ∧ Arr .byte d B s ∧ b ≠ d ∧ o + len ≤ A.slots.size ∧ q + len ≤ B.slots.size ∧ ∀ i, i < len → ¬ 255 < cv A (o + i)
def E (b : Addr) (A : Cell) (d : Addr) (B : Cell) (o q len : Nat) (r : Option Value) (s u : State) : Prop := r = some (.int (Int32.ofNat len)) ∧ ∃ B', Put d B' s u ∧ Laid B B' q (q + len) (fun j => Value.int (lo8 (cv A (o + (j - q)))))
/-- no char of the range above 255: len; the places written hold each char's low byte -/
theorem law (l : Launch) (b : Addr) (A : Cell) (d : Addr) (B : Cell) (o q len : Nat) : Law l yN 5 5 0 0 yB 7 (some .int) site (P b A d B o q len) (E b A d B o q len) (copyLocs d q len) 0 0 := by
  refine Law.of_walk (plainFor_of_name (by decide +kernel)) (by decide +kernel) (by decide +kernel) (by decide) (fun _ _ h => by rw [h.1]; rfl) (fun _ U U' hal hh h => ⟨h.1, h.2.1.mv hal hh, h.2.2.1.mv hal hh, h.2.2.2⟩) (fun r U U' V V' h1 hal h2 h => ⟨h.1, h.2.elim fun B' q => ⟨B', q.1.mv h1 h2, q.2⟩⟩) ?_
  intro p e s m args below meth c s₁ X0 hexec hbytes hml hret hlk hnm hown hh0 W hP
  obtain ⟨rfl, hA, hB, hne, l1, l2, hp⟩ := hP
  have c1 : Steps p.tables e below (s₁.setTop (entryFrame m #[.ref b, .int (Int32.ofNat o), .ref d, .int (Int32.ofNat q), .int (Int32.ofNat len)] 7)) (s₁.setTop (mkF m 0 #[.val (.ref b), .val (.int (Int32.ofNat o)), .val (.ref d), .val (.int (Int32.ofNat q)), .val (.int (Int32.ofNat len)), .unset, .unset] [])) := entry rfl
  have hA0 := hA.1.mv X0.warmed.alike hh0
  have hB0 := hB.mv X0.warmed.alike hh0
  have a31 := hA.1.2.2.2
  have c2 : Steps p.tables e below (s₁.setTop (entryFrame m #[.ref b, .int (Int32.ofNat o), .ref d, .int (Int32.ofNat q), .int (Int32.ofNat len)] 7)) (s₁.setTop (mkF m 3 #[.val (.ref b), .val (.int (Int32.ofNat o)), .val (.ref d), .val (.int (Int32.ofNat q)), .val (.int (Int32.ofNat len)), .val (.int 0), .unset] [])) := c1.trans (by
    refine iconstV X0.here hexec rfl 0 (hb hbytes d0) (by decide) ?_
    refine XS.istore X0.here hexec rfl (hb hbytes d1) rfl rfl ?_
    exact Steps.refl _)
  have loop : ∀ (r i : Nat), i + r = len → ∀ (z : Slot), (z = .unset ∨ ∃ w, z = .val w ∧ w.category = 1) → ∀ (Tl : State) (Bk : Cell), Stand p l e { frames := 0, locals := 0, cells := 0, slots := 0 } s m #[.ref b, .int (Int32.ofNat o), .ref d, .int (Int32.ofNat q), .int (Int32.ofNat len)] below meth c Tl ([] ++ copyLocs d q i) 0 0 → Put d Bk s₁ Tl → Laid B Bk q (q + i) (fun j => Value.int (lo8 (cv A (o + (j - q))))) →
      Steps p.tables e below (s₁.setTop (entryFrame m #[.ref b, .int (Int32.ofNat o), .ref d, .int (Int32.ofNat q), .int (Int32.ofNat len)] 7)) (Tl.setTop (mkF m 3 #[.val (.ref b), .val (.int (Int32.ofNat (o + i))), .val (.ref d), .val (.int (Int32.ofNat (q + i))), .val (.int (Int32.ofNat len)), .val (.int (Int32.ofNat i)), z] [])) → ∃ (T' : State) (B' : Cell) (z' : Slot), Stand p l e { frames := 0, locals := 0, cells := 0, slots := 0 } s m #[.ref b, .int (Int32.ofNat o), .ref d, .int (Int32.ofNat q), .int (Int32.ofNat len)] below meth c T' ([] ++ copyLocs d q len) 0 0 ∧ Put d B' s₁ T' ∧ Laid B B' q (q + len) (fun j => Value.int (lo8 (cv A (o + (j - q))))) ∧
      Steps p.tables e below (s₁.setTop (entryFrame m #[.ref b, .int (Int32.ofNat o), .ref d, .int (Int32.ofNat q), .int (Int32.ofNat len)] 7)) (T'.setTop (mkF m 3 #[.val (.ref b), .val (.int (Int32.ofNat (o + len))), .val (.ref d), .val (.int (Int32.ofNat (q + len))), .val (.int (Int32.ofNat len)), .val (.int (Int32.ofNat len)), z'] [])) := by
    intro r
    induction r with
    | zero =>
      intro i hi z hz Tl Bk Xl pl fl cl
      have hil : i = len := by omega
      rw [hil] at Xl fl cl
      exact ⟨Tl, Bk, z, Xl, pl, fl, cl⟩
    | succ r ih =>
      intro i hi z hz Tl Bk Xl pl fl cl
      have all := X0.warmed.alike.symm.trans Xl.warmed.alike
      have hAl := hA0.keep all (pl.other hne hA0.1)
      have hBk := hB0.like all pl.1 fl.1 fl.2.1 fl.2.2.1
      have hlt : q + i < Bk.slots.size := by rw [fl.2.2.1]; omega
      have c3 : Steps p.tables e below (s₁.setTop (entryFrame m #[.ref b, .int (Int32.ofNat o), .ref d, .int (Int32.ofNat q), .int (Int32.ofNat len)] 7)) (Tl.setTop (mkF m 12 #[.val (.ref b), .val (.int (Int32.ofNat (o + i))), .val (.ref d), .val (.int (Int32.ofNat (q + i))), .val (.int (Int32.ofNat len)), .val (.int (Int32.ofNat i)), z] [.int (Int32.ofNat (o + i)), .ref b])) := cl.trans (by
        refine XS.iload Xl.here hexec rfl (hb hbytes d3) rfl ?_
        refine XS.iload Xl.here hexec rfl (hb hbytes d5) rfl ?_
        refine XS.icmpNo Xl.here hexec rfl (hb hbytes d7) rfl (ii_ge_f (lt32 (by omega) (by omega))) ?_
        refine XS.aloadN Xl.here hexec rfl (hb hbytes d10) rfl rfl ?_
        refine XS.iloadN Xl.here hexec rfl (hb hbytes d11) rfl ?_
        exact Steps.refl _)
      have c4 : Steps p.tables e below (s₁.setTop (entryFrame m #[.ref b, .int (Int32.ofNat o), .ref d, .int (Int32.ofNat q), .int (Int32.ofNat len)] 7)) (Tl.setTop (mkF m 13 #[.val (.ref b), .val (.int (Int32.ofNat (o + i))), .val (.ref d), .val (.int (Int32.ofNat (q + i))), .val (.int (Int32.ofNat len)), .val (.int (Int32.ofNat i)), z] [.int (cv A (o + i))])) := c3.trans (by
        refine Xl.aget hexec hAl rfl (hA.get (i := o + i) (by omega)) rfl rfl (hb hbytes d12) ?_
        exact Steps.refl _)
      have c5 : Steps p.tables e below (s₁.setTop (entryFrame m #[.ref b, .int (Int32.ofNat o), .ref d, .int (Int32.ofNat q), .int (Int32.ofNat len)] 7)) (Tl.setTop (mkF m 15 #[.val (.ref b), .val (.int (Int32.ofNat (o + i))), .val (.ref d), .val (.int (Int32.ofNat (q + i))), .val (.int (Int32.ofNat len)), .val (.int (Int32.ofNat i)), .val (.int (cv A (o + i)))] [])) := c4.trans (by
        refine XS.istoreS Xl.here hexec rfl (hb hbytes d13) rfl rfl hz ?_
        exact Steps.refl _)
      have c6 : Steps p.tables e below (s₁.setTop (entryFrame m #[.ref b, .int (Int32.ofNat o), .ref d, .int (Int32.ofNat q), .int (Int32.ofNat len)] 7)) (Tl.setTop (mkF m 31 #[.val (.ref b), .val (.int (Int32.ofNat (o + i))), .val (.ref d), .val (.int (Int32.ofNat (q + i))), .val (.int (Int32.ofNat len)), .val (.int (Int32.ofNat i)), .val (.int (cv A (o + i)))] [.int (lo8 (cv A (o + i))), .int (Int32.ofNat (q + i)), .ref d])) := c5.trans (by
        refine XS.iload Xl.here hexec rfl (hb hbytes d15) rfl ?_
        refine sipushV Xl.here hexec rfl 255 (hb hbytes d17) (by decide) ?_
        refine XS.icmpYes Xl.here hexec rfl (pc0 := 20) rfl (hb hbytes d20) rfl (ii_le_t (hp i (by omega))) (by decide) rfl ?_
        refine XS.aloadN Xl.here hexec rfl (hb hbytes d26) rfl rfl ?_
        refine XS.iloadN Xl.here hexec rfl (hb hbytes d27) rfl ?_
        refine XS.iload Xl.here hexec rfl (hb hbytes d28) rfl ?_
        refine i2b Xl.here hexec rfl (hb hbytes d30) rfl ?_
        exact Steps.refl _)
      obtain ⟨T7, X7, p7, st7⟩ := Xl.aput hexec hBk rfl hlt rfl (fits_lo8 (cv A (o + i))) (g := (mkF m 31 #[.val (.ref b), .val (.int (Int32.ofNat (o + i))), .val (.ref d), .val (.int (Int32.ofNat (q + i))), .val (.int (Int32.ofNat len)), .val (.int (Int32.ofNat i)), .val (.int (cv A (o + i)))] [.int (lo8 (cv A (o + i))), .int (Int32.ofNat (q + i)), .ref d])) rfl (rest := []) rfl (hb hbytes d31)
      have c8 : Steps p.tables e below (s₁.setTop (entryFrame m #[.ref b, .int (Int32.ofNat o), .ref d, .int (Int32.ofNat q), .int (Int32.ofNat len)] 7)) (T7.setTop (mkF m 32 #[.val (.ref b), .val (.int (Int32.ofNat (o + i))), .val (.ref d), .val (.int (Int32.ofNat (q + i))), .val (.int (Int32.ofNat len)), .val (.int (Int32.ofNat i)), .val (.int (cv A (o + i)))] [])) := c6.trans (st7 _ (Steps.refl _))
      have c9 : Steps p.tables e below (s₁.setTop (entryFrame m #[.ref b, .int (Int32.ofNat o), .ref d, .int (Int32.ofNat q), .int (Int32.ofNat len)] 7)) (T7.setTop (mkF m 3 #[.val (.ref b), .val (.int (Int32.ofNat (o + i) + 1)), .val (.ref d), .val (.int (Int32.ofNat (q + i) + 1)), .val (.int (Int32.ofNat len)), .val (.int (Int32.ofNat i + 1)), .val (.int (cv A (o + i)))] [])) := c8.trans (by
        refine iincV X7.here hexec rfl 1 (hb hbytes d32) (by decide) rfl rfl ?_
        refine iincV X7.here hexec rfl 1 (hb hbytes d35) (by decide) rfl rfl ?_
        refine iincV X7.here hexec rfl 1 (hb hbytes d38) (by decide) rfl rfl ?_
        refine XS.goto X7.here hexec rfl (pc0 := 41) rfl (hb hbytes d41) (by decide) rfl ?_
        exact Steps.refl _)
      have c10 : Steps p.tables e below (s₁.setTop (entryFrame m #[.ref b, .int (Int32.ofNat o), .ref d, .int (Int32.ofNat q), .int (Int32.ofNat len)] 7)) (T7.setTop (mkF m 3 #[.val (.ref b), .val (.int (Int32.ofNat (o + (i + 1)))), .val (.ref d), .val (.int (Int32.ofNat (q + (i + 1)))), .val (.int (Int32.ofNat len)), .val (.int (Int32.ofNat (i + 1))), .val (.int (cv A (o + i)))] [])) := by
        have := c9
        rw [succ32, succ32, succ32] at this
        exact this
      exact ih (i + 1) (by omega) _ (Or.inr ⟨_, rfl, rfl⟩) T7 _ (by rw [copyLocs_step, ← List.append_assoc]; exact X7) (pl.trans p7) (fl.step (by omega) hlt (by simp)) c10
  obtain ⟨T9, B9, z9, X9, p9, f9, g9⟩ := loop len 0 (by omega) .unset (Or.inl rfl) s₁ B (by simpa [copyLocs] using X0) ⟨hB0.1, fun _ _ => rfl, rfl⟩ (Laid.zero _ _ _) c2
  have c11 : Steps p.tables e below (s₁.setTop (entryFrame m #[.ref b, .int (Int32.ofNat o), .ref d, .int (Int32.ofNat q), .int (Int32.ofNat len)] 7)) (T9.setTop (mkF m 46 #[.val (.ref b), .val (.int (Int32.ofNat (o + len))), .val (.ref d), .val (.int (Int32.ofNat (q + len))), .val (.int (Int32.ofNat len)), .val (.int (Int32.ofNat len)), z9] [.int (Int32.ofNat len)])) := g9.trans (by
    refine XS.iload X9.here hexec rfl (hb hbytes d3) rfl ?_
    refine XS.iload X9.here hexec rfl (hb hbytes d5) rfl ?_
    refine XS.icmpYes X9.here hexec rfl (pc0 := 7) rfl (hb hbytes d7) rfl (ii_ge_t (nlt32 (by omega) (Nat.le_refl _))) (by decide) rfl ?_
    refine XS.iload X9.here hexec rfl (hb hbytes d44) rfl ?_
    exact Steps.refl _)
  exact ⟨T9, some (.int (Int32.ofNat len)), _, _, _, X9, by simp, rfl, rfl, (fun h => by cases h), ⟨rfl, B9, p9.from hh0, f9⟩, fun fs hl => c11.trans (X9.ireturnOut hexec hret rfl (Or.inl rfl) (hb hbytes d46) hl)⟩
end Cmp5
namespace Cmp3
def yN : MethodName := ⟨"java/lang/StringUTF16", "compress", "([CII)[B"⟩
abbrev yB : ByteArray := jdk_52_method_16_code
theorem d0 : decode yB 0 = .ok (.iload_n 2, 1) := by decide +kernel
theorem d1 : decode yB 1 = .ok (.newarray .byte, 2) := by decide +kernel
theorem d3 : decode yB 3 = .ok (.astore_n 3, 1) := by decide +kernel
theorem d4 : decode yB 4 = .ok (.aload_n 0, 1) := by decide +kernel
theorem d5 : decode yB 5 = .ok (.iload_n 1, 1) := by decide +kernel
theorem d6 : decode yB 6 = .ok (.aload_n 3, 1) := by decide +kernel
theorem d7 : decode yB 7 = .ok (.iconst 0, 1) := by decide +kernel
theorem d8 : decode yB 8 = .ok (.iload_n 2, 1) := by decide +kernel
theorem d9 : decode yB 9 = .ok (.invokestatic 115, 3) := by decide +kernel
theorem d12 : decode yB 12 = .ok (.istore 4, 2) := by decide +kernel
theorem d14 : decode yB 14 = .ok (.iload 4, 2) := by decide +kernel
theorem d16 : decode yB 16 = .ok (.iload_n 2, 1) := by decide +kernel
theorem d17 : decode yB 17 = .ok (.if_icmp (.eq) 40, 3) := by decide +kernel
theorem d57 : decode yB 57 = .ok (.aload_n 3, 1) := by decide +kernel
theorem d58 : decode yB 58 = .ok (.areturn, 1) := by decide +kernel
def site : List Cond := [.arrayClass .byte, Cmp5.tab] ++ staticW U16 115 Cmp5.yN
def tab : Cond := tabOf yN yB 6 (some (.array .byte)) site
def P (b : Addr) (A : Cell) (o len : Nat) (args : Array Value) (s : State) : Prop := args = #[.ref b, .int (Int32.ofNat o), .int (Int32.ofNat len)] ∧ Ch b A s ∧ o + len ≤ A.slots.size ∧ len ≤ 536870912 ∧ ∀ i, i < len → ¬ 255 < cv A (o + i)
def E (b : Addr) (A : Cell) (o len : Nat) (r : Option Value) (s u : State) : Prop := NewArr .byte "[B" len (fun j => .int (lo8 (cv A (o + j)))) r s u ∧ u.heap.size = s.heap.size + 1
/-- no char of the range above 255: a new byte[] of their low bytes -/
theorem law (l : Launch) (b : Addr) (A : Cell) (o len : Nat) : Law l yN 3 3 1 18 yB 6 (some (.array .byte)) site (P b A o len) (E b A o len) [] 1 len := by
  refine Law.of_walk (plainFor_of_name (by decide +kernel)) (by decide +kernel) (by decide +kernel) (by decide) (fun _ _ h => by rw [h.1]; rfl) (fun _ U U' hal hh h => ⟨h.1, h.2.1.mv hal hh, h.2.2⟩) (fun r U U' V V' h1 hal h2 h => ⟨NewArr.mv r U U' V V' h1 hal h2 h.1, by rw [h1, h2]; exact h.2⟩) ?_
  intro p e s m args below meth c s₁ X0 hexec hbytes hml hret hlk hnm hown hh0 W hP
  obtain ⟨rfl, hA, l1, l2, hp⟩ := hP
  have a31 := hA.1.2.2.2
  have c1 : Steps p.tables e below (s₁.setTop (entryFrame m #[.ref b, .int (Int32.ofNat o), .int (Int32.ofNat len)] 6)) (s₁.setTop (mkF m 0 #[.val (.ref b), .val (.int (Int32.ofNat o)), .val (.int (Int32.ofNat len)), .unset, .unset, .unset] [])) := entry rfl
  have c2 : Steps p.tables e below (s₁.setTop (entryFrame m #[.ref b, .int (Int32.ofNat o), .int (Int32.ofNat len)] 6)) (s₁.setTop (mkF m 1 #[.val (.ref b), .val (.int (Int32.ofNat o)), .val (.int (Int32.ofNat len)), .unset, .unset, .unset] [.int (Int32.ofNat len)])) := c1.trans (by
    refine XS.iloadN X0.here hexec rfl (hb hbytes d0) rfl ?_
    exact Steps.refl _)
  obtain ⟨T3, B3, X3, ba3, bs3, bv3, bh3, bf3, st3⟩ := X0.anew hexec (atype := .byte) (wk W (.arrayClass .byte)) rfl (by show len * 1 ≤ _; omega) (by omega) (g := (mkF m 1 #[.val (.ref b), .val (.int (Int32.ofNat o)), .val (.int (Int32.ofNat len)), .unset, .unset, .unset] [.int (Int32.ofNat len)])) rfl (hb hbytes d1) (rest := []) rfl (Nat.le_refl _) (by show 0 + len ≤ len; omega)
  rw [hh0] at ba3 st3
  have kp3 : XT.Kept s T3 := (XT.Kept.of_eq hh0).push bh3
  have hA3 := hA.keep X3.warmed.alike (kp3 _ _ hA.1.1)
  have hne : b ≠ s.heap.size := hA.1.ne
  have c4 : Steps p.tables e below (s₁.setTop (entryFrame m #[.ref b, .int (Int32.ofNat o), .int (Int32.ofNat len)] 6)) (T3.setTop (mkF m 3 #[.val (.ref b), .val (.int (Int32.ofNat o)), .val (.int (Int32.ofNat len)), .unset, .unset, .unset] [.ref s.heap.size])) := c2.trans (st3 _ (Steps.refl _))
  have c5 : Steps p.tables e below (s₁.setTop (entryFrame m #[.ref b, .int (Int32.ofNat o), .int (Int32.ofNat len)] 6)) (T3.setTop (mkF m 9 #[.val (.ref b), .val (.int (Int32.ofNat o)), .val (.int (Int32.ofNat len)), .val (.ref s.heap.size), .unset, .unset] [.int (Int32.ofNat len), .int 0, .ref s.heap.size, .int (Int32.ofNat o), .ref b])) := c4.trans (by
    refine XS.astoreN X3.here hexec rfl (hb hbytes d3) rfl rfl rfl ?_
    refine XS.aloadN X3.here hexec rfl (hb hbytes d4) rfl rfl ?_
    refine XS.iloadN X3.here hexec rfl (hb hbytes d5) rfl ?_
    refine XS.aloadN X3.here hexec rfl (hb hbytes d6) rfl rfl ?_
    refine iconstV X3.here hexec rfl 0 (hb hbytes d7) (by decide) ?_
    refine XS.iloadN X3.here hexec rfl (hb hbytes d8) rfl ?_
    exact Steps.refl _)
  obtain ⟨v6, T6, X6, E6, g6⟩ := X3.callS hexec (Cmp5.law l b A s.heap.size B3 o 0 len) hown (wks W (staticW U16 115 Cmp5.yN)) (wk W Cmp5.tab) (W := 0) (Nat.le_of_ble_eq_true rfl) (Nat.le_of_ble_eq_true rfl) (Nat.le_refl _) (by show 0 + len + 0 ≤ len; omega) (g := (mkF m 9 #[.val (.ref b), .val (.int (Int32.ofNat o)), .val (.int (Int32.ofNat len)), .val (.ref s.heap.size), .unset, .unset] [.int (Int32.ofNat len), .int (Int32.ofNat 0), .ref s.heap.size, .int (Int32.ofNat o), .ref b])) rfl (by rw [hml]; rfl) c5 (argsL := [.ref b, .int (Int32.ofNat o), .ref s.heap.size, .int (Int32.ofNat 0), .int (Int32.ofNat len)]) (rest := []) rfl rfl (by show 2 * 0 + 0 ≤ _; decide) (hb hbytes d9) (⟨rfl, hA3, ba3, hne, l1, by rw [bs3]; simp, hp⟩)
  obtain ⟨rfl, B6, p6, f6⟩ := E6
  have c7 : Steps p.tables e below (s₁.setTop (entryFrame m #[.ref b, .int (Int32.ofNat o), .int (Int32.ofNat len)] 6)) (T6.setTop (mkF m 12 #[.val (.ref b), .val (.int (Int32.ofNat o)), .val (.int (Int32.ofNat len)), .val (.ref s.heap.size), .unset, .unset] [.int (Int32.ofNat len)])) := g6
  have c8 : Steps p.tables e below (s₁.setTop (entryFrame m #[.ref b, .int (Int32.ofNat o), .int (Int32.ofNat len)] 6)) (T6.setTop (mkF m 58 #[.val (.ref b), .val (.int (Int32.ofNat o)), .val (.int (Int32.ofNat len)), .val (.ref s.heap.size), .val (.int (Int32.ofNat len)), .unset] [.ref s.heap.size])) := c7.trans (by
    refine XS.istore X6.here hexec rfl (hb hbytes d12) rfl rfl ?_
    refine XS.iload X6.here hexec rfl (hb hbytes d14) rfl ?_
    refine XS.iloadN X6.here hexec rfl (hb hbytes d16) rfl ?_
    refine XS.icmpYes X6.here hexec rfl (pc0 := 17) rfl (hb hbytes d17) rfl (ii_eq_t rfl) (by decide) rfl ?_
    refine XS.aloadN X6.here hexec rfl (hb hbytes d57) rfl rfl ?_
    exact Steps.refl _)
  have X8 := X6.wide (L' := []) (cells' := 1) (slots' := len) (fun x hx hlt => by
    simp only [List.nil_append, copyLocs, List.mem_map, List.mem_range] at hx
    obtain ⟨i, -, rfl⟩ := hx
    exact absurd hlt (Nat.lt_irrefl _)) (Nat.le_refl _) (by omega)
  exact ⟨T6, some (.ref s.heap.size), _, _, _, X8, rfl, rfl, rfl, (fun h => by cases h), ⟨⟨rfl, B6, ba3.like (X3.warmed.alike.symm.trans X6.warmed.alike) p6.1 f6.1 f6.2.1 f6.2.2.1, f6.2.1.trans bv3, by rw [X6.warmed.alike.findClass, f6.1]; exact bf3, by rw [f6.2.2.1, bs3]; simp, fun j hj => by rw [f6.2.2.2 j, if_pos (by omega)]; rfl, kp3.put p6 (Nat.le_refl _)⟩, by rw [p6.2.2, bh3, hh0]; simp⟩, fun fs hl => c8.trans (X8.areturnOut hexec rfl hret rfl (hb hbytes d58) hl)⟩
end Cmp3
namespace CodL
def yN : MethodName := ⟨"java/lang/StringUTF16", "coderFromArrayLen", "([BI)B"⟩
abbrev yB : ByteArray := jdk_52_method_15_code
theorem d0 : decode yB 0 = .ok (.iload_n 1, 1) := by decide +kernel
theorem d1 : decode yB 1 = .ok (.aload_n 0, 1) := by decide +kernel
theorem d2 : decode yB 2 = .ok (.arraylength, 1) := by decide +kernel
theorem d3 : decode yB 3 = .ok (.isub, 1) := by decide +kernel
theorem d4 : decode yB 4 = .ok (.bipush 31, 2) := by decide +kernel
theorem d6 : decode yB 6 = .ok (.iushr, 1) := by decide +kernel
theorem d7 : decode yB 7 = .ok (.i2b, 1) := by decide +kernel
theorem d8 : decode yB 8 = .ok (.ireturn, 1) := by decide +kernel
def site : List Cond := []
def tab : Cond := tabOf yN yB 2 (some .byte) site
def P (d : Addr) (B : Cell) (args : Array Value) (s : State) : Prop := args = #[.ref d, .int (Int32.ofNat B.slots.size)] ∧ Arr .byte d B s
def E (r : Option Value) (s u : State) : Prop := XT.PureE (some (.int 0)) r s u
/-- an array as long as the number of chars: LATIN1 -/
theorem law (l : Launch) (d : Addr) (B : Cell) : Law l yN 2 2 0 0 yB 2 (some .byte) site (P d B) E [] 0 0 := by
  refine Law.of_walk (plainFor_of_name (by decide +kernel)) (by decide +kernel) (by decide +kernel) (by decide) (fun _ _ h => by rw [h.1]; rfl) (fun _ U U' hal hh h => ⟨h.1, h.2.mv hal hh⟩) (fun r U U' V V' h1 hal h2 h => XT.PureE.mv r U U' V V' h1 hal h2 h) ?_
  intro p e s m args below meth c s₁ X0 hexec hbytes hml hret hlk hnm hown hh0 W hP
  obtain ⟨rfl, hB⟩ := hP
  have hB0 := hB.mv X0.warmed.alike hh0
  have c1 : Steps p.tables e below (s₁.setTop (entryFrame m #[.ref d, .int (Int32.ofNat B.slots.size)] 2)) (s₁.setTop (mkF m 0 #[.val (.ref d), .val (.int (Int32.ofNat B.slots.size))] [])) := entry rfl
  have c2 : Steps p.tables e below (s₁.setTop (entryFrame m #[.ref d, .int (Int32.ofNat B.slots.size)] 2)) (s₁.setTop (mkF m 2 #[.val (.ref d), .val (.int (Int32.ofNat B.slots.size))] [.ref d, .int (Int32.ofNat B.slots.size)])) := c1.trans (by
    refine XS.iloadN X0.here hexec rfl (hb hbytes d0) rfl ?_
    refine XS.aloadN X0.here hexec rfl (hb hbytes d1) rfl rfl ?_
    exact Steps.refl _)
  have c3 : Steps p.tables e below (s₁.setTop (entryFrame m #[.ref d, .int (Int32.ofNat B.slots.size)] 2)) (s₁.setTop (mkF m 8 #[.val (.ref d), .val (.int (Int32.ofNat B.slots.size))] [.int (lo8 (ushr (Int32.ofNat B.slots.size - Int32.ofNat B.slots.size) 31))])) := c2.trans (by
    refine X0.alen hexec hB0 rfl rfl (hb hbytes d2) ?_
    refine XS.isub X0.here hexec rfl (hb hbytes d3) rfl ?_
    refine bipushV X0.here hexec rfl 31 (hb hbytes d4) (by decide) ?_
    refine iushr X0.here hexec rfl (hb hbytes d6) rfl ?_
    refine i2b X0.here hexec rfl (hb hbytes d7) rfl ?_
    exact Steps.refl _)
  have e0 : lo8 (ushr (Int32.ofNat B.slots.size - Int32.ofNat B.slots.size) 31) = 0 := by rw [Int32.sub_self]; decide
  rw [e0] at c3
  exact ⟨s₁, some (.int 0), _, _, _, X0, rfl, rfl, rfl, (fun h => by cases h), ⟨rfl, hh0⟩, fun fs hl => c3.trans (X0.ireturnOut hexec hret rfl (Or.inr (Or.inr (Or.inl rfl))) (hb hbytes d8) hl)⟩
end CodL
/-- the String at a is Latin-1 over a new byte[] (the heap's one new cell): the low bytes of the len chars of A from o on; every cell but a is kept -/
def Got (a : Addr) (D : Cell) (fV fC : Field) (A : Cell) (o len : Nat) (r : Option Value) (s u : State) : Prop := r = none ∧ ∃ D' V : Cell, Blank "java/lang/String" a D' u ∧ Same D D' [fV.slot, fC.slot] ∧ D'.slots[fV.slot]? = some (.ref s.heap.size) ∧ D'.slots[fC.slot]? = some (.int 0) ∧ Arr .byte s.heap.size V u ∧ V.vm = .none ∧ u.vm.findClass "[B" = some V.cls ∧ V.slots.size = len ∧ (∀ j, j < len → V.slots[j]? = some (.int (lo8 (cv A (o + j))))) ∧ (∀ (y : Addr) (c : Cell), y ≠ a → s.heap[y]? = some c → u.heap[y]? = some c) ∧ u.heap.size = s.heap.size + 1
theorem Got.mv {a : Addr} {D A : Cell} {fV fC : Field} {o len : Nat} : ∀ r (U U' V V' : State), U'.heap = U.heap → V.vm.Alike V'.vm → V'.heap = V.heap → Got a D fV fC A o len r U V → Got a D fV fC A o len r U' V' :=
  fun r U U' V V' h1 hal h2 ⟨e0, D', X, a1, a2, a3, a4, a5, a6, a7, a8, a9, a10, a11⟩ => ⟨e0, D', X, a1.mv hal h2, a2, by rw [h1]; exact a3, a4, by rw [h1]; exact a5.mv hal h2, a6, by rw [hal.findClass]; exact a7, a8, a9, by rw [h1, h2]; exact a10, by rw [h1, h2]; exact a11⟩
namespace New4
def yN : MethodName := ⟨"java/lang/String", "<init>", "([CIILjava/lang/Void;)V"⟩
abbrev yB : ByteArray := jdk_42_method_149_code
theorem d0 : decode yB 0 = .ok (.aload_n 0, 1) := by decide +kernel
theorem d1 : decode yB 1 = .ok (.invokespecial 1, 3) := by decide +kernel
theorem d4 : decode yB 4 = .ok (.iload_n 3, 1) := by decide +kernel
theorem d5 : decode yB 5 = .ok (.ifCond (.ne) 22, 3) := by decide +kernel
theorem d27 : decode yB 27 = .ok (.getstatic 38, 3) := by decide +kernel
theorem d30 : decode yB 30 = .ok (.ifCond (.eq) 28, 3) := by decide +kernel
theorem d33 : decode yB 33 = .ok (.aload_n 1, 1) := by decide +kernel
theorem d34 : decode yB 34 = .ok (.iload_n 2, 1) := by decide +kernel
theorem d35 : decode yB 35 = .ok (.iload_n 3, 1) := by decide +kernel
theorem d36 : decode yB 36 = .ok (.invokestatic 177, 3) := by decide +kernel
theorem d39 : decode yB 39 = .ok (.astore 5, 2) := by decide +kernel
theorem d41 : decode yB 41 = .ok (.aload_n 0, 1) := by decide +kernel
theorem d42 : decode yB 42 = .ok (.aload 5, 2) := by decide +kernel
theorem d44 : decode yB 44 = .ok (.iload_n 3, 1) := by decide +kernel
theorem d45 : decode yB 45 = .ok (.invokestatic 47, 3) := by decide +kernel
theorem d48 : decode yB 48 = .ok (.putfield 15, 3) := by decide +kernel
theorem d51 : decode yB 51 = .ok (.aload_n 0, 1) := by decide +kernel
theorem d52 : decode yB 52 = .ok (.aload 5, 2) := by decide +kernel
theorem d54 : decode yB 54 = .ok (.putfield 9, 3) := by decide +kernel
theorem d57 : decode yB 57 = .ok (.return_, 1) := by decide +kernel
def site : List Cond := [.fieldLink "java/lang/String" 38 "java/lang/String" "COMPACT_STRINGS" "Z", Cmp3.tab, CodL.tab, .laysFinal "java/lang/String" "java/lang/String" "value" "[B", .fieldLink "java/lang/String" 9 "java/lang/String" "value" "[B", .laysFinal "java/lang/String" "java/lang/String" "coder" "B", .fieldLink "java/lang/String" 15 "java/lang/String" "coder" "B"] ++ objW "java/lang/String" 1 ++ staticW "java/lang/String" 177 Cmp3.yN ++ staticW "java/lang/String" 47 CodL.yN
def tab : Cond := tabOf yN yB 6 none site
def P (a : Addr) (D : Cell) (fV fC : Field) (b : Addr) (A : Cell) (z : Int32) (o len : Nat) (args : Array Value) (s : State) : Prop := args = #[.ref a, .ref b, .int (Int32.ofNat o), .int (Int32.ofNat len), .null] ∧ Blank "java/lang/String" a D s ∧ Found "java/lang/String" "value" "[B" fV s ∧ Found "java/lang/String" "coder" "B" fC s ∧ Ch b A s ∧ StaticIs s "java/lang/String" "COMPACT_STRINGS" "Z" (.int z) ∧ ¬ z = 0 ∧ 0 < len ∧ o + len ≤ A.slots.size ∧ len ≤ 536870912 ∧ ∀ i, i < len → ¬ 255 < cv A (o + i)
def E (a : Addr) (D : Cell) (fV fC : Field) (A : Cell) (o len : Nat) (r : Option Value) (s u : State) : Prop := Got a D fV fC A o len r s u
/-- len > 0, no char of the range above 255: a Latin-1 String of their low bytes -/
theorem law (l : Launch) (a : Addr) (D : Cell) (fV fC : Field) (b : Addr) (A : Cell) (z : Int32) (o len : Nat) : Law l yN 5 4 2 35 yB 6 none site (P a D fV fC b A z o len) (E a D fV fC A o len) [⟨a, fC.slot⟩, ⟨a, fV.slot⟩] 1 len := by
  refine Law.of_walk (plainFor_of_name (by decide +kernel)) (by decide +kernel) (by decide +kernel) (by decide) (fun _ _ h => by rw [h.1]; rfl) (fun _ U U' hal hh h => ⟨h.1, h.2.1.mv hal hh, h.2.2.1.al hal, h.2.2.2.1.al hal, h.2.2.2.2.1.mv hal hh, h.2.2.2.2.2.1.there hal hh, h.2.2.2.2.2.2⟩) (fun r U U' V V' h1 hal h2 h => Got.mv r U U' V V' h1 hal h2 h) ?_
  intro p e s m args below meth c s₁ X0 hexec hbytes hml hret hlk hnm hown hh0 W hP
  obtain ⟨rfl, hB, f1, f2, hA, s1, hz, l0, l1, l2, hp⟩ := hP
  have a31 := hA.1.2.2.2
  have c1 : Steps p.tables e below (s₁.setTop (entryFrame m #[.ref a, .ref b, .int (Int32.ofNat o), .int (Int32.ofNat len), .null] 6)) (s₁.setTop (mkF m 0 #[.val (.ref a), .val (.ref b), .val (.int (Int32.ofNat o)), .val (.int (Int32.ofNat len)), .val .null, .unset] [])) := entry rfl
  have c2 : Steps p.tables e below (s₁.setTop (entryFrame m #[.ref a, .ref b, .int (Int32.ofNat o), .int (Int32.ofNat len), .null] 6)) (s₁.setTop (mkF m 1 #[.val (.ref a), .val (.ref b), .val (.int (Int32.ofNat o)), .val (.int (Int32.ofNat len)), .val .null, .unset] [.ref a])) := c1.trans (by
    refine XS.aloadN X0.here hexec rfl (hb hbytes d0) rfl rfl ?_
    exact Steps.refl _)
  obtain ⟨T3, X3, q3, st3⟩ := X0.oinit hexec hown (wks W (objW "java/lang/String" 1)) (g := (mkF m 1 #[.val (.ref a), .val (.ref b), .val (.int (Int32.ofNat o)), .val (.int (Int32.ofNat len)), .val .null, .unset] [.ref a])) rfl (by rw [hml]; rfl) (rest := []) rfl (hb hbytes d1) (W := 0) (by show 2 * 0 + 0 ≤ _; decide) (Nat.le_of_ble_eq_true rfl) (Nat.le_of_ble_eq_true rfl)
  have hh3 := q3.trans hh0
  have c4 : Steps p.tables e below (s₁.setTop (entryFrame m #[.ref a, .ref b, .int (Int32.ofNat o), .int (Int32.ofNat len), .null] 6)) (T3.setTop (mkF m 27 #[.val (.ref a), .val (.ref b), .val (.int (Int32.ofNat o)), .val (.int (Int32.ofNat len)), .val .null, .unset] [])) := (c2.trans (st3 _ (Steps.refl _))).trans (by
    refine XS.iloadN X3.here hexec rfl (hb hbytes d4) rfl ?_
    refine XS.ifYes X3.here hexec rfl (pc0 := 5) rfl (hb hbytes d5) rfl (i0_ne_t (nz32 (by omega) l0)) (by decide) rfl ?_
    exact Steps.refl _)
  obtain ⟨T5, X5, q5, st5⟩ := X3.sget hexec hown (wk W (.fieldLink "java/lang/String" 38 "java/lang/String" "COMPACT_STRINGS" "Z")) s1 (fun _ _ h => by rw [hh3]; exact h) (g := (mkF m 27 #[.val (.ref a), .val (.ref b), .val (.int (Int32.ofNat o)), .val (.int (Int32.ofNat len)), .val .null, .unset] [])) rfl (hb hbytes d27)
  have hh5 := q5.trans hh3
  have c6 : Steps p.tables e below (s₁.setTop (entryFrame m #[.ref a, .ref b, .int (Int32.ofNat o), .int (Int32.ofNat len), .null] 6)) (T5.setTop (mkF m 30 #[.val (.ref a), .val (.ref b), .val (.int (Int32.ofNat o)), .val (.int (Int32.ofNat len)), .val .null, .unset] [.int z])) := c4.trans (st5 _ (Steps.refl _))
  have c7 : Steps p.tables e below (s₁.setTop (entryFrame m #[.ref a, .ref b, .int (Int32.ofNat o), .int (Int32.ofNat len), .null] 6)) (T5.setTop (mkF m 36 #[.val (.ref a), .val (.ref b), .val (.int (Int32.ofNat o)), .val (.int (Int32.ofNat len)), .val .null, .unset] [.int (Int32.ofNat len), .int (Int32.ofNat o), .ref b])) := c6.trans (by
    refine XS.ifNo X5.here hexec rfl (hb hbytes d30) rfl (i0_eq_f hz) ?_
    refine XS.aloadN X5.here hexec rfl (hb hbytes d33) rfl rfl ?_
    refine XS.iloadN X5.here hexec rfl (hb hbytes d34) rfl ?_
    refine XS.iloadN X5.here hexec rfl (hb hbytes d35) rfl ?_
    exact Steps.refl _)
  obtain ⟨v8, T8, X8, E8, g8⟩ := X5.callS hexec (Cmp3.law l b A o len) hown (wks W (staticW "java/lang/String" 177 Cmp3.yN)) (wk W Cmp3.tab) (W := 0) (Nat.le_of_ble_eq_true rfl) (Nat.le_of_ble_eq_true rfl) (Nat.le_refl _) (by show 0 + len ≤ len; omega) (g := (mkF m 36 #[.val (.ref a), .val (.ref b), .val (.int (Int32.ofNat o)), .val (.int (Int32.ofNat len)), .val .null, .unset] [.int (Int32.ofNat len), .int (Int32.ofNat o), .ref b])) rfl (by rw [hml]; rfl) c7 (argsL := [.ref b, .int (Int32.ofNat o), .int (Int32.ofNat len)]) (rest := []) rfl rfl (by show 2 * 0 + 0 ≤ _; decide) (hb hbytes d36) (⟨rfl, hA.mv X5.warmed.alike hh5, l1, l2, hp⟩)
  obtain ⟨e8, z8⟩ := E8
  obtain ⟨rfl, N, n1, n2, n3, n4, n5, n6⟩ := NewArr.mv _ T5 s _ _ hh5.symm (Vm.Alike.refl _) rfl e8
  rw [hh5] at z8
  have hB1 := hB.keep X8.warmed.alike (n6 _ _ hB.1)
  have hne : s.heap.size ≠ a := (Nat.ne_of_lt (Array.getElem?_eq_some_iff.mp hB.1).1).symm
  have c9 : Steps p.tables e below (s₁.setTop (entryFrame m #[.ref a, .ref b, .int (Int32.ofNat o), .int (Int32.ofNat len), .null] 6)) (T8.setTop (mkF m 39 #[.val (.ref a), .val (.ref b), .val (.int (Int32.ofNat o)), .val (.int (Int32.ofNat len)), .val .null, .unset] [.ref s.heap.size])) := g8
  have c10 : Steps p.tables e below (s₁.setTop (entryFrame m #[.ref a, .ref b, .int (Int32.ofNat o), .int (Int32.ofNat len), .null] 6)) (T8.setTop (mkF m 45 #[.val (.ref a), .val (.ref b), .val (.int (Int32.ofNat o)), .val (.int (Int32.ofNat len)), .val .null, .val (.ref s.heap.size)] [.int (Int32.ofNat N.slots.size), .ref s.heap.size, .ref a])) := by
    have hc : Steps p.tables e below (s₁.setTop (entryFrame m #[.ref a, .ref b, .int (Int32.ofNat o), .int (Int32.ofNat len), .null] 6)) (T8.setTop (mkF m 45 #[.val (.ref a), .val (.ref b), .val (.int (Int32.ofNat o)), .val (.int (Int32.ofNat len)), .val .null, .val (.ref s.heap.size)] [.int (Int32.ofNat len), .ref s.heap.size, .ref a])) := c9.trans (by
      refine XS.astore X8.here hexec rfl (hb hbytes d39) rfl rfl rfl ?_
      refine XS.aloadN X8.here hexec rfl (hb hbytes d41) rfl rfl ?_
      refine XS.aload X8.here hexec rfl (hb hbytes d42) rfl rfl ?_
      refine XS.iloadN X8.here hexec rfl (hb hbytes d44) rfl ?_
      exact Steps.refl _)
    rw [n4]; exact hc
  obtain ⟨v11, T11, X11, E11, g11⟩ := X8.callS hexec (CodL.law l s.heap.size N) hown (wks W (staticW "java/lang/String" 47 CodL.yN)) (wk W CodL.tab) (W := 1) (Nat.le_of_ble_eq_true rfl) (Nat.le_of_ble_eq_true rfl) (Nat.le_refl _) (by show 0 + len + 0 ≤ len; omega) (g := (mkF m 45 #[.val (.ref a), .val (.ref b), .val (.int (Int32.ofNat o)), .val (.int (Int32.ofNat len)), .val .null, .val (.ref s.heap.size)] [.int (Int32.ofNat N.slots.size), .ref s.heap.size, .ref a])) rfl (by rw [hml]; rfl) c10 (argsL := [.ref s.heap.size, .int (Int32.ofNat N.slots.size)]) (rest := [.ref a]) rfl rfl (by show 2 * 0 + (1 + 0) ≤ _; decide) (hb hbytes d45) (⟨rfl, n1⟩)
  obtain ⟨rfl, q11⟩ := E11
  have hB11 := hB1.mv (X8.warmed.alike.symm.trans X11.warmed.alike) q11
  have c12 : Steps p.tables e below (s₁.setTop (entryFrame m #[.ref a, .ref b, .int (Int32.ofNat o), .int (Int32.ofNat len), .null] 6)) (T11.setTop (mkF m 48 #[.val (.ref a), .val (.ref b), .val (.int (Int32.ofNat o)), .val (.int (Int32.ofNat len)), .val .null, .val (.ref s.heap.size)] [.int 0, .ref a])) := g11
  obtain ⟨T13, X13, p13, bl13, sl13, st13⟩ := X11.finit hexec hown (wk W (.fieldLink "java/lang/String" 15 "java/lang/String" "coder" "B")) (Or.inr ⟨_, (wk W (.laysFinal "java/lang/String" "java/lang/String" "coder" "B"))⟩) (Or.inl ⟨rfl, hnm⟩) f2 (Or.inl rfl) hB11 (t := .byte) (by decide +kernel) rfl (g := (mkF m 48 #[.val (.ref a), .val (.ref b), .val (.int (Int32.ofNat o)), .val (.int (Int32.ofNat len)), .val .null, .val (.ref s.heap.size)] [.int 0, .ref a])) rfl (rest := []) rfl (hb hbytes d48)
  have c14 : Steps p.tables e below (s₁.setTop (entryFrame m #[.ref a, .ref b, .int (Int32.ofNat o), .int (Int32.ofNat len), .null] 6)) (T13.setTop (mkF m 54 #[.val (.ref a), .val (.ref b), .val (.int (Int32.ofNat o)), .val (.int (Int32.ofNat len)), .val .null, .val (.ref s.heap.size)] [.ref s.heap.size, .ref a])) := (c12.trans (st13 _ (Steps.refl _))).trans (by
    refine XS.aloadN X13.here hexec rfl (hb hbytes d51) rfl rfl ?_
    refine XS.aload X13.here hexec rfl (hb hbytes d52) rfl rfl ?_
    exact Steps.refl _)
  obtain ⟨T15, X15, p15, bl15, sl15, st15⟩ := X13.finit hexec hown (wk W (.fieldLink "java/lang/String" 9 "java/lang/String" "value" "[B")) (Or.inr ⟨_, (wk W (.laysFinal "java/lang/String" "java/lang/String" "value" "[B"))⟩) (Or.inl ⟨rfl, hnm⟩) f1 (Or.inl rfl) bl13 (t := (.array .byte)) (by decide +kernel) rfl (g := (mkF m 54 #[.val (.ref a), .val (.ref b), .val (.int (Int32.ofNat o)), .val (.int (Int32.ofNat len)), .val .null, .val (.ref s.heap.size)] [.ref s.heap.size, .ref a])) rfl (rest := []) rfl (hb hbytes d54)
  have c16 : Steps p.tables e below (s₁.setTop (entryFrame m #[.ref a, .ref b, .int (Int32.ofNat o), .int (Int32.ofNat len), .null] 6)) (T15.setTop (mkF m 57 #[.val (.ref a), .val (.ref b), .val (.int (Int32.ofNat o)), .val (.int (Int32.ofNat len)), .val .null, .val (.ref s.heap.size)] [])) := c14.trans (st15 _ (Steps.refl _))
  have ap := apart (Or.inr ⟨_, (wk W (.laysFinal "java/lang/String" "java/lang/String" "value" "[B"))⟩) (Or.inr ⟨_, (wk W (.laysFinal "java/lang/String" "java/lang/String" "coder" "B"))⟩) f1 f2 (t₁ := .array .byte) (t₂ := .byte) (by decide +kernel) (by decide +kernel) (by decide)
  have al := X8.warmed.alike.symm.trans X15.warmed.alike
  have n7 : T11.heap[s.heap.size]? = some N := by rw [q11]; exact n1.1
  exact ⟨T15, none, _, _, _, X15, by simp, rfl, by omega, (fun _ => rfl), ⟨rfl, _, N, bl15, ((Same.refl D _).set _ (by simp)).set _ (by simp), sl15, (Cell.slots_setSlot_ne _ ap).trans sl13, n1.keep al (p15.other hne (p13.other hne n7)), n2, by rw [al.findClass]; exact n3, n4, n5, fun y c h1 h2 => p15.other h1 (p13.other h1 (by rw [q11]; exact n6 y c h2)), by rw [p15.2.2, p13.2.2, q11]; exact z8⟩, fun fs hl => c16.trans (X15.returnOut hexec hret (hb hbytes d57) hl)⟩
end New4
namespace New1
def yN : MethodName := ⟨"java/lang/String", "<init>", "([C)V"⟩
abbrev yB : ByteArray := jdk_42_method_3_code
theorem d0 : decode yB 0 = .ok (.aload_n 0, 1) := by decide +kernel
theorem d1 : decode yB 1 = .ok (.aload_n 1, 1) := by decide +kernel
theorem d2 : decode yB 2 = .ok (.iconst 0, 1) := by decide +kernel
theorem d3 : decode yB 3 = .ok (.aload_n 1, 1) := by decide +kernel
theorem d4 : decode yB 4 = .ok (.arraylength, 1) := by decide +kernel
theorem d5 : decode yB 5 = .ok (.aconst_null, 1) := by decide +kernel
theorem d6 : decode yB 6 = .ok (.invokespecial 27, 3) := by decide +kernel
theorem d9 : decode yB 9 = .ok (.return_, 1) := by decide +kernel
def site : List Cond := [New4.tab] ++ initW "java/lang/String" 27 New4.yN
def tab : Cond := tabOf yN yB 2 none site
def P (a : Addr) (D : Cell) (fV fC : Field) (b : Addr) (A : Cell) (z : Int32) (args : Array Value) (s : State) : Prop := args = #[.ref a, .ref b] ∧ Blank "java/lang/String" a D s ∧ Found "java/lang/String" "value" "[B" fV s ∧ Found "java/lang/String" "coder" "B" fC s ∧ Ch b A s ∧ StaticIs s "java/lang/String" "COMPACT_STRINGS" "Z" (.int z) ∧ ¬ z = 0 ∧ 0 < A.slots.size ∧ A.slots.size ≤ 536870912 ∧ ∀ i, i < A.slots.size → ¬ 255 < cv A i
def E (a : Addr) (D : Cell) (fV fC : Field) (A : Cell) (r : Option Value) (s u : State) : Prop := Got a D fV fC A 0 A.slots.size r s u
/-- new String(chars), not empty, no char above 255: a Latin-1 String of their low bytes -/
theorem law (l : Launch) (a : Addr) (D : Cell) (fV fC : Field) (b : Addr) (A : Cell) (z : Int32) : Law l yN 2 1 3 52 yB 2 none site (P a D fV fC b A z) (E a D fV fC A) [⟨a, fC.slot⟩, ⟨a, fV.slot⟩] 1 A.slots.size := by
  refine Law.of_walk (plainFor_of_name (by decide +kernel)) (by decide +kernel) (by decide +kernel) (by decide) (fun _ _ h => by rw [h.1]; rfl) (fun _ U U' hal hh h => ⟨h.1, h.2.1.mv hal hh, h.2.2.1.al hal, h.2.2.2.1.al hal, h.2.2.2.2.1.mv hal hh, h.2.2.2.2.2.1.there hal hh, h.2.2.2.2.2.2⟩) (fun r U U' V V' h1 hal h2 h => Got.mv r U U' V V' h1 hal h2 h) ?_
  intro p e s m args below meth c s₁ X0 hexec hbytes hml hret hlk hnm hown hh0 W hP
  obtain ⟨rfl, hB, f1, f2, hA, s1, hz, l0, l2, hp⟩ := hP
  have c1 : Steps p.tables e below (s₁.setTop (entryFrame m #[.ref a, .ref b] 2)) (s₁.setTop (mkF m 0 #[.val (.ref a), .val (.ref b)] [])) := entry rfl
  have c2 : Steps p.tables e below (s₁.setTop (entryFrame m #[.ref a, .ref b] 2)) (s₁.setTop (mkF m 6 #[.val (.ref a), .val (.ref b)] [.null, .int (Int32.ofNat A.slots.size), .int 0, .ref b, .ref a])) := c1.trans (by
    refine XS.aloadN X0.here hexec rfl (hb hbytes d0) rfl rfl ?_
    refine XS.aloadN X0.here hexec rfl (hb hbytes d1) rfl rfl ?_
    refine iconstV X0.here hexec rfl 0 (hb hbytes d2) (by decide) ?_
    refine XS.aloadN X0.here hexec rfl (hb hbytes d3) rfl rfl ?_
    refine X0.alen hexec (hA.1.mv X0.warmed.alike hh0) rfl rfl (hb hbytes d4) ?_
    refine XS.aconstNull X0.here hexec rfl (hb hbytes d5) ?_
    exact Steps.refl _)
  obtain ⟨v3, T3, X3, E3, g3⟩ := X0.callN hexec (New4.law l a D fV fC b A z 0 A.slots.size) rfl hown (wks W (initW "java/lang/String" 27 New4.yN)) (W New4.tab (by simp only [site, List.mem_cons, List.mem_append, true_or, or_true])) (W := 0) (Nat.le_of_ble_eq_true rfl) (Nat.le_of_ble_eq_true rfl) (Nat.le_refl _) (by show 0 + A.slots.size ≤ A.slots.size; omega) (g := (mkF m 6 #[.val (.ref a), .val (.ref b)] [.null, .int (Int32.ofNat A.slots.size), .int (Int32.ofNat 0), .ref b, .ref a])) rfl (by rw [hml]; rfl) c2 (argsL := [.ref b, .int (Int32.ofNat 0), .int (Int32.ofNat A.slots.size), .null]) (rest := []) rfl rfl (by show 2 * 0 + 0 ≤ _; decide) (hb hbytes d6) (⟨rfl, hB.mv X0.warmed.alike hh0, f1.al X0.warmed.alike, f2.al X0.warmed.alike, hA.mv X0.warmed.alike hh0, s1.there X0.warmed.alike hh0, hz, l0, by omega, l2, fun i hi => by rw [Nat.zero_add]; exact hp i hi⟩)
  have e0 := Got.mv _ s₁ s _ _ hh0.symm (Vm.Alike.refl _) rfl E3
  obtain rfl := e0.1
  have c4 : Steps p.tables e below (s₁.setTop (entryFrame m #[.ref a, .ref b] 2)) (T3.setTop (mkF m 9 #[.val (.ref a), .val (.ref b)] [])) := g3
  exact ⟨T3, none, _, _, _, X3, by simp, rfl, by omega, (fun _ => rfl), e0, fun fs hl => c4.trans (X3.returnOut hexec hret (hb hbytes d9) hl)⟩
theorem pays {l : Launch} {R : Room} {p : Program} {e : Env} {below : List Frame} {s : State} {sargs : Array Value} {len W : Nat} (a : Addr) (D : Cell) (fV fC : Field) (b : Addr) (A : Cell) (z : Int32) (htab : tab.before sargs s = true) (hfr : 4 ≤ R.frames) (hlo : W + 65 ≤ R.locals) :
    Back l R p e below s sargs yN len W (fun A₁ a₁ => A₁.cells + 1 ≤ R.cells ∧ A₁.slots + A.slots.size ≤ R.slots ∧ P a D fV fC b A z a₁ A₁.U) (fun A₁ _ v₁ B₁ => E a D fV fC A v₁ A₁.U B₁.U ∧ B₁.locs = A₁.locs ++ [⟨a, fC.slot⟩, ⟨a, fV.slot⟩] ∧ B₁.cells = A₁.cells + 1 ∧ B₁.slots = A₁.slots + A.slots.size) :=
  (law l a D fV fC b A z).pays htab hfr (by omega)
end New1
/-- the byte, read back as charAt reads it, is the char -/
theorem lo8_mask {x : Int32} (h0 : ¬ x < 0) (h1 : ¬ 255 < x) : lo8 x &&& 255 = x := by
  have t : ∀ k : Fin 256, lo8 (Int32.ofNat k.val) &&& 255 = Int32.ofNat k.val := by decide +kernel
  rw [Int32.lt_iff_toInt_lt] at h0 h1
  have e0 : (0 : Int32).toInt = 0 := rfl
  have e1 : (255 : Int32).toInt = 255 := rfl
  obtain ⟨k, hk⟩ : ∃ k : Nat, x.toInt = k := ⟨x.toInt.toNat, by omega⟩
  have hx : x = Int32.ofNat k := Int32.toInt_inj.mp (by rw [hk, Int32.toInt_ofNat_small (by omega)])
  rw [hx]
  exact t ⟨k, by omega⟩
end StrChars
namespace StrChars.Road
open Jvm Sem ClassFile Op Lib Jvm.Stand Jvm.Free Jvm.Free.XT
open Jvm.Lib.Cold (StaticIs)
abbrev ST : String := "java/lang/String"
/-- every table word that New1's law asks, flat -/
abbrev words : List Jvm.Cond := [.code New1.yN New1.yB 2 none, .initialized ST, .methodLink ST 27 New4.yN, .instanceMethod New4.yN,
  .code New4.yN New4.yB 6 none, .fieldLink ST 38 ST "COMPACT_STRINGS" "Z", .laysFinal ST ST "value" "[B", .fieldLink ST 9 ST "value" "[B", .laysFinal ST ST "coder" "B", .fieldLink ST 15 ST "coder" "B",
  .methodLink ST 1 Lib.objectInit, .instanceMethod Lib.objectInit, .code Lib.objectInit ⟨#[0xb1]⟩ 1 none, .methodLink ST 177 Cmp3.yN, .static Cmp3.yN, .methodLink ST 47 CodL.yN, .static CodL.yN,
  .code Cmp3.yN Cmp3.yB 6 (some (.array .byte)), .initialized U16, .arrayClass .byte, .methodLink U16 115 Cmp5.yN, .static Cmp5.yN, .code Cmp5.yN Cmp5.yB 7 (some .int), .code CodL.yN CodL.yB 2 (some .byte)]
theorem tab_of {a : Array Value} {s : State} (h : ∀ w ∈ words, w.before a s = true) : New1.tab.before a s = true := by
  have h5 : Cmp5.tab.before a s = true := unparts (wk h (.code Cmp5.yN Cmp5.yB 7 (some .int))) (wks h (.initialized Cmp5.yN.cls :: Cmp5.site))
  have hc : CodL.tab.before a s = true := unparts (wk h (.code CodL.yN CodL.yB 2 (some .byte))) (wks h (.initialized CodL.yN.cls :: CodL.site))
  have q5 : ∀ w ∈ Cmp5.tab :: words, w.before a s = true := fun w hw => (List.mem_cons.mp hw).elim (fun e => e ▸ h5) (h w)
  have h3 : Cmp3.tab.before a s = true := unparts (wk q5 (.code Cmp3.yN Cmp3.yB 6 (some (.array .byte)))) (wks q5 (.initialized Cmp3.yN.cls :: Cmp3.site))
  have q3 : ∀ w ∈ Cmp3.tab :: CodL.tab :: words, w.before a s = true := fun w hw => (List.mem_cons.mp hw).elim (fun e => e ▸ h3) fun hw => (List.mem_cons.mp hw).elim (fun e => e ▸ hc) (h w)
  have h4 : New4.tab.before a s = true := unparts (wk q3 (.code New4.yN New4.yB 6 none)) (wks q3 (.initialized New4.yN.cls :: New4.site))
  have q4 : ∀ w ∈ New4.tab :: words, w.before a s = true := fun w hw => (List.mem_cons.mp hw).elim (fun e => e ▸ h4) (h w)
  exact unparts (wk q4 (.code New1.yN New1.yB 2 none)) (wks q4 (.initialized New1.yN.cls :: New1.site))
/-- the words ride from the start Z to the walk's own state -/
theorem moved {Z s : State} {a0 args : Array Value} (hZ : Z.Warmed39 s.vm) (hw : ∀ d ∈ words, d.before a0 Z = true) : ∀ d ∈ words, d.before args s = true := fun d hd => by
  have q := hw d hd
  have t : ∀ d ∈ words, d = .arrayClass .byte ∨ (d.onTables && d.keepsFace) = true := by decide +kernel
  rcases t d hd with rfl | t
  · exact RoadKit.mvA hZ q
  · exact RoadKit.mv hZ q t
/-- WHAT COMES BACK, over the tables of the start Z: h the heap at the call, h' behind it -/
def Q (Z : State) (x : Addr) (A : Cell) (h : Heap) (v : Option Value) (h' : Heap) (L : List Loc) : Prop := v = none ∧ (∀ y ∈ L, y.base = x) ∧ RoadKit.Keep h h' [x] ∧ h'.size = h.size + 1 ∧ RoadKit.Exa Z h' x ST ∧ RoadKit.Fld Z h' x ST "value" "[B" (.ref h.size) ∧ RoadKit.Fld Z h' x ST "coder" "B" (.int 0) ∧
  (∃ V : Cell, RoadKit.Arr Z h' h.size V .byte ∧ V.vm = .none ∧ Z.vm.findClass "[B" = some V.cls ∧ V.slots.size = A.slots.size ∧ ∀ j, j < A.slots.size → V.slots[j]? = some (.int (lo8 (cv A j)))) ∧
  ∀ (O n d : String) (w : Value), RoadKit.Fld Z h x O n d w → RoadKit.slotOf Z O n d ≠ RoadKit.slotOf Z ST "value" "[B" → RoadKit.slotOf Z O n d ≠ RoadKit.slotOf Z ST "coder" "B" → RoadKit.Fld Z h' x O n d w
/-- **new String(chars) AT A CALL, IN THE ROAD'S FORM**: for specialBack behind newO: x the fresh String, b the char[] with the cell A -/
theorem back {p : Program} {l : Launch} {e : Env} {R : Room} {s : State} {args : Array Value} {below : List Frame} {len W : Nat} {Z : State} {a0 : Array Value} {h : Heap} (hZ : Z.Warmed39 s.vm) (hw : ∀ d ∈ words, d.before a0 Z = true) {kI : Nat} (wi : (Jvm.Cond.instantiable ST kI).before a0 Z = true)
    {x b : Addr} {A : Cell} {z : Int32} {v0 c0 : Value} (E : RoadKit.Exa Z h x ST) (V : RoadKit.Fld Z h x ST "value" "[B" v0) (C : RoadKit.Fld Z h x ST "coder" "B" c0) (K : RoadKit.Arr Z h b A .char) (hty : Typed .char A) (S : RoadKit.Sta Z h ST "COMPACT_STRINGS" "Z" (.int z)) (hz : ¬ z = 0)
    (l0 : 0 < A.slots.size) (l2 : A.slots.size ≤ 536870912) (hp : ∀ i, i < A.slots.size → ¬ 255 < cv A i) (hfr : 4 ≤ R.frames) (hlo : W + 65 ≤ R.locals) :
    Back l R p e below s args New1.yN len W (fun P a => a = #[.ref x, .ref b] ∧ P.U.heap = h ∧ P.cells + 1 ≤ R.cells ∧ P.slots + A.slots.size ≤ R.slots)
      (fun P _ v B => ∃ L, Q Z x A h v B.U.heap L ∧ B.locs = P.locs ++ L ∧ B.cells = P.cells + 1 ∧ B.slots = P.slots + A.slots.size) := by
  intro m meth c P g ig mk a X hg hsize hdg hW hn hp'
  obtain ⟨rfl, rfl, r1, r2⟩ := hp'
  have al : Z.vm.Alike P.U.vm := hZ.alike.trans X.warmed.alike
  obtain ⟨D, cfV, kV, iV, fV, hD, gV, stV, knV, obV, asV, slV⟩ := id V
  obtain ⟨D', cfC, kC, iC, fC, hD', gC, stC, -, -, asC, slC⟩ := id C
  cases hD.symm.trans hD'
  obtain ⟨D2, kD, e1, e2, e3, e4, e5⟩ := id E
  cases hD.symm.trans e1
  obtain ⟨c2, k2, i1, i2, i3, -⟩ := Cond.instantiable_spec wi
  cases e2.symm.trans i1
  cases e3.symm.trans i2
  obtain ⟨kU, u1, u2⟩ := al.2.2 _ _ e3
  have hB : Blank ST x D P.U := ⟨hD, ⟨knV, fun q hq => by rw [hq] at obV; cases obV⟩, by rw [al.findClass]; exact e2, kU, u1, by rw [u2]; exact i3, by rw [u2]; exact e5 i3⟩
  have F1 : Found ST "value" "[B" fV P.U := ⟨SBG.found_only al ⟨cfV, kV, iV, gV⟩, stV⟩
  have F2 : Found ST "coder" "B" fC P.U := ⟨SBG.found_only al ⟨cfC, kC, iC, gC⟩, stC⟩
  have hA : Ch b A P.U := ⟨⟨K.1, State.isArrayOf_alike al K.2.1, K.2.2, by omega⟩, hty⟩
  have hS : StaticIs P.U ST "COMPACT_STRINGS" "Z" (.int z) := by
    obtain ⟨cfS, iS, kS, fS, st, cS, t1, t2, t3, t4, t5, t6, t7⟩ := S
    exact StaticIs.there (s := { Z with heap := P.U.heap }) ⟨cfS, iS, kS, fS, st, cS, t1, t2, t3, t4, t5, (fun q => by rw [q] at t6; cases t6), t7⟩ al rfl
  obtain ⟨v, B, X', ⟨⟨hv, E', V', q1, q2, q3, q4, q5, q6, q7, q8, q9, q10, q11⟩, hl, hc, hs⟩, st⟩ := New1.pays x D fV fC b A z (tab_of (moved hZ hw)) hfr hlo m meth c P g ig mk _ X hg hsize hdg hW hn ⟨r1, r2, rfl, hB, F1, F2, hA, hS, hz, l0, l2, hp⟩
  have al' : Z.vm.Alike B.U.vm := hZ.alike.trans X'.warmed.alike
  have hsz : E'.slots.size = D.slots.size := by
    obtain ⟨-, -, -, kB, w1, w2, w3⟩ := q1
    obtain ⟨kB', y1, y2⟩ := al'.2.2 _ _ e3
    rw [q2.2.1] at w1
    cases w1.symm.trans y1
    rw [w3, e5 i3, y2]
  refine ⟨v, B, X', ⟨_, ⟨hv, ?_, ⟨by omega, fun y cy hy hn' => q10 y cy (by simpa using hn') hy, fun y cy hy => ?_⟩, q11, ⟨E', _, q1.1, by rw [q2.2.1]; exact e2, by rw [q2.2.1]; exact e3, by rw [q2.1]; exact obV, fun _ => by rw [hsz]; exact e5 i3⟩,
    ⟨E', cfV, kV, iV, fV, q1.1, gV, stV, by rw [q2.1]; exact knV, by rw [q2.1]; exact obV, by rw [q2.2.1]; exact asV, q3⟩, ⟨E', cfC, kC, iC, fC, q1.1, gC, stC, by rw [q2.1]; exact knV, by rw [q2.1]; exact obV, by rw [q2.2.1]; exact asC, q4⟩,
    ⟨V', ⟨q5.1, State.isArrayOf_alike al'.symm q5.2.1, q5.2.2.1⟩, q6, by rw [← al'.findClass]; exact q7, q8, fun j hj => by have := q9 j hj; rwa [Nat.zero_add] at this⟩, fun O n d w F n1 n2 => ?_⟩, hl, hc, hs⟩, st⟩
  · intro y hy
    simp only [List.mem_cons, List.not_mem_nil, or_false] at hy
    rcases hy with rfl | rfl <;> rfl
  · by_cases q : y = x
    · subst q
      cases hD.symm.trans hy
      exact ⟨E', q1.1, q2.2.1, q2.1, hsz⟩
    · exact ⟨cy, q10 y cy q hy, rfl, rfl, rfl⟩
  · obtain ⟨D3, cf, k, i, f, g1, g2, g3, g4, g5, g6, g7⟩ := F
    cases hD.symm.trans g1
    simp only [RoadKit.slotOf, g2, gV, gC, Option.map_some, Option.getD_some] at n1 n2
    exact ⟨E', cf, k, i, f, q1.1, g2, g3, by rw [q2.1]; exact g4, by rw [q2.1]; exact g5, by rw [q2.2.1]; exact g6, by rw [q2.2.2 f.slot (by simp [n1, n2])]; exact g7⟩
end StrChars.Road
namespace StrChars.Road
open Jvm Sem ClassFile Op Lib Jvm.Stand Jvm.Free Jvm.Free.XT
/-- WHAT COMES BACK, the byte[] as a list of values -/
def QA (Z : State) (x : Addr) (zn : Int32) (cs : List Int32) (h : Heap) (v : Option Value) (h' : Heap) (L : List Loc) : Prop := v = none ∧ (∀ y ∈ L, y.base = x) ∧ RoadKit.Keep h h' [x] ∧ h'.size = h.size + 1 ∧ RoadKit.Exa Z h' x ST ∧ RoadKit.Fld Z h' x ST "value" "[B" (.ref h.size) ∧ RoadKit.Fld Z h' x ST "coder" "B" (.int 0) ∧
  (∃ kb, Z.vm.findClass "[B" = some kb ∧ RoadKit.Arv Z h' h.size kb .byte zn (cs.map fun c => .int (lo8 c)) (.int 0)) ∧
  ∀ (O n d : String) (w : Value), RoadKit.Fld Z h x O n d w → RoadKit.slotOf Z O n d ≠ RoadKit.slotOf Z ST "value" "[B" → RoadKit.slotOf Z O n d ≠ RoadKit.slotOf Z ST "coder" "B" → RoadKit.Fld Z h' x O n d w
/-- **new String(chars) AT A CALL, THE ARRAYS AS LISTS**: the char[] at b holds cs, not empty, no char above 255 -/
theorem backArv {p : Program} {l : Launch} {e : Env} {R : Room} {s : State} {args : Array Value} {below : List Frame} {len W : Nat} {Z : State} {a0 : Array Value} {h : Heap} (hZ : Z.Warmed39 s.vm) (hw : ∀ d ∈ words, d.before a0 Z = true) {kI : Nat} (wi : (Jvm.Cond.instantiable ST kI).before a0 Z = true)
    {x b : Addr} {k : ClassId} {zn z : Int32} {cs : List Int32} {dv v0 c0 : Value} (E : RoadKit.Exa Z h x ST) (V : RoadKit.Fld Z h x ST "value" "[B" v0) (C : RoadKit.Fld Z h x ST "coder" "B" c0) (K : RoadKit.Arv Z h b k .char zn (cs.map Value.int) dv) (S : RoadKit.Sta Z h ST "COMPACT_STRINGS" "Z" (.int z)) (hz : ¬ z = 0)
    (hlen : zn.toNatClampNeg = cs.length) (h0 : 0 < cs.length) (hbig : cs.length ≤ 536870912) (hall : ∀ c ∈ cs, ¬ 255 < c) (hfr : 4 ≤ R.frames) (hlo : W + 65 ≤ R.locals) :
    Back l R p e below s args New1.yN len W (fun P a => a = #[.ref x, .ref b] ∧ P.U.heap = h ∧ P.cells + 1 ≤ R.cells ∧ P.slots + cs.length ≤ R.slots)
      (fun P _ v B => ∃ L, QA Z x zn cs h v B.U.heap L ∧ B.locs = P.locs ++ L ∧ B.cells = P.cells + 1 ∧ B.slots = P.slots + cs.length) := by
  obtain ⟨A, K1, K2, K3, K4, K5, K6⟩ := K
  have e : A.slots.size = cs.length := K3.trans hlen
  have hat : ∀ (i : Nat) (hi : i < cs.length), A.slots[i]? = some (.int cs[i]) := fun i hi => by rw [K5 i (by omega)]; simp [List.getD_eq_getElem?_getD, hi]
  have hcv : ∀ (i : Nat) (hi : i < cs.length), cv A i = cs[i] := fun i hi => by unfold cv; rw [hat i hi]
  have hty : Typed .char A := fun i v hv => by
    have hi : i < A.slots.size := (Array.getElem?_eq_some_iff.mp hv).1
    have q := K5 i hi
    rw [hv] at q
    rw [Option.some.inj q]
    exact K6 i hi
  refine Back.mono (back hZ hw wi E V C K1 hty S hz (by omega) (by omega) (fun i hi => by rw [hcv i (by omega)]; exact hall _ (List.getElem_mem _)) hfr hlo) (fun P a hp => ⟨hp.1, hp.2.1, hp.2.2.1, by rw [e]; exact hp.2.2.2⟩) (fun P a v B hp hq => ?_)
  obtain ⟨L, ⟨q1, q2, q3, q4, q5, q6, q7, ⟨V', v1, v2, v3, v4, v5⟩, q9⟩, hl, hc, hs⟩ := hq
  refine ⟨L, ⟨q1, q2, q3, q4, q5, q6, q7, ⟨V'.cls, v3, V', v1, rfl, by rw [v4, e, hlen], K4, fun i hi => ?_, fun i hi => ?_⟩, q9⟩, hl, hc, by rw [hs, e]⟩
  · have hi' : i < cs.length := by omega
    rw [v5 i (by omega), hcv i hi']; simp [List.getD_eq_getElem?_getD, hi']
  · have hi' : i < cs.length := by omega
    simp only [List.getD_eq_getElem?_getD, List.getElem?_map, List.getElem?_eq_getElem hi', Option.map_some, Option.getD_some]
    exact fits_lo8 _
end StrChars.Road
namespace StrChars.Road
open Jvm Sem ClassFile Op Lib Jvm.Stand Jvm.Free Jvm.Free.XT
/-- WHAT COMES BACK, in the writer's own shape -/
def QV (Z : State) (x : Addr) (N : Int32) (bs : List Int32) (h : Heap) (n0 : Nat) (v : Option Value) (h' : Heap) (L : List Loc) : Prop := v = none ∧ RoadKit.Fr n0 L ∧ RoadKit.Keep h h' [x] ∧ RoadKit.Exa Z h' x ST ∧ RoadKit.Fld Z h' x ST "coder" "B" (.int 0) ∧
  ∃ (t : Addr) (kb : ClassId), n0 ≤ t ∧ h.size ≤ t ∧ ¬ t = x ∧ RoadKit.Fld Z h' x ST "value" "[B" (.ref t) ∧ RoadKit.Arv Z h' t kb .byte N (bs.map Value.int) (.int 0)
/-- **new String(chars) AT A CALL, FOR THE WRITER**: a char[] of n known ints, each 0 to 255 -/
theorem backV {p : Program} {l : Launch} {e : Env} {R : Room} {s : State} {args : Array Value} {below : List Frame} {len W : Nat} {Z : State} {a0 : Array Value} {h : Heap} (hZ : Z.Warmed39 s.vm) (hw : ∀ d ∈ words, d.before a0 Z = true) {kI : Nat} (wi : (Jvm.Cond.instantiable ST kI).before a0 Z = true)
    {x b : Addr} {kC : ClassId} {cs bs : List Int32} {d v0 c0 : Value} {z N : Int32} {n n0 : Nat} (hx0 : n0 ≤ x) (hh0 : n0 ≤ h.size) (E : RoadKit.Exa Z h x ST) (V : RoadKit.Fld Z h x ST "value" "[B" v0) (C : RoadKit.Fld Z h x ST "coder" "B" c0) (K : RoadKit.Arv Z h b kC .char N (cs.map Value.int) d) (S : RoadKit.Sta Z h ST "COMPACT_STRINGS" "Z" (.int z)) (hz : ¬ z = 0)
    (hn : cs.length = n) (hN : N = Int32.ofNat n) (l0 : 0 < n) (l2 : n ≤ 4000) (hp : ∀ c ∈ cs, ¬ c < 0 ∧ ¬ (255 : Int32) < c) (hb : bs = cs.map (fun c => c.toInt8.toInt32)) (hfr : 4 ≤ R.frames) (hlo : W + 65 ≤ R.locals) :
    Back l R p e below s args (⟨"java/lang/String", "<init>", "([C)V"⟩ : MethodName) len W (fun P a => a = #[.ref x, .ref b] ∧ P.U.heap = h ∧ P.cells + 1 ≤ R.cells ∧ P.slots + n ≤ R.slots)
      (fun P _ v B => ∃ L, QV Z x N bs h n0 v B.U.heap L ∧ B.locs = P.locs ++ L ∧ B.cells = P.cells + 1 ∧ B.slots = P.slots + n) := by
  subst hn hN hb
  refine Back.mono (backArv hZ hw wi E V C K S hz (n32 (by omega)) l0 (by omega) (fun c hc => (hp c hc).2) hfr hlo) (fun P a hp => hp) (fun P a v B hp hq => ?_)
  obtain ⟨L, ⟨q1, q2, q3, q4, q5, q6, q7, ⟨kb, v1, v2⟩, q9⟩, hl, hc, hs⟩ := hq
  exact ⟨L, ⟨q1, fun y hy => by rw [q2 y hy]; exact hx0, q3, q5, q7, h.size, kb, hh0, Nat.le_refl _, Nat.ne_of_gt E.lt, q6, by rw [List.map_map]; exact v2⟩, hl, hc, hs⟩
end StrChars.Road
namespace StrChars
open Jvm Sem ClassFile Op Lib Jvm.Stand Jvm.Free.XT Jvm.Free.ALB Jvm.Free.JM Jvm.Free
open Jvm.Lib.Cold (StaticIs)
def hi8 (x : Int32) : Int32 := lo8 (x >>> ((8 : Int32) &&& 31))
/-- what StringUTF16.getChar makes of two bytes -/
def pairCh (u v : Int32) : Int32 := (((u &&& 255) <<< ((0 : Int32) &&& 31)) ||| ((v &&& 255) <<< ((8 : Int32) &&& 31))).toUInt32.toUInt16.toUInt32.toInt32
theorem lo8_and (x : Int32) : (lo8 x &&& 255).toBitVec.toNat = x.toBitVec.toNat % 256 := by
  have h : (lo8 x).toBitVec = (x.toBitVec.signExtend 8).signExtend 32 := by rw [lo8, Int8.toBitVec_toInt32, Int32.toBitVec_toInt8]
  rw [Int32.toBitVec_and, BitVec.toNat_and, h]
  have e : ((x.toBitVec.signExtend 8).signExtend 32).toNat % 256 = x.toBitVec.toNat % 256 := by
    rw [BitVec.toNat_signExtend]
    have hlt := x.toBitVec.isLt
    simp only [BitVec.toNat_setWidth, BitVec.toNat_signExtend]
    split <;> split <;> omega
  rw [← e]
  exact Nat.and_two_pow_sub_one_eq_mod _ 8
theorem pair_says {c : Int32} (h0 : ¬ c < 0) (h1 : ¬ 65535 < c) : pairCh (lo8 c) (hi8 c) = c := by
  rw [Int32.lt_iff_toInt_lt] at h0 h1
  have e0 : (0 : Int32).toInt = 0 := rfl
  have e1 : (65535 : Int32).toInt = 65535 := rfl
  have hc : c.toInt = c.toBitVec.toNat := by
    have := c.toBitVec.isLt
    have e : c.toInt = c.toBitVec.toInt := rfl
    rw [e] at h0 h1
    rw [e]
    rw [BitVec.toInt_eq_toNat_cond] at h0 h1 ⊢
    split at h0 <;> split <;> omega
  have hn : c.toBitVec.toNat < 65536 := by omega
  have a1 := lo8_and c
  have a2 : (hi8 c &&& 255).toBitVec.toNat = c.toBitVec.toNat / 256 := by
    rw [hi8, lo8_and]
    have e : ((8 : Int32) &&& 31) = 8 := by decide
    rw [e, Int32.toBitVec_shiftRight]
    have e2 : ((8 : Int32).toBitVec.smod 32) = 8#32 := by decide
    rw [e2, BitVec.sshiftRight_eq', BitVec.toNat_sshiftRight_of_msb_false (by rw [BitVec.msb_eq_false_iff_two_mul_lt]; omega)]
    show c.toBitVec.toNat >>> 8 % 256 = _
    rw [Nat.shiftRight_eq_div_pow]
    omega
  unfold pairCh
  apply Int32.toBitVec_inj.mp
  apply BitVec.eq_of_toNat_eq
  have f0 : ((0 : Int32) &&& 31) = 0 := by decide
  have f8 : ((8 : Int32) &&& 31) = 8 := by decide
  rw [f0, f8]
  have g : (((lo8 c &&& 255) <<< (0 : Int32)) ||| ((hi8 c &&& 255) <<< (8 : Int32))).toBitVec.toNat = c.toBitVec.toNat := by
    rw [Int32.toBitVec_or, Int32.toBitVec_shiftLeft, Int32.toBitVec_shiftLeft]
    have s0 : ((0 : Int32).toBitVec.smod 32) = 0#32 := by decide
    have s8 : ((8 : Int32).toBitVec.smod 32) = 8#32 := by decide
    rw [s0, s8, BitVec.toNat_or]
    simp only [BitVec.shiftLeft_eq', BitVec.toNat_shiftLeft, a1, a2]
    show (c.toBitVec.toNat % 256) <<< 0 % 2 ^ 32 ||| (c.toBitVec.toNat / 256) <<< 8 % 2 ^ 32 = _
    rw [Nat.shiftLeft_zero, Nat.mod_eq_of_lt (show c.toBitVec.toNat % 256 < 2 ^ 32 by omega), Nat.mod_eq_of_lt (show (c.toBitVec.toNat / 256) <<< 8 < 2 ^ 32 by rw [Nat.shiftLeft_eq]; omega), Nat.or_comm, ← Nat.shiftLeft_add_eq_or_of_lt (by omega), Nat.shiftLeft_eq]
    omega
  show BitVec.toNat (((((lo8 c &&& 255) <<< (0 : Int32)) ||| ((hi8 c &&& 255) <<< (8 : Int32))).toBitVec.setWidth 16).setWidth 32) = _
  rw [BitVec.toNat_setWidth, BitVec.toNat_setWidth, g]
  omega
end StrChars
namespace StrChars
open Jvm Sem ClassFile Op Lib Jvm.Stand Jvm.Free.XT Jvm.Free.ALB Jvm.Free.JM Jvm.Free
open Jvm.Lib.Cold (StaticIs)
/-- the array's cell V codes the n chars f 0 .. f (n - 1) by the coder cd, as the JDK does: coder 1 just where some char is above 255 -/
def Cod (cd : Int32) (n : Nat) (f : Nat → Int32) (V : Cell) : Prop := (cd = 0 ∧ V.slots.size = n ∧ ∀ j, j < n → V.slots[j]? = some (.int (lo8 (f j))) ∧ ¬ 255 < f j) ∨ (cd = 1 ∧ V.slots.size = 2 * n ∧ (∀ j, j < n → V.slots[2 * j]? = some (.int (lo8 (f j))) ∧ V.slots[2 * j + 1]? = some (.int (hi8 (f j)))) ∧ ∃ j, j < n ∧ 255 < f j)
/-- **x is a String of the n chars f 0 .. f (n - 1)**, Latin-1 or UTF-16; its array at t has the cell V -/
def Txt (x t : Addr) (V : Cell) (cd : Int32) (n : Nat) (f : Nat → Int32) (U : State) : Prop := Exact "java/lang/String" x U ∧ Has x "java/lang/String" "value" "[B" (.ref t) U ∧ Has x "java/lang/String" "coder" "B" (.int cd) U ∧ XT.Arr .byte t V U ∧ Cod cd n f V ∧ ∀ j, j < n → ¬ f j < 0 ∧ ¬ 65535 < f j
theorem Txt.mv {x t : Addr} {V : Cell} {cd : Int32} {n : Nat} {f : Nat → Int32} {U U' : State} (h : Txt x t V cd n f U) (hal : U.vm.Alike U'.vm) (hh : U'.heap = U.heap) : Txt x t V cd n f U' := ⟨h.1.mv hal hh, h.2.1.mv hal hh, h.2.2.1.mv hal hh, h.2.2.2.1.mv hal hh, h.2.2.2.2⟩
end StrChars
namespace StrChars.Road
open Jvm Sem ClassFile Op Lib Jvm.Stand Jvm.Free Jvm.Free.XT
open Jvm.Lib.Cold (StaticIs)
theorem consq {a : Array Value} {s : State} {c : Jvm.Cond} {L : List Jvm.Cond} (h0 : c.before a s = true) (h : ∀ w ∈ L, w.before a s = true) : ∀ w ∈ c :: L, w.before a s = true := fun w hw => (List.mem_cons.mp hw).elim (fun e => e ▸ h0) (h w)
/-- the bytes of the chars cs, low before high -/
def wideBytes : List Int32 → List Value
  | [] => []
  | c :: cs => .int (lo8 c) :: .int (hi8 c) :: wideBytes cs
theorem wide_lo (d : Value) : ∀ (cs : List Int32) (j : Nat), j < cs.length → (wideBytes cs).getD (2 * j) d = .int (lo8 (cs.getD j 0))
  | [], j, h => absurd h (Nat.not_lt_zero j)
  | c :: cs, 0, _ => rfl
  | c :: cs, j + 1, h => by
    have q := wide_lo d cs j (by simpa using h)
    rw [show 2 * (j + 1) = 2 * j + 1 + 1 from by omega]
    simpa [wideBytes] using q
theorem wide_hi (d : Value) : ∀ (cs : List Int32) (j : Nat), j < cs.length → (wideBytes cs).getD (2 * j + 1) d = .int (hi8 (cs.getD j 0))
  | [], j, h => absurd h (Nat.not_lt_zero j)
  | c :: cs, 0, _ => rfl
  | c :: cs, j + 1, h => by
    have q := wide_hi d cs j (by simpa using h)
    rw [show 2 * (j + 1) + 1 = 2 * j + 1 + 1 + 1 from by omega]
    simpa [wideBytes] using q
theorem low_at (d : Value) (cs : List Int32) (j : Nat) (h : j < cs.length) : (cs.map fun c => Value.int (lo8 c)).getD j d = .int (lo8 (cs.getD j 0)) := by
  simp [List.getD_eq_getElem?_getD, h]
/-- an array of N2 bytes vs codes the chars cs by the coder cd -/
def CodA (cs : List Int32) (cd N2 : Int32) (vs : List Value) : Prop := (cd = 0 ∧ N2 = Int32.ofNat cs.length ∧ vs = (cs.map fun c => Value.int (lo8 c)) ∧ ∀ c ∈ cs, ¬ 255 < c) ∨ (cd = 1 ∧ N2 = Int32.ofNat (2 * cs.length) ∧ vs = wideBytes cs ∧ ∃ c ∈ cs, 255 < c)
theorem CodA.cod {cs : List Int32} {cd N2 : Int32} {vs : List Value} {V : Cell} (h : CodA cs cd N2 vs) (hn : 2 * cs.length < 2 ^ 31) (hs : V.slots.size = N2.toNatClampNeg) (hv : RoadKit.Has V vs (.int 0)) : Cod cd cs.length (fun j => cs.getD j 0) V := by
  rcases h with ⟨rfl, rfl, rfl, h⟩ | ⟨rfl, rfl, rfl, c, hc, hw⟩
  · rw [n32 (by omega)] at hs
    exact Or.inl ⟨rfl, hs, fun j hj => ⟨by rw [hv j (by omega), low_at _ _ _ hj], by
      have e : cs.getD j 0 = cs[j] := by simp [List.getD_eq_getElem?_getD, hj]
      show ¬ 255 < cs.getD j 0
      rw [e]; exact h _ (List.getElem_mem _)⟩⟩
  · rw [n32 (by omega)] at hs
    obtain ⟨j, hj, rfl⟩ := List.getElem_of_mem hc
    exact Or.inr ⟨rfl, hs, fun j hj => ⟨by rw [hv _ (by omega), wide_lo _ _ _ hj], by rw [hv _ (by omega), wide_hi _ _ _ hj]⟩, j, hj, by
      have e : cs.getD j 0 = cs[j] := by simp [List.getD_eq_getElem?_getD, hj]
      show 255 < cs.getD j 0
      rw [e]; exact hw⟩
/-- an object of exactly java/lang/String, its two fields found: as the laws ask it -/
theorem strObj {Z U : State} {a0 : Array Value} {kI : Nat} (wi : (Jvm.Cond.instantiable ST kI).before a0 Z = true) (al : Z.vm.Alike U.vm) {x : Addr} {v0 c0 : Value} (E : RoadKit.Exa Z U.heap x ST) (V : RoadKit.Fld Z U.heap x ST "value" "[B" v0) (C : RoadKit.Fld Z U.heap x ST "coder" "B" c0) :
    ∃ (D : Cell) (fV fC : Field), Blank ST x D U ∧ Found ST "value" "[B" fV U ∧ Found ST "coder" "B" fC U ∧ D.slots[fV.slot]? = some v0 ∧ D.slots[fC.slot]? = some c0 ∧ RoadKit.slotOf Z ST "value" "[B" = fV.slot ∧ RoadKit.slotOf Z ST "coder" "B" = fC.slot := by
  obtain ⟨D, cfV, kV, iV, fV, hD, gV, stV, knV, obV, asV, slV⟩ := V
  obtain ⟨D', cfC, kC, iC, fC, hD', gC, stC, -, -, asC, slC⟩ := C
  cases hD.symm.trans hD'
  obtain ⟨D2, kD, e1, e2, e3, e4, e5⟩ := E
  cases hD.symm.trans e1
  obtain ⟨c2, k2, i1, i2, i3, -⟩ := Cond.instantiable_spec wi
  cases e2.symm.trans i1
  cases e3.symm.trans i2
  obtain ⟨kU, u1, u2⟩ := al.2.2 _ _ e3
  exact ⟨D, fV, fC, ⟨hD, ⟨knV, fun q hq => by rw [hq] at obV; cases obV⟩, by rw [al.findClass]; exact e2, kU, u1, by rw [u2]; exact i3, by rw [u2]; exact e5 i3⟩, ⟨SBG.found_only al ⟨cfV, kV, iV, gV⟩, stV⟩, ⟨SBG.found_only al ⟨cfC, kC, iC, gC⟩, stC⟩, slV, slC, by simp [RoadKit.slotOf, gV], by simp [RoadKit.slotOf, gC]⟩
theorem sta_is {Z U : State} (al : Z.vm.Alike U.vm) {C n d : String} {v : Value} (S : RoadKit.Sta Z U.heap C n d v) : StaticIs U C n d v := by
  obtain ⟨cfS, iS, kS, fS, st, cS, t1, t2, t3, t4, t5, t6, t7⟩ := S
  exact StaticIs.there (s := { Z with heap := U.heap }) ⟨cfS, iS, kS, fS, st, cS, t1, t2, t3, t4, t5, (fun q => by rw [q] at t6; cases t6), t7⟩ al rfl
end StrChars.Road
namespace StrChars
open Jvm Sem ClassFile Op Lib Jvm.Stand Jvm.Free.XT Jvm.Free.ALB Jvm.Free.JM Jvm.Free
open Jvm.Lib.Cold (StaticIs)
/-- what place i of a byte[]'s cell holds -/
def yv (A : Cell) (i : Nat) : Int32 := match A.slots[i]? with | some (.int x) => x | _ => 0
theorem yv_get {a : Addr} {A : Cell} {U : State} (h : XT.Arr .byte a A U) (ht : Typed .byte A) {i : Nat} (hi : i < A.slots.size) : A.slots[i]? = some (.int (yv A i)) := by
  have e := Array.getElem?_eq_getElem hi
  have f := ht i _ e
  unfold yv; rw [e]
  generalize A.slots[i] = v at f
  cases v <;> simp [fits] at f ⊢
/-- the two arrays are equal, place for place -/
def EqC (A B : Cell) : Prop := A.slots.size = B.slots.size ∧ ∀ i, i < A.slots.size → yv A i = yv B i
/-- a boolean that says whether p -/
def Says01 (q : Prop) (r : Option Value) (s u : State) : Prop := ∃ v : Int32, r = some (.int v) ∧ u.heap = s.heap ∧ ((v = 1 ∧ q) ∨ (v = 0 ∧ ¬ q))
theorem Says01.mv {q : Prop} : ∀ r (U U' V V' : State), U'.heap = U.heap → V.vm.Alike V'.vm → V'.heap = V.heap → Says01 q r U V → Says01 q r U' V' :=
  fun r U U' V V' h1 _ h2 ⟨v, a, b, c⟩ => ⟨v, a, by rw [h1, h2]; exact b, c⟩
namespace LEq
def yN : MethodName := ⟨"java/lang/StringLatin1", "equals", "([B[B)Z"⟩
abbrev yB : ByteArray := jdk_43_method_13_code
theorem d0 : decode yB 0 = .ok (.aload_n 0, 1) := by decide +kernel
theorem d1 : decode yB 1 = .ok (.arraylength, 1) := by decide +kernel
theorem d2 : decode yB 2 = .ok (.aload_n 1, 1) := by decide +kernel
theorem d3 : decode yB 3 = .ok (.arraylength, 1) := by decide +kernel
theorem d4 : decode yB 4 = .ok (.if_icmp (.ne) 30, 3) := by decide +kernel
theorem d7 : decode yB 7 = .ok (.iconst 0, 1) := by decide +kernel
theorem d8 : decode yB 8 = .ok (.istore_n 2, 1) := by decide +kernel
theorem d9 : decode yB 9 = .ok (.iload_n 2, 1) := by decide +kernel
theorem d10 : decode yB 10 = .ok (.aload_n 0, 1) := by decide +kernel
theorem d11 : decode yB 11 = .ok (.arraylength, 1) := by decide +kernel
theorem d12 : decode yB 12 = .ok (.if_icmp (.ge) 20, 3) := by decide +kernel
theorem d15 : decode yB 15 = .ok (.aload_n 0, 1) := by decide +kernel
theorem d16 : decode yB 16 = .ok (.iload_n 2, 1) := by decide +kernel
theorem d17 : decode yB 17 = .ok (.baload, 1) := by decide +kernel
theorem d18 : decode yB 18 = .ok (.aload_n 1, 1) := by decide +kernel
theorem d19 : decode yB 19 = .ok (.iload_n 2, 1) := by decide +kernel
theorem d20 : decode yB 20 = .ok (.baload, 1) := by decide +kernel
theorem d21 : decode yB 21 = .ok (.if_icmp (.eq) 5, 3) := by decide +kernel
theorem d24 : decode yB 24 = .ok (.iconst 0, 1) := by decide +kernel
theorem d25 : decode yB 25 = .ok (.ireturn, 1) := by decide +kernel
theorem d26 : decode yB 26 = .ok (.iinc 2 1, 3) := by decide +kernel
theorem d29 : decode yB 29 = .ok (.goto (-20), 3) := by decide +kernel
theorem d32 : decode yB 32 = .ok (.iconst 1, 1) := by decide +kernel
theorem d33 : decode yB 33 = .ok (.ireturn, 1) := by decide +kernel
theorem d34 : decode yB 34 = .ok (.iconst 0, 1) := by decide +kernel
theorem d35 : decode yB 35 = .ok (.ireturn, 1) := by decide +kernel
def site : List Cond := []
def tab : Cond := tabOf yN yB 3 (some .boolean) site
def P (a : Addr) (A : Cell) (b : Addr) (B : Cell) (args : Array Value) (s : State) : Prop := args = #[.ref a, .ref b] ∧ XT.Arr .byte a A s ∧ Typed .byte A ∧ XT.Arr .byte b B s ∧ Typed .byte B
/-- whether two byte[] are equal, place for place -/
theorem law (l : Launch) (a : Addr) (A : Cell) (b : Addr) (B : Cell) : Law l yN 2 2 0 0 yB 3 (some .boolean) site (P a A b B) (Says01 (EqC A B)) [] 0 0 := by
  refine Law.of_walk (plainFor_of_name (by decide +kernel)) (by decide +kernel) (by decide +kernel) (by decide) (fun _ _ h => by rw [h.1]; rfl) (fun _ U U' hal hh h => ⟨h.1, h.2.1.mv hal hh, h.2.2.1, h.2.2.2.1.mv hal hh, h.2.2.2.2⟩) (fun r U U' V V' h1 hal h2 h => Says01.mv r U U' V V' h1 hal h2 h) ?_
  intro p e s m args below meth c s₁ X0 hexec hbytes hml hret hlk hnm hown hh0 W hP
  obtain ⟨rfl, hA, tA, hB, tB⟩ := hP
  have a31 := hA.2.2.2
  have b31 := hB.2.2.2
  have hA0 := hA.mv X0.warmed.alike hh0
  have hB0 := hB.mv X0.warmed.alike hh0
  have c1 : Steps p.tables e below (s₁.setTop (entryFrame m #[.ref a, .ref b] 3)) (s₁.setTop (mkF m 0 #[.val (.ref a), .val (.ref b), .unset] [])) := entry rfl
  have c2 : Steps p.tables e below (s₁.setTop (entryFrame m #[.ref a, .ref b] 3)) (s₁.setTop (mkF m 4 #[.val (.ref a), .val (.ref b), .unset] [.int (Int32.ofNat B.slots.size), .int (Int32.ofNat A.slots.size)])) := c1.trans (by
    refine XS.aloadN X0.here hexec rfl (hb hbytes d0) rfl rfl ?_
    refine X0.alen hexec hA0 rfl rfl (hb hbytes d1) ?_
    refine XS.aloadN X0.here hexec rfl (hb hbytes d2) rfl rfl ?_
    refine X0.alen hexec hB0 rfl rfl (hb hbytes d3) ?_
    exact Steps.refl _)
  by_cases hs : A.slots.size = B.slots.size
  · have c3 : Steps p.tables e below (s₁.setTop (entryFrame m #[.ref a, .ref b] 3)) (s₁.setTop (mkF m 9 #[.val (.ref a), .val (.ref b), .val (.int 0)] [])) := c2.trans (by
      refine XS.icmpNo X0.here hexec rfl (hb hbytes d4) rfl (ii_ne_f (by rw [hs])) ?_
      refine iconstV X0.here hexec rfl 0 (hb hbytes d7) (by decide) ?_
      refine XS.istoreN X0.here hexec rfl (hb hbytes d8) rfl rfl ?_
      exact Steps.refl _)
    have loop : ∀ (r i : Nat), i + r = A.slots.size → (∀ j, j < i → yv A j = yv B j) → Steps p.tables e below (s₁.setTop (entryFrame m #[.ref a, .ref b] 3)) (s₁.setTop (mkF m 9 #[.val (.ref a), .val (.ref b), .val (.int (Int32.ofNat i))] [])) → ∃ (pc : Nat) (Ls : Array Slot) (v : Int32), (pc = 25 ∨ pc = 33) ∧ ((v = 1 ∧ EqC A B) ∨ (v = 0 ∧ ¬ EqC A B)) ∧ Steps p.tables e below (s₁.setTop (entryFrame m #[.ref a, .ref b] 3)) (s₁.setTop (mkF m pc Ls [.int v])) := by
      intro r
      induction r with
      | zero =>
        intro i hi he cl
        exact ⟨33, _, 1, Or.inr rfl, Or.inl ⟨rfl, hs, fun j hj => he j (by omega)⟩, cl.trans (by
          refine XS.iloadN X0.here hexec rfl (hb hbytes d9) rfl ?_
          refine XS.aloadN X0.here hexec rfl (hb hbytes d10) rfl rfl ?_
          refine X0.alen hexec hA0 rfl rfl (hb hbytes d11) ?_
          refine XS.icmpYes X0.here hexec rfl (pc0 := 12) rfl (hb hbytes d12) rfl (ii_ge_t (nlt32 (by omega) (by omega))) (by decide) rfl ?_
          refine iconstV X0.here hexec rfl 1 (hb hbytes d32) (by decide) ?_
          exact Steps.refl _)⟩
      | succ r ih =>
        intro i hi he cl
        have c4 : Steps p.tables e below (s₁.setTop (entryFrame m #[.ref a, .ref b] 3)) (s₁.setTop (mkF m 21 #[.val (.ref a), .val (.ref b), .val (.int (Int32.ofNat i))] [.int (yv B i), .int (yv A i)])) := cl.trans (by
          refine XS.iloadN X0.here hexec rfl (hb hbytes d9) rfl ?_
          refine XS.aloadN X0.here hexec rfl (hb hbytes d10) rfl rfl ?_
          refine X0.alen hexec hA0 rfl rfl (hb hbytes d11) ?_
          refine XS.icmpNo X0.here hexec rfl (hb hbytes d12) rfl (ii_ge_f (lt32 (by omega) (by omega))) ?_
          refine XS.aloadN X0.here hexec rfl (hb hbytes d15) rfl rfl ?_
          refine XS.iloadN X0.here hexec rfl (hb hbytes d16) rfl ?_
          refine X0.aget hexec hA0 rfl (yv_get hA tA (i := i) (by omega)) rfl rfl (hb hbytes d17) ?_
          refine XS.aloadN X0.here hexec rfl (hb hbytes d18) rfl rfl ?_
          refine XS.iloadN X0.here hexec rfl (hb hbytes d19) rfl ?_
          refine X0.aget hexec hB0 rfl (yv_get hB tB (i := i) (by omega)) rfl rfl (hb hbytes d20) ?_
          exact Steps.refl _)
        by_cases hv : yv A i = yv B i
        · have c5 : Steps p.tables e below (s₁.setTop (entryFrame m #[.ref a, .ref b] 3)) (s₁.setTop (mkF m 9 #[.val (.ref a), .val (.ref b), .val (.int (Int32.ofNat i + 1))] [])) := c4.trans (by
            refine XS.icmpYes X0.here hexec rfl (pc0 := 21) rfl (hb hbytes d21) rfl (ii_eq_t hv) (by decide) rfl ?_
            refine iincV X0.here hexec rfl 1 (hb hbytes d26) (by decide) rfl rfl ?_
            refine XS.goto X0.here hexec rfl (pc0 := 29) rfl (hb hbytes d29) (by decide) rfl ?_
            exact Steps.refl _)
          rw [succ32] at c5
          exact ih (i + 1) (by omega) (fun j hj => by
            by_cases e : j = i
            · rw [e]; exact hv
            · exact he j (by omega)) c5
        · exact ⟨25, _, 0, Or.inl rfl, Or.inr ⟨rfl, fun q => hv (q.2 i (by omega))⟩, c4.trans (by
            refine XS.icmpNo X0.here hexec rfl (hb hbytes d21) rfl (ii_eq_f hv) ?_
            refine iconstV X0.here hexec rfl 0 (hb hbytes d24) (by decide) ?_
            exact Steps.refl _)⟩
    obtain ⟨pc, Ls, v, hpc, hv, cz⟩ := loop A.slots.size 0 (by omega) (fun j hj => absurd hj (Nat.not_lt_zero j)) c3
    have nv : narrow .boolean (.int v) = .int v := by rcases hv with ⟨rfl, -⟩ | ⟨rfl, -⟩ <;> rfl
    rcases hpc with rfl | rfl
    · exact ⟨s₁, some (.int v), _, _, _, X0, rfl, rfl, rfl, (fun h => by cases h), ⟨v, rfl, hh0, hv⟩, fun fs hl => cz.trans (X0.ireturnOut hexec hret nv (Or.inr (Or.inl rfl)) (hb hbytes d25) hl)⟩
    · exact ⟨s₁, some (.int v), _, _, _, X0, rfl, rfl, rfl, (fun h => by cases h), ⟨v, rfl, hh0, hv⟩, fun fs hl => cz.trans (X0.ireturnOut hexec hret nv (Or.inr (Or.inl rfl)) (hb hbytes d33) hl)⟩
  · have c3 : Steps p.tables e below (s₁.setTop (entryFrame m #[.ref a, .ref b] 3)) (s₁.setTop (mkF m 35 #[.val (.ref a), .val (.ref b), .unset] [.int 0])) := c2.trans (by
      refine XS.icmpYes X0.here hexec rfl (pc0 := 4) rfl (hb hbytes d4) rfl (ii_ne_t (ne32 a31 b31 hs)) (by decide) rfl ?_
      refine iconstV X0.here hexec rfl 0 (hb hbytes d34) (by decide) ?_
      exact Steps.refl _)
    exact ⟨s₁, some (.int 0), _, _, _, X0, rfl, rfl, rfl, (fun h => by cases h), ⟨0, rfl, hh0, Or.inr ⟨rfl, fun q => hs q.1⟩⟩, fun fs hl => c3.trans (X0.ireturnOut hexec hret rfl (Or.inr (Or.inl rfl)) (hb hbytes d35) hl)⟩
end LEq
theorem Cod.ty {cd : Int32} {n : Nat} {f : Nat → Int32} {V : Cell} (h : Cod cd n f V) : Typed .byte V := fun i v hv => by
  have hi : i < V.slots.size := (Array.getElem?_eq_some_iff.mp hv).1
  rcases h with ⟨-, k1, k2⟩ | ⟨-, k1, k2, -⟩
  · rw [(k2 i (by omega)).1] at hv; cases hv; exact fits_lo8 _
  · rcases Nat.mod_two_eq_zero_or_one i with e | e
    · obtain ⟨j, rfl⟩ : ∃ j, i = 2 * j := ⟨i / 2, by omega⟩
      rw [(k2 j (by omega)).1] at hv; cases hv; exact fits_lo8 _
    · obtain ⟨j, rfl⟩ : ∃ j, i = 2 * j + 1 := ⟨i / 2, by omega⟩
      rw [(k2 j (by omega)).2] at hv; cases hv; exact fits_lo8 _
/-- the same text -/
def SameT (n : Nat) (f : Nat → Int32) (k : Nat) (g : Nat → Int32) : Prop := n = k ∧ ∀ j, j < n → f j = g j
theorem lo8_inj {x y : Int32} (h0 : ¬ x < 0) (h1 : ¬ 255 < x) (k0 : ¬ y < 0) (k1 : ¬ 255 < y) (h : lo8 x = lo8 y) : x = y := by
  rw [← lo8_mask h0 h1, ← lo8_mask k0 k1, h]
/-- arrays coded by one coder are equal just where the texts are -/
theorem Cod.eqv {cd : Int32} {n k : Nat} {f g : Nat → Int32} {V V' : Cell} (h : Cod cd n f V) (h' : Cod cd k g V') (hf : ∀ j, j < n → ¬ f j < 0 ∧ ¬ 65535 < f j) (hg : ∀ j, j < k → ¬ g j < 0 ∧ ¬ 65535 < g j) : EqC V V' ↔ SameT n f k g := by
  have yvv : ∀ {W : Cell} {i : Nat} {x : Int32}, W.slots[i]? = some (.int x) → yv W i = x := fun q => by unfold yv; rw [q]
  rcases h with ⟨rfl, k1, k2⟩ | ⟨rfl, k1, k2, -⟩
  · rcases h' with ⟨-, m1, m2⟩ | ⟨e, -⟩
    · constructor
      · rintro ⟨e1, e2⟩
        refine ⟨by omega, fun j hj => ?_⟩
        have q := e2 j (by omega)
        rw [yvv (k2 j hj).1, yvv (m2 j (by omega)).1] at q
        exact lo8_inj (hf j hj).1 (k2 j hj).2 (hg j (by omega)).1 (m2 j (by omega)).2 q
      · rintro ⟨rfl, e2⟩
        refine ⟨by omega, fun j hj => ?_⟩
        rw [yvv (k2 j (by omega)).1, yvv (m2 j (by omega)).1, e2 j (by omega)]
    · exact absurd e (by decide)
  · rcases h' with ⟨e, -⟩ | ⟨-, m1, m2, -⟩
    · exact absurd e (by decide)
    · constructor
      · rintro ⟨e1, e2⟩
        refine ⟨by omega, fun j hj => ?_⟩
        have q1 := e2 (2 * j) (by omega)
        have q2 := e2 (2 * j + 1) (by omega)
        rw [yvv (k2 j hj).1, yvv (m2 j (by omega)).1] at q1
        rw [yvv (k2 j hj).2, yvv (m2 j (by omega)).2] at q2
        rw [← pair_says (hf j hj).1 (hf j hj).2, ← pair_says (hg j (by omega)).1 (hg j (by omega)).2, q1, q2]
      · rintro ⟨rfl, e2⟩
        refine ⟨by omega, fun i hi => ?_⟩
        rcases Nat.mod_two_eq_zero_or_one i with e | e
        · obtain ⟨j, rfl⟩ : ∃ j, i = 2 * j := ⟨i / 2, by omega⟩
          rw [yvv (k2 j (by omega)).1, yvv (m2 j (by omega)).1, e2 j (by omega)]
        · obtain ⟨j, rfl⟩ : ∃ j, i = 2 * j + 1 := ⟨i / 2, by omega⟩
          rw [yvv (k2 j (by omega)).2, yvv (m2 j (by omega)).2, e2 j (by omega)]
/-- two codings differ: so do the texts -/
theorem Cod.dif {cd cd' : Int32} {n k : Nat} {f g : Nat → Int32} {V V' : Cell} (h : Cod cd n f V) (h' : Cod cd' k g V') (hne : ¬ cd = cd') : ¬ SameT n f k g := by
  rintro ⟨rfl, e⟩
  rcases h with ⟨rfl, -, k2⟩ | ⟨rfl, -, -, j, hj, hw⟩
  · rcases h' with ⟨rfl, -⟩ | ⟨-, -, -, j, hj, hw⟩
    · exact hne rfl
    · exact (k2 j hj).2 (by rw [e j hj]; exact hw)
  · rcases h' with ⟨-, -, m2⟩ | ⟨rfl, -⟩
    · exact (m2 j hj).2 (by rw [← e j hj]; exact hw)
    · exact hne rfl
/-- an object of exactly C is an instance of C -/
theorem cinst {p : Program} {l : Launch} {e : Env} {R : Room} {s : State} {m : MethodId} {args : Array Value} {below : List Frame} {meth : Method} {c : Code} {T : State} {locs : List Loc} {cells slots : Nat} (X : Stand p l e R s m args below meth c T locs cells slots) (hexec : p.tables.exec = Jvm.exec) {own C : String} {index : Nat} (hown : s.vm.findClass own = some m.cls) (hlink : (Cond.classLink own index C).before args s = true) {a : Addr} (hE : Exact C a T)
    {g : JFrame} (hg : g.method = m) {rest : List Value} (hstack : g.stack = .ref a :: rest) (hdg : decode c.code g.pc = .ok (.instanceof index, 3)) :
    ∃ T', Stand p l e R s m args below meth c T' locs cells slots ∧ T'.heap = T.heap ∧ ∀ target, Steps p.tables e below (T'.setTop { g with pc := g.pc + 3, stack := .int 1 :: rest }) target → Steps p.tables e below (T.setTop g) target := by
  obtain ⟨cB, h1, D, h2, h3, h4⟩ := hE
  have h1' : s.vm.findClass C = some cB := by rw [← X.warmed.alike.findClass]; exact h1
  obtain ⟨vm', X', st⟩ := X.instanceofYes hexec hown hlink h2 h4 h1' (by rw [h3]; exact Jvm.Free.SB.assignable_self _ _) hg hstack hdg
  exact ⟨_, X', rfl, st⟩
theorem cself {p : Program} {l : Launch} {e : Env} {R : Room} {s : State} {m : MethodId} {args : Array Value} {below : List Frame} {meth : Method} {c : Code} {T : State} {locs : List Loc} {cells slots : Nat} (X : Stand p l e R s m args below meth c T locs cells slots) (hexec : p.tables.exec = Jvm.exec) {own C : String} {index : Nat} (hown : s.vm.findClass own = some m.cls) (hlink : (Cond.classLink own index C).before args s = true) {a : Addr} (hE : Exact C a T)
    {g : JFrame} (hg : g.method = m) {rest : List Value} (hstack : g.stack = .ref a :: rest) (hdg : decode c.code g.pc = .ok (.checkcast index, 3)) :
    ∃ T', Stand p l e R s m args below meth c T' locs cells slots ∧ T'.heap = T.heap ∧ ∀ target, Steps p.tables e below (T'.setTop { g with pc := g.pc + 3, stack := .ref a :: rest }) target → Steps p.tables e below (T.setTop g) target := by
  obtain ⟨cB, h1, D, h2, h3, h4⟩ := hE
  have h1' : s.vm.findClass C = some cB := by rw [← X.warmed.alike.findClass]; exact h1
  obtain ⟨vm', X', st⟩ := X.checkcastYes hexec hown hlink h2 h4 h1' (by rw [h3]; exact Jvm.Free.SB.assignable_self _ _) hg hstack hdg
  exact ⟨_, X', rfl, fun t h => st t (by rw [← hstack] at h; exact h)⟩
namespace SEq
def yN : MethodName := ⟨"java/lang/String", "equals", "(Ljava/lang/Object;)Z"⟩
abbrev yB : ByteArray := jdk_42_method_66_code
theorem d0 : decode yB 0 = .ok (.aload_n 0, 1) := by decide +kernel
theorem d1 : decode yB 1 = .ok (.aload_n 1, 1) := by decide +kernel
theorem d2 : decode yB 2 = .ok (.if_acmp (.ne) 5, 3) := by decide +kernel
theorem d5 : decode yB 5 = .ok (.iconst 1, 1) := by decide +kernel
theorem d6 : decode yB 6 = .ok (.ireturn, 1) := by decide +kernel
theorem d7 : decode yB 7 = .ok (.aload_n 1, 1) := by decide +kernel
theorem d8 : decode yB 8 = .ok (.instanceof 10, 3) := by decide +kernel
theorem d11 : decode yB 11 = .ok (.ifCond (.eq) 43, 3) := by decide +kernel
theorem d14 : decode yB 14 = .ok (.aload_n 1, 1) := by decide +kernel
theorem d15 : decode yB 15 = .ok (.checkcast 10, 3) := by decide +kernel
theorem d18 : decode yB 18 = .ok (.astore_n 2, 1) := by decide +kernel
theorem d19 : decode yB 19 = .ok (.getstatic 38, 3) := by decide +kernel
theorem d22 : decode yB 22 = .ok (.ifCond (.eq) 14, 3) := by decide +kernel
theorem d25 : decode yB 25 = .ok (.aload_n 0, 1) := by decide +kernel
theorem d26 : decode yB 26 = .ok (.getfield 15, 3) := by decide +kernel
theorem d29 : decode yB 29 = .ok (.aload_n 2, 1) := by decide +kernel
theorem d30 : decode yB 30 = .ok (.getfield 15, 3) := by decide +kernel
theorem d33 : decode yB 33 = .ok (.if_icmp (.ne) 21, 3) := by decide +kernel
theorem d36 : decode yB 36 = .ok (.aload_n 0, 1) := by decide +kernel
theorem d37 : decode yB 37 = .ok (.getfield 9, 3) := by decide +kernel
theorem d40 : decode yB 40 = .ok (.aload_n 2, 1) := by decide +kernel
theorem d41 : decode yB 41 = .ok (.getfield 9, 3) := by decide +kernel
theorem d44 : decode yB 44 = .ok (.invokestatic 541, 3) := by decide +kernel
theorem d47 : decode yB 47 = .ok (.ifCond (.eq) 7, 3) := by decide +kernel
theorem d50 : decode yB 50 = .ok (.iconst 1, 1) := by decide +kernel
theorem d51 : decode yB 51 = .ok (.goto 4, 3) := by decide +kernel
theorem d54 : decode yB 54 = .ok (.iconst 0, 1) := by decide +kernel
theorem d55 : decode yB 55 = .ok (.ireturn, 1) := by decide +kernel
def site : List Cond := [.classLink "java/lang/String" 10 "java/lang/String", .fieldLink "java/lang/String" 38 "java/lang/String" "COMPACT_STRINGS" "Z", .fieldLink "java/lang/String" 15 "java/lang/String" "coder" "B", .fieldLink "java/lang/String" 9 "java/lang/String" "value" "[B", LEq.tab] ++ staticW "java/lang/String" 541 LEq.yN
def tab : Cond := tabOf yN yB 3 (some .boolean) site
def P (x t : Addr) (V : Cell) (cd : Int32) (n : Nat) (f : Nat → Int32) (y t' : Addr) (V' : Cell) (cd' : Int32) (k : Nat) (g : Nat → Int32) (z : Int32) (args : Array Value) (s : State) : Prop := args = #[.ref x, .ref y] ∧ Txt x t V cd n f s ∧ Txt y t' V' cd' k g s ∧ StaticIs s "java/lang/String" "COMPACT_STRINGS" "Z" (.int z) ∧ ¬ z = 0
/-- equals(Object) of two Strings: whether the texts are the same -/
theorem law (l : Launch) (x t : Addr) (V : Cell) (cd : Int32) (n : Nat) (f : Nat → Int32) (y t' : Addr) (V' : Cell) (cd' : Int32) (k : Nat) (g : Nat → Int32) (z : Int32) : Law l yN 2 1 1 14 yB 3 (some .boolean) site (P x t V cd n f y t' V' cd' k g z) (Says01 (SameT n f k g)) [] 0 0 := by
  refine Law.of_walk (plainFor_of_name (by decide +kernel)) (by decide +kernel) (by decide +kernel) (by decide) (fun _ _ h => by rw [h.1]; rfl) (fun _ U U' hal hh h => ⟨h.1, h.2.1.mv hal hh, h.2.2.1.mv hal hh, h.2.2.2.1.there hal hh, h.2.2.2.2⟩) (fun r U U' V V' h1 hal h2 h => Says01.mv r U U' V V' h1 hal h2 h) ?_
  intro p e s m args below meth c s₁ X0 hexec hbytes hml hret hlk hnm hown hh0 W hP
  obtain ⟨rfl, hx, hy, s1, hz⟩ := hP
  have c1 : Steps p.tables e below (s₁.setTop (entryFrame m #[.ref x, .ref y] 3)) (s₁.setTop (mkF m 2 #[.val (.ref x), .val (.ref y), .unset] [.ref y, .ref x])) := Steps.trans (entry rfl) (by
    show Steps p.tables e below (s₁.setTop (mkF m 0 #[.val (.ref x), .val (.ref y), .unset] [])) _
    refine XS.aloadN X0.here hexec rfl (hb hbytes d0) rfl rfl ?_
    refine XS.aloadN X0.here hexec rfl (hb hbytes d1) rfl rfl ?_
    exact Steps.refl _)
  by_cases hxy : x = y
  · have c2 : Steps p.tables e below (s₁.setTop (entryFrame m #[.ref x, .ref y] 3)) (s₁.setTop (mkF m 6 #[.val (.ref x), .val (.ref y), .unset] [.int 1])) := c1.trans (by
      refine acmpNo X0.here hexec rfl (hb hbytes d2) rfl rfl rfl (by simp [acmp, hxy]) ?_
      refine iconstV X0.here hexec rfl 1 (hb hbytes d5) (by decide) ?_
      exact Steps.refl _)
    subst hxy
    have ec : cd = cd' := by
      obtain ⟨D, fd, a1, a2, a3⟩ := hx.2.2.1
      obtain ⟨D', fd', b1, b2, b3⟩ := hy.2.2.1
      cases a1.symm.trans b1
      obtain ⟨q1, q2, q3, q4⟩ := a2.1
      obtain ⟨r1, r2, r3, r4⟩ := b2.1
      cases q4.symm.trans r4
      cases a3.symm.trans b3; rfl
    have et : t = t' := by
      obtain ⟨D, fd, a1, a2, a3⟩ := hx.2.1
      obtain ⟨D', fd', b1, b2, b3⟩ := hy.2.1
      cases a1.symm.trans b1
      obtain ⟨q1, q2, q3, q4⟩ := a2.1
      obtain ⟨r1, r2, r3, r4⟩ := b2.1
      cases q4.symm.trans r4
      cases a3.symm.trans b3; rfl
    subst ec et
    have ev : V = V' := by cases hx.2.2.2.1.1.symm.trans hy.2.2.2.1.1; rfl
    subst ev
    have hs : SameT n f k g := (Cod.eqv hx.2.2.2.2.1 hy.2.2.2.2.1 hx.2.2.2.2.2 hy.2.2.2.2.2).mp ⟨rfl, fun _ _ => rfl⟩
    exact ⟨s₁, some (.int 1), _, _, _, X0, rfl, rfl, rfl, (fun h => by cases h), ⟨1, rfl, hh0, Or.inl ⟨rfl, hs⟩⟩, fun fs hl => c2.trans (X0.ireturnOut hexec hret rfl (Or.inr (Or.inl rfl)) (hb hbytes d6) hl)⟩
  · have c2 : Steps p.tables e below (s₁.setTop (entryFrame m #[.ref x, .ref y] 3)) (s₁.setTop (mkF m 8 #[.val (.ref x), .val (.ref y), .unset] [.ref y])) := c1.trans (by
      refine acmpYes X0.here hexec rfl (pc0 := 2) rfl (hb hbytes d2) rfl rfl rfl (by simp [acmp, hxy]) (by decide) rfl ?_
      refine XS.aloadN X0.here hexec rfl (hb hbytes d7) rfl rfl ?_
      exact Steps.refl _)
    obtain ⟨T3, X3, q3, st3⟩ := cinst X0 hexec hown (wk W (.classLink "java/lang/String" 10 "java/lang/String")) (hy.mv X0.warmed.alike hh0).1 (g := (mkF m 8 #[.val (.ref x), .val (.ref y), .unset] [.ref y])) rfl (rest := []) rfl (hb hbytes d8)
    have hh3 := q3.trans hh0
    have c4 : Steps p.tables e below (s₁.setTop (entryFrame m #[.ref x, .ref y] 3)) (T3.setTop (mkF m 15 #[.val (.ref x), .val (.ref y), .unset] [.ref y])) := (c2.trans (st3 _ (Steps.refl _))).trans (by
      refine XS.ifNo X3.here hexec rfl (hb hbytes d11) rfl (i0_eq_f (by decide)) ?_
      refine XS.aloadN X3.here hexec rfl (hb hbytes d14) rfl rfl ?_
      exact Steps.refl _)
    obtain ⟨T5, X5, q5, st5⟩ := cself X3 hexec hown (wk W (.classLink "java/lang/String" 10 "java/lang/String")) (hy.mv X3.warmed.alike hh3).1 (g := (mkF m 15 #[.val (.ref x), .val (.ref y), .unset] [.ref y])) rfl (rest := []) rfl (hb hbytes d15)
    have hh5 := q5.trans hh3
    have c6 : Steps p.tables e below (s₁.setTop (entryFrame m #[.ref x, .ref y] 3)) (T5.setTop (mkF m 19 #[.val (.ref x), .val (.ref y), .val (.ref y)] [])) := (c4.trans (st5 _ (Steps.refl _))).trans (by
      refine XS.astoreN X5.here hexec rfl (hb hbytes d18) rfl rfl rfl ?_
      exact Steps.refl _)
    obtain ⟨T7, X7, q7, st7⟩ := X5.sget hexec hown (wk W (.fieldLink "java/lang/String" 38 "java/lang/String" "COMPACT_STRINGS" "Z")) s1 (fun _ _ h => by rw [hh5]; exact h) (g := (mkF m 19 #[.val (.ref x), .val (.ref y), .val (.ref y)] [])) rfl (hb hbytes d19)
    have hh7 := q7.trans hh5
    have c8 : Steps p.tables e below (s₁.setTop (entryFrame m #[.ref x, .ref y] 3)) (T7.setTop (mkF m 26 #[.val (.ref x), .val (.ref y), .val (.ref y)] [.ref x])) := (c6.trans (st7 _ (Steps.refl _))).trans (by
      refine XS.ifNo X7.here hexec rfl (hb hbytes d22) rfl (i0_eq_f hz) ?_
      refine XS.aloadN X7.here hexec rfl (hb hbytes d25) rfl rfl ?_
      exact Steps.refl _)
    obtain ⟨T9, X9, q9, st9⟩ := X7.hget hexec hown (wk W (.fieldLink "java/lang/String" 15 "java/lang/String" "coder" "B")) (hx.mv X7.warmed.alike hh7).2.2.1 (g := (mkF m 26 #[.val (.ref x), .val (.ref y), .val (.ref y)] [.ref x])) rfl (rest := []) rfl (hb hbytes d26)
    have hh9 := q9.trans hh7
    have c10 : Steps p.tables e below (s₁.setTop (entryFrame m #[.ref x, .ref y] 3)) (T9.setTop (mkF m 30 #[.val (.ref x), .val (.ref y), .val (.ref y)] [.ref y, .int cd])) := (c8.trans (st9 _ (Steps.refl _))).trans (by
      refine XS.aloadN X9.here hexec rfl (hb hbytes d29) rfl rfl ?_
      exact Steps.refl _)
    obtain ⟨T11, X11, q11, st11⟩ := X9.hget hexec hown (wk W (.fieldLink "java/lang/String" 15 "java/lang/String" "coder" "B")) (hy.mv X9.warmed.alike hh9).2.2.1 (g := (mkF m 30 #[.val (.ref x), .val (.ref y), .val (.ref y)] [.ref y, .int cd])) rfl (rest := [.int cd]) rfl (hb hbytes d30)
    have hh11 := q11.trans hh9
    have c12 : Steps p.tables e below (s₁.setTop (entryFrame m #[.ref x, .ref y] 3)) (T11.setTop (mkF m 33 #[.val (.ref x), .val (.ref y), .val (.ref y)] [.int cd', .int cd])) := c10.trans (st11 _ (Steps.refl _))
    by_cases hcd : cd = cd'
    · subst hcd
      have c13 : Steps p.tables e below (s₁.setTop (entryFrame m #[.ref x, .ref y] 3)) (T11.setTop (mkF m 37 #[.val (.ref x), .val (.ref y), .val (.ref y)] [.ref x])) := c12.trans (by
        refine XS.icmpNo X11.here hexec rfl (hb hbytes d33) rfl (ii_ne_f rfl) ?_
        refine XS.aloadN X11.here hexec rfl (hb hbytes d36) rfl rfl ?_
        exact Steps.refl _)
      obtain ⟨T14, X14, q14, st14⟩ := X11.hget hexec hown (wk W (.fieldLink "java/lang/String" 9 "java/lang/String" "value" "[B")) (hx.mv X11.warmed.alike hh11).2.1 (g := (mkF m 37 #[.val (.ref x), .val (.ref y), .val (.ref y)] [.ref x])) rfl (rest := []) rfl (hb hbytes d37)
      have hh14 := q14.trans hh11
      have c15 : Steps p.tables e below (s₁.setTop (entryFrame m #[.ref x, .ref y] 3)) (T14.setTop (mkF m 41 #[.val (.ref x), .val (.ref y), .val (.ref y)] [.ref y, .ref t])) := (c13.trans (st14 _ (Steps.refl _))).trans (by
        refine XS.aloadN X14.here hexec rfl (hb hbytes d40) rfl rfl ?_
        exact Steps.refl _)
      obtain ⟨T16, X16, q16, st16⟩ := X14.hget hexec hown (wk W (.fieldLink "java/lang/String" 9 "java/lang/String" "value" "[B")) (hy.mv X14.warmed.alike hh14).2.1 (g := (mkF m 41 #[.val (.ref x), .val (.ref y), .val (.ref y)] [.ref y, .ref t])) rfl (rest := [.ref t]) rfl (hb hbytes d41)
      have hh16 := q16.trans hh14
      have c17 : Steps p.tables e below (s₁.setTop (entryFrame m #[.ref x, .ref y] 3)) (T16.setTop (mkF m 44 #[.val (.ref x), .val (.ref y), .val (.ref y)] [.ref t', .ref t])) := c15.trans (st16 _ (Steps.refl _))
      obtain ⟨v18, T18, X18, E18, g18⟩ := X16.callS hexec (LEq.law l t V t' V') hown (wks W (staticW "java/lang/String" 541 LEq.yN)) (wk W LEq.tab) (W := 0) (Nat.le_of_ble_eq_true rfl) (Nat.le_of_ble_eq_true rfl) (Nat.le_refl _) (Nat.le_refl _) (g := (mkF m 44 #[.val (.ref x), .val (.ref y), .val (.ref y)] [.ref t', .ref t])) rfl (by rw [hml]; rfl) c17 (argsL := [.ref t, .ref t']) (rest := []) rfl rfl (by show 2 * 0 + 0 ≤ _; decide) (hb hbytes d44) (⟨rfl, hx.2.2.2.1.mv X16.warmed.alike hh16, hx.2.2.2.2.1.ty, hy.2.2.2.1.mv X16.warmed.alike hh16, hy.2.2.2.2.1.ty⟩)
      obtain ⟨v, rfl, q18, hv⟩ := E18
      have iff := Cod.eqv hx.2.2.2.2.1 hy.2.2.2.2.1 hx.2.2.2.2.2 hy.2.2.2.2.2
      rcases hv with ⟨rfl, he⟩ | ⟨rfl, he⟩
      · have c19 : Steps p.tables e below (s₁.setTop (entryFrame m #[.ref x, .ref y] 3)) (T18.setTop (mkF m 55 #[.val (.ref x), .val (.ref y), .val (.ref y)] [.int 1])) := Steps.trans g18 (by
          refine XS.ifNo X18.here hexec rfl (hb hbytes d47) rfl (i0_eq_f (by decide)) ?_
          refine iconstV X18.here hexec rfl 1 (hb hbytes d50) (by decide) ?_
          refine XS.goto X18.here hexec rfl (pc0 := 51) rfl (hb hbytes d51) (by decide) rfl ?_
          exact Steps.refl _)
        exact ⟨T18, some (.int 1), _, _, _, X18, rfl, rfl, rfl, (fun h => by cases h), ⟨1, rfl, q18.trans hh16, Or.inl ⟨rfl, iff.mp he⟩⟩, fun fs hl => c19.trans (X18.ireturnOut hexec hret rfl (Or.inr (Or.inl rfl)) (hb hbytes d55) hl)⟩
      · have c19 : Steps p.tables e below (s₁.setTop (entryFrame m #[.ref x, .ref y] 3)) (T18.setTop (mkF m 55 #[.val (.ref x), .val (.ref y), .val (.ref y)] [.int 0])) := Steps.trans g18 (by
          refine XS.ifYes X18.here hexec rfl (pc0 := 47) rfl (hb hbytes d47) rfl (i0_eq_t rfl) (by decide) rfl ?_
          refine iconstV X18.here hexec rfl 0 (hb hbytes d54) (by decide) ?_
          exact Steps.refl _)
        exact ⟨T18, some (.int 0), _, _, _, X18, rfl, rfl, rfl, (fun h => by cases h), ⟨0, rfl, q18.trans hh16, Or.inr ⟨rfl, fun q => he (iff.mpr q)⟩⟩, fun fs hl => c19.trans (X18.ireturnOut hexec hret rfl (Or.inr (Or.inl rfl)) (hb hbytes d55) hl)⟩
    · have c13 : Steps p.tables e below (s₁.setTop (entryFrame m #[.ref x, .ref y] 3)) (T11.setTop (mkF m 55 #[.val (.ref x), .val (.ref y), .val (.ref y)] [.int 0])) := c12.trans (by
        refine XS.icmpYes X11.here hexec rfl (pc0 := 33) rfl (hb hbytes d33) rfl (ii_ne_t hcd) (by decide) rfl ?_
        refine iconstV X11.here hexec rfl 0 (hb hbytes d54) (by decide) ?_
        exact Steps.refl _)
      exact ⟨T11, some (.int 0), _, _, _, X11, rfl, rfl, rfl, (fun h => by cases h), ⟨0, rfl, hh11, Or.inr ⟨rfl, Cod.dif hx.2.2.2.2.1 hy.2.2.2.2.1 hcd⟩⟩, fun fs hl => c13.trans (X11.ireturnOut hexec hret rfl (Or.inr (Or.inl rfl)) (hb hbytes d55) hl)⟩
theorem pays {l : Launch} {R : Room} {p : Program} {e : Env} {below : List Frame} {s : State} {sargs : Array Value} {len W : Nat} (x t : Addr) (V : Cell) (cd : Int32) (n : Nat) (f : Nat → Int32) (y t' : Addr) (V' : Cell) (cd' : Int32) (k : Nat) (g : Nat → Int32) (z : Int32) (htab : tab.before sargs s = true) (hfr : 2 ≤ R.frames) (hlo : W + 28 ≤ R.locals) :
    Back l R p e below s sargs yN len W (fun A₁ a₁ => A₁.cells + 0 ≤ R.cells ∧ A₁.slots + 0 ≤ R.slots ∧ P x t V cd n f y t' V' cd' k g z a₁ A₁.U) (fun A₁ _ v₁ B₁ => Says01 (SameT n f k g) v₁ A₁.U B₁.U ∧ B₁.locs = A₁.locs ++ [] ∧ B₁.cells = A₁.cells + 0 ∧ B₁.slots = A₁.slots + 0) :=
  (law l x t V cd n f y t' V' cd' k g z).pays htab hfr (by omega)
end SEq
end StrChars
namespace StrChars.Road
open Jvm Sem ClassFile Op Lib Jvm.Stand Jvm.Free Jvm.Free.XT
open Jvm.Lib.Cold (StaticIs)
/-- the words of String.equals(Object) -/
abbrev wordsEq : List Jvm.Cond := [.code SEq.yN SEq.yB 3 (some .boolean), .initialized ST, .classLink ST 10 ST, .fieldLink ST 38 ST "COMPACT_STRINGS" "Z", .fieldLink ST 15 ST "coder" "B", .fieldLink ST 9 ST "value" "[B", .methodLink ST 541 LEq.yN, .static LEq.yN, .code LEq.yN LEq.yB 3 (some .boolean), .initialized "java/lang/StringLatin1"]
theorem tabEq_of {a : Array Value} {s : State} (h : ∀ w ∈ wordsEq, w.before a s = true) : SEq.tab.before a s = true := by
  have hl : LEq.tab.before a s = true := unparts (wk h (.code LEq.yN LEq.yB 3 (some .boolean))) (wks h (.initialized LEq.yN.cls :: LEq.site))
  have q := consq hl h
  exact unparts (wk q (.code SEq.yN SEq.yB 3 (some .boolean))) (wks q (.initialized SEq.yN.cls :: SEq.site))
theorem movedEq {Z s : State} {a0 args : Array Value} (hZ : Z.Warmed39 s.vm) (hw : ∀ d ∈ wordsEq, d.before a0 Z = true) : ∀ d ∈ wordsEq, d.before args s = true := fun d hd => by
  have t : ∀ d ∈ wordsEq, (d.onTables && d.keepsFace) = true := by decide +kernel
  exact RoadKit.mv hZ (hw d hd) (t d hd)
/-- the road's facts of a String, as the laws ask it -/
theorem txt_of {Z U : State} {a0 : Array Value} {kI : Nat} (wi : (Jvm.Cond.instantiable ST kI).before a0 Z = true) (al : Z.vm.Alike U.vm) {x t : Addr} {kb : ClassId} {cs : List Int32} {cd N2 : Int32} {vs : List Value} (E : RoadKit.Exa Z U.heap x ST) (V : RoadKit.Fld Z U.heap x ST "value" "[B" (.ref t)) (C : RoadKit.Fld Z U.heap x ST "coder" "B" (.int cd)) (K : RoadKit.Arv Z U.heap t kb .byte N2 vs (.int 0)) (hc : CodA cs cd N2 vs) (hb : ∀ c ∈ cs, ¬ c < 0 ∧ ¬ (65535 : Int32) < c) (l2 : cs.length ≤ 4000) :
    ∃ A, Txt x t A cd cs.length (fun j => cs.getD j 0) U := by
  obtain ⟨A, K1, K2, K3, K4, K5, K6⟩ := K
  have hcod := hc.cod (by omega) K3 K5
  obtain ⟨D, fV, fC, hB, F1, F2, g1, g2, -, -⟩ := strObj wi al E V C
  exact ⟨A, ⟨_, hB.2.2.1, D, hB.1, rfl, by cases q : D.vm <;> first | rfl | exact absurd q (hB.2.1.2 _)⟩, Has.of hB F1 g1, Has.of hB F2 g2, ⟨K1.1, State.isArrayOf_alike al K1.2.1, K1.2.2, by rcases hcod with ⟨-, q, -⟩ | ⟨-, q, -⟩ <;> omega⟩, hcod, fun j hj => by
    have e : cs.getD j 0 = cs[j] := by simp [List.getD_eq_getElem?_getD, hj]
    show ¬ cs.getD j 0 < 0 ∧ ¬ 65535 < cs.getD j 0
    rw [e]; exact hb _ (List.getElem_mem _)⟩
theorem same_list (cs ds : List Int32) : SameT cs.length (fun j => cs.getD j 0) ds.length (fun j => ds.getD j 0) ↔ cs = ds := by
  constructor
  · rintro ⟨e, q⟩
    refine List.ext_getElem e fun j h1 h2 => ?_
    have := q j h1
    simpa [List.getD_eq_getElem?_getD, h1, h2] using this
  · rintro rfl
    exact ⟨rfl, fun _ _ => rfl⟩
/-- **equals(Object) OF TWO SUCH STRINGS**: 1 just where the chars are the same -/
theorem eqW {p : Program} {l : Launch} {e : Env} {R : Room} {s : State} {args : Array Value} {below : List Frame} {len W : Nat} {Z : State} {a0 : Array Value} {h : Heap} (hZ : Z.Warmed39 s.vm) (hw : ∀ d ∈ wordsEq, d.before a0 Z = true) {kI : Nat} (wi : (Jvm.Cond.instantiable ST kI).before a0 Z = true)
    {x t : Addr} {kb : ClassId} {cs : List Int32} {cd N2 : Int32} {vs : List Value} (E : RoadKit.Exa Z h x ST) (V : RoadKit.Fld Z h x ST "value" "[B" (.ref t)) (C : RoadKit.Fld Z h x ST "coder" "B" (.int cd)) (K : RoadKit.Arv Z h t kb .byte N2 vs (.int 0)) (hc : CodA cs cd N2 vs) (hb : ∀ c ∈ cs, ¬ c < 0 ∧ ¬ (65535 : Int32) < c) (l2 : cs.length ≤ 4000)
    {y t' : Addr} {kb' : ClassId} {ds : List Int32} {cd' N2' : Int32} {vs' : List Value} (E' : RoadKit.Exa Z h y ST) (V' : RoadKit.Fld Z h y ST "value" "[B" (.ref t')) (C' : RoadKit.Fld Z h y ST "coder" "B" (.int cd')) (K' : RoadKit.Arv Z h t' kb' .byte N2' vs' (.int 0)) (hc' : CodA ds cd' N2' vs') (hb' : ∀ c ∈ ds, ¬ c < 0 ∧ ¬ (65535 : Int32) < c) (l2' : ds.length ≤ 4000)
    {z : Int32} (S : RoadKit.Sta Z h ST "COMPACT_STRINGS" "Z" (.int z)) (hz : ¬ z = 0) (hfr : 2 ≤ R.frames) (hlo : W + 28 ≤ R.locals) :
    Back l R p e below s args (⟨"java/lang/String", "equals", "(Ljava/lang/Object;)Z"⟩ : MethodName) len W (fun P a => a = #[.ref x, .ref y] ∧ P.U.heap = h ∧ P.cells + 0 ≤ R.cells ∧ P.slots + 0 ≤ R.slots)
      (fun P _ v B => ∃ L, (((v = some (.int 1) ∧ cs = ds) ∨ (v = some (.int 0) ∧ ¬ cs = ds)) ∧ L = [] ∧ B.U.heap = h) ∧ B.locs = P.locs ++ L ∧ B.cells = P.cells + 0 ∧ B.slots = P.slots + 0) := by
  intro m meth c P g ig mk a X hg hsize hdg hW hn hp'
  obtain ⟨rfl, rfl, r1, r2⟩ := hp'
  have al : Z.vm.Alike P.U.vm := hZ.alike.trans X.warmed.alike
  obtain ⟨A, hx⟩ := txt_of wi al E V C K hc hb l2
  obtain ⟨A', hy⟩ := txt_of wi al E' V' C' K' hc' hb' l2'
  obtain ⟨v, B, X', ⟨⟨w, hv, hh, hq⟩, hl, hk, hs⟩, st⟩ := SEq.pays x t A cd cs.length (fun j => cs.getD j 0) y t' A' cd' ds.length (fun j => ds.getD j 0) z (tabEq_of (movedEq hZ hw)) hfr hlo m meth c P g ig mk _ X hg hsize hdg hW hn ⟨r1, r2, rfl, hx, hy, sta_is al S, hz⟩
  refine ⟨v, B, X', ⟨[], ⟨?_, rfl, hh⟩, hl, hk, hs⟩, st⟩
  rcases hq with ⟨rfl, q⟩ | ⟨rfl, q⟩
  · exact Or.inl ⟨hv, (same_list cs ds).mp q⟩
  · exact Or.inr ⟨hv, fun e => q ((same_list cs ds).mpr e)⟩
end StrChars.Road
end Jvm.Pilot.@@N@@

namespace Jvm.Pilot.@@N@@
open Jvm Jvm.ClassFile Sem Op Lib Jvm.Free Jvm.Stand Jvm.LawKit Jvm.RoadKit Bundle Jvm.Pilot.@@N@@.Jvm.D
section Own
variable {p : Program} {l : Launch} {e : Env} {R : Room} {s : State} {m : MethodId} {args : Array Value} {below : List Frame} {meth : Method} {c : Code} {T : State} {locs : List Loc} {cells slots : Nat} {G : State → Outcome → Prop}
def Go (p : Program) (e : Env) (below : List Frame) (G : State → Outcome → Prop) (st : State) : Prop := ∃ s₂ o, Steps p.tables e below st s₂ ∧ s₂.status = .running ∧ Ended s₂ below o ∧ G s₂ o
theorem Go.st {A B : State} (k : ∀ t, Steps p.tables e below B t → Steps p.tables e below A t) (h : Go p e below G B) : Go p e below G A := by
  obtain ⟨s₂, o, h1, h2⟩ := h
  exact ⟨s₂, o, k _ h1, h2⟩
theorem Go.tr {A B : State} (k : Steps p.tables e below A B) (h : Go p e below G B) : Go p e below G A := by
  obtain ⟨s₂, o, h1, h2⟩ := h
  exact ⟨s₂, o, k.trans h1, h2⟩
theorem Go.retW (X : Stand p l e R s m args below meth c T locs cells slots) (hx : p.tables.exec = Jvm.exec) {t : FieldType} (hret : meth.sig.returnType = some t) {w : Value} {i : Instr} (hn : narrow t w = w)
    (hi : (i = .ireturn ∧ (t = .int ∨ t = .boolean ∨ t = .byte ∨ t = .char ∨ t = .short) ∧ ∃ z, w = .int z) ∨ (i = .lreturn ∧ t = .long ∧ ∃ z, w = .long z) ∨ (i = .dreturn ∧ t = .double ∧ ∃ z, w = .double z) ∨ (i = .freturn ∧ t = .float ∧ ∃ z, w = .float z) ∨ (i = .areturn ∧ t.isReference = true ∧ w.isRef = true))
    (hlk : meth.locks = false) {pc : Nat} {Ls : Array Slot} {rest : List Value} (hd : decode c.code pc = .ok (i, 1)) {C S : Nat} {Q : Option Value → Heap → List Loc → Prop} (hC : cells ≤ C) (hS : slots ≤ S) (q : Q (some w) T.heap locs) :
    Go p e below (fun s₂ o => ∃ v L, o = .returned v ∧ Q v s₂.heap L ∧ FrameEnd s o s₂ L C S) (T.setTop (mkF m pc Ls (w :: rest))) := by
  obtain ⟨fs, hr, hrun, hended, hW, hsame⟩ := X.leave (v := some w) (fun h => by rw [hret] at h; cases h) hlk
  exact ⟨_, _, retOut X hx hret hn hi hd hr, hrun, hended, _, _, rfl, q, ⟨_, rfl⟩, hW, hsame.mono hC hS⟩
theorem Go.retN (X : Stand p l e R s m args below meth c T locs cells slots) (hx : p.tables.exec = Jvm.exec) {t : FieldType} (hret : meth.sig.returnType = some t) (ht : t = .boolean ∨ t = .byte ∨ t = .char ∨ t = .short) (hlk : meth.locks = false) {pc : Nat} {Ls : Array Slot} {z : Int32} {rest : List Value} (hd : decode c.code pc = .ok (.ireturn, 1))
    {C S : Nat} {Q : Option Value → Heap → List Loc → Prop} (hC : cells ≤ C) (hS : slots ≤ S) (q : Q (some (.int (nar t z))) T.heap locs) :
    Go p e below (fun s₂ o => ∃ v L, o = .returned v ∧ Q v s₂.heap L ∧ FrameEnd s o s₂ L C S) (T.setTop (mkF m pc Ls (.int z :: rest))) := by
  obtain ⟨fs, hr, hrun, hended, hW, hsame⟩ := X.leave (v := some (.int (nar t z))) (fun h => by rw [hret] at h; cases h) hlk
  exact ⟨_, _, Jvm.RoadKit.retN X hx hret ht hd hr, hrun, hended, _, _, rfl, q, ⟨_, rfl⟩, hW, hsame.mono hC hS⟩
theorem Go.retI (X : Stand p l e R s m args below meth c T locs cells slots) (hx : p.tables.exec = Jvm.exec) (hret : meth.sig.returnType = some .int) (hlk : meth.locks = false) {pc : Nat} {Ls : Array Slot} {z : Int32} {rest : List Value} (hd : decode c.code pc = .ok (.ireturn, 1))
    {C S : Nat} {Q : Option Value → Heap → List Loc → Prop} (hC : cells ≤ C) (hS : slots ≤ S) (q : Q (some (.int z)) T.heap locs) :
    Go p e below (fun s₂ o => ∃ v L, o = .returned v ∧ Q v s₂.heap L ∧ FrameEnd s o s₂ L C S) (T.setTop (mkF m pc Ls (.int z :: rest))) :=
  Go.retW X hx hret rfl (Or.inl ⟨rfl, Or.inl rfl, z, rfl⟩) hlk hd hC hS q
theorem Go.retL (X : Stand p l e R s m args below meth c T locs cells slots) (hx : p.tables.exec = Jvm.exec) (hret : meth.sig.returnType = some .long) (hlk : meth.locks = false) {pc : Nat} {Ls : Array Slot} {z : Int64} {rest : List Value} (hd : decode c.code pc = .ok (.lreturn, 1))
    {C S : Nat} {Q : Option Value → Heap → List Loc → Prop} (hC : cells ≤ C) (hS : slots ≤ S) (q : Q (some (.long z)) T.heap locs) :
    Go p e below (fun s₂ o => ∃ v L, o = .returned v ∧ Q v s₂.heap L ∧ FrameEnd s o s₂ L C S) (T.setTop (mkF m pc Ls (.long z :: rest))) :=
  Go.retW X hx hret rfl (Or.inr (Or.inl ⟨rfl, rfl, z, rfl⟩)) hlk hd hC hS q
theorem Go.retA (X : Stand p l e R s m args below meth c T locs cells slots) (hx : p.tables.exec = Jvm.exec) {t : FieldType} (hret : meth.sig.returnType = some t) {w : Value} (ht : t.isReference = true) (hw : w.isRef = true) (hlk : meth.locks = false) {pc : Nat} {Ls : Array Slot} {rest : List Value} (hd : decode c.code pc = .ok (.areturn, 1))
    {C S : Nat} {Q : Option Value → Heap → List Loc → Prop} (hC : cells ≤ C) (hS : slots ≤ S) (q : Q (some w) T.heap locs) :
    Go p e below (fun s₂ o => ∃ v L, o = .returned v ∧ Q v s₂.heap L ∧ FrameEnd s o s₂ L C S) (T.setTop (mkF m pc Ls (w :: rest))) :=
  Go.retW X hx hret (by rcases ref_cases hw with rfl | ⟨a, rfl⟩ <;> cases t <;> first | rfl | cases ht) (Or.inr (Or.inr (Or.inr (Or.inr ⟨rfl, ht, hw⟩)))) hlk hd hC hS q
theorem Go.retV (X : Stand p l e R s m args below meth c T locs cells slots) (hx : p.tables.exec = Jvm.exec) (hret : meth.sig.returnType = none) (hlk : meth.locks = false) {pc : Nat} {Ls : Array Slot} (hd : decode c.code pc = .ok (.return_, 1))
    {C S : Nat} {Q : Option Value → Heap → List Loc → Prop} (hC : cells ≤ C) (hS : slots ≤ S) (q : Q none T.heap locs) :
    Go p e below (fun s₂ o => ∃ v L, o = .returned v ∧ Q v s₂.heap L ∧ FrameEnd s o s₂ L C S) (T.setTop (mkF m pc Ls [])) := by
  obtain ⟨fs, hr, hrun, hended, hW, hsame⟩ := X.leave (v := none) (fun _ => rfl) hlk
  exact ⟨_, _, X.returnOut hx hret hd hr, hrun, hended, _, _, rfl, q, ⟨_, rfl⟩, hW, hsame.mono hC hS⟩
end Own
theorem own_self {Z s : State} {a0 args : Array Value} {y : MethodName} {n : Nat} (hZ : Z.Warmed39 s.vm) (wi : (Cond.instantiable y.cls n).before a0 Z = true) (wp : (Cond.privateMethod y).before a0 Z = true) (wm : (Cond.instanceMethod y).before a0 Z = true) (hy : y.cls ≠ "java/lang/invoke/MethodHandle" ∧ y.cls ≠ "java/lang/invoke/VarHandle") : (Cond.selects y.cls y y).before args s = true := by
  have wi' : (Cond.instantiable y.cls n).before args s = true := mv hZ wi
  obtain ⟨c, k, i1, i2, -, i4, -⟩ := Cond.instantiable_spec wi'
  simp only [Bool.or_eq_false_iff] at i4
  exact selects_self_of_private i1 i2 i4.1 (Cond.privateMethod_at (mvP hZ wp (args := #[]))) (mv hZ wm) hy
section OwnAV
variable {Z : State} {h h' : Heap} {a b : Addr} {ty : FieldType} {n : Int32} {ws : List Addr} {sl : Nat} {v d : Value} {k : ClassId} {vs : List Value}
def AV (Z : State) (h : Heap) (a : Addr) (ty : FieldType) (n : Int32) : Prop := ∃ c : Cell, Arr Z h a c ty ∧ c.slots.size = n.toNatClampNeg ∧ ¬ n < 0 ∧ ∀ (i : Nat) (v : Value), c.slots[i]? = some v → fits ty v = true
theorem AV.lt (F : AV Z h a ty n) : a < h.size := by obtain ⟨c, A, -⟩ := F; exact A.lt
theorem AV.ext (F : AV Z h a ty n) (E : Ext h h') : AV Z h' a ty n := by obtain ⟨c, A, r⟩ := F; exact ⟨c, A.ext E, r⟩
theorem AV.other (F : AV Z h a ty n) (W : Wr h h' b sl v) (q : a ≠ b) : AV Z h' a ty n := by obtain ⟨c, A, r⟩ := F; exact ⟨c, A.other W q, r⟩
theorem AV.keep (F : AV Z h a ty n) (K : Keep h h' ws) (q : a ∉ ws) : AV Z h' a ty n := by obtain ⟨c, A, r⟩ := F; exact ⟨c, ⟨K.2.1 a c A.1 q, A.2⟩, r⟩
theorem AV.of (F : Arv Z h a k ty n vs d) : AV Z h a ty n := by
  obtain ⟨c, A, -, S, q, H, G⟩ := F
  refine ⟨c, A, S, q, fun i w hw => ?_⟩
  have hi := (Array.getElem?_eq_some_iff.mp hw).1
  have := H i hi
  rw [hw] at this
  rw [Option.some.inj this]; exact G i hi
theorem AV.new (A : Arr Z h a (newA k ty n) ty) (q : ¬ n < 0) (fd : fits ty (defaultValue ty) = true) : AV Z h a ty n := by
  refine ⟨_, A, sz_new _ _ _, q, fun i w hw => ?_⟩
  simp only [newA, Array.getElem?_replicate] at hw
  split at hw
  · cases hw; exact fd
  · cases hw
theorem AV.set {c : Cell} (A : Arr Z h a c ty) (S : c.slots.size = n.toNatClampNeg) (q : ¬ n < 0) (G : ∀ (i : Nat) (v : Value), c.slots[i]? = some v → fits ty v = true) (hv : fits ty v = true) (W : Wr h h' a sl v) : AV Z h' a ty n := by
  refine ⟨_, A.same W, by rw [sz_set]; exact S, q, fun i w hw => ?_⟩
  by_cases e : sl = i
  · subst e
    have hi := (Array.getElem?_eq_some_iff.mp hw).1
    simp only [Cell.setSlot, Array.size_setIfInBounds] at hi
    simp [Cell.setSlot, hi] at hw
    subst hw; exact hv
  · simp only [Cell.setSlot] at hw
    rw [Array.getElem?_setIfInBounds_ne e] at hw
    exact G i w hw
theorem AV.arv (F : AV Z h a ty n) (d : Value) : ∃ k vs, Arv Z h a k ty n vs d ∧ vs.length = n.toNatClampNeg := by
  obtain ⟨c, A, S, q, G⟩ := F
  refine ⟨c.cls, c.slots.toList, ⟨c, A, rfl, S, q, fun i hi => ?_, fun i hi => ?_⟩, by simpa using S⟩
  · simp [List.getD_eq_getElem?_getD, hi]
  · refine G i _ ?_
    simp [List.getD_eq_getElem?_getD, hi]
end OwnAV
section OwnW
variable {p : Program} {l : Launch} {e : Env} {R : Room} {s : State} {m : MethodId} {args : Array Value} {below : List Frame} {meth : Method} {c : Code} {T : State} {locs : List Loc} {cells slots : Nat} {Z : State} {a0 : Array Value} {h h' : Heap} {vm0 vm1 : Vm} {k k' : Nat}
theorem Go.retVS (X : Stand p l e R (s.setVm vm0) m args below meth c T locs cells slots) (hx : p.tables.exec = Jvm.exec) (hret : meth.sig.returnType = none) (hlk : meth.locks = false) {n : Nat} (hSi : s.Since vm0 n) (hn : n ≤ T.heap.size) {pc : Nat} {Ls : Array Slot} (hd : decode c.code pc = .ok (.return_, 1))
    {C S : Nat} {Q : Option Value → Vm → Heap → List Loc → Prop} (hC : cells ≤ C) (hS : slots ≤ S) (q : ∀ vm2, (s.setVm vm0).WarmedH vm2 → Q none vm2 T.heap locs) :
    Go p e below (fun s₂ o => ∃ v L, o = .returned v ∧ Q v s₂.vm s₂.heap L ∧ ReturnedEndW s o s₂ L C S) (T.setTop (mkF m pc Ls [])) := by
  obtain ⟨fs, hr, hrun, hended, h1, h2, h3, h4⟩ := X.leaveW hSi hn (v := none) (fun _ => rfl) hlk
  exact ⟨_, _, X.returnOut hx hret hd hr, hrun, hended, _, _, rfl, q _ X.warmed, h1, h2, h3, h4.mono hC hS⟩
theorem Go.retAS (X : Stand p l e R (s.setVm vm0) m args below meth c T locs cells slots) (hx : p.tables.exec = Jvm.exec) {t : FieldType} (hret : meth.sig.returnType = some t) (hlk : meth.locks = false) {w : Value} (ht : t.isReference = true) (hw : w.isRef = true) {n : Nat} (hSi : s.Since vm0 n) (hn : n ≤ T.heap.size) {pc : Nat} {Ls : Array Slot} {rest : List Value} (hd : decode c.code pc = .ok (.areturn, 1))
    {C S : Nat} {Q : Option Value → Vm → Heap → List Loc → Prop} (hC : cells ≤ C) (hS : slots ≤ S) (q : ∀ vm2, (s.setVm vm0).WarmedH vm2 → Q (some w) vm2 T.heap locs) :
    Go p e below (fun s₂ o => ∃ v L, o = .returned v ∧ Q v s₂.vm s₂.heap L ∧ ReturnedEndW s o s₂ L C S) (T.setTop (mkF m pc Ls (w :: rest))) := by
  obtain ⟨fs, hr, hrun, hended, h1, h2, h3, h4⟩ := X.leaveW hSi hn (v := some w) (fun h => by rw [hret] at h; cases h) hlk
  exact ⟨_, _, retOut X hx hret (by rcases ref_cases hw with rfl | ⟨a, rfl⟩ <;> cases t <;> first | rfl | cases ht) (Or.inr (Or.inr (Or.inr (Or.inr ⟨rfl, ht, hw⟩)))) hd hr, hrun, hended, _, _, rfl, q _ X.warmed, h1, h2, h3, h4.mono hC hS⟩
theorem Go.retNS (X : Stand p l e R (s.setVm vm0) m args below meth c T locs cells slots) (hx : p.tables.exec = Jvm.exec) {t : FieldType} (hret : meth.sig.returnType = some t) (ht : t = .boolean ∨ t = .byte ∨ t = .char ∨ t = .short) (hlk : meth.locks = false) {n : Nat} (hSi : s.Since vm0 n) (hn : n ≤ T.heap.size) {pc : Nat} {Ls : Array Slot} {z : Int32} {rest : List Value} (hd : decode c.code pc = .ok (.ireturn, 1))
    {C S : Nat} {Q : Option Value → Vm → Heap → List Loc → Prop} (hC : cells ≤ C) (hS : slots ≤ S) (q : ∀ vm2, (s.setVm vm0).WarmedH vm2 → Q (some (.int (nar t z))) vm2 T.heap locs) :
    Go p e below (fun s₂ o => ∃ v L, o = .returned v ∧ Q v s₂.vm s₂.heap L ∧ ReturnedEndW s o s₂ L C S) (T.setTop (mkF m pc Ls (.int z :: rest))) := by
  obtain ⟨fs, hr, hrun, hended, h1, h2, h3, h4⟩ := X.leaveW hSi hn (v := some (.int (nar t z))) (fun h => by rw [hret] at h; cases h) hlk
  exact ⟨_, _, Jvm.RoadKit.retN X hx hret ht hd hr, hrun, hended, _, _, rfl, q _ X.warmed, h1, h2, h3, h4.mono hC hS⟩
/-- what is known of the constant "": nothing interned yet, or booked, and the empty String -/
def JE (Z : State) (vm : Vm) (h : Heap) (k : Nat) : Prop :=
  IB Z vm [] ∨ ∃ a b kb, Lit (Z.setVm vm) "java/lang/String" 7 a ∧ a < k ∧ b < k ∧ Exa Z h a "java/lang/String" ∧ Fld Z h a "java/lang/String" "coder" "B" (.int (0 : Int32)) ∧ Fld Z h a "java/lang/String" "value" "[B" (.ref b) ∧ Arv Z h b kb .byte (0 : Int32) [] (.int (0 : Int32))
theorem JE.warm (J : JE Z vm0 h k) (hW : (s.setVm vm0).WarmedH vm1) : JE Z vm1 h k := by
  rcases J with ⟨more, e, hm⟩ | ⟨a, b, kb, L, r⟩
  · exact Or.inl ⟨more, hW.interned_eq.trans e, hm⟩
  · exact Or.inr ⟨a, b, kb, Lit.stays (s := s) L hW.wide, r⟩
theorem JE.mono (J : JE Z vm0 h k) (hk : k ≤ k') : JE Z vm0 h k' := by
  rcases J with J | ⟨a, b, kb, L, ha, hb, r⟩
  · exact Or.inl J
  · exact Or.inr ⟨a, b, kb, L, Nat.lt_of_lt_of_le ha hk, Nat.lt_of_lt_of_le hb hk, r⟩
theorem JE.keep {ws : List Addr} (J : JE Z vm0 h k) (K : Keep h h' ws) (hws : ∀ x ∈ ws, k ≤ x) : JE Z vm0 h' k := by
  rcases J with J | ⟨a, b, kb, L, ha, hb, r1, r2, r3, r4⟩
  · exact Or.inl J
  · have na : a ∉ ws := fun q => absurd ha (Nat.not_lt.mpr (hws _ q))
    have nb : b ∉ ws := fun q => absurd hb (Nat.not_lt.mpr (hws _ q))
    exact Or.inr ⟨a, b, kb, L, ha, hb, r1.keep K, r2.keep K na, r3.keep K na, r4.keep K nb⟩
theorem Fr.le {L : List Loc} (N : Fr k' L) (hk : k ≤ k') : Fr k L := fun y q => Nat.le_trans hk (N y q)
theorem own_EX (X : Stand p l e R (s.setVm vm0) m args below meth c T locs cells slots) (eT : T.heap = h) (N : Fr k locs) (hk : Z.heap.size ≤ k) (hh : s.heap = h') (H : Ext Z.heap h') : Ext Z.heap h := by
  subst hh eT
  refine ⟨?_, fun b cl hcl => ?_⟩
  · exact Nat.le_trans H.1 X.same.2.1
  · obtain ⟨c', h1, h2, -, h4⟩ := X.same.2.2.2.2.2 b cl (H.2 b cl hcl)
    have hb := (Array.getElem?_eq_some_iff.mp hcl).1
    have hsl : c'.slots = cl.slots := Array.ext_getElem? fun i => h4 i fun hm => absurd (N _ hm) (Nat.not_le.mpr (Nat.lt_of_lt_of_le hb hk))
    have hcc : c' = cl := by rw [h2, hsl]
    rw [← hcc]; exact h1
theorem own_backJ {y : MethodName} {bytes : ByteArray} {maxL : Nat} {ret : Option FieldType} {rm : Room} {len W : Nat} {as' : Array Value} {Q : Option Value → Vm → Heap → List Loc → Prop} {PU : Vm → Prop}
    (hM : MetFree l y (head1 [Cond.code y bytes maxL ret] rm) (fun a U => a = as' ∧ Z.Warmed39 U.vm ∧ U.heap = h ∧ PU U.vm) (fun _ _ _ _ _ => True) (fun _ U o U' => ∃ v L, o = .returned v ∧ Q v U'.vm U'.heap L ∧ ReturnedEndW U o U' L rm.cells rm.slots))
    (hZ : Z.Warmed39 s.vm) (wc : (Cond.code y bytes maxL ret).before a0 Z = true) (wz : (Cond.initialized y.cls).before a0 Z = true) (hf : rm.frames + 1 ≤ R.frames) (hl : W + (maxL + 11) + rm.locals ≤ R.locals) :
    BackS l R p e below s args y len W (fun A a => a = as' ∧ A.U.heap = h ∧ A.cells + rm.cells ≤ R.cells ∧ A.slots + rm.slots ≤ R.slots ∧ PU A.U.vm)
      (fun A _ v B => ∃ L, Q v B.U.vm B.U.heap L ∧ B.locs = A.locs ++ L ∧ B.cells = A.cells + rm.cells ∧ B.slots = A.slots + rm.slots) :=
  BackS.of_freeW (bytes := bytes) (maxL := maxL) (ret := ret) (E := fun _ _ o t L k n => k = rm.cells ∧ n = rm.slots ∧ ∃ v, o = .returned v ∧ Q v t.vm t.heap L) hM hf hl
    (fun m meth c A a Y hp => have hU : Z.Warmed39 A.U.vm := wtrans hZ Y.warmed
      ⟨by show (Cond.and _ .tt).before a A.U = true; rw [Cond.before_and, mv hU wc]; rfl, mv hU wc, mv hU wz, hp.2.2.1, hp.2.2.2.1⟩)
    (fun m meth c A a g mk Y hp => ⟨hp.1, wtrans hZ Y.warmed, hp.2.1, hp.2.2.2.2⟩) (fun _ _ _ _ _ _ _ _ _ => trivial)
    (fun _ _ _ _ ⟨v, L, h1, h2, h3⟩ => ⟨L, _, _, h3, rfl, rfl, v, h1, h2⟩)
    (fun m meth c A a g mk v t L k n Y hp _ _ ⟨e1, e2, v', e3, e4⟩ => by cases e3; subst e1 e2; exact ⟨L, e4, rfl, rfl, rfl⟩)
theorem own_null {C n d : String} {x a : Addr} {b : Addr} (F : Fld Z h x C n d (.ref b)) (G : Fld Z h a C n d .null) : x ≠ a := fun q => by
  subst q
  obtain ⟨c1, cf1, k1, i1, f1, q1, q2, -, -, -, -, q7⟩ := F
  obtain ⟨c2, cf2, k2, i2, f2, r1, r2, -, -, -, -, r7⟩ := G
  cases q1.symm.trans r1
  cases q2.symm.trans r2
  cases q7.symm.trans r7
def own_cs (n c0 c1 : Int32) : List Int32 := if n = 0 then [] else if n = 1 then [c0] else [c0, c1]
def Str (Z : State) (h : Heap) (x : Addr) (t : Addr) (kb : ClassId) (cs : List Int32) : Prop := Exa Z h x "java/lang/String" ∧ Fld Z h x "java/lang/String" "coder" "B" (.int (0 : Int32)) ∧ Fld Z h x "java/lang/String" "value" "[B" (.ref t) ∧ Arv Z h t kb .byte (Int32.ofNat cs.length) ((cs.map fun c => c.toInt8.toInt32).map Value.int) (.int (0 : Int32))
end OwnW

theorem own_sa : ∀ d ∈ Bundle.stringAtoms, d ∈ tables_1 := by decide +kernel
theorem own_ws : ∀ d ∈ StrChars.Road.words, d ∈ tables_1 := by decide +kernel
theorem own_weq : ∀ d ∈ StrChars.Road.wordsEq, d ∈ tables_1 := by decide +kernel
theorem own_255 {c : Int32} (h : ¬ c < 0 ∧ ¬ (255 : Int32) < c) : ∃ k : Fin 256, c = Int32.ofNat k.val := by
  have e0 : (0 : Int32).toInt = 0 := by decide
  have e1 : (255 : Int32).toInt = 255 := by decide
  simp only [Int32.lt_iff_toInt_lt, e0, e1] at h
  refine ⟨⟨c.toInt.toNat, by omega⟩, ?_⟩
  apply Int32.toInt_inj.mp
  rw [Int32.toInt_ofNat_of_lt (by omega)]
  show c.toInt = ((c.toInt.toNat : Nat) : Int)
  omega
theorem own_chr {c : Int32} (h : ¬ c < 0 ∧ ¬ (255 : Int32) < c) : c.toUInt32.toUInt16.toUInt32.toInt32 = c := by
  obtain ⟨k, rfl⟩ := own_255 h
  exact (by decide +kernel : ∀ k : Fin 256, (Int32.ofNat k.val).toUInt32.toUInt16.toUInt32.toInt32 = Int32.ofNat k.val) k
theorem own_one {c : Int32} (h : ¬ c < 0 ∧ ¬ (255 : Int32) < c) : ∀ d ∈ [c], ¬ d < 0 ∧ ¬ (255 : Int32) < d := fun d hd => by cases List.mem_singleton.mp hd; exact h
theorem own_two {c c' : Int32} (h : ¬ c < 0 ∧ ¬ (255 : Int32) < c) (h' : ¬ c' < 0 ∧ ¬ (255 : Int32) < c') : ∀ d ∈ [c, c'], ¬ d < 0 ∧ ¬ (255 : Int32) < d := fun d hd => by
  simp only [List.mem_cons, List.not_mem_nil, or_false] at hd
  rcases hd with rfl | rfl
  · exact h
  · exact h'

theorem d3_0 : decode jdk_42_method_149_code 0 = .ok (.aload_n 0, 1) := by decide +kernel
theorem d3_1 : decode jdk_42_method_149_code 1 = .ok (.invokespecial 1, 3) := by decide +kernel
theorem d3_4 : decode jdk_42_method_149_code 4 = .ok (.iload_n 3, 1) := by decide +kernel
theorem d3_5 : decode jdk_42_method_149_code 5 = .ok (.ifCond .ne 22, 3) := by decide +kernel
theorem d3_8 : decode jdk_42_method_149_code 8 = .ok (.aload_n 0, 1) := by decide +kernel
theorem d3_9 : decode jdk_42_method_149_code 9 = .ok (.ldc 7, 2) := by decide +kernel
theorem d3_11 : decode jdk_42_method_149_code 11 = .ok (.getfield 9, 3) := by decide +kernel
theorem d3_14 : decode jdk_42_method_149_code 14 = .ok (.putfield 9, 3) := by decide +kernel
theorem d3_17 : decode jdk_42_method_149_code 17 = .ok (.aload_n 0, 1) := by decide +kernel
theorem d3_18 : decode jdk_42_method_149_code 18 = .ok (.ldc 7, 2) := by decide +kernel
theorem d3_20 : decode jdk_42_method_149_code 20 = .ok (.getfield 15, 3) := by decide +kernel
theorem d3_23 : decode jdk_42_method_149_code 23 = .ok (.putfield 15, 3) := by decide +kernel
theorem d3_26 : decode jdk_42_method_149_code 26 = .ok (.return_, 1) := by decide +kernel
theorem own_pn0 : plainName "java/lang/String" = true := by first | (simp [plainName, overriddenIn]; done) | decide +kernel
def Q_rm3 (Z : State) (a : Addr) (ca : Addr) (G1 : Int32) (h0 : Heap) (n0 : Nat) (v : Option Value) (vm : Vm) (h : Heap) (L : List Loc) : Prop := v = none ∧ Fr n0 L ∧ Keep h0 h [a] ∧ JE Z vm h h.size ∧ ∃ t kb, Str Z h a t kb []
theorem ef_rm3 (m : MethodId) (a : Addr) (ca : Addr) : entryFrame m #[(.ref a), (.ref ca), (.int (0 : Int32)), (.int (0 : Int32)), .null] 6 = mkF m 0 #[.val (.ref a), .val (.ref ca), .val (.int (0 : Int32)), .val (.int (0 : Int32)), .val .null, .unset] [] := by first | (simp [entryFrame, mkF, argsToLocals, Value.category]; done) | rfl
set_option maxRecDepth 65536 in
set_option maxHeartbeats 40000000 in
theorem rm3 (l : Launch) (Z : State) (a0 : Array Value) (hw : ∀ d ∈ tables_1, d.before a0 Z = true) (ws : List Jvm.Cond) (a : Addr) (ca : Addr) (G1 : Int32) (h0 : Heap) (n0 : Nat) (Z0 : n0 ≤ h0.size) (O2 : Sta Z Z.heap "java/lang/String" "COMPACT_STRINGS" "Z" (.int G1)) (P5 : ¬ G1 = 0) (XE : Ext Z.heap h0) (hz0 : Z.heap.size ≤ n0) (hCH : Jvm.Lit.constHeld Z "java/lang/String" 7) (hCW : Jvm.Lit.compactW.before a0 Z = true) (E_a : Exa Z h0 a "java/lang/String") (F_v : Fld Z h0 a "java/lang/String" "value" "[B" .null) (F_c : Fld Z h0 a "java/lang/String" "coder" "B" (.int (0 : Int32))) (gn_a : n0 ≤ a) :
    MetFree l (⟨"java/lang/String", "<init>", "([CIILjava/lang/Void;)V"⟩ : MethodName) (head1 (Jvm.Cond.code (⟨"java/lang/String", "<init>", "([CIILjava/lang/Void;)V"⟩ : MethodName) jdk_42_method_149_code 6 none :: ws) ({ frames := 1, cells := 2, slots := 4, locals := 12 } : Room)) (fun ag_ U_ => ag_ = #[(.ref a), (.ref ca), (.int (0 : Int32)), (.int (0 : Int32)), .null] ∧ Z.Warmed39 U_.vm ∧ U_.heap = h0 ∧ (fun vm_ => JE Z vm_ h0 n0) U_.vm) (fun _ _ _ _ _ => True) (fun _ U_ o_ V_ => ∃ v_ L_, o_ = .returned v_ ∧ (Q_rm3 Z a ca G1 h0 n0) v_ V_.vm V_.heap L_ ∧ ReturnedEndW U_ o_ V_ L_ ({ frames := 1, cells := 2, slots := 4, locals := 12 } : Room).cells ({ frames := 1, cells := 2, slots := 4, locals := 12 } : Room).slots) := by
  refine MetFree.of_bodySF (plainFor_of_name own_pn0) hisR ?_
  intro p e s m args below meth c s₁ Bd hml0 hP hK
  obtain ⟨rfl, hZ0, hh, J0⟩ := hP
  have hx := Bd.exec
  have hby := Bd.bytes
  have hml : c.maxLocals = 6 := hml0
  have hZ : Z.Warmed39 (s.setVm s.vm).vm := hZ0
  have hown : (s.setVm s.vm).vm.findClass "java/lang/String" = some m.cls := findClass_of_methodNamed Bd.named
  have hnm := (name_of_methodNamed Bd.named Bd.method).1
  have hSA : ∀ d ∈ Bundle.stringAtoms, d.before a0 Z = true := fun d hd => hw d (own_sa d hd)
  have hS0 : s.Since s.vm h0.size := (State.WarmedH.refl s).since _
  have X0 : Stand p l e ({ frames := 1, cells := 2, slots := 4, locals := 12 } : Room) (s.setVm s.vm) m #[(.ref a), (.ref ca), (.int (0 : Int32)), (.int (0 : Int32)), .null] below meth c s₁ [] 0 0 := Stand.of_body Bd
  have e0 : s₁.heap = h0 := by rw [← hh, Bd.state]; rfl
  have N0 := Fr.nil n0
  refine Go.st (G := fun s₂ o_ => ∃ v_ L_, o_ = .returned v_ ∧ (Q_rm3 Z a ca G1 h0 n0) v_ s₂.vm s₂.heap L_ ∧ ReturnedEndW s o_ s₂ L_ ({ frames := 1, cells := 2, slots := 4, locals := 12 } : Room).cells ({ frames := 1, cells := 2, slots := 4, locals := 12 } : Room).slots) (fun t kt => castTop (ef_rm3 m a ca) kt) ?_
  show Go p e below _ (s₁.setTop (mkF m 0 #[.val (.ref a), .val (.ref ca), .val (.int (0 : Int32)), .val (.int (0 : Int32)), .val .null, .unset] []))
  refine Go.st (fun _ kt => XS.aloadN X0.here hx rfl (hb hby d3_0) rfl rfl kt) ?_
  show Go p e below _ (s₁.setTop (mkF m 1 #[.val (.ref a), .val (.ref ca), .val (.int (0 : Int32)), .val (.int (0 : Int32)), .val .null, .unset] [(.ref a)]))
  obtain ⟨T1, X1, e1, st1⟩ := initO X0 hx hZ hown (hw _ (List.mem_of_getElem? (i := 15) rfl)) (hw _ (List.mem_of_getElem? (i := 16) rfl)) (hw _ (List.mem_of_getElem? (i := 17) rfl)) e0 (g := (mkF m 1 #[.val (.ref a), .val (.ref ca), .val (.int (0 : Int32)), .val (.int (0 : Int32)), .val .null, .unset] [(.ref a)])) rfl (by rw [hml]; rfl) rfl (hb hby d3_1) (by decide) (W := 0) (by show 2 * 0 + _ ≤ _; exact Nat.le_of_eq rfl) (by decide)
  refine Go.st st1 ?_
  show Go p e below _ (T1.setTop (mkF m 4 #[.val (.ref a), .val (.ref ca), .val (.int (0 : Int32)), .val (.int (0 : Int32)), .val .null, .unset] []))
  refine Go.st (fun _ kt => XS.iloadN X1.here hx rfl (hb hby d3_4) rfl kt) ?_
  show Go p e below _ (T1.setTop (mkF m 5 #[.val (.ref a), .val (.ref ca), .val (.int (0 : Int32)), .val (.int (0 : Int32)), .val .null, .unset] [(.int (0 : Int32))]))
  refine Go.st (fun _ kt => XS.ifNo X1.here hx rfl (hb hby d3_5) rfl ((if0 _ _).trans (teq (by decide : (0 : Int32) = (0 : Int32))).2) kt) ?_
  show Go p e below _ (T1.setTop (mkF m 8 #[.val (.ref a), .val (.ref ca), .val (.int (0 : Int32)), .val (.int (0 : Int32)), .val .null, .unset] []))
  refine Go.st (fun _ kt => XS.aloadN X1.here hx rfl (hb hby d3_8) rfl rfl kt) ?_
  show Go p e below _ (T1.setTop (mkF m 9 #[.val (.ref a), .val (.ref ca), .val (.int (0 : Int32)), .val (.int (0 : Int32)), .val .null, .unset] [(.ref a)]))
  rcases J0 with hI | ⟨al, bl, kl, Lt, hal, hbl, El, Cl, Vl, Al⟩
  · obtain ⟨al, T2, h2, kk2, bl, kl, X2, e2, E2, hS2, Gk2, hZ, hown, El, Cl, Vl, Al, hal, hbl, -, Lt, st2⟩ := ldcSVL X1 hx hZ hown (hw _ (List.mem_of_getElem? (i := 34) rfl)) hSA e1 hS0 (Nat.le_refl h0.size) (Fr.nil _) (by rw [hh]; exact XE.2) hI (List.not_mem_nil) hCH hCW (vs := []) (z := 0) ⟨by decide, rfl⟩ (by decide) rfl (g := (mkF m 9 #[.val (.ref a), .val (.ref ca), .val (.int (0 : Int32)), .val (.int (0 : Int32)), .val .null, .unset] [(.ref a)])) rfl (hb hby d3_9) (n := 0) (by decide) (by decide) (by decide) (by decide)
    refine Go.st st2 ?_
    have Zs2 : n0 ≤ h2.size := Nat.le_trans Z0 E2.1
    have K2 : Keep h0 h2 [a] := (Keep.refl h0 [a]).ext E2
    have f3 := (F_v.ext E2)
    have f4 := (E_a.ext E2)
    have nal : al ≠ a := own_null Vl f3
    have nbl : bl ≠ a := Ne.symm (Exa.neArv f4 Al (hw _ (List.mem_of_getElem? (i := 5) rfl)))
    show Go p e below _ (T2.setTop (mkF m 11 #[.val (.ref a), .val (.ref ca), .val (.int (0 : Int32)), .val (.int (0 : Int32)), .val .null, .unset] [(.ref al), (.ref a)]))
    obtain ⟨T5, X5, e5, st5⟩ := getF X2 hx hZ hown (host := "") (Or.inl (hw _ (List.mem_of_getElem? (i := 32) rfl))) Via.refl e2 Vl (g := (mkF m 11 #[.val (.ref a), .val (.ref ca), .val (.int (0 : Int32)), .val (.int (0 : Int32)), .val .null, .unset] [(.ref al), (.ref a)])) rfl rfl (hb hby d3_11)
    refine Go.st st5 ?_
    show Go p e below _ (T5.setTop (mkF m 14 #[.val (.ref a), .val (.ref ca), .val (.int (0 : Int32)), .val (.int (0 : Int32)), .val .null, .unset] [(.ref bl), (.ref a)]))
    obtain ⟨T6, h6, X6, e6, W6, st6⟩ := putF X5 hx hZ hown (host := "") (Or.inl (hw _ (List.mem_of_getElem? (i := 32) rfl))) Via.refl e5 f3 f4 (Or.inr ⟨(hw _ (List.mem_of_getElem? (i := 33) rfl)), rfl, hnm⟩) (hw _ (List.mem_of_getElem? (i := 5) rfl)) (ty := (.array .byte)) (by decide) rfl rfl (g := (mkF m 14 #[.val (.ref a), .val (.ref ca), .val (.int (0 : Int32)), .val (.int (0 : Int32)), .val .null, .unset] [(.ref bl), (.ref a)])) rfl rfl (hb hby d3_14)
    refine Go.st st6 ?_
    have Fw6 := f3.same W6
    have Zs6 : n0 ≤ h6.size := Nat.le_trans Zs2 (Nat.le_of_eq W6.size.symm)
    have N6 := Fr.snoc X6 N0 gn_a
    have Gk6 := Nat.le_trans Gk2 (Nat.le_of_eq W6.size.symm)
    have K6 : Keep h0 h6 [a] := K2.wr W6 (Or.inl (List.mem_of_getElem? (i := 0) rfl))
    show Go p e below _ (T6.setTop (mkF m 17 #[.val (.ref a), .val (.ref ca), .val (.int (0 : Int32)), .val (.int (0 : Int32)), .val .null, .unset] []))
    refine Go.st (fun _ kt => XS.aloadN X6.here hx rfl (hb hby d3_17) rfl rfl kt) ?_
    show Go p e below _ (T6.setTop (mkF m 18 #[.val (.ref a), .val (.ref ca), .val (.int (0 : Int32)), .val (.int (0 : Int32)), .val .null, .unset] [(.ref a)]))
    refine Go.st (ldcAgain X6 hx hZ hown (hw _ (List.mem_of_getElem? (i := 34) rfl)) Lt (g := (mkF m 18 #[.val (.ref a), .val (.ref ca), .val (.int (0 : Int32)), .val (.int (0 : Int32)), .val .null, .unset] [(.ref a)])) rfl (hb hby d3_18)) ?_
    show Go p e below _ (T6.setTop (mkF m 20 #[.val (.ref a), .val (.ref ca), .val (.int (0 : Int32)), .val (.int (0 : Int32)), .val .null, .unset] [(.ref al), (.ref a)]))
    have f7 := (Cl.other W6 (Or.inl nal))
    obtain ⟨T8, X8, e8, st8⟩ := getF X6 hx hZ hown (host := "") (Or.inl (hw _ (List.mem_of_getElem? (i := 30) rfl))) Via.refl e6 f7 (g := (mkF m 20 #[.val (.ref a), .val (.ref ca), .val (.int (0 : Int32)), .val (.int (0 : Int32)), .val .null, .unset] [(.ref al), (.ref a)])) rfl rfl (hb hby d3_20)
    refine Go.st st8 ?_
    show Go p e below _ (T8.setTop (mkF m 23 #[.val (.ref a), .val (.ref ca), .val (.int (0 : Int32)), .val (.int (0 : Int32)), .val .null, .unset] [(.int (0 : Int32)), (.ref a)]))
    have f9 := (f4.wr W6)
    have f10 := ((F_c.ext E2).other W6 (Or.inr (slot_ne (Or.inr (hw _ (List.mem_of_getElem? (i := 31) rfl))) (Or.inr (hw _ (List.mem_of_getElem? (i := 33) rfl))) (by decide) (t := .byte) (t' := (.array .byte)) (by decide) (by decide))))
    obtain ⟨T11, h11, X11, e11, W11, st11⟩ := putFN X8 hx hZ hown (hw _ (List.mem_of_getElem? (i := 30) rfl)) Via.refl e8 f10 f9 (Or.inr ⟨(hw _ (List.mem_of_getElem? (i := 31) rfl)), rfl, hnm⟩) (hw _ (List.mem_of_getElem? (i := 5) rfl)) (ty := .byte) (v' := (.int (0 : Int32))) (by decide) rfl (by decide) (g := (mkF m 23 #[.val (.ref a), .val (.ref ca), .val (.int (0 : Int32)), .val (.int (0 : Int32)), .val .null, .unset] [(.int (0 : Int32)), (.ref a)])) rfl rfl (hb hby d3_23)
    refine Go.st st11 ?_
    have Fw11 := f10.same W11
    have Zs11 : n0 ≤ h11.size := Nat.le_trans Zs6 (Nat.le_of_eq W11.size.symm)
    have N11 := Fr.snoc X11 N6 gn_a
    have Gk11 := Nat.le_trans Gk6 (Nat.le_of_eq W11.size.symm)
    have K11 : Keep h0 h11 [a] := K6.wr W11 (Or.inl (List.mem_of_getElem? (i := 0) rfl))
    show Go p e below _ (T11.setTop (mkF m 26 #[.val (.ref a), .val (.ref ca), .val (.int (0 : Int32)), .val (.int (0 : Int32)), .val .null, .unset] []))
    refine Go.retVS X11 hx Bd.returns (BodyLoose.notSynchronized Bd) hS2 (by rw [e11]; exact Gk11) (hb hby d3_26) (Q := (Q_rm3 Z a ca G1 h0 n0)) (by decide) (by decide) ?_
    intro vm2 hW2
    show (Q_rm3 Z a ca G1 h0 n0) _ vm2 T11.heap _
    rw [e11]
    have f12 := ((El.wr W6).wr W11)
    have f13 := ((Al.other W6 nbl).other W11 nbl)
    have f14 := (f7.other W11 (Or.inl nal))
    have f15 := ((Vl.other W6 (Or.inl nal)).other W11 (Or.inl nal))
    have f16 := (f9.wr W11)
    have f17 := (Fw6.other W11 (Or.inr (slot_ne (Or.inr (hw _ (List.mem_of_getElem? (i := 33) rfl))) (Or.inr (hw _ (List.mem_of_getElem? (i := 31) rfl))) (by decide) (t := (.array .byte)) (t' := .byte) (by decide) (by decide))))
    exact ⟨rfl, N11, K11, Or.inr ⟨al, bl, kl, Lit.stays (s := s) Lt hW2.wide, f12.lt, f13.lt, f12, f14, f15, f13⟩, bl, kl, f16, Fw11, f17, f13⟩
  · refine Go.st (ldcAgain (s := s) (vm0 := s.vm) X1 hx hZ hown (hw _ (List.mem_of_getElem? (i := 34) rfl)) Lt (g := (mkF m 9 #[.val (.ref a), .val (.ref ca), .val (.int (0 : Int32)), .val (.int (0 : Int32)), .val .null, .unset] [(.ref a)])) rfl (hb hby d3_9)) ?_
    have nal : al ≠ a := Nat.ne_of_lt (Nat.lt_of_lt_of_le hal gn_a)
    have nbl : bl ≠ a := Nat.ne_of_lt (Nat.lt_of_lt_of_le hbl gn_a)
    have X1m := X1.more (by decide : 0 ≤ 2) (by decide : 0 ≤ 4)
    show Go p e below _ (T1.setTop (mkF m 11 #[.val (.ref a), .val (.ref ca), .val (.int (0 : Int32)), .val (.int (0 : Int32)), .val .null, .unset] [(.ref al), (.ref a)]))
    obtain ⟨T19, X19, e19, st19⟩ := getF X1m hx hZ hown (host := "") (Or.inl (hw _ (List.mem_of_getElem? (i := 32) rfl))) Via.refl e1 Vl (g := (mkF m 11 #[.val (.ref a), .val (.ref ca), .val (.int (0 : Int32)), .val (.int (0 : Int32)), .val .null, .unset] [(.ref al), (.ref a)])) rfl rfl (hb hby d3_11)
    refine Go.st st19 ?_
    show Go p e below _ (T19.setTop (mkF m 14 #[.val (.ref a), .val (.ref ca), .val (.int (0 : Int32)), .val (.int (0 : Int32)), .val .null, .unset] [(.ref bl), (.ref a)]))
    obtain ⟨T20, h20, X20, e20, W20, st20⟩ := putF X19 hx hZ hown (host := "") (Or.inl (hw _ (List.mem_of_getElem? (i := 32) rfl))) Via.refl e19 F_v E_a (Or.inr ⟨(hw _ (List.mem_of_getElem? (i := 33) rfl)), rfl, hnm⟩) (hw _ (List.mem_of_getElem? (i := 5) rfl)) (ty := (.array .byte)) (by decide) rfl rfl (g := (mkF m 14 #[.val (.ref a), .val (.ref ca), .val (.int (0 : Int32)), .val (.int (0 : Int32)), .val .null, .unset] [(.ref bl), (.ref a)])) rfl rfl (hb hby d3_14)
    refine Go.st st20 ?_
    have Fw20 := F_v.same W20
    have Zs20 : n0 ≤ h20.size := Nat.le_trans Z0 (Nat.le_of_eq W20.size.symm)
    have N20 := Fr.snoc X20 N0 gn_a
    have Gk20 := Nat.le_trans (Nat.le_refl h0.size) (Nat.le_of_eq W20.size.symm)
    have K20 : Keep h0 h20 [a] := (Keep.refl h0 [a]).wr W20 (Or.inl (List.mem_of_getElem? (i := 0) rfl))
    show Go p e below _ (T20.setTop (mkF m 17 #[.val (.ref a), .val (.ref ca), .val (.int (0 : Int32)), .val (.int (0 : Int32)), .val .null, .unset] []))
    refine Go.st (fun _ kt => XS.aloadN X20.here hx rfl (hb hby d3_17) rfl rfl kt) ?_
    show Go p e below _ (T20.setTop (mkF m 18 #[.val (.ref a), .val (.ref ca), .val (.int (0 : Int32)), .val (.int (0 : Int32)), .val .null, .unset] [(.ref a)]))
    refine Go.st (ldcAgain X20 hx hZ hown (hw _ (List.mem_of_getElem? (i := 34) rfl)) Lt (g := (mkF m 18 #[.val (.ref a), .val (.ref ca), .val (.int (0 : Int32)), .val (.int (0 : Int32)), .val .null, .unset] [(.ref a)])) rfl (hb hby d3_18)) ?_
    show Go p e below _ (T20.setTop (mkF m 20 #[.val (.ref a), .val (.ref ca), .val (.int (0 : Int32)), .val (.int (0 : Int32)), .val .null, .unset] [(.ref al), (.ref a)]))
    have f21 := (Cl.other W20 (Or.inl nal))
    obtain ⟨T22, X22, e22, st22⟩ := getF X20 hx hZ hown (host := "") (Or.inl (hw _ (List.mem_of_getElem? (i := 30) rfl))) Via.refl e20 f21 (g := (mkF m 20 #[.val (.ref a), .val (.ref ca), .val (.int (0 : Int32)), .val (.int (0 : Int32)), .val .null, .unset] [(.ref al), (.ref a)])) rfl rfl (hb hby d3_20)
    refine Go.st st22 ?_
    show Go p e below _ (T22.setTop (mkF m 23 #[.val (.ref a), .val (.ref ca), .val (.int (0 : Int32)), .val (.int (0 : Int32)), .val .null, .unset] [(.int (0 : Int32)), (.ref a)]))
    have f23 := (E_a.wr W20)
    have f24 := (F_c.other W20 (Or.inr (slot_ne (Or.inr (hw _ (List.mem_of_getElem? (i := 31) rfl))) (Or.inr (hw _ (List.mem_of_getElem? (i := 33) rfl))) (by decide) (t := .byte) (t' := (.array .byte)) (by decide) (by decide))))
    obtain ⟨T25, h25, X25, e25, W25, st25⟩ := putFN X22 hx hZ hown (hw _ (List.mem_of_getElem? (i := 30) rfl)) Via.refl e22 f24 f23 (Or.inr ⟨(hw _ (List.mem_of_getElem? (i := 31) rfl)), rfl, hnm⟩) (hw _ (List.mem_of_getElem? (i := 5) rfl)) (ty := .byte) (v' := (.int (0 : Int32))) (by decide) rfl (by decide) (g := (mkF m 23 #[.val (.ref a), .val (.ref ca), .val (.int (0 : Int32)), .val (.int (0 : Int32)), .val .null, .unset] [(.int (0 : Int32)), (.ref a)])) rfl rfl (hb hby d3_23)
    refine Go.st st25 ?_
    have Fw25 := f24.same W25
    have Zs25 : n0 ≤ h25.size := Nat.le_trans Zs20 (Nat.le_of_eq W25.size.symm)
    have N25 := Fr.snoc X25 N20 gn_a
    have Gk25 := Nat.le_trans Gk20 (Nat.le_of_eq W25.size.symm)
    have K25 : Keep h0 h25 [a] := K20.wr W25 (Or.inl (List.mem_of_getElem? (i := 0) rfl))
    show Go p e below _ (T25.setTop (mkF m 26 #[.val (.ref a), .val (.ref ca), .val (.int (0 : Int32)), .val (.int (0 : Int32)), .val .null, .unset] []))
    refine Go.retVS X25 hx Bd.returns (BodyLoose.notSynchronized Bd) hS0 (by rw [e25]; exact Gk25) (hb hby d3_26) (Q := (Q_rm3 Z a ca G1 h0 n0)) (by decide) (by decide) ?_
    intro vm2 hW2
    show (Q_rm3 Z a ca G1 h0 n0) _ vm2 T25.heap _
    rw [e25]
    have f26 := ((El.wr W20).wr W25)
    have f27 := ((Al.other W20 nbl).other W25 nbl)
    have f28 := (f21.other W25 (Or.inl nal))
    have f29 := ((Vl.other W20 (Or.inl nal)).other W25 (Or.inl nal))
    have f30 := (f23.wr W25)
    have f31 := (Fw20.other W25 (Or.inr (slot_ne (Or.inr (hw _ (List.mem_of_getElem? (i := 33) rfl))) (Or.inr (hw _ (List.mem_of_getElem? (i := 31) rfl))) (by decide) (t := (.array .byte)) (t' := .byte) (by decide) (by decide))))
    exact ⟨rfl, N25, K25, Or.inr ⟨al, bl, kl, Lit.stays (s := s) Lt hW2.wide, f26.lt, f27.lt, f26, f28, f29, f27⟩, bl, kl, f30, Fw25, f31, f27⟩
theorem own_pd1 : parseMethodDescriptor "([CIILjava/lang/Void;)V" = some ⟨[(.array .char), .int, .int, (.object "java/lang/Void")], none⟩ := by decide +kernel
theorem d2_0 : decode jdk_42_method_3_code 0 = .ok (.aload_n 0, 1) := by decide +kernel
theorem d2_1 : decode jdk_42_method_3_code 1 = .ok (.aload_n 1, 1) := by decide +kernel
theorem d2_2 : decode jdk_42_method_3_code 2 = .ok (.iconst 0, 1) := by decide +kernel
theorem d2_3 : decode jdk_42_method_3_code 3 = .ok (.aload_n 1, 1) := by decide +kernel
theorem d2_4 : decode jdk_42_method_3_code 4 = .ok (.arraylength, 1) := by decide +kernel
theorem d2_5 : decode jdk_42_method_3_code 5 = .ok (.aconst_null, 1) := by decide +kernel
theorem d2_6 : decode jdk_42_method_3_code 6 = .ok (.invokespecial 27, 3) := by decide +kernel
theorem d2_9 : decode jdk_42_method_3_code 9 = .ok (.return_, 1) := by decide +kernel
def Q_rm2 (Z : State) (a : Addr) (ca : Addr) (kc : ClassId) (G1 : Int32) (h0 : Heap) (n0 : Nat) (v : Option Value) (vm : Vm) (h : Heap) (L : List Loc) : Prop := v = none ∧ Fr n0 L ∧ Keep h0 h [a] ∧ JE Z vm h h.size ∧ ∃ t kb, Str Z h a t kb []
theorem ef_rm2 (m : MethodId) (a : Addr) (ca : Addr) : entryFrame m #[(.ref a), (.ref ca)] 2 = mkF m 0 #[.val (.ref a), .val (.ref ca)] [] := by first | (simp [entryFrame, mkF, argsToLocals, Value.category]; done) | rfl
set_option maxRecDepth 65536 in
set_option maxHeartbeats 40000000 in
theorem rm2 (l : Launch) (Z : State) (a0 : Array Value) (hw : ∀ d ∈ tables_1, d.before a0 Z = true) (ws : List Jvm.Cond) (a : Addr) (ca : Addr) (kc : ClassId) (G1 : Int32) (h0 : Heap) (n0 : Nat) (Z0 : n0 ≤ h0.size) (O2 : Sta Z Z.heap "java/lang/String" "COMPACT_STRINGS" "Z" (.int G1)) (P5 : ¬ G1 = 0) (XE : Ext Z.heap h0) (hz0 : Z.heap.size ≤ n0) (hCH : Jvm.Lit.constHeld Z "java/lang/String" 7) (hCW : Jvm.Lit.compactW.before a0 Z = true) (E_a : Exa Z h0 a "java/lang/String") (F_v : Fld Z h0 a "java/lang/String" "value" "[B" .null) (F_c : Fld Z h0 a "java/lang/String" "coder" "B" (.int (0 : Int32))) (gn_a : n0 ≤ a) (A_c : Arv Z h0 ca kc .char (0 : Int32) [] (.int (0 : Int32))) :
    MetFree l (⟨"java/lang/String", "<init>", "([C)V"⟩ : MethodName) (head1 (Jvm.Cond.code (⟨"java/lang/String", "<init>", "([C)V"⟩ : MethodName) jdk_42_method_3_code 2 none :: ws) ({ frames := 2, cells := 2, slots := 4, locals := 29 } : Room)) (fun ag_ U_ => ag_ = #[(.ref a), (.ref ca)] ∧ Z.Warmed39 U_.vm ∧ U_.heap = h0 ∧ (fun vm_ => JE Z vm_ h0 n0) U_.vm) (fun _ _ _ _ _ => True) (fun _ U_ o_ V_ => ∃ v_ L_, o_ = .returned v_ ∧ (Q_rm2 Z a ca kc G1 h0 n0) v_ V_.vm V_.heap L_ ∧ ReturnedEndW U_ o_ V_ L_ ({ frames := 2, cells := 2, slots := 4, locals := 29 } : Room).cells ({ frames := 2, cells := 2, slots := 4, locals := 29 } : Room).slots) := by
  refine MetFree.of_bodySF (plainFor_of_name own_pn0) hisR ?_
  intro p e s m args below meth c s₁ Bd hml0 hP hK
  obtain ⟨rfl, hZ0, hh, J0⟩ := hP
  have hx := Bd.exec
  have hby := Bd.bytes
  have hml : c.maxLocals = 2 := hml0
  have hZ : Z.Warmed39 (s.setVm s.vm).vm := hZ0
  have hown : (s.setVm s.vm).vm.findClass "java/lang/String" = some m.cls := findClass_of_methodNamed Bd.named
  have hnm := (name_of_methodNamed Bd.named Bd.method).1
  have hSA : ∀ d ∈ Bundle.stringAtoms, d.before a0 Z = true := fun d hd => hw d (own_sa d hd)
  have hS0 : s.Since s.vm h0.size := (State.WarmedH.refl s).since _
  have X0 : Stand p l e ({ frames := 2, cells := 2, slots := 4, locals := 29 } : Room) (s.setVm s.vm) m #[(.ref a), (.ref ca)] below meth c s₁ [] 0 0 := Stand.of_body Bd
  have e0 : s₁.heap = h0 := by rw [← hh, Bd.state]; rfl
  have N0 := Fr.nil n0
  refine Go.st (G := fun s₂ o_ => ∃ v_ L_, o_ = .returned v_ ∧ (Q_rm2 Z a ca kc G1 h0 n0) v_ s₂.vm s₂.heap L_ ∧ ReturnedEndW s o_ s₂ L_ ({ frames := 2, cells := 2, slots := 4, locals := 29 } : Room).cells ({ frames := 2, cells := 2, slots := 4, locals := 29 } : Room).slots) (fun t kt => castTop (ef_rm2 m a ca) kt) ?_
  show Go p e below _ (s₁.setTop (mkF m 0 #[.val (.ref a), .val (.ref ca)] []))
  refine Go.st (fun _ kt => XS.aloadN X0.here hx rfl (hb hby d2_0) rfl rfl kt) ?_
  show Go p e below _ (s₁.setTop (mkF m 1 #[.val (.ref a), .val (.ref ca)] [(.ref a)]))
  refine Go.st (fun _ kt => XS.aloadN X0.here hx rfl (hb hby d2_1) rfl rfl kt) ?_
  show Go p e below _ (s₁.setTop (mkF m 2 #[.val (.ref a), .val (.ref ca)] [(.ref ca), (.ref a)]))
  refine Go.st (fun _ kt => XS.iconst X0.here hx rfl (hb hby d2_2) kt) ?_
  show Go p e below _ (s₁.setTop (mkF m 3 #[.val (.ref a), .val (.ref ca)] [(.int (0 : Int32)), (.ref ca), (.ref a)]))
  refine Go.st (fun _ kt => XS.aloadN X0.here hx rfl (hb hby d2_3) rfl rfl kt) ?_
  show Go p e below _ (s₁.setTop (mkF m 4 #[.val (.ref a), .val (.ref ca)] [(.ref ca), (.int (0 : Int32)), (.ref ca), (.ref a)]))
  obtain ⟨cl1, Ar1, -, S1, N1', -, -⟩ := id A_c
  refine Go.st (fun _ kt => X0.arraylength hx (by rw [e0]; exact Ar1.1) (State.isArrayOf_alike hZ.alike Ar1.2.1) (g := (mkF m 4 #[.val (.ref a), .val (.ref ca)] [(.ref ca), (.int (0 : Int32)), (.ref ca), (.ref a)])) rfl rfl (hb hby d2_4) _ kt) ?_
  rw [len_of S1 N1']
  show Go p e below _ (s₁.setTop (mkF m 5 #[.val (.ref a), .val (.ref ca)] [(.int (0 : Int32)), (.int (0 : Int32)), (.ref ca), (.ref a)]))
  refine Go.st (fun _ kt => XS.aconstNull X0.here hx rfl (hb hby d2_5) kt) ?_
  show Go p e below _ (s₁.setTop (mkF m 6 #[.val (.ref a), .val (.ref ca)] [.null, (.int (0 : Int32)), (.int (0 : Int32)), (.ref ca), (.ref a)]))
  obtain ⟨_, _, ⟨T2, L2, k2, n2⟩, -, Xb2, hSb2, gr2, ⟨Lc2, hQ2, l2, y2, z2⟩, st2⟩ := X0.specialBackS hx (y := (⟨"java/lang/String", "<init>", "([CIILjava/lang/Void;)V"⟩ : MethodName)) rfl hown (mvT hZ (hw _ (List.mem_of_getElem? (i := 11) rfl))) (mvT hZ (hw _ (List.mem_of_getElem? (i := 12) rfl))) (mvT hZ (hw _ (List.mem_of_getElem? (i := 14) rfl))) (by decide) (own_backJ (PU := fun vm_ => JE Z vm_ h0 n0) (W := 0) (rm3 l Z a0 hw [] a ca G1 h0 n0 Z0 O2 P5 (own_EX X0 e0 N0 hz0 hh XE) hz0 hCH hCW E_a F_v F_c gn_a) hZ (hw _ (List.mem_of_getElem? (i := 14) rfl)) (hw _ (List.mem_of_getElem? (i := 6) rfl)) (by decide) (by decide)) (g := (mkF m 6 #[.val (.ref a), .val (.ref ca)] [.null, (.int (0 : Int32)), (.int (0 : Int32)), (.ref ca), (.ref a)])) rfl (by rw [hml]; rfl) (Steps.refl _) (a := a) (argsL := [(.ref ca), (.int (0 : Int32)), (.int (0 : Int32)), .null]) (rest := []) (lenOf own_pd1 rfl) rfl (by show 2 * 0 + _ ≤ _; exact Nat.le_of_eq rfl) (hb hby d2_6) (fun _ hWm => ⟨rfl, e0, (by decide : 0 + 2 ≤ _), (by decide : 0 + 4 ≤ _), JE.warm (s := s) J0 hWm⟩)
  dsimp only [Pt.U, Pt.locs, Pt.cells, Pt.slots] at Xb2 hSb2 gr2 l2 y2 z2 st2 hQ2
  subst l2 y2 z2
  obtain ⟨X2, hS2, hZ, hown⟩ := rebS hS0 (by rw [e0]; exact (Nat.le_refl h0.size)) Xb2 hSb2 gr2 hZ hown
  obtain ⟨rfl, N2q, K2q, J2, t2, kb2, E2s, C2s, V2s, A2s⟩ := hQ2
  have Zs2 : n0 ≤ T2.heap.size := Nat.le_trans Z0 K2q.1
  have K2 : Keep h0 T2.heap [a] := (Keep.refl h0 [a]).trans K2q (allS (Or.inl (List.mem_of_getElem? (i := 0) rfl)) all0)
  have N2 := Fr.app N0 N2q
  refine Go.tr st2 ?_
  show Go p e below _ (T2.setTop (mkF m 9 #[.val (.ref a), .val (.ref ca)] []))
  refine Go.retVS X2 hx Bd.returns (BodyLoose.notSynchronized Bd) hS2 (Nat.le_refl _) (hb hby d2_9) (Q := (Q_rm2 Z a ca kc G1 h0 n0)) (by decide) (by decide) ?_
  intro vm2 hW2
  show (Q_rm2 Z a ca kc G1 h0 n0) _ vm2 T2.heap _
  exact ⟨rfl, N2, K2, J2.warm hW2, _, _, E2s, C2s, V2s, A2s⟩
theorem own_cs0 {n c0 c1 : Int32} (h : n = 0) : own_cs n c0 c1 = [] := by simp [own_cs, h]
theorem own_cs1 {n c0 c1 : Int32} (h : n = 1) : own_cs n c0 c1 = [c0] := by subst h; rfl
theorem own_cs2 {n c0 c1 : Int32} (h : n = 2) : own_cs n c0 c1 = [c0, c1] := by subst h; rfl
theorem own_csb {n c0 c1 : Int32} (h0 : ¬ c0 < 0 ∧ ¬ (255 : Int32) < c0) (h1 : ¬ c1 < 0 ∧ ¬ (255 : Int32) < c1) : ∀ c ∈ own_cs n c0 c1, ¬ c < 0 ∧ ¬ (255 : Int32) < c := by
  unfold own_cs
  split
  · intro c hc; cases hc
  · split
    · exact own_one h0
    · exact own_two h0 h1
theorem own_csl (n c0 c1 : Int32) : (own_cs n c0 c1).length ≤ 4000 := by
  unfold own_cs
  split
  · decide
  · split <;> simp
def own_same (l1 x0 x1 l2 y0 y1 : Int32) : Int32 := if l1 = l2 then (if l1 < 1 then (if l1 < 2 then 1 else if x1 = y1 then 1 else 0) else if x0 = y0 then (if l1 < 2 then 1 else if x1 = y1 then 1 else 0) else 0) else 0
theorem own_sameZ {l1 x0 x1 l2 y0 y1 : Int32} (h1 : l1 = 0 ∨ l1 = 1 ∨ l1 = 2) (h2 : l2 = 0 ∨ l2 = 1 ∨ l2 = 2) : own_same l1 x0 x1 l2 y0 y1 = 0 ↔ ¬ own_cs l2 y0 y1 = own_cs l1 x0 x1 := by
  have e1 : ((0 : Int32) < 1) = True := by decide
  have e2 : ((0 : Int32) < 2) = True := by decide
  have e3 : ((1 : Int32) < 1) = False := by decide
  have e4 : ((1 : Int32) < 2) = True := by decide
  have e5 : ((2 : Int32) < 1) = False := by decide
  have e6 : ((2 : Int32) < 2) = False := by decide
  have f1 : ((1 : Int32) = 0) = False := by decide
  have f2 : ((2 : Int32) = 0) = False := by decide
  have f3 : ((2 : Int32) = 1) = False := by decide
  have f4 : ((0 : Int32) = 1) = False := by decide
  have f5 : ((0 : Int32) = 2) = False := by decide
  have f6 : ((1 : Int32) = 2) = False := by decide
  by_cases hx : x0 = y0 <;> by_cases hy : x1 = y1
  · subst hx hy
    rcases h1 with rfl | rfl | rfl <;> rcases h2 with rfl | rfl | rfl <;> simp [own_same, own_cs, e1, e2, e3, e4, e5, e6, f1, f2, f3, f4, f5, f6]
  · subst hx
    have hy' : ¬ y1 = x1 := fun q => hy q.symm
    rcases h1 with rfl | rfl | rfl <;> rcases h2 with rfl | rfl | rfl <;> simp [own_same, own_cs, e1, e2, e3, e4, e5, e6, f1, f2, f3, f4, f5, f6, hy, hy']
  · subst hy
    have hx' : ¬ y0 = x0 := fun q => hx q.symm
    rcases h1 with rfl | rfl | rfl <;> rcases h2 with rfl | rfl | rfl <;> simp [own_same, own_cs, e1, e2, e3, e4, e5, e6, f1, f2, f3, f4, f5, f6, hx, hx']
  · have hx' : ¬ y0 = x0 := fun q => hx q.symm
    have hy' : ¬ y1 = x1 := fun q => hy q.symm
    rcases h1 with rfl | rfl | rfl <;> rcases h2 with rfl | rfl | rfl <;> simp [own_same, own_cs, e1, e2, e3, e4, e5, e6, f1, f2, f3, f4, f5, f6, hx, hx', hy, hy']
theorem own_and255 (x : Int32) : ¬ (x &&& (255 : Int32)) < 0 ∧ ¬ (255 : Int32) < (x &&& (255 : Int32)) := by
  have q := c_and x 255 (by decide)
  have e0 : (0 : Int32).toInt = 0 := by decide
  have e1 : (255 : Int32).toInt = 255 := by decide
  simp only [Int32.lt_iff_toInt_lt, e0, e1] at *
  omega
theorem own_len (x : Int32) : (x &&& (3 : Int32)) % (3 : Int32) = 0 ∨ (x &&& (3 : Int32)) % (3 : Int32) = 1 ∨ (x &&& (3 : Int32)) % (3 : Int32) = 2 := by
  have q := c_and x 3 (by decide)
  have e1 : (3 : Int32).toInt = 3 := by decide
  rw [e1] at q
  generalize x &&& 3 = y at q
  have : y = 0 ∨ y = 1 ∨ y = 2 ∨ y = 3 := by
    simp only [← Int32.toInt_inj]
    have e0 : (0 : Int32).toInt = 0 := by decide
    have e2 : (1 : Int32).toInt = 1 := by decide
    have e3 : (2 : Int32).toInt = 2 := by decide
    omega
  rcases this with rfl | rfl | rfl | rfl <;> decide
theorem own_cod {cs : List Int32} (hb : ∀ c ∈ cs, ¬ c < 0 ∧ ¬ (255 : Int32) < c) : StrChars.Road.CodA cs 0 (Int32.ofNat cs.length) ((cs.map fun c => c.toInt8.toInt32).map Value.int) := Or.inl ⟨rfl, rfl, by simp [List.map_map, Function.comp_def, StrChars.lo8], fun c hc => (hb c hc).2⟩
theorem own_up {cs : List Int32} (h : ∀ c ∈ cs, ¬ c < 0 ∧ ¬ (255 : Int32) < c) : ∀ c ∈ cs, ¬ c < 0 ∧ ¬ (65535 : Int32) < c := fun c hc => ⟨(h c hc).1, fun q => (h c hc).2 (by
  rw [Int32.lt_iff_toInt_lt] at q ⊢
  have e1 : (65535 : Int32).toInt = 65535 := rfl
  have e2 : (255 : Int32).toInt = 255 := rfl
  omega)⟩
theorem own_pd2 : parseMethodDescriptor "([C)V" = some ⟨[(.array .char)], none⟩ := by decide +kernel
theorem d1_0 : decode method_2_code 0 = .ok (.iload_n 0, 1) := by decide +kernel
theorem d1_1 : decode method_2_code 1 = .ok (.ifCond .ne 14, 3) := by decide +kernel
theorem d1_4 : decode method_2_code 4 = .ok (.new 7, 3) := by decide +kernel
theorem d1_7 : decode method_2_code 7 = .ok (.dup, 1) := by decide +kernel
theorem d1_8 : decode method_2_code 8 = .ok (.iconst 0, 1) := by decide +kernel
theorem d1_9 : decode method_2_code 9 = .ok (.newarray .char, 2) := by decide +kernel
theorem d1_11 : decode method_2_code 11 = .ok (.invokespecial 9, 3) := by decide +kernel
theorem d1_14 : decode method_2_code 14 = .ok (.areturn, 1) := by decide +kernel
theorem d1_15 : decode method_2_code 15 = .ok (.iload_n 0, 1) := by decide +kernel
theorem d1_16 : decode method_2_code 16 = .ok (.iconst 1, 1) := by decide +kernel
theorem d1_17 : decode method_2_code 17 = .ok (.if_icmp .ne 19, 3) := by decide +kernel
theorem d1_20 : decode method_2_code 20 = .ok (.new 7, 3) := by decide +kernel
theorem d1_23 : decode method_2_code 23 = .ok (.dup, 1) := by decide +kernel
theorem d1_24 : decode method_2_code 24 = .ok (.iconst 1, 1) := by decide +kernel
theorem d1_25 : decode method_2_code 25 = .ok (.newarray .char, 2) := by decide +kernel
theorem d1_27 : decode method_2_code 27 = .ok (.dup, 1) := by decide +kernel
theorem d1_28 : decode method_2_code 28 = .ok (.iconst 0, 1) := by decide +kernel
theorem d1_29 : decode method_2_code 29 = .ok (.iload_n 1, 1) := by decide +kernel
theorem d1_30 : decode method_2_code 30 = .ok (.i2c, 1) := by decide +kernel
theorem d1_31 : decode method_2_code 31 = .ok (.castore, 1) := by decide +kernel
theorem d1_32 : decode method_2_code 32 = .ok (.invokespecial 9, 3) := by decide +kernel
theorem d1_35 : decode method_2_code 35 = .ok (.areturn, 1) := by decide +kernel
theorem d1_36 : decode method_2_code 36 = .ok (.new 7, 3) := by decide +kernel
theorem d1_39 : decode method_2_code 39 = .ok (.dup, 1) := by decide +kernel
theorem d1_40 : decode method_2_code 40 = .ok (.iconst 2, 1) := by decide +kernel
theorem d1_41 : decode method_2_code 41 = .ok (.newarray .char, 2) := by decide +kernel
theorem d1_43 : decode method_2_code 43 = .ok (.dup, 1) := by decide +kernel
theorem d1_44 : decode method_2_code 44 = .ok (.iconst 0, 1) := by decide +kernel
theorem d1_45 : decode method_2_code 45 = .ok (.iload_n 1, 1) := by decide +kernel
theorem d1_46 : decode method_2_code 46 = .ok (.i2c, 1) := by decide +kernel
theorem d1_47 : decode method_2_code 47 = .ok (.castore, 1) := by decide +kernel
theorem d1_48 : decode method_2_code 48 = .ok (.dup, 1) := by decide +kernel
theorem d1_49 : decode method_2_code 49 = .ok (.iconst 1, 1) := by decide +kernel
theorem d1_50 : decode method_2_code 50 = .ok (.iload_n 2, 1) := by decide +kernel
theorem d1_51 : decode method_2_code 51 = .ok (.i2c, 1) := by decide +kernel
theorem d1_52 : decode method_2_code 52 = .ok (.castore, 1) := by decide +kernel
theorem d1_53 : decode method_2_code 53 = .ok (.invokespecial 9, 3) := by decide +kernel
theorem d1_56 : decode method_2_code 56 = .ok (.areturn, 1) := by decide +kernel
theorem own_pn3 : plainName "com/example/manyhands/manyhands/crowd/OrderingTakesPinLaw" = true := by first | (simp [plainName, overriddenIn]; done) | decide +kernel
def Q_rm1 (Z : State) (nn : Int32) (c0 : Int32) (c1 : Int32) (G1 : Int32) (h0 : Heap) (n0 : Nat) (v : Option Value) (vm : Vm) (h : Heap) (L : List Loc) : Prop := ∃ x t kb, v = some (.ref x) ∧ Fr n0 L ∧ Keep h0 h [] ∧ JE Z vm h h.size ∧ h0.size ≤ x ∧ Str Z h x t kb (own_cs nn c0 c1)
theorem ef_rm1 (m : MethodId) (nn : Int32) (c0 : Int32) (c1 : Int32) : entryFrame m #[(.int nn), (.int c0), (.int c1)] 3 = mkF m 0 #[.val (.int nn), .val (.int c0), .val (.int c1)] [] := by first | (simp [entryFrame, mkF, argsToLocals, Value.category]; done) | rfl
set_option maxRecDepth 65536 in
set_option maxHeartbeats 40000000 in
theorem rm1 (l : Launch) (Z : State) (a0 : Array Value) (hw : ∀ d ∈ tables_1, d.before a0 Z = true) (ws : List Jvm.Cond) (nn : Int32) (c0 : Int32) (c1 : Int32) (G1 : Int32) (h0 : Heap) (n0 : Nat) (Z0 : n0 ≤ h0.size) (O2 : Sta Z Z.heap "java/lang/String" "COMPACT_STRINGS" "Z" (.int G1)) (P5 : ¬ G1 = 0) (XE : Ext Z.heap h0) (hz0 : Z.heap.size ≤ n0) (hCH : Jvm.Lit.constHeld Z "java/lang/String" 7) (hCW : Jvm.Lit.compactW.before a0 Z = true) (hn : nn = 0 ∨ nn = 1 ∨ nn = 2) (hc0 : ¬ c0 < 0 ∧ ¬ (255 : Int32) < c0) (hc1 : ¬ c1 < 0 ∧ ¬ (255 : Int32) < c1) :
    MetFree l (⟨"com/example/manyhands/manyhands/crowd/OrderingTakesPinLaw", "mk", "(III)Ljava/lang/String;"⟩ : MethodName) (head1 (Jvm.Cond.code (⟨"com/example/manyhands/manyhands/crowd/OrderingTakesPinLaw", "mk", "(III)Ljava/lang/String;"⟩ : MethodName) method_2_code 3 (some (.object "java/lang/String")) :: ws) ({ frames := 4, cells := 4, slots := 8, locals := 66 } : Room)) (fun ag_ U_ => ag_ = #[(.int nn), (.int c0), (.int c1)] ∧ Z.Warmed39 U_.vm ∧ U_.heap = h0 ∧ (fun vm_ => JE Z vm_ h0 n0) U_.vm) (fun _ _ _ _ _ => True) (fun _ U_ o_ V_ => ∃ v_ L_, o_ = .returned v_ ∧ (Q_rm1 Z nn c0 c1 G1 h0 n0) v_ V_.vm V_.heap L_ ∧ ReturnedEndW U_ o_ V_ L_ ({ frames := 4, cells := 4, slots := 8, locals := 66 } : Room).cells ({ frames := 4, cells := 4, slots := 8, locals := 66 } : Room).slots) := by
  refine MetFree.of_bodySF (plainFor_of_name own_pn3) hisR ?_
  intro p e s m args below meth c s₁ Bd hml0 hP hK
  obtain ⟨rfl, hZ0, hh, J0⟩ := hP
  have hx := Bd.exec
  have hby := Bd.bytes
  have hml : c.maxLocals = 3 := hml0
  have hZ : Z.Warmed39 (s.setVm s.vm).vm := hZ0
  have hown : (s.setVm s.vm).vm.findClass "com/example/manyhands/manyhands/crowd/OrderingTakesPinLaw" = some m.cls := findClass_of_methodNamed Bd.named
  have hnm := (name_of_methodNamed Bd.named Bd.method).1
  have hSA : ∀ d ∈ Bundle.stringAtoms, d.before a0 Z = true := fun d hd => hw d (own_sa d hd)
  have hS0 : s.Since s.vm h0.size := (State.WarmedH.refl s).since _
  have X0 : Stand p l e ({ frames := 4, cells := 4, slots := 8, locals := 66 } : Room) (s.setVm s.vm) m #[(.int nn), (.int c0), (.int c1)] below meth c s₁ [] 0 0 := Stand.of_body Bd
  have e0 : s₁.heap = h0 := by rw [← hh, Bd.state]; rfl
  have N0 := Fr.nil n0
  refine Go.st (G := fun s₂ o_ => ∃ v_ L_, o_ = .returned v_ ∧ (Q_rm1 Z nn c0 c1 G1 h0 n0) v_ s₂.vm s₂.heap L_ ∧ ReturnedEndW s o_ s₂ L_ ({ frames := 4, cells := 4, slots := 8, locals := 66 } : Room).cells ({ frames := 4, cells := 4, slots := 8, locals := 66 } : Room).slots) (fun t kt => castTop (ef_rm1 m nn c0 c1) kt) ?_
  show Go p e below _ (s₁.setTop (mkF m 0 #[.val (.int nn), .val (.int c0), .val (.int c1)] []))
  rcases hn with hn | hn | hn
  · show Go p e below _ (s₁.setTop (mkF m 0 #[.val (.int nn), .val (.int c0), .val (.int c1)] []))
    refine Go.st (fun _ kt => XS.iloadN X0.here hx rfl (hb hby d1_0) rfl kt) ?_
    show Go p e below _ (s₁.setTop (mkF m 1 #[.val (.int nn), .val (.int c0), .val (.int c1)] [(.int nn)]))
    refine Go.st (fun _ kt => XS.ifNo X0.here hx rfl (hb hby d1_1) rfl ((if0 _ _).trans (teq hn).2) kt) ?_
    show Go p e below _ (s₁.setTop (mkF m 4 #[.val (.int nn), .val (.int c0), .val (.int c1)] []))
    obtain ⟨T1, h1, X1, e1, E1, A1, D1, U1, st1⟩ := newO X0 hx hZ hown (hw _ (List.mem_of_getElem? (i := 4) rfl)) (hw _ (List.mem_of_getElem? (i := 5) rfl)) (hw _ (List.mem_of_getElem? (i := 6) rfl)) e0 (g := (mkF m 4 #[.val (.int nn), .val (.int c0), .val (.int c1)] [])) rfl (hb hby d1_4) (by decide) (by decide)
    obtain ⟨b1, g1⟩ : ∃ z, z = h0.size := ⟨_, rfl⟩
    rw [← g1] at A1 D1 U1 st1
    have gn_b1 : n0 ≤ b1 := Nat.le_trans Z0 (Nat.le_of_eq g1.symm)
    have Zs1 : n0 ≤ h1.size := Nat.le_trans Z0 E1.1
    have Gk1 := Nat.le_trans (Nat.le_refl h0.size) E1.1
    have K1 : Keep h0 h1 [] := (Keep.refl h0 []).ext E1
    have kn_b1 : h0.size ≤ b1 := Nat.le_trans (Keep.refl h0 []).1 (Nat.le_of_eq g1.symm)
    refine Go.st st1 ?_
    have F1_coder : Fld Z h1 b1 "java/lang/String" "coder" "B" (.int (0 : Int32)) := D1 (Or.inr (hw _ (List.mem_of_getElem? (i := 31) rfl))) (ty := .byte) (by decide)
    have F1_value : Fld Z h1 b1 "java/lang/String" "value" "[B" .null := D1 (Or.inr (hw _ (List.mem_of_getElem? (i := 33) rfl))) (ty := (.array .byte)) (by decide)
    show Go p e below _ (T1.setTop (mkF m 7 #[.val (.int nn), .val (.int c0), .val (.int c1)] [(.ref b1)]))
    refine Go.st (fun _ kt => XS.dup X1.here hx rfl (hb hby d1_7) rfl rfl kt) ?_
    show Go p e below _ (T1.setTop (mkF m 8 #[.val (.int nn), .val (.int c0), .val (.int c1)] [(.ref b1), (.ref b1)]))
    refine Go.st (fun _ kt => XS.iconst X1.here hx rfl (hb hby d1_8) kt) ?_
    show Go p e below _ (T1.setTop (mkF m 9 #[.val (.int nn), .val (.int c0), .val (.int c1)] [(.int (0 : Int32)), (.ref b1), (.ref b1)]))
    obtain ⟨T2, h2, k2, X2, e2, E2, A2, Y2, st2⟩ := newPE X1 hx hZ (hw _ (List.mem_of_getElem? (i := 7) rfl)) e1 (g := (mkF m 9 #[.val (.int nn), .val (.int c0), .val (.int c1)] [(.int (0 : Int32)), (.ref b1), (.ref b1)])) rfl (hb hby d1_9) rfl (by decide) (cap := 0) (by decide) (by decide) (by decide) (by decide) (ad := "[C") (by decide)
    obtain ⟨b2, g2⟩ : ∃ z, z = h1.size := ⟨_, rfl⟩
    rw [← g2] at A2 Y2 st2
    have lt_b1_b2 : b1 < b2 := Nat.lt_of_lt_of_eq A1.lt g2.symm
    have gn_b2 : n0 ≤ b2 := Nat.le_trans Zs1 (Nat.le_of_eq g2.symm)
    have Zs2 : n0 ≤ h2.size := Nat.le_trans Zs1 E2.1
    have Gk2 := Nat.le_trans Gk1 E2.1
    have K2 : Keep h0 h2 [] := K1.ext E2
    have kn_b2 : h0.size ≤ b2 := Nat.le_trans K1.1 (Nat.le_of_eq g2.symm)
    refine Go.st st2 ?_
    have V2 := Arv.new A2 (by decide)
    show Go p e below _ (T2.setTop (mkF m 11 #[.val (.int nn), .val (.int c0), .val (.int c1)] [(.ref b2), (.ref b1), (.ref b1)]))
    have f3 := (A1.ext E2)
    have f4 := (F1_value.ext E2)
    have f5 := (F1_coder.ext E2)
    obtain ⟨_, _, ⟨T6, L6, k6, n6⟩, -, Xb6, hSb6, gr6, ⟨Lc6, hQ6, l6, y6, z6⟩, st6⟩ := X2.specialBackS hx (y := (⟨"java/lang/String", "<init>", "([C)V"⟩ : MethodName)) rfl hown (mvT hZ (hw _ (List.mem_of_getElem? (i := 8) rfl))) (mvT hZ (hw _ (List.mem_of_getElem? (i := 9) rfl))) (mvT hZ (hw _ (List.mem_of_getElem? (i := 10) rfl))) (by decide) (own_backJ (PU := fun vm_ => JE Z vm_ h2 n0) (W := 1) (rm2 l Z a0 hw [] b1 b2 _ G1 h2 n0 Zs2 O2 P5 (own_EX X2 e2 N0 hz0 hh XE) hz0 hCH hCW f3 f4 f5 gn_b1 V2) hZ (hw _ (List.mem_of_getElem? (i := 10) rfl)) (hw _ (List.mem_of_getElem? (i := 6) rfl)) (by decide) (by decide)) (g := (mkF m 11 #[.val (.int nn), .val (.int c0), .val (.int c1)] [(.ref b2), (.ref b1), (.ref b1)])) rfl (by rw [hml]; rfl) (Steps.refl _) (a := b1) (argsL := [(.ref b2)]) (rest := [(.ref b1)]) (lenOf own_pd2 rfl) rfl (by show 2 * 0 + _ ≤ _; exact Nat.le_of_eq rfl) (hb hby d1_11) (fun _ hWm => ⟨rfl, e2, (by decide : 2 + 2 ≤ _), (by decide : 4 + 4 ≤ _), JE.warm (s := s) (JE.keep J0 K2 (fun _ q => nomatch q)) hWm⟩)
    dsimp only [Pt.U, Pt.locs, Pt.cells, Pt.slots] at Xb6 hSb6 gr6 l6 y6 z6 st6 hQ6
    subst l6 y6 z6
    obtain ⟨X6, hS6, hZ, hown⟩ := rebS hS0 (by rw [e2]; exact Gk2) Xb6 hSb6 gr6 hZ hown
    obtain ⟨rfl, N6q, K6q, J6, t6, kb6, E6s, C6s, V6s, A6s⟩ := hQ6
    have Zs6 : n0 ≤ T6.heap.size := Nat.le_trans Zs2 K6q.1
    have K6 : Keep h0 T6.heap [] := K2.trans K6q (allS (Or.inr kn_b1) all0)
    have N6 := Fr.app N0 N6q
    refine Go.tr st6 ?_
    show Go p e below _ (T6.setTop (mkF m 14 #[.val (.int nn), .val (.int c0), .val (.int c1)] [(.ref b1)]))
    refine Go.retAS X6 hx Bd.returns (BodyLoose.notSynchronized Bd) rfl rfl hS6 (Nat.le_refl _) (hb hby d1_14) (Q := (Q_rm1 Z nn c0 c1 G1 h0 n0)) (by decide) (by decide) ?_
    intro vm2 hW2
    show (Q_rm1 Z nn c0 c1 G1 h0 n0) _ vm2 T6.heap _
    exact ⟨b1, _, _, rfl, N6, K6, (J6.warm hW2), kn_b1, by rw [own_cs0 hn]; exact ⟨E6s, C6s, V6s, A6s⟩⟩
  · show Go p e below _ (s₁.setTop (mkF m 0 #[.val (.int nn), .val (.int c0), .val (.int c1)] []))
    refine Go.st (fun _ kt => XS.iloadN X0.here hx rfl (hb hby d1_0) rfl kt) ?_
    show Go p e below _ (s₁.setTop (mkF m 1 #[.val (.int nn), .val (.int c0), .val (.int c1)] [(.int nn)]))
    refine Go.st (fun _ kt => XS.ifYes X0.here hx rfl (pc0 := 1) (pc' := 15) rfl (hb hby d1_1) rfl ((if0 _ _).trans (feq (by rw [hn]; decide)).2) (by decide) (by decide) kt) ?_
    show Go p e below _ (s₁.setTop (mkF m 15 #[.val (.int nn), .val (.int c0), .val (.int c1)] []))
    refine Go.st (fun _ kt => XS.iloadN X0.here hx rfl (hb hby d1_15) rfl kt) ?_
    show Go p e below _ (s₁.setTop (mkF m 16 #[.val (.int nn), .val (.int c0), .val (.int c1)] [(.int nn)]))
    refine Go.st (fun _ kt => XS.iconst X0.here hx rfl (hb hby d1_16) kt) ?_
    show Go p e below _ (s₁.setTop (mkF m 17 #[.val (.int nn), .val (.int c0), .val (.int c1)] [(.int (1 : Int32)), (.int nn)]))
    refine Go.st (fun _ kt => XS.icmpNo X0.here hx rfl (hb hby d1_17) rfl (teq hn).2 kt) ?_
    show Go p e below _ (s₁.setTop (mkF m 20 #[.val (.int nn), .val (.int c0), .val (.int c1)] []))
    obtain ⟨T7, h7, X7, e7, E7, A7, D7, U7, st7⟩ := newO X0 hx hZ hown (hw _ (List.mem_of_getElem? (i := 4) rfl)) (hw _ (List.mem_of_getElem? (i := 5) rfl)) (hw _ (List.mem_of_getElem? (i := 6) rfl)) e0 (g := (mkF m 20 #[.val (.int nn), .val (.int c0), .val (.int c1)] [])) rfl (hb hby d1_20) (by decide) (by decide)
    obtain ⟨b7, g7⟩ : ∃ z, z = h0.size := ⟨_, rfl⟩
    rw [← g7] at A7 D7 U7 st7
    have gn_b7 : n0 ≤ b7 := Nat.le_trans Z0 (Nat.le_of_eq g7.symm)
    have Zs7 : n0 ≤ h7.size := Nat.le_trans Z0 E7.1
    have Gk7 := Nat.le_trans (Nat.le_refl h0.size) E7.1
    have K7 : Keep h0 h7 [] := (Keep.refl h0 []).ext E7
    have kn_b7 : h0.size ≤ b7 := Nat.le_trans (Keep.refl h0 []).1 (Nat.le_of_eq g7.symm)
    refine Go.st st7 ?_
    have F7_coder : Fld Z h7 b7 "java/lang/String" "coder" "B" (.int (0 : Int32)) := D7 (Or.inr (hw _ (List.mem_of_getElem? (i := 31) rfl))) (ty := .byte) (by decide)
    have F7_value : Fld Z h7 b7 "java/lang/String" "value" "[B" .null := D7 (Or.inr (hw _ (List.mem_of_getElem? (i := 33) rfl))) (ty := (.array .byte)) (by decide)
    show Go p e below _ (T7.setTop (mkF m 23 #[.val (.int nn), .val (.int c0), .val (.int c1)] [(.ref b7)]))
    refine Go.st (fun _ kt => XS.dup X7.here hx rfl (hb hby d1_23) rfl rfl kt) ?_
    show Go p e below _ (T7.setTop (mkF m 24 #[.val (.int nn), .val (.int c0), .val (.int c1)] [(.ref b7), (.ref b7)]))
    refine Go.st (fun _ kt => XS.iconst X7.here hx rfl (hb hby d1_24) kt) ?_
    show Go p e below _ (T7.setTop (mkF m 25 #[.val (.int nn), .val (.int c0), .val (.int c1)] [(.int (1 : Int32)), (.ref b7), (.ref b7)]))
    obtain ⟨T8, h8, k8, X8, e8, E8, A8, Y8, st8⟩ := newPE X7 hx hZ (hw _ (List.mem_of_getElem? (i := 7) rfl)) e7 (g := (mkF m 25 #[.val (.int nn), .val (.int c0), .val (.int c1)] [(.int (1 : Int32)), (.ref b7), (.ref b7)])) rfl (hb hby d1_25) rfl (by decide) (cap := 1) (by decide) (by decide) (by decide) (by decide) (ad := "[C") (by decide)
    obtain ⟨b8, g8⟩ : ∃ z, z = h7.size := ⟨_, rfl⟩
    rw [← g8] at A8 Y8 st8
    have lt_b7_b8 : b7 < b8 := Nat.lt_of_lt_of_eq A7.lt g8.symm
    have gn_b8 : n0 ≤ b8 := Nat.le_trans Zs7 (Nat.le_of_eq g8.symm)
    have Zs8 : n0 ≤ h8.size := Nat.le_trans Zs7 E8.1
    have Gk8 := Nat.le_trans Gk7 E8.1
    have K8 : Keep h0 h8 [] := K7.ext E8
    have kn_b8 : h0.size ≤ b8 := Nat.le_trans K7.1 (Nat.le_of_eq g8.symm)
    refine Go.st st8 ?_
    have V8 : Arv Z h8 b8 k8 .char (1 : Int32) [(.int (0 : Int32))] (.int (0 : Int32)) := (Arv.new A8 (by decide)).pad (pad_rep [] (.int (0 : Int32)) 1)
    show Go p e below _ (T8.setTop (mkF m 27 #[.val (.int nn), .val (.int c0), .val (.int c1)] [(.ref b8), (.ref b7), (.ref b7)]))
    refine Go.st (fun _ kt => XS.dup X8.here hx rfl (hb hby d1_27) rfl rfl kt) ?_
    show Go p e below _ (T8.setTop (mkF m 28 #[.val (.int nn), .val (.int c0), .val (.int c1)] [(.ref b8), (.ref b8), (.ref b7), (.ref b7)]))
    refine Go.st (fun _ kt => XS.iconst X8.here hx rfl (hb hby d1_28) kt) ?_
    show Go p e below _ (T8.setTop (mkF m 29 #[.val (.int nn), .val (.int c0), .val (.int c1)] [(.int (0 : Int32)), (.ref b8), (.ref b8), (.ref b7), (.ref b7)]))
    refine Go.st (fun _ kt => XS.iloadN X8.here hx rfl (hb hby d1_29) rfl kt) ?_
    show Go p e below _ (T8.setTop (mkF m 30 #[.val (.int nn), .val (.int c0), .val (.int c1)] [(.int c0), (.int (0 : Int32)), (.ref b8), (.ref b8), (.ref b7), (.ref b7)]))
    refine Go.st (fun _ kt => XS.i2c X8.here hx rfl (hb hby d1_30) rfl kt) ?_
    show Go p e below _ (T8.setTop (mkF m 31 #[.val (.int nn), .val (.int c0), .val (.int c1)] [(.int (c0.toUInt32.toUInt16.toUInt32.toInt32)), (.int (0 : Int32)), (.ref b8), (.ref b8), (.ref b7), (.ref b7)]))
    rw [(own_chr hc0 : (c0.toUInt32.toUInt16.toUInt32.toInt32) = c0)]
    show Go p e below _ (T8.setTop (mkF m 31 #[.val (.int nn), .val (.int c0), .val (.int c1)] [(.int c0), (.int (0 : Int32)), (.ref b8), (.ref b8), (.ref b7), (.ref b7)]))
    obtain ⟨cl9, Ar9, q9, S9, N9', H9, G9⟩ := id V8
    have hin9 : ¬ ((0 : Int32) < 0 ∨ cl9.slots.size ≤ ((0 : Int32)).toNatClampNeg) := inb_of S9 ⟨by decide, by decide⟩
    obtain ⟨T10, h10, X10, e10, W10, st10⟩ := stC X8 hx hZ e8 Ar9 (j := (0 : Int32)) hin9 (g := (mkF m 31 #[.val (.int nn), .val (.int c0), .val (.int c1)] [(.int c0), (.int (0 : Int32)), (.ref b8), (.ref b8), (.ref b7), (.ref b7)])) rfl rfl (hb hby d1_31)
    refine Go.st st10 ?_
    have V10 : Arv Z h10 b8 k8 .char (1 : Int32) [(.int (c0.toUInt32.toUInt16.toUInt32.toInt32))] (.int (0 : Int32)) := Arv.set Ar9 q9 S9 N9' H9 G9 (fits_nar_char _) W10 0 rfl (Nat.le_of_ble_eq_true rfl)
    have Zs10 : n0 ≤ h10.size := Nat.le_trans Zs8 (Nat.le_of_eq W10.size.symm)
    have N10 := Fr.snoc X10 N0 gn_b8
    have Gk10 := Nat.le_trans Gk8 (Nat.le_of_eq W10.size.symm)
    have K10 : Keep h0 h10 [] := K8.wr W10 (Or.inr kn_b8)
    show Go p e below _ (T10.setTop (mkF m 32 #[.val (.int nn), .val (.int c0), .val (.int c1)] [(.ref b8), (.ref b7), (.ref b7)]))
    have Vr11 : Arv Z h10 b8 k8 .char (1 : Int32) [(.int c0)] (.int (0 : Int32)) := by have q := V10; rw [own_chr hc0] at q; exact q
    have f12 := ((A7.ext E8).wr W10)
    have f13 := ((F7_value.ext E8).other W10 (Or.inl (Nat.ne_of_lt lt_b7_b8)))
    have f14 := ((F7_coder.ext E8).other W10 (Or.inl (Nat.ne_of_lt lt_b7_b8)))
    obtain ⟨_, _, ⟨T15, L15, k15, n15⟩, -, X15, ⟨Lc15, hQ15, l15, y15, z15⟩, st15⟩ := X10.specialBack hx (y := (⟨"java/lang/String", "<init>", "([C)V"⟩ : MethodName)) rfl hown (mvT hZ (hw _ (List.mem_of_getElem? (i := 8) rfl))) (mvT hZ (hw _ (List.mem_of_getElem? (i := 9) rfl))) (mvT hZ (hw _ (List.mem_of_getElem? (i := 10) rfl))) (by decide) (StrChars.Road.backV (W := 1) hZ (fun d hd => hw d (own_ws d hd)) (kI := 4) (hw _ (List.mem_of_getElem? (i := 5) rfl)) (cs := [c0]) (bs := ([c0]).map (fun c => c.toInt8.toInt32)) (n := 1) gn_b7 Zs10 f12 f13 f14 Vr11 (O2.ext (own_EX X10 e10 N10 hz0 hh XE)) P5 rfl rfl (by decide) (by decide) (own_one hc0) rfl (by decide) (by decide)) (g := (mkF m 32 #[.val (.int nn), .val (.int c0), .val (.int c1)] [(.ref b8), (.ref b7), (.ref b7)])) rfl (by rw [hml]; rfl) (Steps.refl _) (a := b7) (argsL := [(.ref b8)]) (rest := [(.ref b7)]) (lenOf own_pd2 rfl) rfl (by show 2 * 0 + _ ≤ _; exact Nat.le_of_eq rfl) (hb hby d1_32) (fun _ _ => ⟨rfl, e10, (by decide : 2 + 1 ≤ _), (by decide : 5 + 1 ≤ _)⟩)
    dsimp only [Pt.U, Pt.locs, Pt.cells, Pt.slots] at X15 l15 y15 z15 st15 hQ15
    subst l15 y15 z15
    obtain ⟨rfl, N15q, K15q, E15s, C15s, t15, kb15, -, -, -, V15s, A15s⟩ := hQ15
    have Zs15 : n0 ≤ T15.heap.size := Nat.le_trans Zs10 K15q.1
    have Gk15 := Nat.le_trans Gk10 K15q.1
    have K15 : Keep h0 T15.heap [] := K10.trans K15q (allS (Or.inr kn_b7) all0)
    have N15 := Fr.app N10 N15q
    refine Go.tr st15 ?_
    show Go p e below _ (T15.setTop (mkF m 35 #[.val (.int nn), .val (.int c0), .val (.int c1)] [(.ref b7)]))
    refine Go.retAS X15 hx Bd.returns (BodyLoose.notSynchronized Bd) rfl rfl hS0 Gk15 (hb hby d1_35) (Q := (Q_rm1 Z nn c0 c1 G1 h0 n0)) (by decide) (by decide) ?_
    intro vm2 hW2
    show (Q_rm1 Z nn c0 c1 G1 h0 n0) _ vm2 T15.heap _
    exact ⟨b7, _, _, rfl, N15, K15, (JE.mono (JE.warm (s := s) (JE.keep J0 K15 (fun _ q => nomatch q)) hW2) Zs15), kn_b7, by rw [own_cs1 hn]; exact ⟨E15s, C15s, V15s, A15s⟩⟩
  · show Go p e below _ (s₁.setTop (mkF m 0 #[.val (.int nn), .val (.int c0), .val (.int c1)] []))
    refine Go.st (fun _ kt => XS.iloadN X0.here hx rfl (hb hby d1_0) rfl kt) ?_
    show Go p e below _ (s₁.setTop (mkF m 1 #[.val (.int nn), .val (.int c0), .val (.int c1)] [(.int nn)]))
    refine Go.st (fun _ kt => XS.ifYes X0.here hx rfl (pc0 := 1) (pc' := 15) rfl (hb hby d1_1) rfl ((if0 _ _).trans (feq (by rw [hn]; decide)).2) (by decide) (by decide) kt) ?_
    show Go p e below _ (s₁.setTop (mkF m 15 #[.val (.int nn), .val (.int c0), .val (.int c1)] []))
    refine Go.st (fun _ kt => XS.iloadN X0.here hx rfl (hb hby d1_15) rfl kt) ?_
    show Go p e below _ (s₁.setTop (mkF m 16 #[.val (.int nn), .val (.int c0), .val (.int c1)] [(.int nn)]))
    refine Go.st (fun _ kt => XS.iconst X0.here hx rfl (hb hby d1_16) kt) ?_
    show Go p e below _ (s₁.setTop (mkF m 17 #[.val (.int nn), .val (.int c0), .val (.int c1)] [(.int (1 : Int32)), (.int nn)]))
    refine Go.st (fun _ kt => XS.icmpYes X0.here hx rfl (pc0 := 17) (pc' := 36) rfl (hb hby d1_17) rfl (feq (by rw [hn]; decide)).2 (by decide) (by decide) kt) ?_
    show Go p e below _ (s₁.setTop (mkF m 36 #[.val (.int nn), .val (.int c0), .val (.int c1)] []))
    obtain ⟨T16, h16, X16, e16, E16, A16, D16, U16, st16⟩ := newO X0 hx hZ hown (hw _ (List.mem_of_getElem? (i := 4) rfl)) (hw _ (List.mem_of_getElem? (i := 5) rfl)) (hw _ (List.mem_of_getElem? (i := 6) rfl)) e0 (g := (mkF m 36 #[.val (.int nn), .val (.int c0), .val (.int c1)] [])) rfl (hb hby d1_36) (by decide) (by decide)
    obtain ⟨b16, g16⟩ : ∃ z, z = h0.size := ⟨_, rfl⟩
    rw [← g16] at A16 D16 U16 st16
    have gn_b16 : n0 ≤ b16 := Nat.le_trans Z0 (Nat.le_of_eq g16.symm)
    have Zs16 : n0 ≤ h16.size := Nat.le_trans Z0 E16.1
    have Gk16 := Nat.le_trans (Nat.le_refl h0.size) E16.1
    have K16 : Keep h0 h16 [] := (Keep.refl h0 []).ext E16
    have kn_b16 : h0.size ≤ b16 := Nat.le_trans (Keep.refl h0 []).1 (Nat.le_of_eq g16.symm)
    refine Go.st st16 ?_
    have F16_coder : Fld Z h16 b16 "java/lang/String" "coder" "B" (.int (0 : Int32)) := D16 (Or.inr (hw _ (List.mem_of_getElem? (i := 31) rfl))) (ty := .byte) (by decide)
    have F16_value : Fld Z h16 b16 "java/lang/String" "value" "[B" .null := D16 (Or.inr (hw _ (List.mem_of_getElem? (i := 33) rfl))) (ty := (.array .byte)) (by decide)
    show Go p e below _ (T16.setTop (mkF m 39 #[.val (.int nn), .val (.int c0), .val (.int c1)] [(.ref b16)]))
    refine Go.st (fun _ kt => XS.dup X16.here hx rfl (hb hby d1_39) rfl rfl kt) ?_
    show Go p e below _ (T16.setTop (mkF m 40 #[.val (.int nn), .val (.int c0), .val (.int c1)] [(.ref b16), (.ref b16)]))
    refine Go.st (fun _ kt => XS.iconst X16.here hx rfl (hb hby d1_40) kt) ?_
    show Go p e below _ (T16.setTop (mkF m 41 #[.val (.int nn), .val (.int c0), .val (.int c1)] [(.int (2 : Int32)), (.ref b16), (.ref b16)]))
    obtain ⟨T17, h17, k17, X17, e17, E17, A17, Y17, st17⟩ := newPE X16 hx hZ (hw _ (List.mem_of_getElem? (i := 7) rfl)) e16 (g := (mkF m 41 #[.val (.int nn), .val (.int c0), .val (.int c1)] [(.int (2 : Int32)), (.ref b16), (.ref b16)])) rfl (hb hby d1_41) rfl (by decide) (cap := 2) (by decide) (by decide) (by decide) (by decide) (ad := "[C") (by decide)
    obtain ⟨b17, g17⟩ : ∃ z, z = h16.size := ⟨_, rfl⟩
    rw [← g17] at A17 Y17 st17
    have lt_b16_b17 : b16 < b17 := Nat.lt_of_lt_of_eq A16.lt g17.symm
    have gn_b17 : n0 ≤ b17 := Nat.le_trans Zs16 (Nat.le_of_eq g17.symm)
    have Zs17 : n0 ≤ h17.size := Nat.le_trans Zs16 E17.1
    have Gk17 := Nat.le_trans Gk16 E17.1
    have K17 : Keep h0 h17 [] := K16.ext E17
    have kn_b17 : h0.size ≤ b17 := Nat.le_trans K16.1 (Nat.le_of_eq g17.symm)
    refine Go.st st17 ?_
    have V17 : Arv Z h17 b17 k17 .char (2 : Int32) [(.int (0 : Int32)), (.int (0 : Int32))] (.int (0 : Int32)) := (Arv.new A17 (by decide)).pad (pad_rep [] (.int (0 : Int32)) 2)
    show Go p e below _ (T17.setTop (mkF m 43 #[.val (.int nn), .val (.int c0), .val (.int c1)] [(.ref b17), (.ref b16), (.ref b16)]))
    refine Go.st (fun _ kt => XS.dup X17.here hx rfl (hb hby d1_43) rfl rfl kt) ?_
    show Go p e below _ (T17.setTop (mkF m 44 #[.val (.int nn), .val (.int c0), .val (.int c1)] [(.ref b17), (.ref b17), (.ref b16), (.ref b16)]))
    refine Go.st (fun _ kt => XS.iconst X17.here hx rfl (hb hby d1_44) kt) ?_
    show Go p e below _ (T17.setTop (mkF m 45 #[.val (.int nn), .val (.int c0), .val (.int c1)] [(.int (0 : Int32)), (.ref b17), (.ref b17), (.ref b16), (.ref b16)]))
    refine Go.st (fun _ kt => XS.iloadN X17.here hx rfl (hb hby d1_45) rfl kt) ?_
    show Go p e below _ (T17.setTop (mkF m 46 #[.val (.int nn), .val (.int c0), .val (.int c1)] [(.int c0), (.int (0 : Int32)), (.ref b17), (.ref b17), (.ref b16), (.ref b16)]))
    refine Go.st (fun _ kt => XS.i2c X17.here hx rfl (hb hby d1_46) rfl kt) ?_
    show Go p e below _ (T17.setTop (mkF m 47 #[.val (.int nn), .val (.int c0), .val (.int c1)] [(.int (c0.toUInt32.toUInt16.toUInt32.toInt32)), (.int (0 : Int32)), (.ref b17), (.ref b17), (.ref b16), (.ref b16)]))
    rw [(own_chr hc0 : (c0.toUInt32.toUInt16.toUInt32.toInt32) = c0)]
    show Go p e below _ (T17.setTop (mkF m 47 #[.val (.int nn), .val (.int c0), .val (.int c1)] [(.int c0), (.int (0 : Int32)), (.ref b17), (.ref b17), (.ref b16), (.ref b16)]))
    obtain ⟨cl18, Ar18, q18, S18, N18', H18, G18⟩ := id V17
    have hin18 : ¬ ((0 : Int32) < 0 ∨ cl18.slots.size ≤ ((0 : Int32)).toNatClampNeg) := inb_of S18 ⟨by decide, by decide⟩
    obtain ⟨T19, h19, X19, e19, W19, st19⟩ := stC X17 hx hZ e17 Ar18 (j := (0 : Int32)) hin18 (g := (mkF m 47 #[.val (.int nn), .val (.int c0), .val (.int c1)] [(.int c0), (.int (0 : Int32)), (.ref b17), (.ref b17), (.ref b16), (.ref b16)])) rfl rfl (hb hby d1_47)
    refine Go.st st19 ?_
    have V19 : Arv Z h19 b17 k17 .char (2 : Int32) [(.int (c0.toUInt32.toUInt16.toUInt32.toInt32)), (.int (0 : Int32))] (.int (0 : Int32)) := Arv.set Ar18 q18 S18 N18' H18 G18 (fits_nar_char _) W19 0 rfl (Nat.le_of_ble_eq_true rfl)
    have Zs19 : n0 ≤ h19.size := Nat.le_trans Zs17 (Nat.le_of_eq W19.size.symm)
    have N19 := Fr.snoc X19 N0 gn_b17
    have Gk19 := Nat.le_trans Gk17 (Nat.le_of_eq W19.size.symm)
    have K19 : Keep h0 h19 [] := K17.wr W19 (Or.inr kn_b17)
    show Go p e below _ (T19.setTop (mkF m 48 #[.val (.int nn), .val (.int c0), .val (.int c1)] [(.ref b17), (.ref b16), (.ref b16)]))
    have Vr20 : Arv Z h19 b17 k17 .char (2 : Int32) [(.int c0), (.int (0 : Int32))] (.int (0 : Int32)) := by have q := V19; rw [own_chr hc0] at q; exact q
    refine Go.st (fun _ kt => XS.dup X19.here hx rfl (hb hby d1_48) rfl rfl kt) ?_
    show Go p e below _ (T19.setTop (mkF m 49 #[.val (.int nn), .val (.int c0), .val (.int c1)] [(.ref b17), (.ref b17), (.ref b16), (.ref b16)]))
    refine Go.st (fun _ kt => XS.iconst X19.here hx rfl (hb hby d1_49) kt) ?_
    show Go p e below _ (T19.setTop (mkF m 50 #[.val (.int nn), .val (.int c0), .val (.int c1)] [(.int (1 : Int32)), (.ref b17), (.ref b17), (.ref b16), (.ref b16)]))
    refine Go.st (fun _ kt => XS.iloadN X19.here hx rfl (hb hby d1_50) rfl kt) ?_
    show Go p e below _ (T19.setTop (mkF m 51 #[.val (.int nn), .val (.int c0), .val (.int c1)] [(.int c1), (.int (1 : Int32)), (.ref b17), (.ref b17), (.ref b16), (.ref b16)]))
    refine Go.st (fun _ kt => XS.i2c X19.here hx rfl (hb hby d1_51) rfl kt) ?_
    show Go p e below _ (T19.setTop (mkF m 52 #[.val (.int nn), .val (.int c0), .val (.int c1)] [(.int (c1.toUInt32.toUInt16.toUInt32.toInt32)), (.int (1 : Int32)), (.ref b17), (.ref b17), (.ref b16), (.ref b16)]))
    rw [(own_chr hc1 : (c1.toUInt32.toUInt16.toUInt32.toInt32) = c1)]
    show Go p e below _ (T19.setTop (mkF m 52 #[.val (.int nn), .val (.int c0), .val (.int c1)] [(.int c1), (.int (1 : Int32)), (.ref b17), (.ref b17), (.ref b16), (.ref b16)]))
    obtain ⟨cl21, Ar21, q21, S21, N21', H21, G21⟩ := id Vr20
    have hin21 : ¬ ((1 : Int32) < 0 ∨ cl21.slots.size ≤ ((1 : Int32)).toNatClampNeg) := inb_of S21 ⟨by decide, by decide⟩
    obtain ⟨T22, h22, X22, e22, W22, st22⟩ := stC X19 hx hZ e19 Ar21 (j := (1 : Int32)) hin21 (g := (mkF m 52 #[.val (.int nn), .val (.int c0), .val (.int c1)] [(.int c1), (.int (1 : Int32)), (.ref b17), (.ref b17), (.ref b16), (.ref b16)])) rfl rfl (hb hby d1_52)
    refine Go.st st22 ?_
    have V22 : Arv Z h22 b17 k17 .char (2 : Int32) [(.int c0), (.int (c1.toUInt32.toUInt16.toUInt32.toInt32))] (.int (0 : Int32)) := Arv.set Ar21 q21 S21 N21' H21 G21 (fits_nar_char _) W22 1 rfl (Nat.le_of_ble_eq_true rfl)
    have Zs22 : n0 ≤ h22.size := Nat.le_trans Zs19 (Nat.le_of_eq W22.size.symm)
    have N22 := Fr.snoc X22 N19 gn_b17
    have Gk22 := Nat.le_trans Gk19 (Nat.le_of_eq W22.size.symm)
    have K22 : Keep h0 h22 [] := K19.wr W22 (Or.inr kn_b17)
    show Go p e below _ (T22.setTop (mkF m 53 #[.val (.int nn), .val (.int c0), .val (.int c1)] [(.ref b17), (.ref b16), (.ref b16)]))
    have Vr23 : Arv Z h22 b17 k17 .char (2 : Int32) [(.int c0), (.int c1)] (.int (0 : Int32)) := by have q := V22; rw [own_chr hc1] at q; exact q
    have f24 := (((A16.ext E17).wr W19).wr W22)
    have f25 := (((F16_value.ext E17).other W19 (Or.inl (Nat.ne_of_lt lt_b16_b17))).other W22 (Or.inl (Nat.ne_of_lt lt_b16_b17)))
    have f26 := (((F16_coder.ext E17).other W19 (Or.inl (Nat.ne_of_lt lt_b16_b17))).other W22 (Or.inl (Nat.ne_of_lt lt_b16_b17)))
    obtain ⟨_, _, ⟨T27, L27, k27, n27⟩, -, X27, ⟨Lc27, hQ27, l27, y27, z27⟩, st27⟩ := X22.specialBack hx (y := (⟨"java/lang/String", "<init>", "([C)V"⟩ : MethodName)) rfl hown (mvT hZ (hw _ (List.mem_of_getElem? (i := 8) rfl))) (mvT hZ (hw _ (List.mem_of_getElem? (i := 9) rfl))) (mvT hZ (hw _ (List.mem_of_getElem? (i := 10) rfl))) (by decide) (StrChars.Road.backV (W := 1) hZ (fun d hd => hw d (own_ws d hd)) (kI := 4) (hw _ (List.mem_of_getElem? (i := 5) rfl)) (cs := [c0, c1]) (bs := ([c0, c1]).map (fun c => c.toInt8.toInt32)) (n := 2) gn_b16 Zs22 f24 f25 f26 Vr23 (O2.ext (own_EX X22 e22 N22 hz0 hh XE)) P5 rfl rfl (by decide) (by decide) (own_two hc0 hc1) rfl (by decide) (by decide)) (g := (mkF m 53 #[.val (.int nn), .val (.int c0), .val (.int c1)] [(.ref b17), (.ref b16), (.ref b16)])) rfl (by rw [hml]; rfl) (Steps.refl _) (a := b16) (argsL := [(.ref b17)]) (rest := [(.ref b16)]) (lenOf own_pd2 rfl) rfl (by show 2 * 0 + _ ≤ _; exact Nat.le_of_eq rfl) (hb hby d1_53) (fun _ _ => ⟨rfl, e22, (by decide : 2 + 1 ≤ _), (by decide : 6 + 2 ≤ _)⟩)
    dsimp only [Pt.U, Pt.locs, Pt.cells, Pt.slots] at X27 l27 y27 z27 st27 hQ27
    subst l27 y27 z27
    obtain ⟨rfl, N27q, K27q, E27s, C27s, t27, kb27, -, -, -, V27s, A27s⟩ := hQ27
    have Zs27 : n0 ≤ T27.heap.size := Nat.le_trans Zs22 K27q.1
    have Gk27 := Nat.le_trans Gk22 K27q.1
    have K27 : Keep h0 T27.heap [] := K22.trans K27q (allS (Or.inr kn_b16) all0)
    have N27 := Fr.app N22 N27q
    refine Go.tr st27 ?_
    show Go p e below _ (T27.setTop (mkF m 56 #[.val (.int nn), .val (.int c0), .val (.int c1)] [(.ref b16)]))
    refine Go.retAS X27 hx Bd.returns (BodyLoose.notSynchronized Bd) rfl rfl hS0 Gk27 (hb hby d1_56) (Q := (Q_rm1 Z nn c0 c1 G1 h0 n0)) (by decide) (by decide) ?_
    intro vm2 hW2
    show (Q_rm1 Z nn c0 c1 G1 h0 n0) _ vm2 T27.heap _
    exact ⟨b16, _, _, rfl, N27, K27, (JE.mono (JE.warm (s := s) (JE.keep J0 K27 (fun _ q => nomatch q)) hW2) Zs27), kn_b16, by rw [own_cs2 hn]; exact ⟨E27s, C27s, V27s, A27s⟩⟩
theorem d9_0 : decode jdk_43_method_3_code 0 = .ok (.iload_n 0, 1) := by decide +kernel
theorem d9_1 : decode jdk_43_method_3_code 1 = .ok (.sipush 255, 3) := by decide +kernel
theorem d9_4 : decode jdk_43_method_3_code 4 = .ok (.if_icmp .gt 7, 3) := by decide +kernel
theorem d9_7 : decode jdk_43_method_3_code 7 = .ok (.iconst 1, 1) := by decide +kernel
theorem d9_8 : decode jdk_43_method_3_code 8 = .ok (.goto 4, 3) := by decide +kernel
theorem d9_12 : decode jdk_43_method_3_code 12 = .ok (.ireturn, 1) := by decide +kernel
theorem own_pn4 : plainName "java/lang/StringLatin1" = true := by first | (simp [plainName, overriddenIn]; done) | decide +kernel
def Q_rm9 (Z : State) (ch : Int32) (h0 : Heap) (n0 : Nat) (v : Option Value) (h : Heap) (L : List Loc) : Prop := v = some (.int 1) ∧ Fr n0 L ∧ h = h0
theorem ef_rm9 (m : MethodId) (ch : Int32) : entryFrame m #[(.int ch)] 1 = mkF m 0 #[.val (.int ch)] [] := by first | (simp [entryFrame, mkF, argsToLocals, Value.category]; done) | rfl
set_option maxRecDepth 65536 in
set_option maxHeartbeats 40000000 in
theorem rm9 (l : Launch) (Z : State) (a0 : Array Value) (hw : ∀ d ∈ tables_1, d.before a0 Z = true) (ws : List Jvm.Cond) (ch : Int32) (h0 : Heap) (n0 : Nat) (Z0 : n0 ≤ h0.size) (hch : ¬ (255 : Int32) < ch) :
    MetFree l (⟨"java/lang/StringLatin1", "canEncode", "(C)Z"⟩ : MethodName) (head1 (Jvm.Cond.code (⟨"java/lang/StringLatin1", "canEncode", "(C)Z"⟩ : MethodName) jdk_43_method_3_code 1 (some .boolean) :: ws) ({ frames := 0, cells := 0, slots := 0, locals := 0 } : Room)) (fun ag_ U_ => ag_ = #[(.int ch)] ∧ Z.Warmed39 U_.vm ∧ U_.heap = h0) (fun _ _ _ _ _ => True) (fun _ U_ o_ V_ => ∃ v_ L_, o_ = .returned v_ ∧ (Q_rm9 Z ch h0 n0) v_ V_.heap L_ ∧ FrameEnd U_ o_ V_ L_ ({ frames := 0, cells := 0, slots := 0, locals := 0 } : Room).cells ({ frames := 0, cells := 0, slots := 0, locals := 0 } : Room).slots) := by
  refine MetFree.of_bodySF (plainFor_of_name own_pn4) hisR ?_
  intro p e s m args below meth c s₁ Bd hml0 hP hK
  obtain ⟨rfl, hZ, hh⟩ := hP
  have hx := Bd.exec
  have hby := Bd.bytes
  have hml : c.maxLocals = 1 := hml0
  have hown : s.vm.findClass "java/lang/StringLatin1" = some m.cls := findClass_of_methodNamed Bd.named
  have hnm := (name_of_methodNamed Bd.named Bd.method).1
  have X0 : Stand p l e ({ frames := 0, cells := 0, slots := 0, locals := 0 } : Room) s m #[(.int ch)] below meth c s₁ [] 0 0 := Stand.of_body Bd
  have e0 : s₁.heap = h0 := by rw [← hh, Bd.state]; rfl
  have N0 := Fr.nil n0
  refine Go.st (G := fun s₂ o_ => ∃ v_ L_, o_ = .returned v_ ∧ (Q_rm9 Z ch h0 n0) v_ s₂.heap L_ ∧ FrameEnd s o_ s₂ L_ ({ frames := 0, cells := 0, slots := 0, locals := 0 } : Room).cells ({ frames := 0, cells := 0, slots := 0, locals := 0 } : Room).slots) (fun t kt => castTop (ef_rm9 m ch) kt) ?_
  show Go p e below _ (s₁.setTop (mkF m 0 #[.val (.int ch)] []))
  refine Go.st (fun _ kt => XS.iloadN X0.here hx rfl (hb hby d9_0) rfl kt) ?_
  show Go p e below _ (s₁.setTop (mkF m 1 #[.val (.int ch)] [(.int ch)]))
  refine Go.st (fun _ kt => XS.sipush X0.here hx rfl (hb hby d9_1) kt) ?_
  show Go p e below _ (s₁.setTop (mkF m 4 #[.val (.int ch)] [(.int (255 : Int32)), (.int ch)]))
  refine Go.st (fun _ kt => XS.icmpNo X0.here hx rfl (hb hby d9_4) rfl (flt hch).2.2.1 kt) ?_
  show Go p e below _ (s₁.setTop (mkF m 7 #[.val (.int ch)] []))
  refine Go.st (fun _ kt => XS.iconst X0.here hx rfl (hb hby d9_7) kt) ?_
  show Go p e below _ (s₁.setTop (mkF m 8 #[.val (.int ch)] [(.int (1 : Int32))]))
  refine Go.st (fun _ kt => XS.goto X0.here hx rfl (pc0 := 8) (pc' := 12) rfl (hb hby d9_8) (by decide) (by decide) kt) ?_
  show Go p e below _ (s₁.setTop (mkF m 12 #[.val (.int ch)] [(.int (1 : Int32))]))
  refine Go.retN X0 hx (t := .boolean) Bd.returns (by simp) (BodyLoose.notSynchronized Bd) (hb hby d9_12) (Q := (Q_rm9 Z ch h0 n0)) (by decide) (by decide) ?_
  show (Q_rm9 Z ch h0 n0) _ s₁.heap _
  rw [e0]
  exact ⟨rfl, N0, rfl⟩
theorem d10_0 : decode jdk_43_method_46_code 0 = .ok (.iconst 1, 1) := by decide +kernel
theorem d10_1 : decode jdk_43_method_46_code 1 = .ok (.newarray .byte, 2) := by decide +kernel
theorem d10_3 : decode jdk_43_method_46_code 3 = .ok (.dup, 1) := by decide +kernel
theorem d10_4 : decode jdk_43_method_46_code 4 = .ok (.iconst 0, 1) := by decide +kernel
theorem d10_5 : decode jdk_43_method_46_code 5 = .ok (.iload_n 0, 1) := by decide +kernel
theorem d10_6 : decode jdk_43_method_46_code 6 = .ok (.i2b, 1) := by decide +kernel
theorem d10_7 : decode jdk_43_method_46_code 7 = .ok (.bastore, 1) := by decide +kernel
theorem d10_8 : decode jdk_43_method_46_code 8 = .ok (.areturn, 1) := by decide +kernel
def Q_rm10 (Z : State) (ch : Int32) (h0 : Heap) (n0 : Nat) (v : Option Value) (h : Heap) (L : List Loc) : Prop := ∃ b, v = some (.ref b) ∧ Fr n0 L ∧ Keep h0 h []
theorem ef_rm10 (m : MethodId) (ch : Int32) : entryFrame m #[(.int ch)] 1 = mkF m 0 #[.val (.int ch)] [] := by first | (simp [entryFrame, mkF, argsToLocals, Value.category]; done) | rfl
set_option maxRecDepth 65536 in
set_option maxHeartbeats 40000000 in
theorem rm10 (l : Launch) (Z : State) (a0 : Array Value) (hw : ∀ d ∈ tables_1, d.before a0 Z = true) (ws : List Jvm.Cond) (ch : Int32) (h0 : Heap) (n0 : Nat) (Z0 : n0 ≤ h0.size) :
    MetFree l (⟨"java/lang/StringLatin1", "toBytes", "(C)[B"⟩ : MethodName) (head1 (Jvm.Cond.code (⟨"java/lang/StringLatin1", "toBytes", "(C)[B"⟩ : MethodName) jdk_43_method_46_code 1 (some (.array .byte)) :: ws) ({ frames := 0, cells := 1, slots := 1, locals := 0 } : Room)) (fun ag_ U_ => ag_ = #[(.int ch)] ∧ Z.Warmed39 U_.vm ∧ U_.heap = h0) (fun _ _ _ _ _ => True) (fun _ U_ o_ V_ => ∃ v_ L_, o_ = .returned v_ ∧ (Q_rm10 Z ch h0 n0) v_ V_.heap L_ ∧ FrameEnd U_ o_ V_ L_ ({ frames := 0, cells := 1, slots := 1, locals := 0 } : Room).cells ({ frames := 0, cells := 1, slots := 1, locals := 0 } : Room).slots) := by
  refine MetFree.of_bodySF (plainFor_of_name own_pn4) hisR ?_
  intro p e s m args below meth c s₁ Bd hml0 hP hK
  obtain ⟨rfl, hZ, hh⟩ := hP
  have hx := Bd.exec
  have hby := Bd.bytes
  have hml : c.maxLocals = 1 := hml0
  have hown : s.vm.findClass "java/lang/StringLatin1" = some m.cls := findClass_of_methodNamed Bd.named
  have hnm := (name_of_methodNamed Bd.named Bd.method).1
  have X0 : Stand p l e ({ frames := 0, cells := 1, slots := 1, locals := 0 } : Room) s m #[(.int ch)] below meth c s₁ [] 0 0 := Stand.of_body Bd
  have e0 : s₁.heap = h0 := by rw [← hh, Bd.state]; rfl
  have N0 := Fr.nil n0
  refine Go.st (G := fun s₂ o_ => ∃ v_ L_, o_ = .returned v_ ∧ (Q_rm10 Z ch h0 n0) v_ s₂.heap L_ ∧ FrameEnd s o_ s₂ L_ ({ frames := 0, cells := 1, slots := 1, locals := 0 } : Room).cells ({ frames := 0, cells := 1, slots := 1, locals := 0 } : Room).slots) (fun t kt => castTop (ef_rm10 m ch) kt) ?_
  show Go p e below _ (s₁.setTop (mkF m 0 #[.val (.int ch)] []))
  refine Go.st (fun _ kt => XS.iconst X0.here hx rfl (hb hby d10_0) kt) ?_
  show Go p e below _ (s₁.setTop (mkF m 1 #[.val (.int ch)] [(.int (1 : Int32))]))
  obtain ⟨T1, h1, k1, X1, e1, E1, A1, Y1, st1⟩ := newPE X0 hx hZ (hw _ (List.mem_of_getElem? (i := 23) rfl)) e0 (g := (mkF m 1 #[.val (.int ch)] [(.int (1 : Int32))])) rfl (hb hby d10_1) rfl (by decide) (cap := 1) (by decide) (by decide) (by decide) (by decide) (ad := "[B") (by decide)
  obtain ⟨b1, g1⟩ : ∃ z, z = h0.size := ⟨_, rfl⟩
  rw [← g1] at A1 Y1 st1
  have gn_b1 : n0 ≤ b1 := Nat.le_trans Z0 (Nat.le_of_eq g1.symm)
  have Zs1 : n0 ≤ h1.size := Nat.le_trans Z0 E1.1
  have K1 : Keep h0 h1 [] := (Keep.refl h0 []).ext E1
  have kn_b1 : h0.size ≤ b1 := Nat.le_trans (Keep.refl h0 []).1 (Nat.le_of_eq g1.symm)
  refine Go.st st1 ?_
  have V1 : Arv Z h1 b1 k1 .byte (1 : Int32) [(.int (0 : Int32))] (.int (0 : Int32)) := (Arv.new A1 (by decide)).pad (pad_rep [] (.int (0 : Int32)) 1)
  show Go p e below _ (T1.setTop (mkF m 3 #[.val (.int ch)] [(.ref b1)]))
  refine Go.st (fun _ kt => XS.dup X1.here hx rfl (hb hby d10_3) rfl rfl kt) ?_
  show Go p e below _ (T1.setTop (mkF m 4 #[.val (.int ch)] [(.ref b1), (.ref b1)]))
  refine Go.st (fun _ kt => XS.iconst X1.here hx rfl (hb hby d10_4) kt) ?_
  show Go p e below _ (T1.setTop (mkF m 5 #[.val (.int ch)] [(.int (0 : Int32)), (.ref b1), (.ref b1)]))
  refine Go.st (fun _ kt => XS.iloadN X1.here hx rfl (hb hby d10_5) rfl kt) ?_
  show Go p e below _ (T1.setTop (mkF m 6 #[.val (.int ch)] [(.int ch), (.int (0 : Int32)), (.ref b1), (.ref b1)]))
  refine Go.st (fun _ kt => XS.i2b X1.here hx rfl (hb hby d10_6) rfl kt) ?_
  show Go p e below _ (T1.setTop (mkF m 7 #[.val (.int ch)] [(.int (ch.toInt8.toInt32)), (.int (0 : Int32)), (.ref b1), (.ref b1)]))
  obtain ⟨cl2, Ar2, q2, S2, N2', H2, G2⟩ := id V1
  have hin2 : ¬ ((0 : Int32) < 0 ∨ cl2.slots.size ≤ ((0 : Int32)).toNatClampNeg) := inb_of S2 ⟨by decide, by decide⟩
  obtain ⟨T3, h3, X3, e3, W3, st3⟩ := stB X1 hx hZ e1 Ar2 (j := (0 : Int32)) hin2 (g := (mkF m 7 #[.val (.int ch)] [(.int (ch.toInt8.toInt32)), (.int (0 : Int32)), (.ref b1), (.ref b1)])) rfl rfl (hb hby d10_7)
  refine Go.st st3 ?_
  have V3 : Arv Z h3 b1 k1 .byte (1 : Int32) [(.int ((ch.toInt8.toInt32).toInt8.toInt32))] (.int (0 : Int32)) := Arv.set Ar2 q2 S2 N2' H2 G2 (fits_nar_byte _) W3 0 rfl (Nat.le_of_ble_eq_true rfl)
  have Zs3 : n0 ≤ h3.size := Nat.le_trans Zs1 (Nat.le_of_eq W3.size.symm)
  have N3 := Fr.snoc X3 N0 gn_b1
  have K3 : Keep h0 h3 [] := K1.wr W3 (Or.inr kn_b1)
  show Go p e below _ (T3.setTop (mkF m 8 #[.val (.int ch)] [(.ref b1)]))
  refine Go.retA X3 hx Bd.returns rfl rfl (BodyLoose.notSynchronized Bd) (hb hby d10_8) (Q := (Q_rm10 Z ch h0 n0)) (by decide) (by decide) ?_
  show (Q_rm10 Z ch h0 n0) _ T3.heap _
  rw [e3]
  exact ⟨_, rfl, N3, K3⟩
theorem d11_0 : decode jdk_42_method_151_code 0 = .ok (.aload_n 0, 1) := by decide +kernel
theorem d11_1 : decode jdk_42_method_151_code 1 = .ok (.invokespecial 1, 3) := by decide +kernel
theorem d11_4 : decode jdk_42_method_151_code 4 = .ok (.aload_n 0, 1) := by decide +kernel
theorem d11_5 : decode jdk_42_method_151_code 5 = .ok (.aload_n 1, 1) := by decide +kernel
theorem d11_6 : decode jdk_42_method_151_code 6 = .ok (.putfield 9, 3) := by decide +kernel
theorem d11_9 : decode jdk_42_method_151_code 9 = .ok (.aload_n 0, 1) := by decide +kernel
theorem d11_10 : decode jdk_42_method_151_code 10 = .ok (.iload_n 2, 1) := by decide +kernel
theorem d11_11 : decode jdk_42_method_151_code 11 = .ok (.putfield 15, 3) := by decide +kernel
theorem d11_14 : decode jdk_42_method_151_code 14 = .ok (.return_, 1) := by decide +kernel
def Q_rm11 (Z : State) (a : Addr) (ba : Addr) (h0 : Heap) (n0 : Nat) (v : Option Value) (h : Heap) (L : List Loc) : Prop := v = none ∧ Fr n0 L ∧ Keep h0 h [a]
theorem ef_rm11 (m : MethodId) (a : Addr) (ba : Addr) : entryFrame m #[(.ref a), (.ref ba), (.int (0 : Int32))] 3 = mkF m 0 #[.val (.ref a), .val (.ref ba), .val (.int (0 : Int32))] [] := by first | (simp [entryFrame, mkF, argsToLocals, Value.category]; done) | rfl
set_option maxRecDepth 65536 in
set_option maxHeartbeats 40000000 in
theorem rm11 (l : Launch) (Z : State) (a0 : Array Value) (hw : ∀ d ∈ tables_1, d.before a0 Z = true) (ws : List Jvm.Cond) (a : Addr) (ba : Addr) (h0 : Heap) (n0 : Nat) (Z0 : n0 ≤ h0.size) (E_a : Exa Z h0 a "java/lang/String") (F_v : Fld Z h0 a "java/lang/String" "value" "[B" .null) (F_c : Fld Z h0 a "java/lang/String" "coder" "B" (.int (0 : Int32))) (gn_a : n0 ≤ a) :
    MetFree l (⟨"java/lang/String", "<init>", "([BB)V"⟩ : MethodName) (head1 (Jvm.Cond.code (⟨"java/lang/String", "<init>", "([BB)V"⟩ : MethodName) jdk_42_method_151_code 3 none :: ws) ({ frames := 1, cells := 0, slots := 0, locals := 12 } : Room)) (fun ag_ U_ => ag_ = #[(.ref a), (.ref ba), (.int (0 : Int32))] ∧ Z.Warmed39 U_.vm ∧ U_.heap = h0) (fun _ _ _ _ _ => True) (fun _ U_ o_ V_ => ∃ v_ L_, o_ = .returned v_ ∧ (Q_rm11 Z a ba h0 n0) v_ V_.heap L_ ∧ FrameEnd U_ o_ V_ L_ ({ frames := 1, cells := 0, slots := 0, locals := 12 } : Room).cells ({ frames := 1, cells := 0, slots := 0, locals := 12 } : Room).slots) := by
  refine MetFree.of_bodySF (plainFor_of_name own_pn0) hisR ?_
  intro p e s m args below meth c s₁ Bd hml0 hP hK
  obtain ⟨rfl, hZ, hh⟩ := hP
  have hx := Bd.exec
  have hby := Bd.bytes
  have hml : c.maxLocals = 3 := hml0
  have hown : s.vm.findClass "java/lang/String" = some m.cls := findClass_of_methodNamed Bd.named
  have hnm := (name_of_methodNamed Bd.named Bd.method).1
  have X0 : Stand p l e ({ frames := 1, cells := 0, slots := 0, locals := 12 } : Room) s m #[(.ref a), (.ref ba), (.int (0 : Int32))] below meth c s₁ [] 0 0 := Stand.of_body Bd
  have e0 : s₁.heap = h0 := by rw [← hh, Bd.state]; rfl
  have N0 := Fr.nil n0
  refine Go.st (G := fun s₂ o_ => ∃ v_ L_, o_ = .returned v_ ∧ (Q_rm11 Z a ba h0 n0) v_ s₂.heap L_ ∧ FrameEnd s o_ s₂ L_ ({ frames := 1, cells := 0, slots := 0, locals := 12 } : Room).cells ({ frames := 1, cells := 0, slots := 0, locals := 12 } : Room).slots) (fun t kt => castTop (ef_rm11 m a ba) kt) ?_
  show Go p e below _ (s₁.setTop (mkF m 0 #[.val (.ref a), .val (.ref ba), .val (.int (0 : Int32))] []))
  refine Go.st (fun _ kt => XS.aloadN X0.here hx rfl (hb hby d11_0) rfl rfl kt) ?_
  show Go p e below _ (s₁.setTop (mkF m 1 #[.val (.ref a), .val (.ref ba), .val (.int (0 : Int32))] [(.ref a)]))
  obtain ⟨T1, X1, e1, st1⟩ := initO X0 hx hZ hown (hw _ (List.mem_of_getElem? (i := 15) rfl)) (hw _ (List.mem_of_getElem? (i := 16) rfl)) (hw _ (List.mem_of_getElem? (i := 17) rfl)) e0 (g := (mkF m 1 #[.val (.ref a), .val (.ref ba), .val (.int (0 : Int32))] [(.ref a)])) rfl (by rw [hml]; rfl) rfl (hb hby d11_1) (by decide) (W := 0) (by show 2 * 0 + _ ≤ _; exact Nat.le_of_eq rfl) (by decide)
  refine Go.st st1 ?_
  show Go p e below _ (T1.setTop (mkF m 4 #[.val (.ref a), .val (.ref ba), .val (.int (0 : Int32))] []))
  refine Go.st (fun _ kt => XS.aloadN X1.here hx rfl (hb hby d11_4) rfl rfl kt) ?_
  show Go p e below _ (T1.setTop (mkF m 5 #[.val (.ref a), .val (.ref ba), .val (.int (0 : Int32))] [(.ref a)]))
  refine Go.st (fun _ kt => XS.aloadN X1.here hx rfl (hb hby d11_5) rfl rfl kt) ?_
  show Go p e below _ (T1.setTop (mkF m 6 #[.val (.ref a), .val (.ref ba), .val (.int (0 : Int32))] [(.ref ba), (.ref a)]))
  obtain ⟨T2, h2, X2, e2, W2, st2⟩ := putF X1 hx hZ hown (host := "") (Or.inl (hw _ (List.mem_of_getElem? (i := 32) rfl))) Via.refl e1 F_v E_a (Or.inr ⟨(hw _ (List.mem_of_getElem? (i := 33) rfl)), rfl, hnm⟩) (hw _ (List.mem_of_getElem? (i := 5) rfl)) (ty := (.array .byte)) (by decide) rfl rfl (g := (mkF m 6 #[.val (.ref a), .val (.ref ba), .val (.int (0 : Int32))] [(.ref ba), (.ref a)])) rfl rfl (hb hby d11_6)
  refine Go.st st2 ?_
  have Fw2 := F_v.same W2
  have Zs2 : n0 ≤ h2.size := Nat.le_trans Z0 (Nat.le_of_eq W2.size.symm)
  have N2 := Fr.snoc X2 N0 gn_a
  have K2 : Keep h0 h2 [a] := (Keep.refl h0 [a]).wr W2 (Or.inl (List.mem_of_getElem? (i := 0) rfl))
  show Go p e below _ (T2.setTop (mkF m 9 #[.val (.ref a), .val (.ref ba), .val (.int (0 : Int32))] []))
  refine Go.st (fun _ kt => XS.aloadN X2.here hx rfl (hb hby d11_9) rfl rfl kt) ?_
  show Go p e below _ (T2.setTop (mkF m 10 #[.val (.ref a), .val (.ref ba), .val (.int (0 : Int32))] [(.ref a)]))
  refine Go.st (fun _ kt => XS.iloadN X2.here hx rfl (hb hby d11_10) rfl kt) ?_
  show Go p e below _ (T2.setTop (mkF m 11 #[.val (.ref a), .val (.ref ba), .val (.int (0 : Int32))] [(.int (0 : Int32)), (.ref a)]))
  have f3 := (E_a.wr W2)
  have f4 := (F_c.other W2 (Or.inr (slot_ne (Or.inr (hw _ (List.mem_of_getElem? (i := 31) rfl))) (Or.inr (hw _ (List.mem_of_getElem? (i := 33) rfl))) (by decide) (t := .byte) (t' := (.array .byte)) (by decide) (by decide))))
  obtain ⟨T5, h5, X5, e5, W5, st5⟩ := putFN X2 hx hZ hown (hw _ (List.mem_of_getElem? (i := 30) rfl)) Via.refl e2 f4 f3 (Or.inr ⟨(hw _ (List.mem_of_getElem? (i := 31) rfl)), rfl, hnm⟩) (hw _ (List.mem_of_getElem? (i := 5) rfl)) (ty := .byte) (v' := (.int (0 : Int32))) (by decide) rfl (by decide) (g := (mkF m 11 #[.val (.ref a), .val (.ref ba), .val (.int (0 : Int32))] [(.int (0 : Int32)), (.ref a)])) rfl rfl (hb hby d11_11)
  refine Go.st st5 ?_
  have Fw5 := f4.same W5
  have Zs5 : n0 ≤ h5.size := Nat.le_trans Zs2 (Nat.le_of_eq W5.size.symm)
  have N5 := Fr.snoc X5 N2 gn_a
  have K5 : Keep h0 h5 [a] := K2.wr W5 (Or.inl (List.mem_of_getElem? (i := 0) rfl))
  show Go p e below _ (T5.setTop (mkF m 14 #[.val (.ref a), .val (.ref ba), .val (.int (0 : Int32))] []))
  refine Go.retV X5 hx Bd.returns (BodyLoose.notSynchronized Bd) (hb hby d11_14) (Q := (Q_rm11 Z a ba h0 n0)) (by decide) (by decide) ?_
  show (Q_rm11 Z a ba h0 n0) _ T5.heap _
  rw [e5]
  exact ⟨rfl, N5, K5⟩
theorem own_pd5 : parseMethodDescriptor "(C)Z" = some ⟨[.char], some .boolean⟩ := by decide +kernel
theorem own_pd6 : parseMethodDescriptor "(C)[B" = some ⟨[.char], some (.array .byte)⟩ := by decide +kernel
theorem own_pd7 : parseMethodDescriptor "([BB)V" = some ⟨[(.array .byte), .byte], none⟩ := by decide +kernel
theorem d8_0 : decode jdk_42_method_139_code 0 = .ok (.getstatic 38, 3) := by decide +kernel
theorem d8_3 : decode jdk_42_method_139_code 3 = .ok (.ifCond .eq 23, 3) := by decide +kernel
theorem d8_6 : decode jdk_42_method_139_code 6 = .ok (.iload_n 0, 1) := by decide +kernel
theorem d8_7 : decode jdk_42_method_139_code 7 = .ok (.invokestatic 1015, 3) := by decide +kernel
theorem d8_10 : decode jdk_42_method_139_code 10 = .ok (.ifCond .eq 16, 3) := by decide +kernel
theorem d8_13 : decode jdk_42_method_139_code 13 = .ok (.new 10, 3) := by decide +kernel
theorem d8_16 : decode jdk_42_method_139_code 16 = .ok (.dup, 1) := by decide +kernel
theorem d8_17 : decode jdk_42_method_139_code 17 = .ok (.iload_n 0, 1) := by decide +kernel
theorem d8_18 : decode jdk_42_method_139_code 18 = .ok (.invokestatic 1018, 3) := by decide +kernel
theorem d8_21 : decode jdk_42_method_139_code 21 = .ok (.iconst 0, 1) := by decide +kernel
theorem d8_22 : decode jdk_42_method_139_code 22 = .ok (.invokespecial 209, 3) := by decide +kernel
theorem d8_25 : decode jdk_42_method_139_code 25 = .ok (.areturn, 1) := by decide +kernel
def Q_rm8 (Z : State) (ch : Int32) (G1 : Int32) (h0 : Heap) (n0 : Nat) (v : Option Value) (h : Heap) (L : List Loc) : Prop := ∃ x, v = some (.ref x) ∧ Fr n0 L ∧ Keep h0 h [] ∧ h0.size ≤ x ∧ Exa Z h x "java/lang/String"
theorem ef_rm8 (m : MethodId) (ch : Int32) : entryFrame m #[(.int ch)] 1 = mkF m 0 #[.val (.int ch)] [] := by first | (simp [entryFrame, mkF, argsToLocals, Value.category]; done) | rfl
set_option maxRecDepth 65536 in
set_option maxHeartbeats 40000000 in
theorem rm8 (l : Launch) (Z : State) (a0 : Array Value) (hw : ∀ d ∈ tables_1, d.before a0 Z = true) (ws : List Jvm.Cond) (ch : Int32) (G1 : Int32) (h0 : Heap) (n0 : Nat) (Z0 : n0 ≤ h0.size) (O2 : Sta Z Z.heap "java/lang/String" "COMPACT_STRINGS" "Z" (.int G1)) (P5 : ¬ G1 = 0) (XE : Ext Z.heap h0) (hz0 : Z.heap.size ≤ n0) (hch : ¬ (255 : Int32) < ch) :
    MetFree l (⟨"java/lang/String", "valueOf", "(C)Ljava/lang/String;"⟩ : MethodName) (head1 (Jvm.Cond.code (⟨"java/lang/String", "valueOf", "(C)Ljava/lang/String;"⟩ : MethodName) jdk_42_method_139_code 1 (some (.object "java/lang/String")) :: ws) ({ frames := 2, cells := 2, slots := 5, locals := 27 } : Room)) (fun ag_ U_ => ag_ = #[(.int ch)] ∧ Z.Warmed39 U_.vm ∧ U_.heap = h0) (fun _ _ _ _ _ => True) (fun _ U_ o_ V_ => ∃ v_ L_, o_ = .returned v_ ∧ (Q_rm8 Z ch G1 h0 n0) v_ V_.heap L_ ∧ FrameEnd U_ o_ V_ L_ ({ frames := 2, cells := 2, slots := 5, locals := 27 } : Room).cells ({ frames := 2, cells := 2, slots := 5, locals := 27 } : Room).slots) := by
  refine MetFree.of_bodySF (plainFor_of_name own_pn0) hisR ?_
  intro p e s m args below meth c s₁ Bd hml0 hP hK
  obtain ⟨rfl, hZ, hh⟩ := hP
  have hx := Bd.exec
  have hby := Bd.bytes
  have hml : c.maxLocals = 1 := hml0
  have hown : s.vm.findClass "java/lang/String" = some m.cls := findClass_of_methodNamed Bd.named
  have hnm := (name_of_methodNamed Bd.named Bd.method).1
  have X0 : Stand p l e ({ frames := 2, cells := 2, slots := 5, locals := 27 } : Room) s m #[(.int ch)] below meth c s₁ [] 0 0 := Stand.of_body Bd
  have e0 : s₁.heap = h0 := by rw [← hh, Bd.state]; rfl
  have N0 := Fr.nil n0
  refine Go.st (G := fun s₂ o_ => ∃ v_ L_, o_ = .returned v_ ∧ (Q_rm8 Z ch G1 h0 n0) v_ s₂.heap L_ ∧ FrameEnd s o_ s₂ L_ ({ frames := 2, cells := 2, slots := 5, locals := 27 } : Room).cells ({ frames := 2, cells := 2, slots := 5, locals := 27 } : Room).slots) (fun t kt => castTop (ef_rm8 m ch) kt) ?_
  have SC := O2.ext XE
  show Go p e below _ (s₁.setTop (mkF m 0 #[.val (.int ch)] []))
  obtain ⟨T1, X1, e1, st1⟩ := getS2 X0 hx hZ hown (host := "") (Or.inl (hw _ (List.mem_of_getElem? (i := 18) rfl))) Via.refl e0 SC (g := (mkF m 0 #[.val (.int ch)] [])) rfl (hb hby d8_0)
  refine Go.st st1 ?_
  show Go p e below _ (T1.setTop (mkF m 3 #[.val (.int ch)] [(.int G1)]))
  refine Go.st (fun _ kt => XS.ifNo X1.here hx rfl (hb hby d8_3) rfl ((if0 _ _).trans (feq P5).1) kt) ?_
  show Go p e below _ (T1.setTop (mkF m 6 #[.val (.int ch)] []))
  refine Go.st (fun _ kt => XS.iloadN X1.here hx rfl (hb hby d8_6) rfl kt) ?_
  show Go p e below _ (T1.setTop (mkF m 7 #[.val (.int ch)] [(.int ch)]))
  obtain ⟨_, _, ⟨T2, L2, k2, n2⟩, -, X2, ⟨Lc2, hQ2, l2, y2, z2⟩, st2⟩ := Jvm.LawKit.callS X1 hx (y := (⟨"java/lang/StringLatin1", "canEncode", "(C)Z"⟩ : MethodName)) hown (mvT hZ (hw _ (List.mem_of_getElem? (i := 40) rfl))) (mvT hZ (hw _ (List.mem_of_getElem? (i := 41) rfl))) (mvT hZ (hw _ (List.mem_of_getElem? (i := 42) rfl))) (mvT hZ (hw _ (List.mem_of_getElem? (i := 43) rfl))) (by decide) (backOf (W := 0) (rm9 l Z a0 hw [] ch h0 n0 Z0 hch) hZ (hw _ (List.mem_of_getElem? (i := 43) rfl)) (hw _ (List.mem_of_getElem? (i := 42) rfl)) (by decide) (by decide)) (g := (mkF m 7 #[.val (.int ch)] [(.int ch)])) rfl (by rw [hml]; rfl) (argsL := [(.int ch)]) (rest := []) (lenOf own_pd5 rfl) rfl (by show 2 * 0 + _ ≤ _; exact Nat.le_of_eq rfl) (hb hby d8_7) (fun _ _ => ⟨rfl, e1, (by decide : 0 + 0 ≤ _), (by decide : 0 + 0 ≤ _)⟩)
  dsimp only [Pt.U, Pt.locs, Pt.cells, Pt.slots] at X2 l2 y2 z2 st2 hQ2
  subst l2 y2 z2
  obtain ⟨rfl, N2q, e2⟩ := hQ2
  have N2 := Fr.app N0 N2q
  refine Go.st st2 ?_
  show Go p e below _ (T2.setTop (mkF m 10 #[.val (.int ch)] [(.int (1 : Int32))]))
  refine Go.st (fun _ kt => XS.ifNo X2.here hx rfl (hb hby d8_10) rfl ((if0 _ _).trans (feq (by decide : ¬ ((1 : Int32) = (0 : Int32)))).1) kt) ?_
  show Go p e below _ (T2.setTop (mkF m 13 #[.val (.int ch)] []))
  obtain ⟨T3, h3, X3, e3, E3, A3, D3, U3, st3⟩ := newO X2 hx hZ hown (hw _ (List.mem_of_getElem? (i := 44) rfl)) (hw _ (List.mem_of_getElem? (i := 5) rfl)) (hw _ (List.mem_of_getElem? (i := 6) rfl)) e2 (g := (mkF m 13 #[.val (.int ch)] [])) rfl (hb hby d8_13) (by decide) (by decide)
  obtain ⟨b3, g3⟩ : ∃ z, z = h0.size := ⟨_, rfl⟩
  rw [← g3] at A3 D3 U3 st3
  have gn_b3 : n0 ≤ b3 := Nat.le_trans Z0 (Nat.le_of_eq g3.symm)
  have Zs3 : n0 ≤ h3.size := Nat.le_trans Z0 E3.1
  have K3 : Keep h0 h3 [] := (Keep.refl h0 []).ext E3
  have kn_b3 : h0.size ≤ b3 := Nat.le_trans (Keep.refl h0 []).1 (Nat.le_of_eq g3.symm)
  refine Go.st st3 ?_
  have F3_coder : Fld Z h3 b3 "java/lang/String" "coder" "B" (.int (0 : Int32)) := D3 (Or.inr (hw _ (List.mem_of_getElem? (i := 31) rfl))) (ty := .byte) (by decide)
  have F3_value : Fld Z h3 b3 "java/lang/String" "value" "[B" .null := D3 (Or.inr (hw _ (List.mem_of_getElem? (i := 33) rfl))) (ty := (.array .byte)) (by decide)
  show Go p e below _ (T3.setTop (mkF m 16 #[.val (.int ch)] [(.ref b3)]))
  refine Go.st (fun _ kt => XS.dup X3.here hx rfl (hb hby d8_16) rfl rfl kt) ?_
  show Go p e below _ (T3.setTop (mkF m 17 #[.val (.int ch)] [(.ref b3), (.ref b3)]))
  refine Go.st (fun _ kt => XS.iloadN X3.here hx rfl (hb hby d8_17) rfl kt) ?_
  show Go p e below _ (T3.setTop (mkF m 18 #[.val (.int ch)] [(.int ch), (.ref b3), (.ref b3)]))
  obtain ⟨_, _, ⟨T4, L4, k4, n4⟩, -, X4, ⟨Lc4, hQ4, l4, y4, z4⟩, st4⟩ := Jvm.LawKit.callS X3 hx (y := (⟨"java/lang/StringLatin1", "toBytes", "(C)[B"⟩ : MethodName)) hown (mvT hZ (hw _ (List.mem_of_getElem? (i := 45) rfl))) (mvT hZ (hw _ (List.mem_of_getElem? (i := 46) rfl))) (mvT hZ (hw _ (List.mem_of_getElem? (i := 42) rfl))) (mvT hZ (hw _ (List.mem_of_getElem? (i := 47) rfl))) (by decide) (backOf (W := 2) (rm10 l Z a0 hw [] ch h3 n0 Zs3) hZ (hw _ (List.mem_of_getElem? (i := 47) rfl)) (hw _ (List.mem_of_getElem? (i := 42) rfl)) (by decide) (by decide)) (g := (mkF m 18 #[.val (.int ch)] [(.int ch), (.ref b3), (.ref b3)])) rfl (by rw [hml]; rfl) (argsL := [(.int ch)]) (rest := [(.ref b3), (.ref b3)]) (lenOf own_pd6 rfl) rfl (by show 2 * 0 + _ ≤ _; exact Nat.le_of_eq rfl) (hb hby d8_18) (fun _ _ => ⟨rfl, e3, (by decide : 1 + 1 ≤ _), (by decide : 4 + 1 ≤ _)⟩)
  dsimp only [Pt.U, Pt.locs, Pt.cells, Pt.slots] at X4 l4 y4 z4 st4 hQ4
  subst l4 y4 z4
  obtain ⟨bb4, rfl, N4q, K4q⟩ := hQ4
  have Zs4 : n0 ≤ T4.heap.size := Nat.le_trans Zs3 K4q.1
  have K4 : Keep h0 T4.heap [] := K3.trans K4q all0
  have N4 := Fr.app N2 N4q
  refine Go.st st4 ?_
  show Go p e below _ (T4.setTop (mkF m 21 #[.val (.int ch)] [(.ref bb4), (.ref b3), (.ref b3)]))
  refine Go.st (fun _ kt => XS.iconst X4.here hx rfl (hb hby d8_21) kt) ?_
  show Go p e below _ (T4.setTop (mkF m 22 #[.val (.int ch)] [(.int (0 : Int32)), (.ref bb4), (.ref b3), (.ref b3)]))
  have f5 := (A3.keep K4q)
  have f6 := (F3_value.keep K4q nin0)
  have f7 := (F3_coder.keep K4q nin0)
  obtain ⟨_, _, ⟨T8, L8, k8, n8⟩, -, X8, ⟨Lc8, hQ8, l8, y8, z8⟩, st8⟩ := X4.specialBack hx (y := (⟨"java/lang/String", "<init>", "([BB)V"⟩ : MethodName)) rfl hown (mvT hZ (hw _ (List.mem_of_getElem? (i := 48) rfl))) (mvT hZ (hw _ (List.mem_of_getElem? (i := 49) rfl))) (mvT hZ (hw _ (List.mem_of_getElem? (i := 50) rfl))) (by decide) (backOf (W := 1) (rm11 l Z a0 hw [] b3 bb4 T4.heap n0 Zs4 f5 f6 f7 gn_b3) hZ (hw _ (List.mem_of_getElem? (i := 50) rfl)) (hw _ (List.mem_of_getElem? (i := 6) rfl)) (by decide) (by decide)) (g := (mkF m 22 #[.val (.int ch)] [(.int (0 : Int32)), (.ref bb4), (.ref b3), (.ref b3)])) rfl (by rw [hml]; rfl) (Steps.refl _) (a := b3) (argsL := [(.ref bb4), (.int (0 : Int32))]) (rest := [(.ref b3)]) (lenOf own_pd7 rfl) rfl (by show 2 * 0 + _ ≤ _; exact Nat.le_of_eq rfl) (hb hby d8_22) (fun _ _ => ⟨rfl, rfl, (by decide : 2 + 0 ≤ _), (by decide : 5 + 0 ≤ _)⟩)
  dsimp only [Pt.U, Pt.locs, Pt.cells, Pt.slots] at X8 l8 y8 z8 st8 hQ8
  subst l8 y8 z8
  obtain ⟨rfl, N8q, K8q⟩ := hQ8
  have Zs8 : n0 ≤ T8.heap.size := Nat.le_trans Zs4 K8q.1
  have K8 : Keep h0 T8.heap [] := K4.trans K8q (allS (Or.inr kn_b3) all0)
  have N8 := Fr.app N4 N8q
  refine Go.tr st8 ?_
  show Go p e below _ (T8.setTop (mkF m 25 #[.val (.int ch)] [(.ref b3)]))
  have f9 := (f5.keep K8q)
  refine Go.retA X8 hx Bd.returns rfl rfl (BodyLoose.notSynchronized Bd) (hb hby d8_25) (Q := (Q_rm8 Z ch G1 h0 n0)) (by decide) (by decide) ?_
  show (Q_rm8 Z ch G1 h0 n0) _ T8.heap _
  exact ⟨b3, rfl, N8, K8, kn_b3, f9⟩
theorem d13_0 : decode jdk_30_method_1_code 0 = .ok (.aload_n 0, 1) := by decide +kernel
theorem d13_1 : decode jdk_30_method_1_code 1 = .ok (.invokespecial 1, 3) := by decide +kernel
theorem d13_4 : decode jdk_30_method_1_code 4 = .ok (.return_, 1) := by decide +kernel
theorem own_pn8 : plainName "java/lang/Record" = true := by first | (simp [plainName, overriddenIn]; done) | decide +kernel
def Q_rm13 (Z : State) (a : Addr) (h0 : Heap) (n0 : Nat) (v : Option Value) (h : Heap) (L : List Loc) : Prop := v = none ∧ Fr n0 L ∧ h = h0
theorem ef_rm13 (m : MethodId) (a : Addr) : entryFrame m #[(.ref a)] 1 = mkF m 0 #[.val (.ref a)] [] := by first | (simp [entryFrame, mkF, argsToLocals, Value.category]; done) | rfl
set_option maxRecDepth 65536 in
set_option maxHeartbeats 40000000 in
theorem rm13 (l : Launch) (Z : State) (a0 : Array Value) (hw : ∀ d ∈ tables_1, d.before a0 Z = true) (ws : List Jvm.Cond) (a : Addr) (h0 : Heap) (n0 : Nat) (Z0 : n0 ≤ h0.size) :
    MetFree l (⟨"java/lang/Record", "<init>", "()V"⟩ : MethodName) (head1 (Jvm.Cond.code (⟨"java/lang/Record", "<init>", "()V"⟩ : MethodName) jdk_30_method_1_code 1 none :: ws) ({ frames := 1, cells := 0, slots := 0, locals := 12 } : Room)) (fun ag_ U_ => ag_ = #[(.ref a)] ∧ Z.Warmed39 U_.vm ∧ U_.heap = h0) (fun _ _ _ _ _ => True) (fun _ U_ o_ V_ => ∃ v_ L_, o_ = .returned v_ ∧ (Q_rm13 Z a h0 n0) v_ V_.heap L_ ∧ FrameEnd U_ o_ V_ L_ ({ frames := 1, cells := 0, slots := 0, locals := 12 } : Room).cells ({ frames := 1, cells := 0, slots := 0, locals := 12 } : Room).slots) := by
  refine MetFree.of_bodySF (plainFor_of_name own_pn8) hisR ?_
  intro p e s m args below meth c s₁ Bd hml0 hP hK
  obtain ⟨rfl, hZ, hh⟩ := hP
  have hx := Bd.exec
  have hby := Bd.bytes
  have hml : c.maxLocals = 1 := hml0
  have hown : s.vm.findClass "java/lang/Record" = some m.cls := findClass_of_methodNamed Bd.named
  have hnm := (name_of_methodNamed Bd.named Bd.method).1
  have X0 : Stand p l e ({ frames := 1, cells := 0, slots := 0, locals := 12 } : Room) s m #[(.ref a)] below meth c s₁ [] 0 0 := Stand.of_body Bd
  have e0 : s₁.heap = h0 := by rw [← hh, Bd.state]; rfl
  have N0 := Fr.nil n0
  refine Go.st (G := fun s₂ o_ => ∃ v_ L_, o_ = .returned v_ ∧ (Q_rm13 Z a h0 n0) v_ s₂.heap L_ ∧ FrameEnd s o_ s₂ L_ ({ frames := 1, cells := 0, slots := 0, locals := 12 } : Room).cells ({ frames := 1, cells := 0, slots := 0, locals := 12 } : Room).slots) (fun t kt => castTop (ef_rm13 m a) kt) ?_
  show Go p e below _ (s₁.setTop (mkF m 0 #[.val (.ref a)] []))
  refine Go.st (fun _ kt => XS.aloadN X0.here hx rfl (hb hby d13_0) rfl rfl kt) ?_
  show Go p e below _ (s₁.setTop (mkF m 1 #[.val (.ref a)] [(.ref a)]))
  obtain ⟨T1, X1, e1, st1⟩ := initO X0 hx hZ hown (hw _ (List.mem_of_getElem? (i := 62) rfl)) (hw _ (List.mem_of_getElem? (i := 16) rfl)) (hw _ (List.mem_of_getElem? (i := 17) rfl)) e0 (g := (mkF m 1 #[.val (.ref a)] [(.ref a)])) rfl (by rw [hml]; rfl) rfl (hb hby d13_1) (by decide) (W := 0) (by show 2 * 0 + _ ≤ _; exact Nat.le_of_eq rfl) (by decide)
  refine Go.st st1 ?_
  show Go p e below _ (T1.setTop (mkF m 4 #[.val (.ref a)] []))
  refine Go.retV X1 hx Bd.returns (BodyLoose.notSynchronized Bd) (hb hby d13_4) (Q := (Q_rm13 Z a h0 n0)) (by decide) (by decide) ?_
  show (Q_rm13 Z a h0 n0) _ T1.heap _
  rw [e1]
  exact ⟨rfl, N0, rfl⟩
theorem d14_0 : decode jdk_31_method_11_code 0 = .ok (.aload_n 0, 1) := by decide +kernel
theorem d14_1 : decode jdk_31_method_11_code 1 = .ok (.ifnonnull 12, 3) := by decide +kernel
theorem d14_13 : decode jdk_31_method_11_code 13 = .ok (.aload_n 0, 1) := by decide +kernel
theorem d14_14 : decode jdk_31_method_11_code 14 = .ok (.areturn, 1) := by decide +kernel
theorem own_pn9 : plainName "java/util/Objects" = true := by first | (simp [plainName, overriddenIn]; done) | decide +kernel
def Q_rm14 (Z : State) (ob : Addr) (mg : Addr) (h0 : Heap) (n0 : Nat) (v : Option Value) (h : Heap) (L : List Loc) : Prop := v = some (.ref ob) ∧ Fr n0 L ∧ h = h0
theorem ef_rm14 (m : MethodId) (ob : Addr) (mg : Addr) : entryFrame m #[(.ref ob), (.ref mg)] 2 = mkF m 0 #[.val (.ref ob), .val (.ref mg)] [] := by first | (simp [entryFrame, mkF, argsToLocals, Value.category]; done) | rfl
set_option maxRecDepth 65536 in
set_option maxHeartbeats 40000000 in
theorem rm14 (l : Launch) (Z : State) (a0 : Array Value) (hw : ∀ d ∈ tables_1, d.before a0 Z = true) (ws : List Jvm.Cond) (ob : Addr) (mg : Addr) (h0 : Heap) (n0 : Nat) (Z0 : n0 ≤ h0.size) :
    MetFree l (⟨"java/util/Objects", "requireNonNull", "(Ljava/lang/Object;Ljava/lang/String;)Ljava/lang/Object;"⟩ : MethodName) (head1 (Jvm.Cond.code (⟨"java/util/Objects", "requireNonNull", "(Ljava/lang/Object;Ljava/lang/String;)Ljava/lang/Object;"⟩ : MethodName) jdk_31_method_11_code 2 (some (.object "java/lang/Object")) :: ws) ({ frames := 0, cells := 0, slots := 0, locals := 0 } : Room)) (fun ag_ U_ => ag_ = #[(.ref ob), (.ref mg)] ∧ Z.Warmed39 U_.vm ∧ U_.heap = h0) (fun _ _ _ _ _ => True) (fun _ U_ o_ V_ => ∃ v_ L_, o_ = .returned v_ ∧ (Q_rm14 Z ob mg h0 n0) v_ V_.heap L_ ∧ FrameEnd U_ o_ V_ L_ ({ frames := 0, cells := 0, slots := 0, locals := 0 } : Room).cells ({ frames := 0, cells := 0, slots := 0, locals := 0 } : Room).slots) := by
  refine MetFree.of_bodySF (plainFor_of_name own_pn9) hisR ?_
  intro p e s m args below meth c s₁ Bd hml0 hP hK
  obtain ⟨rfl, hZ, hh⟩ := hP
  have hx := Bd.exec
  have hby := Bd.bytes
  have hml : c.maxLocals = 2 := hml0
  have hown : s.vm.findClass "java/util/Objects" = some m.cls := findClass_of_methodNamed Bd.named
  have hnm := (name_of_methodNamed Bd.named Bd.method).1
  have X0 : Stand p l e ({ frames := 0, cells := 0, slots := 0, locals := 0 } : Room) s m #[(.ref ob), (.ref mg)] below meth c s₁ [] 0 0 := Stand.of_body Bd
  have e0 : s₁.heap = h0 := by rw [← hh, Bd.state]; rfl
  have N0 := Fr.nil n0
  refine Go.st (G := fun s₂ o_ => ∃ v_ L_, o_ = .returned v_ ∧ (Q_rm14 Z ob mg h0 n0) v_ s₂.heap L_ ∧ FrameEnd s o_ s₂ L_ ({ frames := 0, cells := 0, slots := 0, locals := 0 } : Room).cells ({ frames := 0, cells := 0, slots := 0, locals := 0 } : Room).slots) (fun t kt => castTop (ef_rm14 m ob mg) kt) ?_
  show Go p e below _ (s₁.setTop (mkF m 0 #[.val (.ref ob), .val (.ref mg)] []))
  refine Go.st (fun _ kt => XS.aloadN X0.here hx rfl (hb hby d14_0) rfl rfl kt) ?_
  show Go p e below _ (s₁.setTop (mkF m 1 #[.val (.ref ob), .val (.ref mg)] [(.ref ob)]))
  refine Go.st (fun _ kt => XS.ifnonnullYes X0.here hx rfl (pc0 := 1) (pc' := 13) rfl (hb hby d14_1) rfl (by decide) (by decide) kt) ?_
  show Go p e below _ (s₁.setTop (mkF m 13 #[.val (.ref ob), .val (.ref mg)] []))
  refine Go.st (fun _ kt => XS.aloadN X0.here hx rfl (hb hby d14_13) rfl rfl kt) ?_
  show Go p e below _ (s₁.setTop (mkF m 14 #[.val (.ref ob), .val (.ref mg)] [(.ref ob)]))
  refine Go.retA X0 hx Bd.returns rfl rfl (BodyLoose.notSynchronized Bd) (hb hby d14_14) (Q := (Q_rm14 Z ob mg h0 n0)) (by decide) (by decide) ?_
  show (Q_rm14 Z ob mg h0 n0) _ s₁.heap _
  rw [e0]
  exact ⟨rfl, N0, rfl⟩
theorem own_pd10 : parseMethodDescriptor "()V" = some ⟨[], none⟩ := by decide +kernel
theorem own_pd11 : parseMethodDescriptor "(Ljava/lang/Object;Ljava/lang/String;)Ljava/lang/Object;" = some ⟨[(.object "java/lang/Object"), (.object "java/lang/String")], some (.object "java/lang/Object")⟩ := by decide +kernel
theorem d12_0 : decode prog_26_method_1_code 0 = .ok (.aload_n 0, 1) := by decide +kernel
theorem d12_1 : decode prog_26_method_1_code 1 = .ok (.invokespecial 1, 3) := by decide +kernel
theorem d12_4 : decode prog_26_method_1_code 4 = .ok (.aload_n 1, 1) := by decide +kernel
theorem d12_5 : decode prog_26_method_1_code 5 = .ok (.ldc 7, 2) := by decide +kernel
theorem d12_7 : decode prog_26_method_1_code 7 = .ok (.invokestatic 9, 3) := by decide +kernel
theorem d12_10 : decode prog_26_method_1_code 10 = .ok (.pop, 1) := by decide +kernel
theorem d12_11 : decode prog_26_method_1_code 11 = .ok (.aload_n 2, 1) := by decide +kernel
theorem d12_12 : decode prog_26_method_1_code 12 = .ok (.ldc 15, 2) := by decide +kernel
theorem d12_14 : decode prog_26_method_1_code 14 = .ok (.invokestatic 9, 3) := by decide +kernel
theorem d12_17 : decode prog_26_method_1_code 17 = .ok (.pop, 1) := by decide +kernel
theorem d12_18 : decode prog_26_method_1_code 18 = .ok (.aload_n 3, 1) := by decide +kernel
theorem d12_19 : decode prog_26_method_1_code 19 = .ok (.ldc 17, 2) := by decide +kernel
theorem d12_21 : decode prog_26_method_1_code 21 = .ok (.invokestatic 9, 3) := by decide +kernel
theorem d12_24 : decode prog_26_method_1_code 24 = .ok (.pop, 1) := by decide +kernel
theorem d12_25 : decode prog_26_method_1_code 25 = .ok (.aload_n 0, 1) := by decide +kernel
theorem d12_26 : decode prog_26_method_1_code 26 = .ok (.aload_n 1, 1) := by decide +kernel
theorem d12_27 : decode prog_26_method_1_code 27 = .ok (.putfield 19, 3) := by decide +kernel
theorem d12_30 : decode prog_26_method_1_code 30 = .ok (.aload_n 0, 1) := by decide +kernel
theorem d12_31 : decode prog_26_method_1_code 31 = .ok (.aload_n 2, 1) := by decide +kernel
theorem d12_32 : decode prog_26_method_1_code 32 = .ok (.putfield 24, 3) := by decide +kernel
theorem d12_35 : decode prog_26_method_1_code 35 = .ok (.aload_n 0, 1) := by decide +kernel
theorem d12_36 : decode prog_26_method_1_code 36 = .ok (.aload_n 3, 1) := by decide +kernel
theorem d12_37 : decode prog_26_method_1_code 37 = .ok (.putfield 26, 3) := by decide +kernel
theorem d12_40 : decode prog_26_method_1_code 40 = .ok (.return_, 1) := by decide +kernel
theorem own_pn12 : plainName "com/example/manyhands/manyhands/crowd/Ordering" = true := by first | (simp [plainName, overriddenIn]; done) | decide +kernel
def Q_rm12 (Z : State) (a : Addr) (qs : Addr) (ls : Addr) (rs : Addr) (h0 : Heap) (n0 : Nat) (v : Option Value) (vm : Vm) (h : Heap) (L : List Loc) : Prop := v = none ∧ Fr n0 L ∧ Keep h0 h [a] ∧ Fld Z h a "com/example/manyhands/manyhands/crowd/Ordering" "left" "Ljava/lang/String;" (.ref ls) ∧ Fld Z h a "com/example/manyhands/manyhands/crowd/Ordering" "right" "Ljava/lang/String;" (.ref rs)
theorem ef_rm12 (m : MethodId) (a : Addr) (qs : Addr) (ls : Addr) (rs : Addr) : entryFrame m #[(.ref a), (.ref qs), (.ref ls), (.ref rs)] 4 = mkF m 0 #[.val (.ref a), .val (.ref qs), .val (.ref ls), .val (.ref rs)] [] := by first | (simp [entryFrame, mkF, argsToLocals, Value.category]; done) | rfl
set_option maxRecDepth 65536 in
set_option maxHeartbeats 40000000 in
theorem rm12 (l : Launch) (Z : State) (a0 : Array Value) (hw : ∀ d ∈ tables_1, d.before a0 Z = true) (ws : List Jvm.Cond) (a : Addr) (qs : Addr) (ls : Addr) (rs : Addr) (h0 : Heap) (n0 : Nat) (Z0 : n0 ≤ h0.size) (E_a : Exa Z h0 a "com/example/manyhands/manyhands/crowd/Ordering") (F_question : Fld Z h0 a "com/example/manyhands/manyhands/crowd/Ordering" "question" "Ljava/lang/String;" .null) (F_left : Fld Z h0 a "com/example/manyhands/manyhands/crowd/Ordering" "left" "Ljava/lang/String;" .null) (F_right : Fld Z h0 a "com/example/manyhands/manyhands/crowd/Ordering" "right" "Ljava/lang/String;" .null) (gn_a : n0 ≤ a) :
    MetFree l (⟨"com/example/manyhands/manyhands/crowd/Ordering", "<init>", "(Ljava/lang/String;Ljava/lang/String;Ljava/lang/String;)V"⟩ : MethodName) (head1 (Jvm.Cond.code (⟨"com/example/manyhands/manyhands/crowd/Ordering", "<init>", "(Ljava/lang/String;Ljava/lang/String;Ljava/lang/String;)V"⟩ : MethodName) prog_26_method_1_code 4 none :: ws) ({ frames := 2, cells := 6, slots := 80, locals := 24 } : Room)) (fun ag_ U_ => ag_ = #[(.ref a), (.ref qs), (.ref ls), (.ref rs)] ∧ Z.Warmed39 U_.vm ∧ U_.heap = h0 ∧ (fun vm_ => True) U_.vm) (fun _ _ _ _ _ => True) (fun _ U_ o_ V_ => ∃ v_ L_, o_ = .returned v_ ∧ (Q_rm12 Z a qs ls rs h0 n0) v_ V_.vm V_.heap L_ ∧ ReturnedEndW U_ o_ V_ L_ ({ frames := 2, cells := 6, slots := 80, locals := 24 } : Room).cells ({ frames := 2, cells := 6, slots := 80, locals := 24 } : Room).slots) := by
  refine MetFree.of_bodySF (plainFor_of_name own_pn12) hisR ?_
  intro p e s m args below meth c s₁ Bd hml0 hP hK
  obtain ⟨rfl, hZ0, hh, J0⟩ := hP
  have hx := Bd.exec
  have hby := Bd.bytes
  have hml : c.maxLocals = 4 := hml0
  have hZ : Z.Warmed39 (s.setVm s.vm).vm := hZ0
  have hown : (s.setVm s.vm).vm.findClass "com/example/manyhands/manyhands/crowd/Ordering" = some m.cls := findClass_of_methodNamed Bd.named
  have hnm := (name_of_methodNamed Bd.named Bd.method).1
  have hSA : ∀ d ∈ Bundle.stringAtoms, d.before a0 Z = true := fun d hd => hw d (own_sa d hd)
  have hS0 : s.Since s.vm h0.size := (State.WarmedH.refl s).since _
  have X0 : Stand p l e ({ frames := 2, cells := 6, slots := 80, locals := 24 } : Room) (s.setVm s.vm) m #[(.ref a), (.ref qs), (.ref ls), (.ref rs)] below meth c s₁ [] 0 0 := Stand.of_body Bd
  have e0 : s₁.heap = h0 := by rw [← hh, Bd.state]; rfl
  have N0 := Fr.nil n0
  refine Go.st (G := fun s₂ o_ => ∃ v_ L_, o_ = .returned v_ ∧ (Q_rm12 Z a qs ls rs h0 n0) v_ s₂.vm s₂.heap L_ ∧ ReturnedEndW s o_ s₂ L_ ({ frames := 2, cells := 6, slots := 80, locals := 24 } : Room).cells ({ frames := 2, cells := 6, slots := 80, locals := 24 } : Room).slots) (fun t kt => castTop (ef_rm12 m a qs ls rs) kt) ?_
  show Go p e below _ (s₁.setTop (mkF m 0 #[.val (.ref a), .val (.ref qs), .val (.ref ls), .val (.ref rs)] []))
  refine Go.st (fun _ kt => XS.aloadN X0.here hx rfl (hb hby d12_0) rfl rfl kt) ?_
  show Go p e below _ (s₁.setTop (mkF m 1 #[.val (.ref a), .val (.ref qs), .val (.ref ls), .val (.ref rs)] [(.ref a)]))
  obtain ⟨_, _, ⟨T1, L1, k1, n1⟩, -, X1, ⟨Lc1, hQ1, l1, y1, z1⟩, st1⟩ := X0.specialBack hx (y := (⟨"java/lang/Record", "<init>", "()V"⟩ : MethodName)) rfl hown (mvT hZ (hw _ (List.mem_of_getElem? (i := 57) rfl))) (mvT hZ (hw _ (List.mem_of_getElem? (i := 58) rfl))) (mvT hZ (hw _ (List.mem_of_getElem? (i := 61) rfl))) (by decide) (backOf (W := 0) (rm13 l Z a0 hw [] a h0 n0 Z0) hZ (hw _ (List.mem_of_getElem? (i := 61) rfl)) (hw _ (List.mem_of_getElem? (i := 60) rfl)) (by decide) (by decide)) (g := (mkF m 1 #[.val (.ref a), .val (.ref qs), .val (.ref ls), .val (.ref rs)] [(.ref a)])) rfl (by rw [hml]; rfl) (Steps.refl _) (a := a) (argsL := []) (rest := []) (lenOf own_pd10 rfl) rfl (by show 2 * 0 + _ ≤ _; exact Nat.le_of_eq rfl) (hb hby d12_1) (fun _ _ => ⟨rfl, e0, (by decide : 0 + 0 ≤ _), (by decide : 0 + 0 ≤ _)⟩)
  dsimp only [Pt.U, Pt.locs, Pt.cells, Pt.slots] at X1 l1 y1 z1 st1 hQ1
  subst l1 y1 z1
  obtain ⟨rfl, N1q, e1⟩ := hQ1
  have N1 := Fr.app N0 N1q
  refine Go.tr st1 ?_
  show Go p e below _ (T1.setTop (mkF m 4 #[.val (.ref a), .val (.ref qs), .val (.ref ls), .val (.ref rs)] []))
  refine Go.st (fun _ kt => XS.aloadN X1.here hx rfl (hb hby d12_4) rfl rfl kt) ?_
  show Go p e below _ (T1.setTop (mkF m 5 #[.val (.ref a), .val (.ref qs), .val (.ref ls), .val (.ref rs)] [(.ref qs)]))
  obtain ⟨al2, T2, h2, kk2, X2, e2, E2, hS2, Gk2, hZ, hown, st2⟩ := ldcS X1 hx hZ hown (hw _ (List.mem_of_getElem? (i := 63) rfl)) hSA e1 hS0 (Nat.le_refl h0.size) (g := (mkF m 5 #[.val (.ref a), .val (.ref qs), .val (.ref ls), .val (.ref rs)] [(.ref qs)])) rfl (hb hby d12_5) (n := 32) (by decide) (by decide) (by decide) (by decide)
  refine Go.st st2 ?_
  have Zs2 : n0 ≤ h2.size := Nat.le_trans Z0 E2.1
  have K2 : Keep h0 h2 [a] := (Keep.refl h0 [a]).ext E2
  show Go p e below _ (T2.setTop (mkF m 7 #[.val (.ref a), .val (.ref qs), .val (.ref ls), .val (.ref rs)] [(.ref al2), (.ref qs)]))
  obtain ⟨_, _, ⟨T3, L3, k3, n3⟩, -, X3, ⟨Lc3, hQ3, l3, y3, z3⟩, st3⟩ := Jvm.LawKit.callS X2 hx (y := (⟨"java/util/Objects", "requireNonNull", "(Ljava/lang/Object;Ljava/lang/String;)Ljava/lang/Object;"⟩ : MethodName)) hown (mvT hZ (hw _ (List.mem_of_getElem? (i := 64) rfl))) (mvT hZ (hw _ (List.mem_of_getElem? (i := 65) rfl))) (mvT hZ (hw _ (List.mem_of_getElem? (i := 66) rfl))) (mvT hZ (hw _ (List.mem_of_getElem? (i := 67) rfl))) (by decide) (backOf (W := 0) (rm14 l Z a0 hw [] qs al2 h2 n0 Zs2) hZ (hw _ (List.mem_of_getElem? (i := 67) rfl)) (hw _ (List.mem_of_getElem? (i := 66) rfl)) (by decide) (by decide)) (g := (mkF m 7 #[.val (.ref a), .val (.ref qs), .val (.ref ls), .val (.ref rs)] [(.ref al2), (.ref qs)])) rfl (by rw [hml]; rfl) (argsL := [(.ref qs), (.ref al2)]) (rest := []) (lenOf own_pd11 rfl) rfl (by show 2 * 0 + _ ≤ _; exact Nat.le_of_eq rfl) (hb hby d12_7) (fun _ _ => ⟨rfl, e2, (by decide : 2 + 0 ≤ _), (by decide : 36 + 0 ≤ _)⟩)
  dsimp only [Pt.U, Pt.locs, Pt.cells, Pt.slots] at X3 l3 y3 z3 st3 hQ3
  subst l3 y3 z3
  obtain ⟨rfl, N3q, e3⟩ := hQ3
  have N3 := Fr.app N1 N3q
  refine Go.st st3 ?_
  show Go p e below _ (T3.setTop (mkF m 10 #[.val (.ref a), .val (.ref qs), .val (.ref ls), .val (.ref rs)] [(.ref qs)]))
  refine Go.st (fun _ kt => XS.pop X3.here hx rfl (hb hby d12_10) rfl rfl kt) ?_
  show Go p e below _ (T3.setTop (mkF m 11 #[.val (.ref a), .val (.ref qs), .val (.ref ls), .val (.ref rs)] []))
  refine Go.st (fun _ kt => XS.aloadN X3.here hx rfl (hb hby d12_11) rfl rfl kt) ?_
  show Go p e below _ (T3.setTop (mkF m 12 #[.val (.ref a), .val (.ref qs), .val (.ref ls), .val (.ref rs)] [(.ref ls)]))
  obtain ⟨al4, T4, h4, kk4, X4, e4, E4, hS4, Gk4, hZ, hown, st4⟩ := ldcS X3 hx hZ hown (hw _ (List.mem_of_getElem? (i := 68) rfl)) hSA e3 hS2 Gk2 (g := (mkF m 12 #[.val (.ref a), .val (.ref qs), .val (.ref ls), .val (.ref rs)] [(.ref ls)])) rfl (hb hby d12_12) (n := 16) (by decide) (by decide) (by decide) (by decide)
  refine Go.st st4 ?_
  have Zs4 : n0 ≤ h4.size := Nat.le_trans Zs2 E4.1
  have K4 : Keep h0 h4 [a] := K2.ext E4
  show Go p e below _ (T4.setTop (mkF m 14 #[.val (.ref a), .val (.ref qs), .val (.ref ls), .val (.ref rs)] [(.ref al4), (.ref ls)]))
  obtain ⟨_, _, ⟨T5, L5, k5, n5⟩, -, X5, ⟨Lc5, hQ5, l5, y5, z5⟩, st5⟩ := Jvm.LawKit.callS X4 hx (y := (⟨"java/util/Objects", "requireNonNull", "(Ljava/lang/Object;Ljava/lang/String;)Ljava/lang/Object;"⟩ : MethodName)) hown (mvT hZ (hw _ (List.mem_of_getElem? (i := 64) rfl))) (mvT hZ (hw _ (List.mem_of_getElem? (i := 65) rfl))) (mvT hZ (hw _ (List.mem_of_getElem? (i := 66) rfl))) (mvT hZ (hw _ (List.mem_of_getElem? (i := 67) rfl))) (by decide) (backOf (W := 0) (rm14 l Z a0 hw [] ls al4 h4 n0 Zs4) hZ (hw _ (List.mem_of_getElem? (i := 67) rfl)) (hw _ (List.mem_of_getElem? (i := 66) rfl)) (by decide) (by decide)) (g := (mkF m 14 #[.val (.ref a), .val (.ref qs), .val (.ref ls), .val (.ref rs)] [(.ref al4), (.ref ls)])) rfl (by rw [hml]; rfl) (argsL := [(.ref ls), (.ref al4)]) (rest := []) (lenOf own_pd11 rfl) rfl (by show 2 * 0 + _ ≤ _; exact Nat.le_of_eq rfl) (hb hby d12_14) (fun _ _ => ⟨rfl, e4, (by decide : 4 + 0 ≤ _), (by decide : 56 + 0 ≤ _)⟩)
  dsimp only [Pt.U, Pt.locs, Pt.cells, Pt.slots] at X5 l5 y5 z5 st5 hQ5
  subst l5 y5 z5
  obtain ⟨rfl, N5q, e5⟩ := hQ5
  have N5 := Fr.app N3 N5q
  refine Go.st st5 ?_
  show Go p e below _ (T5.setTop (mkF m 17 #[.val (.ref a), .val (.ref qs), .val (.ref ls), .val (.ref rs)] [(.ref ls)]))
  refine Go.st (fun _ kt => XS.pop X5.here hx rfl (hb hby d12_17) rfl rfl kt) ?_
  show Go p e below _ (T5.setTop (mkF m 18 #[.val (.ref a), .val (.ref qs), .val (.ref ls), .val (.ref rs)] []))
  refine Go.st (fun _ kt => XS.aloadN X5.here hx rfl (hb hby d12_18) rfl rfl kt) ?_
  show Go p e below _ (T5.setTop (mkF m 19 #[.val (.ref a), .val (.ref qs), .val (.ref ls), .val (.ref rs)] [(.ref rs)]))
  obtain ⟨al6, T6, h6, kk6, X6, e6, E6, hS6, Gk6, hZ, hown, st6⟩ := ldcS X5 hx hZ hown (hw _ (List.mem_of_getElem? (i := 69) rfl)) hSA e5 hS4 Gk4 (g := (mkF m 19 #[.val (.ref a), .val (.ref qs), .val (.ref ls), .val (.ref rs)] [(.ref rs)])) rfl (hb hby d12_19) (n := 20) (by decide) (by decide) (by decide) (by decide)
  refine Go.st st6 ?_
  have Zs6 : n0 ≤ h6.size := Nat.le_trans Zs4 E6.1
  have K6 : Keep h0 h6 [a] := K4.ext E6
  show Go p e below _ (T6.setTop (mkF m 21 #[.val (.ref a), .val (.ref qs), .val (.ref ls), .val (.ref rs)] [(.ref al6), (.ref rs)]))
  obtain ⟨_, _, ⟨T7, L7, k7, n7⟩, -, X7, ⟨Lc7, hQ7, l7, y7, z7⟩, st7⟩ := Jvm.LawKit.callS X6 hx (y := (⟨"java/util/Objects", "requireNonNull", "(Ljava/lang/Object;Ljava/lang/String;)Ljava/lang/Object;"⟩ : MethodName)) hown (mvT hZ (hw _ (List.mem_of_getElem? (i := 64) rfl))) (mvT hZ (hw _ (List.mem_of_getElem? (i := 65) rfl))) (mvT hZ (hw _ (List.mem_of_getElem? (i := 66) rfl))) (mvT hZ (hw _ (List.mem_of_getElem? (i := 67) rfl))) (by decide) (backOf (W := 0) (rm14 l Z a0 hw [] rs al6 h6 n0 Zs6) hZ (hw _ (List.mem_of_getElem? (i := 67) rfl)) (hw _ (List.mem_of_getElem? (i := 66) rfl)) (by decide) (by decide)) (g := (mkF m 21 #[.val (.ref a), .val (.ref qs), .val (.ref ls), .val (.ref rs)] [(.ref al6), (.ref rs)])) rfl (by rw [hml]; rfl) (argsL := [(.ref rs), (.ref al6)]) (rest := []) (lenOf own_pd11 rfl) rfl (by show 2 * 0 + _ ≤ _; exact Nat.le_of_eq rfl) (hb hby d12_21) (fun _ _ => ⟨rfl, e6, (by decide : 6 + 0 ≤ _), (by decide : 80 + 0 ≤ _)⟩)
  dsimp only [Pt.U, Pt.locs, Pt.cells, Pt.slots] at X7 l7 y7 z7 st7 hQ7
  subst l7 y7 z7
  obtain ⟨rfl, N7q, e7⟩ := hQ7
  have N7 := Fr.app N5 N7q
  refine Go.st st7 ?_
  show Go p e below _ (T7.setTop (mkF m 24 #[.val (.ref a), .val (.ref qs), .val (.ref ls), .val (.ref rs)] [(.ref rs)]))
  refine Go.st (fun _ kt => XS.pop X7.here hx rfl (hb hby d12_24) rfl rfl kt) ?_
  show Go p e below _ (T7.setTop (mkF m 25 #[.val (.ref a), .val (.ref qs), .val (.ref ls), .val (.ref rs)] []))
  refine Go.st (fun _ kt => XS.aloadN X7.here hx rfl (hb hby d12_25) rfl rfl kt) ?_
  show Go p e below _ (T7.setTop (mkF m 26 #[.val (.ref a), .val (.ref qs), .val (.ref ls), .val (.ref rs)] [(.ref a)]))
  refine Go.st (fun _ kt => XS.aloadN X7.here hx rfl (hb hby d12_26) rfl rfl kt) ?_
  show Go p e below _ (T7.setTop (mkF m 27 #[.val (.ref a), .val (.ref qs), .val (.ref ls), .val (.ref rs)] [(.ref qs), (.ref a)]))
  have f8 := (((E_a.ext E2).ext E4).ext E6)
  have f9 := (((F_question.ext E2).ext E4).ext E6)
  obtain ⟨T10, h10, X10, e10, W10, st10⟩ := putF X7 hx hZ hown (host := "") (Or.inl (hw _ (List.mem_of_getElem? (i := 70) rfl))) Via.refl e7 f9 f8 (Or.inr ⟨(hw _ (List.mem_of_getElem? (i := 71) rfl)), rfl, hnm⟩) (hw _ (List.mem_of_getElem? (i := 52) rfl)) (ty := (.object "java/lang/String")) (by decide) rfl rfl (g := (mkF m 27 #[.val (.ref a), .val (.ref qs), .val (.ref ls), .val (.ref rs)] [(.ref qs), (.ref a)])) rfl rfl (hb hby d12_27)
  refine Go.st st10 ?_
  have Fw10 := f9.same W10
  have Zs10 : n0 ≤ h10.size := Nat.le_trans Zs6 (Nat.le_of_eq W10.size.symm)
  have N10 := Fr.snoc X10 N7 gn_a
  have Gk10 := Nat.le_trans Gk6 (Nat.le_of_eq W10.size.symm)
  have K10 : Keep h0 h10 [a] := K6.wr W10 (Or.inl (List.mem_of_getElem? (i := 0) rfl))
  show Go p e below _ (T10.setTop (mkF m 30 #[.val (.ref a), .val (.ref qs), .val (.ref ls), .val (.ref rs)] []))
  refine Go.st (fun _ kt => XS.aloadN X10.here hx rfl (hb hby d12_30) rfl rfl kt) ?_
  show Go p e below _ (T10.setTop (mkF m 31 #[.val (.ref a), .val (.ref qs), .val (.ref ls), .val (.ref rs)] [(.ref a)]))
  refine Go.st (fun _ kt => XS.aloadN X10.here hx rfl (hb hby d12_31) rfl rfl kt) ?_
  show Go p e below _ (T10.setTop (mkF m 32 #[.val (.ref a), .val (.ref qs), .val (.ref ls), .val (.ref rs)] [(.ref ls), (.ref a)]))
  have f11 := (f8.wr W10)
  have f12 := ((((F_left.ext E2).ext E4).ext E6).other W10 (Or.inr (slot_ne (Or.inr (hw _ (List.mem_of_getElem? (i := 73) rfl))) (Or.inr (hw _ (List.mem_of_getElem? (i := 71) rfl))) (by decide) (t := (.object "java/lang/String")) (t' := (.object "java/lang/String")) (by decide) (by decide))))
  obtain ⟨T13, h13, X13, e13, W13, st13⟩ := putF X10 hx hZ hown (host := "") (Or.inl (hw _ (List.mem_of_getElem? (i := 72) rfl))) Via.refl e10 f12 f11 (Or.inr ⟨(hw _ (List.mem_of_getElem? (i := 73) rfl)), rfl, hnm⟩) (hw _ (List.mem_of_getElem? (i := 52) rfl)) (ty := (.object "java/lang/String")) (by decide) rfl rfl (g := (mkF m 32 #[.val (.ref a), .val (.ref qs), .val (.ref ls), .val (.ref rs)] [(.ref ls), (.ref a)])) rfl rfl (hb hby d12_32)
  refine Go.st st13 ?_
  have Fw13 := f12.same W13
  have Zs13 : n0 ≤ h13.size := Nat.le_trans Zs10 (Nat.le_of_eq W13.size.symm)
  have N13 := Fr.snoc X13 N10 gn_a
  have Gk13 := Nat.le_trans Gk10 (Nat.le_of_eq W13.size.symm)
  have K13 : Keep h0 h13 [a] := K10.wr W13 (Or.inl (List.mem_of_getElem? (i := 0) rfl))
  show Go p e below _ (T13.setTop (mkF m 35 #[.val (.ref a), .val (.ref qs), .val (.ref ls), .val (.ref rs)] []))
  refine Go.st (fun _ kt => XS.aloadN X13.here hx rfl (hb hby d12_35) rfl rfl kt) ?_
  show Go p e below _ (T13.setTop (mkF m 36 #[.val (.ref a), .val (.ref qs), .val (.ref ls), .val (.ref rs)] [(.ref a)]))
  refine Go.st (fun _ kt => XS.aloadN X13.here hx rfl (hb hby d12_36) rfl rfl kt) ?_
  show Go p e below _ (T13.setTop (mkF m 37 #[.val (.ref a), .val (.ref qs), .val (.ref ls), .val (.ref rs)] [(.ref rs), (.ref a)]))
  have f14 := (f11.wr W13)
  have f15 := (((((F_right.ext E2).ext E4).ext E6).other W10 (Or.inr (slot_ne (Or.inr (hw _ (List.mem_of_getElem? (i := 75) rfl))) (Or.inr (hw _ (List.mem_of_getElem? (i := 71) rfl))) (by decide) (t := (.object "java/lang/String")) (t' := (.object "java/lang/String")) (by decide) (by decide)))).other W13 (Or.inr (slot_ne (Or.inr (hw _ (List.mem_of_getElem? (i := 75) rfl))) (Or.inr (hw _ (List.mem_of_getElem? (i := 73) rfl))) (by decide) (t := (.object "java/lang/String")) (t' := (.object "java/lang/String")) (by decide) (by decide))))
  obtain ⟨T16, h16, X16, e16, W16, st16⟩ := putF X13 hx hZ hown (host := "") (Or.inl (hw _ (List.mem_of_getElem? (i := 74) rfl))) Via.refl e13 f15 f14 (Or.inr ⟨(hw _ (List.mem_of_getElem? (i := 75) rfl)), rfl, hnm⟩) (hw _ (List.mem_of_getElem? (i := 52) rfl)) (ty := (.object "java/lang/String")) (by decide) rfl rfl (g := (mkF m 37 #[.val (.ref a), .val (.ref qs), .val (.ref ls), .val (.ref rs)] [(.ref rs), (.ref a)])) rfl rfl (hb hby d12_37)
  refine Go.st st16 ?_
  have Fw16 := f15.same W16
  have Zs16 : n0 ≤ h16.size := Nat.le_trans Zs13 (Nat.le_of_eq W16.size.symm)
  have N16 := Fr.snoc X16 N13 gn_a
  have Gk16 := Nat.le_trans Gk13 (Nat.le_of_eq W16.size.symm)
  have K16 : Keep h0 h16 [a] := K13.wr W16 (Or.inl (List.mem_of_getElem? (i := 0) rfl))
  show Go p e below _ (T16.setTop (mkF m 40 #[.val (.ref a), .val (.ref qs), .val (.ref ls), .val (.ref rs)] []))
  refine Go.retVS X16 hx Bd.returns (BodyLoose.notSynchronized Bd) hS6 (by rw [e16]; exact Gk16) (hb hby d12_40) (Q := (Q_rm12 Z a qs ls rs h0 n0)) (by decide) (by decide) ?_
  intro vm2 hW2
  show (Q_rm12 Z a qs ls rs h0 n0) _ vm2 T16.heap _
  rw [e16]
  have f17 := (Fw13.other W16 (Or.inr (slot_ne (Or.inr (hw _ (List.mem_of_getElem? (i := 73) rfl))) (Or.inr (hw _ (List.mem_of_getElem? (i := 75) rfl))) (by decide) (t := (.object "java/lang/String")) (t' := (.object "java/lang/String")) (by decide) (by decide))))
  exact ⟨rfl, N16, K16, f17, Fw16⟩
theorem d15_0 : decode method_3_code 0 = .ok (.iload_n 0, 1) := by decide +kernel
theorem d15_1 : decode method_3_code 1 = .ok (.iload_n 3, 1) := by decide +kernel
theorem d15_2 : decode method_3_code 2 = .ok (.if_icmp .eq 5, 3) := by decide +kernel
theorem d15_5 : decode method_3_code 5 = .ok (.iconst 0, 1) := by decide +kernel
theorem d15_6 : decode method_3_code 6 = .ok (.ireturn, 1) := by decide +kernel
theorem d15_7 : decode method_3_code 7 = .ok (.iload_n 0, 1) := by decide +kernel
theorem d15_8 : decode method_3_code 8 = .ok (.iconst 1, 1) := by decide +kernel
theorem d15_9 : decode method_3_code 9 = .ok (.if_icmp .lt 11, 3) := by decide +kernel
theorem d15_12 : decode method_3_code 12 = .ok (.iload_n 1, 1) := by decide +kernel
theorem d15_13 : decode method_3_code 13 = .ok (.iload 4, 2) := by decide +kernel
theorem d15_15 : decode method_3_code 15 = .ok (.if_icmp .eq 5, 3) := by decide +kernel
theorem d15_18 : decode method_3_code 18 = .ok (.iconst 0, 1) := by decide +kernel
theorem d15_19 : decode method_3_code 19 = .ok (.ireturn, 1) := by decide +kernel
theorem d15_20 : decode method_3_code 20 = .ok (.iload_n 0, 1) := by decide +kernel
theorem d15_21 : decode method_3_code 21 = .ok (.iconst 2, 1) := by decide +kernel
theorem d15_22 : decode method_3_code 22 = .ok (.if_icmp .lt 11, 3) := by decide +kernel
theorem d15_25 : decode method_3_code 25 = .ok (.iload_n 2, 1) := by decide +kernel
theorem d15_26 : decode method_3_code 26 = .ok (.iload 5, 2) := by decide +kernel
theorem d15_28 : decode method_3_code 28 = .ok (.if_icmp .eq 5, 3) := by decide +kernel
theorem d15_31 : decode method_3_code 31 = .ok (.iconst 0, 1) := by decide +kernel
theorem d15_32 : decode method_3_code 32 = .ok (.ireturn, 1) := by decide +kernel
theorem d15_33 : decode method_3_code 33 = .ok (.iconst 1, 1) := by decide +kernel
theorem d15_34 : decode method_3_code 34 = .ok (.ireturn, 1) := by decide +kernel
def Q_rm15 (Z : State) (l1 : Int32) (x0 : Int32) (x1 : Int32) (l2 : Int32) (y0 : Int32) (y1 : Int32) (h0 : Heap) (n0 : Nat) (v : Option Value) (h : Heap) (L : List Loc) : Prop := v = some (.int (own_same l1 x0 x1 l2 y0 y1)) ∧ Fr n0 L ∧ h = h0
theorem ef_rm15 (m : MethodId) (l1 : Int32) (x0 : Int32) (x1 : Int32) (l2 : Int32) (y0 : Int32) (y1 : Int32) : entryFrame m #[(.int l1), (.int x0), (.int x1), (.int l2), (.int y0), (.int y1)] 6 = mkF m 0 #[.val (.int l1), .val (.int x0), .val (.int x1), .val (.int l2), .val (.int y0), .val (.int y1)] [] := by first | (simp [entryFrame, mkF, argsToLocals, Value.category]; done) | rfl
set_option maxRecDepth 65536 in
set_option maxHeartbeats 40000000 in
theorem rm15 (l : Launch) (Z : State) (a0 : Array Value) (hw : ∀ d ∈ tables_1, d.before a0 Z = true) (ws : List Jvm.Cond) (l1 : Int32) (x0 : Int32) (x1 : Int32) (l2 : Int32) (y0 : Int32) (y1 : Int32) (h0 : Heap) (n0 : Nat) (Z0 : n0 ≤ h0.size) :
    MetFree l (⟨"com/example/manyhands/manyhands/crowd/OrderingTakesPinLaw", "same", "(IIIIII)Z"⟩ : MethodName) (head1 (Jvm.Cond.code (⟨"com/example/manyhands/manyhands/crowd/OrderingTakesPinLaw", "same", "(IIIIII)Z"⟩ : MethodName) method_3_code 6 (some .boolean) :: ws) ({ frames := 0, cells := 0, slots := 0, locals := 0 } : Room)) (fun ag_ U_ => ag_ = #[(.int l1), (.int x0), (.int x1), (.int l2), (.int y0), (.int y1)] ∧ Z.Warmed39 U_.vm ∧ U_.heap = h0) (fun _ _ _ _ _ => True) (fun _ U_ o_ V_ => ∃ v_ L_, o_ = .returned v_ ∧ (Q_rm15 Z l1 x0 x1 l2 y0 y1 h0 n0) v_ V_.heap L_ ∧ FrameEnd U_ o_ V_ L_ ({ frames := 0, cells := 0, slots := 0, locals := 0 } : Room).cells ({ frames := 0, cells := 0, slots := 0, locals := 0 } : Room).slots) := by
  refine MetFree.of_bodySF (plainFor_of_name own_pn3) hisR ?_
  intro p e s m args below meth c s₁ Bd hml0 hP hK
  obtain ⟨rfl, hZ, hh⟩ := hP
  have hx := Bd.exec
  have hby := Bd.bytes
  have hml : c.maxLocals = 6 := hml0
  have hown : s.vm.findClass "com/example/manyhands/manyhands/crowd/OrderingTakesPinLaw" = some m.cls := findClass_of_methodNamed Bd.named
  have hnm := (name_of_methodNamed Bd.named Bd.method).1
  have X0 : Stand p l e ({ frames := 0, cells := 0, slots := 0, locals := 0 } : Room) s m #[(.int l1), (.int x0), (.int x1), (.int l2), (.int y0), (.int y1)] below meth c s₁ [] 0 0 := Stand.of_body Bd
  have e0 : s₁.heap = h0 := by rw [← hh, Bd.state]; rfl
  have N0 := Fr.nil n0
  refine Go.st (G := fun s₂ o_ => ∃ v_ L_, o_ = .returned v_ ∧ (Q_rm15 Z l1 x0 x1 l2 y0 y1 h0 n0) v_ s₂.heap L_ ∧ FrameEnd s o_ s₂ L_ ({ frames := 0, cells := 0, slots := 0, locals := 0 } : Room).cells ({ frames := 0, cells := 0, slots := 0, locals := 0 } : Room).slots) (fun t kt => castTop (ef_rm15 m l1 x0 x1 l2 y0 y1) kt) ?_
  show Go p e below _ (s₁.setTop (mkF m 0 #[.val (.int l1), .val (.int x0), .val (.int x1), .val (.int l2), .val (.int y0), .val (.int y1)] []))
  refine Go.st (fun _ kt => XS.iloadN X0.here hx rfl (hb hby d15_0) rfl kt) ?_
  show Go p e below _ (s₁.setTop (mkF m 1 #[.val (.int l1), .val (.int x0), .val (.int x1), .val (.int l2), .val (.int y0), .val (.int y1)] [(.int l1)]))
  refine Go.st (fun _ kt => XS.iloadN X0.here hx rfl (hb hby d15_1) rfl kt) ?_
  show Go p e below _ (s₁.setTop (mkF m 2 #[.val (.int l1), .val (.int x0), .val (.int x1), .val (.int l2), .val (.int y0), .val (.int y1)] [(.int l2), (.int l1)]))
  by_cases hc2_1 : l1 = l2
  · refine Go.st (fun _ kt => XS.icmpYes X0.here hx rfl (pc0 := 2) (pc' := 7) rfl (hb hby d15_2) rfl (teq hc2_1).1 (by decide) (by decide) kt) ?_
    show Go p e below _ (s₁.setTop (mkF m 7 #[.val (.int l1), .val (.int x0), .val (.int x1), .val (.int l2), .val (.int y0), .val (.int y1)] []))
    refine Go.st (fun _ kt => XS.iloadN X0.here hx rfl (hb hby d15_7) rfl kt) ?_
    show Go p e below _ (s₁.setTop (mkF m 8 #[.val (.int l1), .val (.int x0), .val (.int x1), .val (.int l2), .val (.int y0), .val (.int y1)] [(.int l1)]))
    refine Go.st (fun _ kt => XS.iconst X0.here hx rfl (hb hby d15_8) kt) ?_
    show Go p e below _ (s₁.setTop (mkF m 9 #[.val (.int l1), .val (.int x0), .val (.int x1), .val (.int l2), .val (.int y0), .val (.int y1)] [(.int (1 : Int32)), (.int l1)]))
    by_cases hc9_2 : l1 < (1 : Int32)
    · refine Go.st (fun _ kt => XS.icmpYes X0.here hx rfl (pc0 := 9) (pc' := 20) rfl (hb hby d15_9) rfl (tlt hc9_2).1 (by decide) (by decide) kt) ?_
      show Go p e below _ (s₁.setTop (mkF m 20 #[.val (.int l1), .val (.int x0), .val (.int x1), .val (.int l2), .val (.int y0), .val (.int y1)] []))
      refine Go.st (fun _ kt => XS.iloadN X0.here hx rfl (hb hby d15_20) rfl kt) ?_
      show Go p e below _ (s₁.setTop (mkF m 21 #[.val (.int l1), .val (.int x0), .val (.int x1), .val (.int l2), .val (.int y0), .val (.int y1)] [(.int l1)]))
      refine Go.st (fun _ kt => XS.iconst X0.here hx rfl (hb hby d15_21) kt) ?_
      show Go p e below _ (s₁.setTop (mkF m 22 #[.val (.int l1), .val (.int x0), .val (.int x1), .val (.int l2), .val (.int y0), .val (.int y1)] [(.int (2 : Int32)), (.int l1)]))
      by_cases hc22_3 : l1 < (2 : Int32)
      · refine Go.st (fun _ kt => XS.icmpYes X0.here hx rfl (pc0 := 22) (pc' := 33) rfl (hb hby d15_22) rfl (tlt hc22_3).1 (by decide) (by decide) kt) ?_
        show Go p e below _ (s₁.setTop (mkF m 33 #[.val (.int l1), .val (.int x0), .val (.int x1), .val (.int l2), .val (.int y0), .val (.int y1)] []))
        refine Go.st (fun _ kt => XS.iconst X0.here hx rfl (hb hby d15_33) kt) ?_
        show Go p e below _ (s₁.setTop (mkF m 34 #[.val (.int l1), .val (.int x0), .val (.int x1), .val (.int l2), .val (.int y0), .val (.int y1)] [(.int (1 : Int32))]))
        refine Go.retN X0 hx (t := .boolean) Bd.returns (by simp) (BodyLoose.notSynchronized Bd) (hb hby d15_34) (Q := (Q_rm15 Z l1 x0 x1 l2 y0 y1 h0 n0)) (by decide) (by decide) ?_
        show (Q_rm15 Z l1 x0 x1 l2 y0 y1 h0 n0) _ s₁.heap _
        rw [e0]
        exact ⟨by unfold own_same; (first | rw [if_pos hc2_1] | rw [if_neg hc2_1]); (first | rw [if_pos hc9_2] | rw [if_neg hc9_2]); (first | rw [if_pos hc22_3] | rw [if_neg hc22_3]); rfl, N0, rfl⟩
      · refine Go.st (fun _ kt => XS.icmpNo X0.here hx rfl (hb hby d15_22) rfl (flt hc22_3).1 kt) ?_
        show Go p e below _ (s₁.setTop (mkF m 25 #[.val (.int l1), .val (.int x0), .val (.int x1), .val (.int l2), .val (.int y0), .val (.int y1)] []))
        refine Go.st (fun _ kt => XS.iloadN X0.here hx rfl (hb hby d15_25) rfl kt) ?_
        show Go p e below _ (s₁.setTop (mkF m 26 #[.val (.int l1), .val (.int x0), .val (.int x1), .val (.int l2), .val (.int y0), .val (.int y1)] [(.int x1)]))
        refine Go.st (fun _ kt => XS.iload X0.here hx rfl (hb hby d15_26) rfl kt) ?_
        show Go p e below _ (s₁.setTop (mkF m 28 #[.val (.int l1), .val (.int x0), .val (.int x1), .val (.int l2), .val (.int y0), .val (.int y1)] [(.int y1), (.int x1)]))
        by_cases hc28_4 : x1 = y1
        · refine Go.st (fun _ kt => XS.icmpYes X0.here hx rfl (pc0 := 28) (pc' := 33) rfl (hb hby d15_28) rfl (teq hc28_4).1 (by decide) (by decide) kt) ?_
          show Go p e below _ (s₁.setTop (mkF m 33 #[.val (.int l1), .val (.int x0), .val (.int x1), .val (.int l2), .val (.int y0), .val (.int y1)] []))
          refine Go.st (fun _ kt => XS.iconst X0.here hx rfl (hb hby d15_33) kt) ?_
          show Go p e below _ (s₁.setTop (mkF m 34 #[.val (.int l1), .val (.int x0), .val (.int x1), .val (.int l2), .val (.int y0), .val (.int y1)] [(.int (1 : Int32))]))
          refine Go.retN X0 hx (t := .boolean) Bd.returns (by simp) (BodyLoose.notSynchronized Bd) (hb hby d15_34) (Q := (Q_rm15 Z l1 x0 x1 l2 y0 y1 h0 n0)) (by decide) (by decide) ?_
          show (Q_rm15 Z l1 x0 x1 l2 y0 y1 h0 n0) _ s₁.heap _
          rw [e0]
          exact ⟨by unfold own_same; (first | rw [if_pos hc2_1] | rw [if_neg hc2_1]); (first | rw [if_pos hc9_2] | rw [if_neg hc9_2]); (first | rw [if_pos hc22_3] | rw [if_neg hc22_3]); (first | rw [if_pos hc28_4] | rw [if_neg hc28_4]); rfl, N0, rfl⟩
        · refine Go.st (fun _ kt => XS.icmpNo X0.here hx rfl (hb hby d15_28) rfl (feq hc28_4).1 kt) ?_
          show Go p e below _ (s₁.setTop (mkF m 31 #[.val (.int l1), .val (.int x0), .val (.int x1), .val (.int l2), .val (.int y0), .val (.int y1)] []))
          refine Go.st (fun _ kt => XS.iconst X0.here hx rfl (hb hby d15_31) kt) ?_
          show Go p e below _ (s₁.setTop (mkF m 32 #[.val (.int l1), .val (.int x0), .val (.int x1), .val (.int l2), .val (.int y0), .val (.int y1)] [(.int (0 : Int32))]))
          refine Go.retN X0 hx (t := .boolean) Bd.returns (by simp) (BodyLoose.notSynchronized Bd) (hb hby d15_32) (Q := (Q_rm15 Z l1 x0 x1 l2 y0 y1 h0 n0)) (by decide) (by decide) ?_
          show (Q_rm15 Z l1 x0 x1 l2 y0 y1 h0 n0) _ s₁.heap _
          rw [e0]
          exact ⟨by unfold own_same; (first | rw [if_pos hc2_1] | rw [if_neg hc2_1]); (first | rw [if_pos hc9_2] | rw [if_neg hc9_2]); (first | rw [if_pos hc22_3] | rw [if_neg hc22_3]); (first | rw [if_pos hc28_4] | rw [if_neg hc28_4]); rfl, N0, rfl⟩
    · refine Go.st (fun _ kt => XS.icmpNo X0.here hx rfl (hb hby d15_9) rfl (flt hc9_2).1 kt) ?_
      show Go p e below _ (s₁.setTop (mkF m 12 #[.val (.int l1), .val (.int x0), .val (.int x1), .val (.int l2), .val (.int y0), .val (.int y1)] []))
      refine Go.st (fun _ kt => XS.iloadN X0.here hx rfl (hb hby d15_12) rfl kt) ?_
      show Go p e below _ (s₁.setTop (mkF m 13 #[.val (.int l1), .val (.int x0), .val (.int x1), .val (.int l2), .val (.int y0), .val (.int y1)] [(.int x0)]))
      refine Go.st (fun _ kt => XS.iload X0.here hx rfl (hb hby d15_13) rfl kt) ?_
      show Go p e below _ (s₁.setTop (mkF m 15 #[.val (.int l1), .val (.int x0), .val (.int x1), .val (.int l2), .val (.int y0), .val (.int y1)] [(.int y0), (.int x0)]))
      by_cases hc15_5 : x0 = y0
      · refine Go.st (fun _ kt => XS.icmpYes X0.here hx rfl (pc0 := 15) (pc' := 20) rfl (hb hby d15_15) rfl (teq hc15_5).1 (by decide) (by decide) kt) ?_
        show Go p e below _ (s₁.setTop (mkF m 20 #[.val (.int l1), .val (.int x0), .val (.int x1), .val (.int l2), .val (.int y0), .val (.int y1)] []))
        refine Go.st (fun _ kt => XS.iloadN X0.here hx rfl (hb hby d15_20) rfl kt) ?_
        show Go p e below _ (s₁.setTop (mkF m 21 #[.val (.int l1), .val (.int x0), .val (.int x1), .val (.int l2), .val (.int y0), .val (.int y1)] [(.int l1)]))
        refine Go.st (fun _ kt => XS.iconst X0.here hx rfl (hb hby d15_21) kt) ?_
        show Go p e below _ (s₁.setTop (mkF m 22 #[.val (.int l1), .val (.int x0), .val (.int x1), .val (.int l2), .val (.int y0), .val (.int y1)] [(.int (2 : Int32)), (.int l1)]))
        by_cases hc22_6 : l1 < (2 : Int32)
        · refine Go.st (fun _ kt => XS.icmpYes X0.here hx rfl (pc0 := 22) (pc' := 33) rfl (hb hby d15_22) rfl (tlt hc22_6).1 (by decide) (by decide) kt) ?_
          show Go p e below _ (s₁.setTop (mkF m 33 #[.val (.int l1), .val (.int x0), .val (.int x1), .val (.int l2), .val (.int y0), .val (.int y1)] []))
          refine Go.st (fun _ kt => XS.iconst X0.here hx rfl (hb hby d15_33) kt) ?_
          show Go p e below _ (s₁.setTop (mkF m 34 #[.val (.int l1), .val (.int x0), .val (.int x1), .val (.int l2), .val (.int y0), .val (.int y1)] [(.int (1 : Int32))]))
          refine Go.retN X0 hx (t := .boolean) Bd.returns (by simp) (BodyLoose.notSynchronized Bd) (hb hby d15_34) (Q := (Q_rm15 Z l1 x0 x1 l2 y0 y1 h0 n0)) (by decide) (by decide) ?_
          show (Q_rm15 Z l1 x0 x1 l2 y0 y1 h0 n0) _ s₁.heap _
          rw [e0]
          exact ⟨by unfold own_same; (first | rw [if_pos hc2_1] | rw [if_neg hc2_1]); (first | rw [if_pos hc9_2] | rw [if_neg hc9_2]); (first | rw [if_pos hc15_5] | rw [if_neg hc15_5]); (first | rw [if_pos hc22_6] | rw [if_neg hc22_6]); rfl, N0, rfl⟩
        · refine Go.st (fun _ kt => XS.icmpNo X0.here hx rfl (hb hby d15_22) rfl (flt hc22_6).1 kt) ?_
          show Go p e below _ (s₁.setTop (mkF m 25 #[.val (.int l1), .val (.int x0), .val (.int x1), .val (.int l2), .val (.int y0), .val (.int y1)] []))
          refine Go.st (fun _ kt => XS.iloadN X0.here hx rfl (hb hby d15_25) rfl kt) ?_
          show Go p e below _ (s₁.setTop (mkF m 26 #[.val (.int l1), .val (.int x0), .val (.int x1), .val (.int l2), .val (.int y0), .val (.int y1)] [(.int x1)]))
          refine Go.st (fun _ kt => XS.iload X0.here hx rfl (hb hby d15_26) rfl kt) ?_
          show Go p e below _ (s₁.setTop (mkF m 28 #[.val (.int l1), .val (.int x0), .val (.int x1), .val (.int l2), .val (.int y0), .val (.int y1)] [(.int y1), (.int x1)]))
          by_cases hc28_7 : x1 = y1
          · refine Go.st (fun _ kt => XS.icmpYes X0.here hx rfl (pc0 := 28) (pc' := 33) rfl (hb hby d15_28) rfl (teq hc28_7).1 (by decide) (by decide) kt) ?_
            show Go p e below _ (s₁.setTop (mkF m 33 #[.val (.int l1), .val (.int x0), .val (.int x1), .val (.int l2), .val (.int y0), .val (.int y1)] []))
            refine Go.st (fun _ kt => XS.iconst X0.here hx rfl (hb hby d15_33) kt) ?_
            show Go p e below _ (s₁.setTop (mkF m 34 #[.val (.int l1), .val (.int x0), .val (.int x1), .val (.int l2), .val (.int y0), .val (.int y1)] [(.int (1 : Int32))]))
            refine Go.retN X0 hx (t := .boolean) Bd.returns (by simp) (BodyLoose.notSynchronized Bd) (hb hby d15_34) (Q := (Q_rm15 Z l1 x0 x1 l2 y0 y1 h0 n0)) (by decide) (by decide) ?_
            show (Q_rm15 Z l1 x0 x1 l2 y0 y1 h0 n0) _ s₁.heap _
            rw [e0]
            exact ⟨by unfold own_same; (first | rw [if_pos hc2_1] | rw [if_neg hc2_1]); (first | rw [if_pos hc9_2] | rw [if_neg hc9_2]); (first | rw [if_pos hc15_5] | rw [if_neg hc15_5]); (first | rw [if_pos hc22_6] | rw [if_neg hc22_6]); (first | rw [if_pos hc28_7] | rw [if_neg hc28_7]); rfl, N0, rfl⟩
          · refine Go.st (fun _ kt => XS.icmpNo X0.here hx rfl (hb hby d15_28) rfl (feq hc28_7).1 kt) ?_
            show Go p e below _ (s₁.setTop (mkF m 31 #[.val (.int l1), .val (.int x0), .val (.int x1), .val (.int l2), .val (.int y0), .val (.int y1)] []))
            refine Go.st (fun _ kt => XS.iconst X0.here hx rfl (hb hby d15_31) kt) ?_
            show Go p e below _ (s₁.setTop (mkF m 32 #[.val (.int l1), .val (.int x0), .val (.int x1), .val (.int l2), .val (.int y0), .val (.int y1)] [(.int (0 : Int32))]))
            refine Go.retN X0 hx (t := .boolean) Bd.returns (by simp) (BodyLoose.notSynchronized Bd) (hb hby d15_32) (Q := (Q_rm15 Z l1 x0 x1 l2 y0 y1 h0 n0)) (by decide) (by decide) ?_
            show (Q_rm15 Z l1 x0 x1 l2 y0 y1 h0 n0) _ s₁.heap _
            rw [e0]
            exact ⟨by unfold own_same; (first | rw [if_pos hc2_1] | rw [if_neg hc2_1]); (first | rw [if_pos hc9_2] | rw [if_neg hc9_2]); (first | rw [if_pos hc15_5] | rw [if_neg hc15_5]); (first | rw [if_pos hc22_6] | rw [if_neg hc22_6]); (first | rw [if_pos hc28_7] | rw [if_neg hc28_7]); rfl, N0, rfl⟩
      · refine Go.st (fun _ kt => XS.icmpNo X0.here hx rfl (hb hby d15_15) rfl (feq hc15_5).1 kt) ?_
        show Go p e below _ (s₁.setTop (mkF m 18 #[.val (.int l1), .val (.int x0), .val (.int x1), .val (.int l2), .val (.int y0), .val (.int y1)] []))
        refine Go.st (fun _ kt => XS.iconst X0.here hx rfl (hb hby d15_18) kt) ?_
        show Go p e below _ (s₁.setTop (mkF m 19 #[.val (.int l1), .val (.int x0), .val (.int x1), .val (.int l2), .val (.int y0), .val (.int y1)] [(.int (0 : Int32))]))
        refine Go.retN X0 hx (t := .boolean) Bd.returns (by simp) (BodyLoose.notSynchronized Bd) (hb hby d15_19) (Q := (Q_rm15 Z l1 x0 x1 l2 y0 y1 h0 n0)) (by decide) (by decide) ?_
        show (Q_rm15 Z l1 x0 x1 l2 y0 y1 h0 n0) _ s₁.heap _
        rw [e0]
        exact ⟨by unfold own_same; (first | rw [if_pos hc2_1] | rw [if_neg hc2_1]); (first | rw [if_pos hc9_2] | rw [if_neg hc9_2]); (first | rw [if_pos hc15_5] | rw [if_neg hc15_5]); rfl, N0, rfl⟩
  · refine Go.st (fun _ kt => XS.icmpNo X0.here hx rfl (hb hby d15_2) rfl (feq hc2_1).1 kt) ?_
    show Go p e below _ (s₁.setTop (mkF m 5 #[.val (.int l1), .val (.int x0), .val (.int x1), .val (.int l2), .val (.int y0), .val (.int y1)] []))
    refine Go.st (fun _ kt => XS.iconst X0.here hx rfl (hb hby d15_5) kt) ?_
    show Go p e below _ (s₁.setTop (mkF m 6 #[.val (.int l1), .val (.int x0), .val (.int x1), .val (.int l2), .val (.int y0), .val (.int y1)] [(.int (0 : Int32))]))
    refine Go.retN X0 hx (t := .boolean) Bd.returns (by simp) (BodyLoose.notSynchronized Bd) (hb hby d15_6) (Q := (Q_rm15 Z l1 x0 x1 l2 y0 y1 h0 n0)) (by decide) (by decide) ?_
    show (Q_rm15 Z l1 x0 x1 l2 y0 y1 h0 n0) _ s₁.heap _
    rw [e0]
    exact ⟨by unfold own_same; (first | rw [if_pos hc2_1] | rw [if_neg hc2_1]); rfl, N0, rfl⟩
theorem d17_0 : decode jdk_42_method_66_code 0 = .ok (.aload_n 0, 1) := by decide +kernel
theorem d17_1 : decode jdk_42_method_66_code 1 = .ok (.aload_n 1, 1) := by decide +kernel
theorem d17_2 : decode jdk_42_method_66_code 2 = .ok (.if_acmp .ne 5, 3) := by decide +kernel
theorem d17_7 : decode jdk_42_method_66_code 7 = .ok (.aload_n 1, 1) := by decide +kernel
theorem d17_8 : decode jdk_42_method_66_code 8 = .ok (.instanceof 10, 3) := by decide +kernel
theorem d17_11 : decode jdk_42_method_66_code 11 = .ok (.ifCond .eq 43, 3) := by decide +kernel
theorem d17_54 : decode jdk_42_method_66_code 54 = .ok (.iconst 0, 1) := by decide +kernel
theorem d17_55 : decode jdk_42_method_66_code 55 = .ok (.ireturn, 1) := by decide +kernel
def Q_rm17n (Z : State) (a : Addr) (h0 : Heap) (n0 : Nat) (v : Option Value) (h : Heap) (L : List Loc) : Prop := v = some (.int 0) ∧ Fr n0 L ∧ h = h0
theorem ef_rm17n (m : MethodId) (a : Addr) : entryFrame m #[(.ref a), .null] 3 = mkF m 0 #[.val (.ref a), .val .null, .unset] [] := by first | (simp [entryFrame, mkF, argsToLocals, Value.category]; done) | rfl
set_option maxRecDepth 65536 in
set_option maxHeartbeats 40000000 in
theorem rm17n (l : Launch) (Z : State) (a0 : Array Value) (hw : ∀ d ∈ tables_1, d.before a0 Z = true) (ws : List Jvm.Cond) (a : Addr) (h0 : Heap) (n0 : Nat) (Z0 : n0 ≤ h0.size) :
    MetFree l (⟨"java/lang/String", "equals", "(Ljava/lang/Object;)Z"⟩ : MethodName) (head1 (Jvm.Cond.code (⟨"java/lang/String", "equals", "(Ljava/lang/Object;)Z"⟩ : MethodName) jdk_42_method_66_code 3 (some .boolean) :: ws) ({ frames := 0, cells := 0, slots := 0, locals := 0 } : Room)) (fun ag_ U_ => ag_ = #[(.ref a), .null] ∧ Z.Warmed39 U_.vm ∧ U_.heap = h0) (fun _ _ _ _ _ => True) (fun _ U_ o_ V_ => ∃ v_ L_, o_ = .returned v_ ∧ (Q_rm17n Z a h0 n0) v_ V_.heap L_ ∧ FrameEnd U_ o_ V_ L_ ({ frames := 0, cells := 0, slots := 0, locals := 0 } : Room).cells ({ frames := 0, cells := 0, slots := 0, locals := 0 } : Room).slots) := by
  refine MetFree.of_bodySF (plainFor_of_name own_pn0) hisR ?_
  intro p e s m args below meth c s₁ Bd hml0 hP hK
  obtain ⟨rfl, hZ, hh⟩ := hP
  have hx := Bd.exec
  have hby := Bd.bytes
  have hml : c.maxLocals = 3 := hml0
  have hown : s.vm.findClass "java/lang/String" = some m.cls := findClass_of_methodNamed Bd.named
  have hnm := (name_of_methodNamed Bd.named Bd.method).1
  have X0 : Stand p l e ({ frames := 0, cells := 0, slots := 0, locals := 0 } : Room) s m #[(.ref a), .null] below meth c s₁ [] 0 0 := Stand.of_body Bd
  have e0 : s₁.heap = h0 := by rw [← hh, Bd.state]; rfl
  have N0 := Fr.nil n0
  refine Go.st (G := fun s₂ o_ => ∃ v_ L_, o_ = .returned v_ ∧ (Q_rm17n Z a h0 n0) v_ s₂.heap L_ ∧ FrameEnd s o_ s₂ L_ ({ frames := 0, cells := 0, slots := 0, locals := 0 } : Room).cells ({ frames := 0, cells := 0, slots := 0, locals := 0 } : Room).slots) (fun t kt => castTop (ef_rm17n m a) kt) ?_
  show Go p e below _ (s₁.setTop (mkF m 0 #[.val (.ref a), .val .null, .unset] []))
  refine Go.st (fun _ kt => XS.aloadN X0.here hx rfl (hb hby d17_0) rfl rfl kt) ?_
  show Go p e below _ (s₁.setTop (mkF m 1 #[.val (.ref a), .val .null, .unset] [(.ref a)]))
  refine Go.st (fun _ kt => XS.aloadN X0.here hx rfl (hb hby d17_1) rfl rfl kt) ?_
  show Go p e below _ (s₁.setTop (mkF m 2 #[.val (.ref a), .val .null, .unset] [.null, (.ref a)]))
  refine Go.st (fun _ kt => Jvm.RoadKit.acmp (g := (mkF m 2 #[.val (.ref a), .val .null, .unset] [.null, (.ref a)])) X0 hx rfl rfl rfl (pc0 := 2) (pc' := 7) (same := false) rfl (hb hby d17_2) rfl (decide_eq_false nofun) (by decide) (by decide) kt) ?_
  show Go p e below _ (s₁.setTop (mkF m 7 #[.val (.ref a), .val .null, .unset] []))
  refine Go.st (fun _ kt => XS.aloadN X0.here hx rfl (hb hby d17_7) rfl rfl kt) ?_
  show Go p e below _ (s₁.setTop (mkF m 8 #[.val (.ref a), .val .null, .unset] [.null]))
  refine Go.st (Jvm.Stand.instanceofNull X0 hx (g := (mkF m 8 #[.val (.ref a), .val .null, .unset] [.null])) rfl rfl (hb hby d17_8)) ?_
  show Go p e below _ (s₁.setTop (mkF m 11 #[.val (.ref a), .val .null, .unset] [(.int (0 : Int32))]))
  refine Go.st (fun _ kt => XS.ifYes X0.here hx rfl (pc0 := 11) (pc' := 54) rfl (hb hby d17_11) rfl ((if0 _ _).trans (teq (by decide : (0 : Int32) = (0 : Int32))).1) (by decide) (by decide) kt) ?_
  show Go p e below _ (s₁.setTop (mkF m 54 #[.val (.ref a), .val .null, .unset] []))
  refine Go.st (fun _ kt => XS.iconst X0.here hx rfl (hb hby d17_54) kt) ?_
  show Go p e below _ (s₁.setTop (mkF m 55 #[.val (.ref a), .val .null, .unset] [(.int (0 : Int32))]))
  refine Go.retN X0 hx (t := .boolean) Bd.returns (by simp) (BodyLoose.notSynchronized Bd) (hb hby d17_55) (Q := (Q_rm17n Z a h0 n0)) (by decide) (by decide) ?_
  show (Q_rm17n Z a h0 n0) _ s₁.heap _
  rw [e0]
  exact ⟨rfl, N0, rfl⟩
theorem own_pd13 : parseMethodDescriptor "(Ljava/lang/Object;)Z" = some ⟨[(.object "java/lang/Object")], some .boolean⟩ := by decide +kernel
theorem d16_0 : decode prog_26_method_2_code 0 = .ok (.aload_n 0, 1) := by decide +kernel
theorem d16_1 : decode prog_26_method_2_code 1 = .ok (.getfield 24, 3) := by decide +kernel
theorem d16_4 : decode prog_26_method_2_code 4 = .ok (.aload_n 1, 1) := by decide +kernel
theorem d16_5 : decode prog_26_method_2_code 5 = .ok (.invokevirtual 28, 3) := by decide +kernel
theorem d16_8 : decode prog_26_method_2_code 8 = .ok (.ifCond .ne 14, 3) := by decide +kernel
theorem d16_11 : decode prog_26_method_2_code 11 = .ok (.aload_n 0, 1) := by decide +kernel
theorem d16_12 : decode prog_26_method_2_code 12 = .ok (.getfield 26, 3) := by decide +kernel
theorem d16_15 : decode prog_26_method_2_code 15 = .ok (.aload_n 1, 1) := by decide +kernel
theorem d16_16 : decode prog_26_method_2_code 16 = .ok (.invokevirtual 28, 3) := by decide +kernel
theorem d16_19 : decode prog_26_method_2_code 19 = .ok (.ifCond .eq 7, 3) := by decide +kernel
theorem d16_26 : decode prog_26_method_2_code 26 = .ok (.iconst 0, 1) := by decide +kernel
theorem d16_27 : decode prog_26_method_2_code 27 = .ok (.ireturn, 1) := by decide +kernel
def Q_rm16n (Z : State) (a : Addr) (ls : Addr) (rs : Addr) (h0 : Heap) (n0 : Nat) (v : Option Value) (h : Heap) (L : List Loc) : Prop := v = some (.int 0) ∧ Fr n0 L ∧ h = h0
theorem ef_rm16n (m : MethodId) (a : Addr) : entryFrame m #[(.ref a), .null] 2 = mkF m 0 #[.val (.ref a), .val .null] [] := by first | (simp [entryFrame, mkF, argsToLocals, Value.category]; done) | rfl
set_option maxRecDepth 65536 in
set_option maxHeartbeats 40000000 in
theorem rm16n (l : Launch) (Z : State) (a0 : Array Value) (hw : ∀ d ∈ tables_1, d.before a0 Z = true) (ws : List Jvm.Cond) (a : Addr) (ls : Addr) (rs : Addr) (h0 : Heap) (n0 : Nat) (Z0 : n0 ≤ h0.size) (E_a : Exa Z h0 a "com/example/manyhands/manyhands/crowd/Ordering") (F_left : Fld Z h0 a "com/example/manyhands/manyhands/crowd/Ordering" "left" "Ljava/lang/String;" (.ref ls)) (F_right : Fld Z h0 a "com/example/manyhands/manyhands/crowd/Ordering" "right" "Ljava/lang/String;" (.ref rs)) (E_l : Exa Z h0 ls "java/lang/String") (E_r : Exa Z h0 rs "java/lang/String") :
    MetFree l (⟨"com/example/manyhands/manyhands/crowd/Ordering", "takes", "(Ljava/lang/String;)Z"⟩ : MethodName) (head1 (Jvm.Cond.code (⟨"com/example/manyhands/manyhands/crowd/Ordering", "takes", "(Ljava/lang/String;)Z"⟩ : MethodName) prog_26_method_2_code 2 (some .boolean) :: ws) ({ frames := 1, cells := 0, slots := 0, locals := 14 } : Room)) (fun ag_ U_ => ag_ = #[(.ref a), .null] ∧ Z.Warmed39 U_.vm ∧ U_.heap = h0) (fun _ _ _ _ _ => True) (fun _ U_ o_ V_ => ∃ v_ L_, o_ = .returned v_ ∧ (Q_rm16n Z a ls rs h0 n0) v_ V_.heap L_ ∧ FrameEnd U_ o_ V_ L_ ({ frames := 1, cells := 0, slots := 0, locals := 14 } : Room).cells ({ frames := 1, cells := 0, slots := 0, locals := 14 } : Room).slots) := by
  refine MetFree.of_bodySF (plainFor_of_name own_pn12) hisR ?_
  intro p e s m args below meth c s₁ Bd hml0 hP hK
  obtain ⟨rfl, hZ, hh⟩ := hP
  have hx := Bd.exec
  have hby := Bd.bytes
  have hml : c.maxLocals = 2 := hml0
  have hown : s.vm.findClass "com/example/manyhands/manyhands/crowd/Ordering" = some m.cls := findClass_of_methodNamed Bd.named
  have hnm := (name_of_methodNamed Bd.named Bd.method).1
  have X0 : Stand p l e ({ frames := 1, cells := 0, slots := 0, locals := 14 } : Room) s m #[(.ref a), .null] below meth c s₁ [] 0 0 := Stand.of_body Bd
  have e0 : s₁.heap = h0 := by rw [← hh, Bd.state]; rfl
  have N0 := Fr.nil n0
  refine Go.st (G := fun s₂ o_ => ∃ v_ L_, o_ = .returned v_ ∧ (Q_rm16n Z a ls rs h0 n0) v_ s₂.heap L_ ∧ FrameEnd s o_ s₂ L_ ({ frames := 1, cells := 0, slots := 0, locals := 14 } : Room).cells ({ frames := 1, cells := 0, slots := 0, locals := 14 } : Room).slots) (fun t kt => castTop (ef_rm16n m a) kt) ?_
  show Go p e below _ (s₁.setTop (mkF m 0 #[.val (.ref a), .val .null] []))
  refine Go.st (fun _ kt => XS.aloadN X0.here hx rfl (hb hby d16_0) rfl rfl kt) ?_
  show Go p e below _ (s₁.setTop (mkF m 1 #[.val (.ref a), .val .null] [(.ref a)]))
  obtain ⟨T1, X1, e1, st1⟩ := getF X0 hx hZ hown (host := "") (Or.inl (hw _ (List.mem_of_getElem? (i := 72) rfl))) Via.refl e0 F_left (g := (mkF m 1 #[.val (.ref a), .val .null] [(.ref a)])) rfl rfl (hb hby d16_1)
  refine Go.st st1 ?_
  show Go p e below _ (T1.setTop (mkF m 4 #[.val (.ref a), .val .null] [(.ref ls)]))
  refine Go.st (fun _ kt => XS.aloadN X1.here hx rfl (hb hby d16_4) rfl rfl kt) ?_
  show Go p e below _ (T1.setTop (mkF m 5 #[.val (.ref a), .val .null] [.null, (.ref ls)]))
  obtain ⟨cq2, kq2, q2a, q2b, q2c⟩ := isOf hZ e1 E_l
  obtain ⟨_, _, ⟨T2, L2, k2, n2⟩, -, X2, ⟨Lc2, hQ2, l2, y2, z2⟩, st2⟩ := X1.virtualBack hx (y := (⟨"java/lang/String", "equals", "(Ljava/lang/Object;)Z"⟩ : MethodName)) (z := (⟨"java/lang/String", "equals", "(Ljava/lang/Object;)Z"⟩ : MethodName)) hown (mvT hZ (hw _ (List.mem_of_getElem? (i := 84) rfl))) (mvT hZ (hw _ (List.mem_of_getElem? (i := 85) rfl))) (notFace_of_selects (args := #[]) (mvT hZ (hw _ (List.mem_of_getElem? (i := 87) rfl)))) (mvT hZ (hw _ (List.mem_of_getElem? (i := 87) rfl))) (mvT hZ (hw _ (List.mem_of_getElem? (i := 86) rfl))) (by decide) (backOf (W := 0) (rm17n l Z a0 hw [] ls h0 n0 Z0) hZ (hw _ (List.mem_of_getElem? (i := 88) rfl)) (hw _ (List.mem_of_getElem? (i := 6) rfl)) (by decide) (by decide)) q2a q2c (g := (mkF m 5 #[.val (.ref a), .val .null] [.null, (.ref ls)])) rfl (by rw [hml]; rfl) (Steps.refl _) (argsL := [.null]) (rest := []) (lenOf own_pd13 rfl) rfl (by show 2 * 0 + _ ≤ _; exact Nat.le_of_eq rfl) (hb hby d16_5) (fun _ _ => ⟨rfl, e1, (by decide : 0 + 0 ≤ _), (by decide : 0 + 0 ≤ _)⟩)
  dsimp only [Pt.U, Pt.locs, Pt.cells, Pt.slots] at X2 l2 y2 z2 st2 hQ2
  subst l2 y2 z2
  obtain ⟨rfl, N2q, e2⟩ := hQ2
  have N2 := Fr.app N0 N2q
  refine Go.tr st2 ?_
  show Go p e below _ (T2.setTop (mkF m 8 #[.val (.ref a), .val .null] [(.int (0 : Int32))]))
  refine Go.st (fun _ kt => XS.ifNo X2.here hx rfl (hb hby d16_8) rfl ((if0 _ _).trans (teq (by decide : (0 : Int32) = (0 : Int32))).2) kt) ?_
  show Go p e below _ (T2.setTop (mkF m 11 #[.val (.ref a), .val .null] []))
  refine Go.st (fun _ kt => XS.aloadN X2.here hx rfl (hb hby d16_11) rfl rfl kt) ?_
  show Go p e below _ (T2.setTop (mkF m 12 #[.val (.ref a), .val .null] [(.ref a)]))
  obtain ⟨T3, X3, e3, st3⟩ := getF X2 hx hZ hown (host := "") (Or.inl (hw _ (List.mem_of_getElem? (i := 74) rfl))) Via.refl e2 F_right (g := (mkF m 12 #[.val (.ref a), .val .null] [(.ref a)])) rfl rfl (hb hby d16_12)
  refine Go.st st3 ?_
  show Go p e below _ (T3.setTop (mkF m 15 #[.val (.ref a), .val .null] [(.ref rs)]))
  refine Go.st (fun _ kt => XS.aloadN X3.here hx rfl (hb hby d16_15) rfl rfl kt) ?_
  show Go p e below _ (T3.setTop (mkF m 16 #[.val (.ref a), .val .null] [.null, (.ref rs)]))
  obtain ⟨cq4, kq4, q4a, q4b, q4c⟩ := isOf hZ e3 E_r
  obtain ⟨_, _, ⟨T4, L4, k4, n4⟩, -, X4, ⟨Lc4, hQ4, l4, y4, z4⟩, st4⟩ := X3.virtualBack hx (y := (⟨"java/lang/String", "equals", "(Ljava/lang/Object;)Z"⟩ : MethodName)) (z := (⟨"java/lang/String", "equals", "(Ljava/lang/Object;)Z"⟩ : MethodName)) hown (mvT hZ (hw _ (List.mem_of_getElem? (i := 84) rfl))) (mvT hZ (hw _ (List.mem_of_getElem? (i := 85) rfl))) (notFace_of_selects (args := #[]) (mvT hZ (hw _ (List.mem_of_getElem? (i := 87) rfl)))) (mvT hZ (hw _ (List.mem_of_getElem? (i := 87) rfl))) (mvT hZ (hw _ (List.mem_of_getElem? (i := 86) rfl))) (by decide) (backOf (W := 0) (rm17n l Z a0 hw [] rs h0 n0 Z0) hZ (hw _ (List.mem_of_getElem? (i := 88) rfl)) (hw _ (List.mem_of_getElem? (i := 6) rfl)) (by decide) (by decide)) q4a q4c (g := (mkF m 16 #[.val (.ref a), .val .null] [.null, (.ref rs)])) rfl (by rw [hml]; rfl) (Steps.refl _) (argsL := [.null]) (rest := []) (lenOf own_pd13 rfl) rfl (by show 2 * 0 + _ ≤ _; exact Nat.le_of_eq rfl) (hb hby d16_16) (fun _ _ => ⟨rfl, e3, (by decide : 0 + 0 ≤ _), (by decide : 0 + 0 ≤ _)⟩)
  dsimp only [Pt.U, Pt.locs, Pt.cells, Pt.slots] at X4 l4 y4 z4 st4 hQ4
  subst l4 y4 z4
  obtain ⟨rfl, N4q, e4⟩ := hQ4
  have N4 := Fr.app N2 N4q
  refine Go.tr st4 ?_
  show Go p e below _ (T4.setTop (mkF m 19 #[.val (.ref a), .val .null] [(.int (0 : Int32))]))
  refine Go.st (fun _ kt => XS.ifYes X4.here hx rfl (pc0 := 19) (pc' := 26) rfl (hb hby d16_19) rfl ((if0 _ _).trans (teq (by decide : (0 : Int32) = (0 : Int32))).1) (by decide) (by decide) kt) ?_
  show Go p e below _ (T4.setTop (mkF m 26 #[.val (.ref a), .val .null] []))
  refine Go.st (fun _ kt => XS.iconst X4.here hx rfl (hb hby d16_26) kt) ?_
  show Go p e below _ (T4.setTop (mkF m 27 #[.val (.ref a), .val .null] [(.int (0 : Int32))]))
  refine Go.retN X4 hx (t := .boolean) Bd.returns (by simp) (BodyLoose.notSynchronized Bd) (hb hby d16_27) (Q := (Q_rm16n Z a ls rs h0 n0)) (by decide) (by decide) ?_
  show (Q_rm16n Z a ls rs h0 n0) _ T4.heap _
  rw [e4]
  exact ⟨rfl, N4, rfl⟩
theorem d16_22 : decode prog_26_method_2_code 22 = .ok (.iconst 1, 1) := by decide +kernel
theorem d16_23 : decode prog_26_method_2_code 23 = .ok (.goto 4, 3) := by decide +kernel
def Q_rm16a (Z : State) (a : Addr) (ys : Addr) (ls : Addr) (rs : Addr) (tls : Addr) (kls : ClassId) (csls : List Int32) (trs : Addr) (krs : ClassId) (csrs : List Int32) (tys : Addr) (kys : ClassId) (csys : List Int32) (G1 : Int32) (h0 : Heap) (n0 : Nat) (v : Option Value) (h : Heap) (L : List Loc) : Prop := v = some (.int 1) ∧ Fr n0 L ∧ h = h0
theorem ef_rm16a (m : MethodId) (a : Addr) (ys : Addr) : entryFrame m #[(.ref a), (.ref ys)] 2 = mkF m 0 #[.val (.ref a), .val (.ref ys)] [] := by first | (simp [entryFrame, mkF, argsToLocals, Value.category]; done) | rfl
set_option maxRecDepth 65536 in
set_option maxHeartbeats 40000000 in
theorem rm16a (l : Launch) (Z : State) (a0 : Array Value) (hw : ∀ d ∈ tables_1, d.before a0 Z = true) (ws : List Jvm.Cond) (a : Addr) (ys : Addr) (ls : Addr) (rs : Addr) (tls : Addr) (kls : ClassId) (csls : List Int32) (trs : Addr) (krs : ClassId) (csrs : List Int32) (tys : Addr) (kys : ClassId) (csys : List Int32) (G1 : Int32) (h0 : Heap) (n0 : Nat) (Z0 : n0 ≤ h0.size) (E_a : Exa Z h0 a "com/example/manyhands/manyhands/crowd/Ordering") (F_left : Fld Z h0 a "com/example/manyhands/manyhands/crowd/Ordering" "left" "Ljava/lang/String;" (.ref ls)) (F_right : Fld Z h0 a "com/example/manyhands/manyhands/crowd/Ordering" "right" "Ljava/lang/String;" (.ref rs)) (P_ls : Str Z h0 ls tls kls csls) (hb_ls : ∀ c ∈ csls, ¬ c < 0 ∧ ¬ (255 : Int32) < c) (hl_ls : csls.length ≤ 4000) (P_rs : Str Z h0 rs trs krs csrs) (hb_rs : ∀ c ∈ csrs, ¬ c < 0 ∧ ¬ (255 : Int32) < c) (hl_rs : csrs.length ≤ 4000) (P_ys : Str Z h0 ys tys kys csys) (hb_ys : ∀ c ∈ csys, ¬ c < 0 ∧ ¬ (255 : Int32) < c) (hl_ys : csys.length ≤ 4000) (O2 : Sta Z Z.heap "java/lang/String" "COMPACT_STRINGS" "Z" (.int G1)) (P5 : ¬ G1 = 0) (XE : Ext Z.heap h0) (hz0 : Z.heap.size ≤ n0) (hA : csls = csys) :
    MetFree l (⟨"com/example/manyhands/manyhands/crowd/Ordering", "takes", "(Ljava/lang/String;)Z"⟩ : MethodName) (head1 (Jvm.Cond.code (⟨"com/example/manyhands/manyhands/crowd/Ordering", "takes", "(Ljava/lang/String;)Z"⟩ : MethodName) prog_26_method_2_code 2 (some .boolean) :: ws) ({ frames := 2, cells := 0, slots := 0, locals := 28 } : Room)) (fun ag_ U_ => ag_ = #[(.ref a), (.ref ys)] ∧ Z.Warmed39 U_.vm ∧ U_.heap = h0) (fun _ _ _ _ _ => True) (fun _ U_ o_ V_ => ∃ v_ L_, o_ = .returned v_ ∧ (Q_rm16a Z a ys ls rs tls kls csls trs krs csrs tys kys csys G1 h0 n0) v_ V_.heap L_ ∧ FrameEnd U_ o_ V_ L_ ({ frames := 2, cells := 0, slots := 0, locals := 28 } : Room).cells ({ frames := 2, cells := 0, slots := 0, locals := 28 } : Room).slots) := by
  refine MetFree.of_bodySF (plainFor_of_name own_pn12) hisR ?_
  intro p e s m args below meth c s₁ Bd hml0 hP hK
  obtain ⟨rfl, hZ, hh⟩ := hP
  have hx := Bd.exec
  have hby := Bd.bytes
  have hml : c.maxLocals = 2 := hml0
  have hown : s.vm.findClass "com/example/manyhands/manyhands/crowd/Ordering" = some m.cls := findClass_of_methodNamed Bd.named
  have hnm := (name_of_methodNamed Bd.named Bd.method).1
  have X0 : Stand p l e ({ frames := 2, cells := 0, slots := 0, locals := 28 } : Room) s m #[(.ref a), (.ref ys)] below meth c s₁ [] 0 0 := Stand.of_body Bd
  have e0 : s₁.heap = h0 := by rw [← hh, Bd.state]; rfl
  have N0 := Fr.nil n0
  refine Go.st (G := fun s₂ o_ => ∃ v_ L_, o_ = .returned v_ ∧ (Q_rm16a Z a ys ls rs tls kls csls trs krs csrs tys kys csys G1 h0 n0) v_ s₂.heap L_ ∧ FrameEnd s o_ s₂ L_ ({ frames := 2, cells := 0, slots := 0, locals := 28 } : Room).cells ({ frames := 2, cells := 0, slots := 0, locals := 28 } : Room).slots) (fun t kt => castTop (ef_rm16a m a ys) kt) ?_
  show Go p e below _ (s₁.setTop (mkF m 0 #[.val (.ref a), .val (.ref ys)] []))
  refine Go.st (fun _ kt => XS.aloadN X0.here hx rfl (hb hby d16_0) rfl rfl kt) ?_
  show Go p e below _ (s₁.setTop (mkF m 1 #[.val (.ref a), .val (.ref ys)] [(.ref a)]))
  obtain ⟨T1, X1, e1, st1⟩ := getF X0 hx hZ hown (host := "") (Or.inl (hw _ (List.mem_of_getElem? (i := 72) rfl))) Via.refl e0 F_left (g := (mkF m 1 #[.val (.ref a), .val (.ref ys)] [(.ref a)])) rfl rfl (hb hby d16_1)
  refine Go.st st1 ?_
  show Go p e below _ (T1.setTop (mkF m 4 #[.val (.ref a), .val (.ref ys)] [(.ref ls)]))
  refine Go.st (fun _ kt => XS.aloadN X1.here hx rfl (hb hby d16_4) rfl rfl kt) ?_
  show Go p e below _ (T1.setTop (mkF m 5 #[.val (.ref a), .val (.ref ys)] [(.ref ys), (.ref ls)]))
  obtain ⟨cq2, kq2, q2a, q2b, q2c⟩ := isOf hZ e1 P_ls.1
  obtain ⟨_, _, ⟨T2, L2, k2, n2⟩, -, X2, ⟨Lc2, hQ2, l2, y2, z2⟩, st2⟩ := X1.virtualBack hx (y := (⟨"java/lang/String", "equals", "(Ljava/lang/Object;)Z"⟩ : MethodName)) (z := (⟨"java/lang/String", "equals", "(Ljava/lang/Object;)Z"⟩ : MethodName)) hown (mvT hZ (hw _ (List.mem_of_getElem? (i := 84) rfl))) (mvT hZ (hw _ (List.mem_of_getElem? (i := 85) rfl))) (notFace_of_selects (args := #[]) (mvT hZ (hw _ (List.mem_of_getElem? (i := 87) rfl)))) (mvT hZ (hw _ (List.mem_of_getElem? (i := 87) rfl))) (mvT hZ (hw _ (List.mem_of_getElem? (i := 86) rfl))) (by decide) (StrChars.Road.eqW (W := 0) hZ (fun d hd => hw d (own_weq d hd)) (kI := 4) (hw _ (List.mem_of_getElem? (i := 5) rfl)) P_ls.1 P_ls.2.2.1 P_ls.2.1 P_ls.2.2.2 (own_cod hb_ls) (own_up hb_ls) hl_ls P_ys.1 P_ys.2.2.1 P_ys.2.1 P_ys.2.2.2 (own_cod hb_ys) (own_up hb_ys) hl_ys (O2.ext XE) P5 (by decide) (by decide)) q2a q2c (g := (mkF m 5 #[.val (.ref a), .val (.ref ys)] [(.ref ys), (.ref ls)])) rfl (by rw [hml]; rfl) (Steps.refl _) (argsL := [(.ref ys)]) (rest := []) (lenOf own_pd13 rfl) rfl (by show 2 * 0 + _ ≤ _; exact Nat.le_of_eq rfl) (hb hby d16_5) (fun _ _ => ⟨rfl, e1, (by decide : 0 + 0 ≤ _), (by decide : 0 + 0 ≤ _)⟩)
  dsimp only [Pt.U, Pt.locs, Pt.cells, Pt.slots] at X2 l2 y2 z2 st2 hQ2
  subst l2 y2 z2
  obtain ⟨hv2, rfl, e2⟩ := hQ2
  have hu2 : _ = some (Value.int 1) := hv2.elim (fun q => q.1) (fun q => absurd hA q.2)
  subst hu2
  have N2q := Fr.nil n0
  have N2 := Fr.app N0 N2q
  refine Go.tr st2 ?_
  show Go p e below _ (T2.setTop (mkF m 8 #[.val (.ref a), .val (.ref ys)] [(.int (1 : Int32))]))
  refine Go.st (fun _ kt => XS.ifYes X2.here hx rfl (pc0 := 8) (pc' := 22) rfl (hb hby d16_8) rfl ((if0 _ _).trans (feq (by decide : ¬ ((1 : Int32) = (0 : Int32)))).2) (by decide) (by decide) kt) ?_
  show Go p e below _ (T2.setTop (mkF m 22 #[.val (.ref a), .val (.ref ys)] []))
  refine Go.st (fun _ kt => XS.iconst X2.here hx rfl (hb hby d16_22) kt) ?_
  show Go p e below _ (T2.setTop (mkF m 23 #[.val (.ref a), .val (.ref ys)] [(.int (1 : Int32))]))
  refine Go.st (fun _ kt => XS.goto X2.here hx rfl (pc0 := 23) (pc' := 27) rfl (hb hby d16_23) (by decide) (by decide) kt) ?_
  show Go p e below _ (T2.setTop (mkF m 27 #[.val (.ref a), .val (.ref ys)] [(.int (1 : Int32))]))
  refine Go.retN X2 hx (t := .boolean) Bd.returns (by simp) (BodyLoose.notSynchronized Bd) (hb hby d16_27) (Q := (Q_rm16a Z a ys ls rs tls kls csls trs krs csrs tys kys csys G1 h0 n0)) (by decide) (by decide) ?_
  show (Q_rm16a Z a ys ls rs tls kls csls trs krs csrs tys kys csys G1 h0 n0) _ T2.heap _
  rw [e2]
  exact ⟨rfl, N2, rfl⟩
def Q_rm16b (Z : State) (a : Addr) (ys : Addr) (ls : Addr) (rs : Addr) (tls : Addr) (kls : ClassId) (csls : List Int32) (trs : Addr) (krs : ClassId) (csrs : List Int32) (tys : Addr) (kys : ClassId) (csys : List Int32) (G1 : Int32) (h0 : Heap) (n0 : Nat) (v : Option Value) (h : Heap) (L : List Loc) : Prop := v = some (.int 1) ∧ Fr n0 L ∧ h = h0
theorem ef_rm16b (m : MethodId) (a : Addr) (ys : Addr) : entryFrame m #[(.ref a), (.ref ys)] 2 = mkF m 0 #[.val (.ref a), .val (.ref ys)] [] := by first | (simp [entryFrame, mkF, argsToLocals, Value.category]; done) | rfl
set_option maxRecDepth 65536 in
set_option maxHeartbeats 40000000 in
theorem rm16b (l : Launch) (Z : State) (a0 : Array Value) (hw : ∀ d ∈ tables_1, d.before a0 Z = true) (ws : List Jvm.Cond) (a : Addr) (ys : Addr) (ls : Addr) (rs : Addr) (tls : Addr) (kls : ClassId) (csls : List Int32) (trs : Addr) (krs : ClassId) (csrs : List Int32) (tys : Addr) (kys : ClassId) (csys : List Int32) (G1 : Int32) (h0 : Heap) (n0 : Nat) (Z0 : n0 ≤ h0.size) (E_a : Exa Z h0 a "com/example/manyhands/manyhands/crowd/Ordering") (F_left : Fld Z h0 a "com/example/manyhands/manyhands/crowd/Ordering" "left" "Ljava/lang/String;" (.ref ls)) (F_right : Fld Z h0 a "com/example/manyhands/manyhands/crowd/Ordering" "right" "Ljava/lang/String;" (.ref rs)) (P_ls : Str Z h0 ls tls kls csls) (hb_ls : ∀ c ∈ csls, ¬ c < 0 ∧ ¬ (255 : Int32) < c) (hl_ls : csls.length ≤ 4000) (P_rs : Str Z h0 rs trs krs csrs) (hb_rs : ∀ c ∈ csrs, ¬ c < 0 ∧ ¬ (255 : Int32) < c) (hl_rs : csrs.length ≤ 4000) (P_ys : Str Z h0 ys tys kys csys) (hb_ys : ∀ c ∈ csys, ¬ c < 0 ∧ ¬ (255 : Int32) < c) (hl_ys : csys.length ≤ 4000) (O2 : Sta Z Z.heap "java/lang/String" "COMPACT_STRINGS" "Z" (.int G1)) (P5 : ¬ G1 = 0) (XE : Ext Z.heap h0) (hz0 : Z.heap.size ≤ n0) (hA : ¬ csls = csys) (hB : csrs = csys) :
    MetFree l (⟨"com/example/manyhands/manyhands/crowd/Ordering", "takes", "(Ljava/lang/String;)Z"⟩ : MethodName) (head1 (Jvm.Cond.code (⟨"com/example/manyhands/manyhands/crowd/Ordering", "takes", "(Ljava/lang/String;)Z"⟩ : MethodName) prog_26_method_2_code 2 (some .boolean) :: ws) ({ frames := 2, cells := 0, slots := 0, locals := 28 } : Room)) (fun ag_ U_ => ag_ = #[(.ref a), (.ref ys)] ∧ Z.Warmed39 U_.vm ∧ U_.heap = h0) (fun _ _ _ _ _ => True) (fun _ U_ o_ V_ => ∃ v_ L_, o_ = .returned v_ ∧ (Q_rm16b Z a ys ls rs tls kls csls trs krs csrs tys kys csys G1 h0 n0) v_ V_.heap L_ ∧ FrameEnd U_ o_ V_ L_ ({ frames := 2, cells := 0, slots := 0, locals := 28 } : Room).cells ({ frames := 2, cells := 0, slots := 0, locals := 28 } : Room).slots) := by
  refine MetFree.of_bodySF (plainFor_of_name own_pn12) hisR ?_
  intro p e s m args below meth c s₁ Bd hml0 hP hK
  obtain ⟨rfl, hZ, hh⟩ := hP
  have hx := Bd.exec
  have hby := Bd.bytes
  have hml : c.maxLocals = 2 := hml0
  have hown : s.vm.findClass "com/example/manyhands/manyhands/crowd/Ordering" = some m.cls := findClass_of_methodNamed Bd.named
  have hnm := (name_of_methodNamed Bd.named Bd.method).1
  have X0 : Stand p l e ({ frames := 2, cells := 0, slots := 0, locals := 28 } : Room) s m #[(.ref a), (.ref ys)] below meth c s₁ [] 0 0 := Stand.of_body Bd
  have e0 : s₁.heap = h0 := by rw [← hh, Bd.state]; rfl
  have N0 := Fr.nil n0
  refine Go.st (G := fun s₂ o_ => ∃ v_ L_, o_ = .returned v_ ∧ (Q_rm16b Z a ys ls rs tls kls csls trs krs csrs tys kys csys G1 h0 n0) v_ s₂.heap L_ ∧ FrameEnd s o_ s₂ L_ ({ frames := 2, cells := 0, slots := 0, locals := 28 } : Room).cells ({ frames := 2, cells := 0, slots := 0, locals := 28 } : Room).slots) (fun t kt => castTop (ef_rm16b m a ys) kt) ?_
  show Go p e below _ (s₁.setTop (mkF m 0 #[.val (.ref a), .val (.ref ys)] []))
  refine Go.st (fun _ kt => XS.aloadN X0.here hx rfl (hb hby d16_0) rfl rfl kt) ?_
  show Go p e below _ (s₁.setTop (mkF m 1 #[.val (.ref a), .val (.ref ys)] [(.ref a)]))
  obtain ⟨T1, X1, e1, st1⟩ := getF X0 hx hZ hown (host := "") (Or.inl (hw _ (List.mem_of_getElem? (i := 72) rfl))) Via.refl e0 F_left (g := (mkF m 1 #[.val (.ref a), .val (.ref ys)] [(.ref a)])) rfl rfl (hb hby d16_1)
  refine Go.st st1 ?_
  show Go p e below _ (T1.setTop (mkF m 4 #[.val (.ref a), .val (.ref ys)] [(.ref ls)]))
  refine Go.st (fun _ kt => XS.aloadN X1.here hx rfl (hb hby d16_4) rfl rfl kt) ?_
  show Go p e below _ (T1.setTop (mkF m 5 #[.val (.ref a), .val (.ref ys)] [(.ref ys), (.ref ls)]))
  obtain ⟨cq2, kq2, q2a, q2b, q2c⟩ := isOf hZ e1 P_ls.1
  obtain ⟨_, _, ⟨T2, L2, k2, n2⟩, -, X2, ⟨Lc2, hQ2, l2, y2, z2⟩, st2⟩ := X1.virtualBack hx (y := (⟨"java/lang/String", "equals", "(Ljava/lang/Object;)Z"⟩ : MethodName)) (z := (⟨"java/lang/String", "equals", "(Ljava/lang/Object;)Z"⟩ : MethodName)) hown (mvT hZ (hw _ (List.mem_of_getElem? (i := 84) rfl))) (mvT hZ (hw _ (List.mem_of_getElem? (i := 85) rfl))) (notFace_of_selects (args := #[]) (mvT hZ (hw _ (List.mem_of_getElem? (i := 87) rfl)))) (mvT hZ (hw _ (List.mem_of_getElem? (i := 87) rfl))) (mvT hZ (hw _ (List.mem_of_getElem? (i := 86) rfl))) (by decide) (StrChars.Road.eqW (W := 0) hZ (fun d hd => hw d (own_weq d hd)) (kI := 4) (hw _ (List.mem_of_getElem? (i := 5) rfl)) P_ls.1 P_ls.2.2.1 P_ls.2.1 P_ls.2.2.2 (own_cod hb_ls) (own_up hb_ls) hl_ls P_ys.1 P_ys.2.2.1 P_ys.2.1 P_ys.2.2.2 (own_cod hb_ys) (own_up hb_ys) hl_ys (O2.ext XE) P5 (by decide) (by decide)) q2a q2c (g := (mkF m 5 #[.val (.ref a), .val (.ref ys)] [(.ref ys), (.ref ls)])) rfl (by rw [hml]; rfl) (Steps.refl _) (argsL := [(.ref ys)]) (rest := []) (lenOf own_pd13 rfl) rfl (by show 2 * 0 + _ ≤ _; exact Nat.le_of_eq rfl) (hb hby d16_5) (fun _ _ => ⟨rfl, e1, (by decide : 0 + 0 ≤ _), (by decide : 0 + 0 ≤ _)⟩)
  dsimp only [Pt.U, Pt.locs, Pt.cells, Pt.slots] at X2 l2 y2 z2 st2 hQ2
  subst l2 y2 z2
  obtain ⟨hv2, rfl, e2⟩ := hQ2
  have hu2 : _ = some (Value.int 0) := hv2.elim (fun q => absurd q.2 hA) (fun q => q.1)
  subst hu2
  have N2q := Fr.nil n0
  have N2 := Fr.app N0 N2q
  refine Go.tr st2 ?_
  show Go p e below _ (T2.setTop (mkF m 8 #[.val (.ref a), .val (.ref ys)] [(.int (0 : Int32))]))
  refine Go.st (fun _ kt => XS.ifNo X2.here hx rfl (hb hby d16_8) rfl ((if0 _ _).trans (teq (by decide : (0 : Int32) = (0 : Int32))).2) kt) ?_
  show Go p e below _ (T2.setTop (mkF m 11 #[.val (.ref a), .val (.ref ys)] []))
  refine Go.st (fun _ kt => XS.aloadN X2.here hx rfl (hb hby d16_11) rfl rfl kt) ?_
  show Go p e below _ (T2.setTop (mkF m 12 #[.val (.ref a), .val (.ref ys)] [(.ref a)]))
  obtain ⟨T3, X3, e3, st3⟩ := getF X2 hx hZ hown (host := "") (Or.inl (hw _ (List.mem_of_getElem? (i := 74) rfl))) Via.refl e2 F_right (g := (mkF m 12 #[.val (.ref a), .val (.ref ys)] [(.ref a)])) rfl rfl (hb hby d16_12)
  refine Go.st st3 ?_
  show Go p e below _ (T3.setTop (mkF m 15 #[.val (.ref a), .val (.ref ys)] [(.ref rs)]))
  refine Go.st (fun _ kt => XS.aloadN X3.here hx rfl (hb hby d16_15) rfl rfl kt) ?_
  show Go p e below _ (T3.setTop (mkF m 16 #[.val (.ref a), .val (.ref ys)] [(.ref ys), (.ref rs)]))
  obtain ⟨cq4, kq4, q4a, q4b, q4c⟩ := isOf hZ e3 P_rs.1
  obtain ⟨_, _, ⟨T4, L4, k4, n4⟩, -, X4, ⟨Lc4, hQ4, l4, y4, z4⟩, st4⟩ := X3.virtualBack hx (y := (⟨"java/lang/String", "equals", "(Ljava/lang/Object;)Z"⟩ : MethodName)) (z := (⟨"java/lang/String", "equals", "(Ljava/lang/Object;)Z"⟩ : MethodName)) hown (mvT hZ (hw _ (List.mem_of_getElem? (i := 84) rfl))) (mvT hZ (hw _ (List.mem_of_getElem? (i := 85) rfl))) (notFace_of_selects (args := #[]) (mvT hZ (hw _ (List.mem_of_getElem? (i := 87) rfl)))) (mvT hZ (hw _ (List.mem_of_getElem? (i := 87) rfl))) (mvT hZ (hw _ (List.mem_of_getElem? (i := 86) rfl))) (by decide) (StrChars.Road.eqW (W := 0) hZ (fun d hd => hw d (own_weq d hd)) (kI := 4) (hw _ (List.mem_of_getElem? (i := 5) rfl)) P_rs.1 P_rs.2.2.1 P_rs.2.1 P_rs.2.2.2 (own_cod hb_rs) (own_up hb_rs) hl_rs P_ys.1 P_ys.2.2.1 P_ys.2.1 P_ys.2.2.2 (own_cod hb_ys) (own_up hb_ys) hl_ys (O2.ext XE) P5 (by decide) (by decide)) q4a q4c (g := (mkF m 16 #[.val (.ref a), .val (.ref ys)] [(.ref ys), (.ref rs)])) rfl (by rw [hml]; rfl) (Steps.refl _) (argsL := [(.ref ys)]) (rest := []) (lenOf own_pd13 rfl) rfl (by show 2 * 0 + _ ≤ _; exact Nat.le_of_eq rfl) (hb hby d16_16) (fun _ _ => ⟨rfl, e3, (by decide : 0 + 0 ≤ _), (by decide : 0 + 0 ≤ _)⟩)
  dsimp only [Pt.U, Pt.locs, Pt.cells, Pt.slots] at X4 l4 y4 z4 st4 hQ4
  subst l4 y4 z4
  obtain ⟨hv4, rfl, e4⟩ := hQ4
  have hu4 : _ = some (Value.int 1) := hv4.elim (fun q => q.1) (fun q => absurd hB q.2)
  subst hu4
  have N4q := Fr.nil n0
  have N4 := Fr.app N2 N4q
  refine Go.tr st4 ?_
  show Go p e below _ (T4.setTop (mkF m 19 #[.val (.ref a), .val (.ref ys)] [(.int (1 : Int32))]))
  refine Go.st (fun _ kt => XS.ifNo X4.here hx rfl (hb hby d16_19) rfl ((if0 _ _).trans (feq (by decide : ¬ ((1 : Int32) = (0 : Int32)))).1) kt) ?_
  show Go p e below _ (T4.setTop (mkF m 22 #[.val (.ref a), .val (.ref ys)] []))
  refine Go.st (fun _ kt => XS.iconst X4.here hx rfl (hb hby d16_22) kt) ?_
  show Go p e below _ (T4.setTop (mkF m 23 #[.val (.ref a), .val (.ref ys)] [(.int (1 : Int32))]))
  refine Go.st (fun _ kt => XS.goto X4.here hx rfl (pc0 := 23) (pc' := 27) rfl (hb hby d16_23) (by decide) (by decide) kt) ?_
  show Go p e below _ (T4.setTop (mkF m 27 #[.val (.ref a), .val (.ref ys)] [(.int (1 : Int32))]))
  refine Go.retN X4 hx (t := .boolean) Bd.returns (by simp) (BodyLoose.notSynchronized Bd) (hb hby d16_27) (Q := (Q_rm16b Z a ys ls rs tls kls csls trs krs csrs tys kys csys G1 h0 n0)) (by decide) (by decide) ?_
  show (Q_rm16b Z a ys ls rs tls kls csls trs krs csrs tys kys csys G1 h0 n0) _ T4.heap _
  rw [e4]
  exact ⟨rfl, N4, rfl⟩
def Q_rm16c (Z : State) (a : Addr) (ys : Addr) (ls : Addr) (rs : Addr) (tls : Addr) (kls : ClassId) (csls : List Int32) (trs : Addr) (krs : ClassId) (csrs : List Int32) (tys : Addr) (kys : ClassId) (csys : List Int32) (G1 : Int32) (h0 : Heap) (n0 : Nat) (v : Option Value) (h : Heap) (L : List Loc) : Prop := v = some (.int 0) ∧ Fr n0 L ∧ h = h0
theorem ef_rm16c (m : MethodId) (a : Addr) (ys : Addr) : entryFrame m #[(.ref a), (.ref ys)] 2 = mkF m 0 #[.val (.ref a), .val (.ref ys)] [] := by first | (simp [entryFrame, mkF, argsToLocals, Value.category]; done) | rfl
set_option maxRecDepth 65536 in
set_option maxHeartbeats 40000000 in
theorem rm16c (l : Launch) (Z : State) (a0 : Array Value) (hw : ∀ d ∈ tables_1, d.before a0 Z = true) (ws : List Jvm.Cond) (a : Addr) (ys : Addr) (ls : Addr) (rs : Addr) (tls : Addr) (kls : ClassId) (csls : List Int32) (trs : Addr) (krs : ClassId) (csrs : List Int32) (tys : Addr) (kys : ClassId) (csys : List Int32) (G1 : Int32) (h0 : Heap) (n0 : Nat) (Z0 : n0 ≤ h0.size) (E_a : Exa Z h0 a "com/example/manyhands/manyhands/crowd/Ordering") (F_left : Fld Z h0 a "com/example/manyhands/manyhands/crowd/Ordering" "left" "Ljava/lang/String;" (.ref ls)) (F_right : Fld Z h0 a "com/example/manyhands/manyhands/crowd/Ordering" "right" "Ljava/lang/String;" (.ref rs)) (P_ls : Str Z h0 ls tls kls csls) (hb_ls : ∀ c ∈ csls, ¬ c < 0 ∧ ¬ (255 : Int32) < c) (hl_ls : csls.length ≤ 4000) (P_rs : Str Z h0 rs trs krs csrs) (hb_rs : ∀ c ∈ csrs, ¬ c < 0 ∧ ¬ (255 : Int32) < c) (hl_rs : csrs.length ≤ 4000) (P_ys : Str Z h0 ys tys kys csys) (hb_ys : ∀ c ∈ csys, ¬ c < 0 ∧ ¬ (255 : Int32) < c) (hl_ys : csys.length ≤ 4000) (O2 : Sta Z Z.heap "java/lang/String" "COMPACT_STRINGS" "Z" (.int G1)) (P5 : ¬ G1 = 0) (XE : Ext Z.heap h0) (hz0 : Z.heap.size ≤ n0) (hA : ¬ csls = csys) (hB : ¬ csrs = csys) :
    MetFree l (⟨"com/example/manyhands/manyhands/crowd/Ordering", "takes", "(Ljava/lang/String;)Z"⟩ : MethodName) (head1 (Jvm.Cond.code (⟨"com/example/manyhands/manyhands/crowd/Ordering", "takes", "(Ljava/lang/String;)Z"⟩ : MethodName) prog_26_method_2_code 2 (some .boolean) :: ws) ({ frames := 2, cells := 0, slots := 0, locals := 28 } : Room)) (fun ag_ U_ => ag_ = #[(.ref a), (.ref ys)] ∧ Z.Warmed39 U_.vm ∧ U_.heap = h0) (fun _ _ _ _ _ => True) (fun _ U_ o_ V_ => ∃ v_ L_, o_ = .returned v_ ∧ (Q_rm16c Z a ys ls rs tls kls csls trs krs csrs tys kys csys G1 h0 n0) v_ V_.heap L_ ∧ FrameEnd U_ o_ V_ L_ ({ frames := 2, cells := 0, slots := 0, locals := 28 } : Room).cells ({ frames := 2, cells := 0, slots := 0, locals := 28 } : Room).slots) := by
  refine MetFree.of_bodySF (plainFor_of_name own_pn12) hisR ?_
  intro p e s m args below meth c s₁ Bd hml0 hP hK
  obtain ⟨rfl, hZ, hh⟩ := hP
  have hx := Bd.exec
  have hby := Bd.bytes
  have hml : c.maxLocals = 2 := hml0
  have hown : s.vm.findClass "com/example/manyhands/manyhands/crowd/Ordering" = some m.cls := findClass_of_methodNamed Bd.named
  have hnm := (name_of_methodNamed Bd.named Bd.method).1
  have X0 : Stand p l e ({ frames := 2, cells := 0, slots := 0, locals := 28 } : Room) s m #[(.ref a), (.ref ys)] below meth c s₁ [] 0 0 := Stand.of_body Bd
  have e0 : s₁.heap = h0 := by rw [← hh, Bd.state]; rfl
  have N0 := Fr.nil n0
  refine Go.st (G := fun s₂ o_ => ∃ v_ L_, o_ = .returned v_ ∧ (Q_rm16c Z a ys ls rs tls kls csls trs krs csrs tys kys csys G1 h0 n0) v_ s₂.heap L_ ∧ FrameEnd s o_ s₂ L_ ({ frames := 2, cells := 0, slots := 0, locals := 28 } : Room).cells ({ frames := 2, cells := 0, slots := 0, locals := 28 } : Room).slots) (fun t kt => castTop (ef_rm16c m a ys) kt) ?_
  show Go p e below _ (s₁.setTop (mkF m 0 #[.val (.ref a), .val (.ref ys)] []))
  refine Go.st (fun _ kt => XS.aloadN X0.here hx rfl (hb hby d16_0) rfl rfl kt) ?_
  show Go p e below _ (s₁.setTop (mkF m 1 #[.val (.ref a), .val (.ref ys)] [(.ref a)]))
  obtain ⟨T1, X1, e1, st1⟩ := getF X0 hx hZ hown (host := "") (Or.inl (hw _ (List.mem_of_getElem? (i := 72) rfl))) Via.refl e0 F_left (g := (mkF m 1 #[.val (.ref a), .val (.ref ys)] [(.ref a)])) rfl rfl (hb hby d16_1)
  refine Go.st st1 ?_
  show Go p e below _ (T1.setTop (mkF m 4 #[.val (.ref a), .val (.ref ys)] [(.ref ls)]))
  refine Go.st (fun _ kt => XS.aloadN X1.here hx rfl (hb hby d16_4) rfl rfl kt) ?_
  show Go p e below _ (T1.setTop (mkF m 5 #[.val (.ref a), .val (.ref ys)] [(.ref ys), (.ref ls)]))
  obtain ⟨cq2, kq2, q2a, q2b, q2c⟩ := isOf hZ e1 P_ls.1
  obtain ⟨_, _, ⟨T2, L2, k2, n2⟩, -, X2, ⟨Lc2, hQ2, l2, y2, z2⟩, st2⟩ := X1.virtualBack hx (y := (⟨"java/lang/String", "equals", "(Ljava/lang/Object;)Z"⟩ : MethodName)) (z := (⟨"java/lang/String", "equals", "(Ljava/lang/Object;)Z"⟩ : MethodName)) hown (mvT hZ (hw _ (List.mem_of_getElem? (i := 84) rfl))) (mvT hZ (hw _ (List.mem_of_getElem? (i := 85) rfl))) (notFace_of_selects (args := #[]) (mvT hZ (hw _ (List.mem_of_getElem? (i := 87) rfl)))) (mvT hZ (hw _ (List.mem_of_getElem? (i := 87) rfl))) (mvT hZ (hw _ (List.mem_of_getElem? (i := 86) rfl))) (by decide) (StrChars.Road.eqW (W := 0) hZ (fun d hd => hw d (own_weq d hd)) (kI := 4) (hw _ (List.mem_of_getElem? (i := 5) rfl)) P_ls.1 P_ls.2.2.1 P_ls.2.1 P_ls.2.2.2 (own_cod hb_ls) (own_up hb_ls) hl_ls P_ys.1 P_ys.2.2.1 P_ys.2.1 P_ys.2.2.2 (own_cod hb_ys) (own_up hb_ys) hl_ys (O2.ext XE) P5 (by decide) (by decide)) q2a q2c (g := (mkF m 5 #[.val (.ref a), .val (.ref ys)] [(.ref ys), (.ref ls)])) rfl (by rw [hml]; rfl) (Steps.refl _) (argsL := [(.ref ys)]) (rest := []) (lenOf own_pd13 rfl) rfl (by show 2 * 0 + _ ≤ _; exact Nat.le_of_eq rfl) (hb hby d16_5) (fun _ _ => ⟨rfl, e1, (by decide : 0 + 0 ≤ _), (by decide : 0 + 0 ≤ _)⟩)
  dsimp only [Pt.U, Pt.locs, Pt.cells, Pt.slots] at X2 l2 y2 z2 st2 hQ2
  subst l2 y2 z2
  obtain ⟨hv2, rfl, e2⟩ := hQ2
  have hu2 : _ = some (Value.int 0) := hv2.elim (fun q => absurd q.2 hA) (fun q => q.1)
  subst hu2
  have N2q := Fr.nil n0
  have N2 := Fr.app N0 N2q
  refine Go.tr st2 ?_
  show Go p e below _ (T2.setTop (mkF m 8 #[.val (.ref a), .val (.ref ys)] [(.int (0 : Int32))]))
  refine Go.st (fun _ kt => XS.ifNo X2.here hx rfl (hb hby d16_8) rfl ((if0 _ _).trans (teq (by decide : (0 : Int32) = (0 : Int32))).2) kt) ?_
  show Go p e below _ (T2.setTop (mkF m 11 #[.val (.ref a), .val (.ref ys)] []))
  refine Go.st (fun _ kt => XS.aloadN X2.here hx rfl (hb hby d16_11) rfl rfl kt) ?_
  show Go p e below _ (T2.setTop (mkF m 12 #[.val (.ref a), .val (.ref ys)] [(.ref a)]))
  obtain ⟨T3, X3, e3, st3⟩ := getF X2 hx hZ hown (host := "") (Or.inl (hw _ (List.mem_of_getElem? (i := 74) rfl))) Via.refl e2 F_right (g := (mkF m 12 #[.val (.ref a), .val (.ref ys)] [(.ref a)])) rfl rfl (hb hby d16_12)
  refine Go.st st3 ?_
  show Go p e below _ (T3.setTop (mkF m 15 #[.val (.ref a), .val (.ref ys)] [(.ref rs)]))
  refine Go.st (fun _ kt => XS.aloadN X3.here hx rfl (hb hby d16_15) rfl rfl kt) ?_
  show Go p e below _ (T3.setTop (mkF m 16 #[.val (.ref a), .val (.ref ys)] [(.ref ys), (.ref rs)]))
  obtain ⟨cq4, kq4, q4a, q4b, q4c⟩ := isOf hZ e3 P_rs.1
  obtain ⟨_, _, ⟨T4, L4, k4, n4⟩, -, X4, ⟨Lc4, hQ4, l4, y4, z4⟩, st4⟩ := X3.virtualBack hx (y := (⟨"java/lang/String", "equals", "(Ljava/lang/Object;)Z"⟩ : MethodName)) (z := (⟨"java/lang/String", "equals", "(Ljava/lang/Object;)Z"⟩ : MethodName)) hown (mvT hZ (hw _ (List.mem_of_getElem? (i := 84) rfl))) (mvT hZ (hw _ (List.mem_of_getElem? (i := 85) rfl))) (notFace_of_selects (args := #[]) (mvT hZ (hw _ (List.mem_of_getElem? (i := 87) rfl)))) (mvT hZ (hw _ (List.mem_of_getElem? (i := 87) rfl))) (mvT hZ (hw _ (List.mem_of_getElem? (i := 86) rfl))) (by decide) (StrChars.Road.eqW (W := 0) hZ (fun d hd => hw d (own_weq d hd)) (kI := 4) (hw _ (List.mem_of_getElem? (i := 5) rfl)) P_rs.1 P_rs.2.2.1 P_rs.2.1 P_rs.2.2.2 (own_cod hb_rs) (own_up hb_rs) hl_rs P_ys.1 P_ys.2.2.1 P_ys.2.1 P_ys.2.2.2 (own_cod hb_ys) (own_up hb_ys) hl_ys (O2.ext XE) P5 (by decide) (by decide)) q4a q4c (g := (mkF m 16 #[.val (.ref a), .val (.ref ys)] [(.ref ys), (.ref rs)])) rfl (by rw [hml]; rfl) (Steps.refl _) (argsL := [(.ref ys)]) (rest := []) (lenOf own_pd13 rfl) rfl (by show 2 * 0 + _ ≤ _; exact Nat.le_of_eq rfl) (hb hby d16_16) (fun _ _ => ⟨rfl, e3, (by decide : 0 + 0 ≤ _), (by decide : 0 + 0 ≤ _)⟩)
  dsimp only [Pt.U, Pt.locs, Pt.cells, Pt.slots] at X4 l4 y4 z4 st4 hQ4
  subst l4 y4 z4
  obtain ⟨hv4, rfl, e4⟩ := hQ4
  have hu4 : _ = some (Value.int 0) := hv4.elim (fun q => absurd q.2 hB) (fun q => q.1)
  subst hu4
  have N4q := Fr.nil n0
  have N4 := Fr.app N2 N4q
  refine Go.tr st4 ?_
  show Go p e below _ (T4.setTop (mkF m 19 #[.val (.ref a), .val (.ref ys)] [(.int (0 : Int32))]))
  refine Go.st (fun _ kt => XS.ifYes X4.here hx rfl (pc0 := 19) (pc' := 26) rfl (hb hby d16_19) rfl ((if0 _ _).trans (teq (by decide : (0 : Int32) = (0 : Int32))).1) (by decide) (by decide) kt) ?_
  show Go p e below _ (T4.setTop (mkF m 26 #[.val (.ref a), .val (.ref ys)] []))
  refine Go.st (fun _ kt => XS.iconst X4.here hx rfl (hb hby d16_26) kt) ?_
  show Go p e below _ (T4.setTop (mkF m 27 #[.val (.ref a), .val (.ref ys)] [(.int (0 : Int32))]))
  refine Go.retN X4 hx (t := .boolean) Bd.returns (by simp) (BodyLoose.notSynchronized Bd) (hb hby d16_27) (Q := (Q_rm16c Z a ys ls rs tls kls csls trs krs csrs tys kys csys G1 h0 n0)) (by decide) (by decide) ?_
  show (Q_rm16c Z a ys ls rs tls kls csls trs krs csrs tys kys csys G1 h0 n0) _ T4.heap _
  rw [e4]
  exact ⟨rfl, N4, rfl⟩
theorem own_pd14 : parseMethodDescriptor "(III)Ljava/lang/String;" = some ⟨[.int, .int, .int], some (.object "java/lang/String")⟩ := by decide +kernel
theorem own_pd15 : parseMethodDescriptor "(C)Ljava/lang/String;" = some ⟨[.char], some (.object "java/lang/String")⟩ := by decide +kernel
theorem own_pd16 : parseMethodDescriptor "(Ljava/lang/String;Ljava/lang/String;Ljava/lang/String;)V" = some ⟨[(.object "java/lang/String"), (.object "java/lang/String"), (.object "java/lang/String")], none⟩ := by decide +kernel
theorem own_pd17 : parseMethodDescriptor "(IIIIII)Z" = some ⟨[.int, .int, .int, .int, .int, .int], some .boolean⟩ := by decide +kernel
theorem own_pd18 : parseMethodDescriptor "(Ljava/lang/String;)Z" = some ⟨[(.object "java/lang/String")], some .boolean⟩ := by decide +kernel
def Q_rm0 (Z : State) (fa : Int32) (fb : Int32) (fc : Int32) (fs : Int32) (G1 : Int32) (h0 : Heap) (n0 : Nat) (v : Option Value) (vm : Vm) (h : Heap) (L : List Loc) : Prop := v = some (.int 1) ∧ Fr n0 L
theorem ef_rm0 (m : MethodId) (fa : Int32) (fb : Int32) (fc : Int32) (fs : Int32) : entryFrame m #[(.int fa), (.int fb), (.int fc), (.int fs)] maxLocals = mkF m 0 #[.val (.int fa), .val (.int fb), .val (.int fc), .val (.int fs), .unset, .unset, .unset, .unset, .unset, .unset, .unset, .unset, .unset, .unset, .unset, .unset, .unset, .unset, .unset, .unset, .unset, .unset, .unset] [] := by first | (simp [entryFrame, mkF, argsToLocals, Value.category, maxLocals]; done) | rfl
set_option maxRecDepth 65536 in
set_option maxHeartbeats 40000000 in
theorem rm0 (l : Launch) (Z : State) (a0 : Array Value) (hw : ∀ d ∈ tables_1, d.before a0 Z = true) (ws : List Jvm.Cond) (fa : Int32) (fb : Int32) (fc : Int32) (fs : Int32) (G1 : Int32) (h0 : Heap) (n0 : Nat) (Z0 : n0 ≤ h0.size) (O2 : Sta Z Z.heap "java/lang/String" "COMPACT_STRINGS" "Z" (.int G1)) (P5 : ¬ G1 = 0) (XE : Ext Z.heap h0) (hz0 : Z.heap.size ≤ n0) (hCH : Jvm.Lit.constHeld Z "java/lang/String" 7) (hCW : Jvm.Lit.compactW.before a0 Z = true) :
    MetFree l x (head1 (Jvm.Cond.code x code maxLocals ret :: ws) room_1) (fun ag_ U_ => ag_ = #[(.int fa), (.int fb), (.int fc), (.int fs)] ∧ Z.Warmed39 U_.vm ∧ U_.heap = h0 ∧ (fun vm_ => JE Z vm_ h0 n0) U_.vm) (fun _ _ _ _ _ => True) (fun _ U_ o_ V_ => ∃ v_ L_, o_ = .returned v_ ∧ (Q_rm0 Z fa fb fc fs G1 h0 n0) v_ V_.vm V_.heap L_ ∧ ReturnedEndW U_ o_ V_ L_ room_1.cells room_1.slots) := by
  refine MetFree.of_bodySF (plainFor_of_name own_pn3) hisR ?_
  intro p e s m args below meth c s₁ Bd hml0 hP hK
  obtain ⟨rfl, hZ0, hh, J0⟩ := hP
  have hx := Bd.exec
  have hby := Bd.bytes
  have hml : c.maxLocals = 23 := hml0
  have hZ : Z.Warmed39 (s.setVm s.vm).vm := hZ0
  have hown : (s.setVm s.vm).vm.findClass "com/example/manyhands/manyhands/crowd/OrderingTakesPinLaw" = some m.cls := findClass_of_methodNamed Bd.named
  have hnm := (name_of_methodNamed Bd.named Bd.method).1
  have hSA : ∀ d ∈ Bundle.stringAtoms, d.before a0 Z = true := fun d hd => hw d (own_sa d hd)
  have hS0 : s.Since s.vm h0.size := (State.WarmedH.refl s).since _
  have X0 : Stand p l e room_1 (s.setVm s.vm) m #[(.int fa), (.int fb), (.int fc), (.int fs)] below meth c s₁ [] 0 0 := Stand.of_body Bd
  have e0 : s₁.heap = h0 := by rw [← hh, Bd.state]; rfl
  have N0 := Fr.nil n0
  refine Go.st (G := fun s₂ o_ => ∃ v_ L_, o_ = .returned v_ ∧ (Q_rm0 Z fa fb fc fs G1 h0 n0) v_ s₂.vm s₂.heap L_ ∧ ReturnedEndW s o_ s₂ L_ room_1.cells room_1.slots) (fun t kt => castTop (ef_rm0 m fa fb fc fs) kt) ?_
  show Go p e below _ (s₁.setTop (mkF m 0 #[.val (.int fa), .val (.int fb), .val (.int fc), .val (.int fs), .unset, .unset, .unset, .unset, .unset, .unset, .unset, .unset, .unset, .unset, .unset, .unset, .unset, .unset, .unset, .unset, .unset, .unset, .unset] []))
  refine Go.st (fun _ kt => XS.iloadN X0.here hx rfl (hb hby at_0) rfl kt) ?_
  show Go p e below _ (s₁.setTop (mkF m 1 #[.val (.int fa), .val (.int fb), .val (.int fc), .val (.int fs), .unset, .unset, .unset, .unset, .unset, .unset, .unset, .unset, .unset, .unset, .unset, .unset, .unset, .unset, .unset, .unset, .unset, .unset, .unset] [(.int fs)]))
  refine Go.st (fun _ kt => XS.iconst X0.here hx rfl (hb hby at_1) kt) ?_
  show Go p e below _ (s₁.setTop (mkF m 2 #[.val (.int fa), .val (.int fb), .val (.int fc), .val (.int fs), .unset, .unset, .unset, .unset, .unset, .unset, .unset, .unset, .unset, .unset, .unset, .unset, .unset, .unset, .unset, .unset, .unset, .unset, .unset] [(.int (3 : Int32)), (.int fs)]))
  refine Go.st (fun _ kt => XS.iand X0.here hx rfl (hb hby at_2) rfl kt) ?_
  show Go p e below _ (s₁.setTop (mkF m 3 #[.val (.int fa), .val (.int fb), .val (.int fc), .val (.int fs), .unset, .unset, .unset, .unset, .unset, .unset, .unset, .unset, .unset, .unset, .unset, .unset, .unset, .unset, .unset, .unset, .unset, .unset, .unset] [(.int (fs &&& (3 : Int32)))]))
  refine Go.st (fun _ kt => XS.iconst X0.here hx rfl (hb hby at_3) kt) ?_
  show Go p e below _ (s₁.setTop (mkF m 4 #[.val (.int fa), .val (.int fb), .val (.int fc), .val (.int fs), .unset, .unset, .unset, .unset, .unset, .unset, .unset, .unset, .unset, .unset, .unset, .unset, .unset, .unset, .unset, .unset, .unset, .unset, .unset] [(.int (3 : Int32)), (.int (fs &&& (3 : Int32)))]))
  refine Go.st (fun _ kt => iremM X0 hx rfl (hb hby at_4) rfl (by decide) kt) ?_
  show Go p e below _ (s₁.setTop (mkF m 5 #[.val (.int fa), .val (.int fb), .val (.int fc), .val (.int fs), .unset, .unset, .unset, .unset, .unset, .unset, .unset, .unset, .unset, .unset, .unset, .unset, .unset, .unset, .unset, .unset, .unset, .unset, .unset] [(.int ((fs &&& (3 : Int32)) % (3 : Int32)))]))
  generalize hu1 : (((fs &&& (3 : Int32)) % (3 : Int32)) : Int32) = u1
  show Go p e below _ (s₁.setTop (mkF m 5 #[.val (.int fa), .val (.int fb), .val (.int fc), .val (.int fs), .unset, .unset, .unset, .unset, .unset, .unset, .unset, .unset, .unset, .unset, .unset, .unset, .unset, .unset, .unset, .unset, .unset, .unset, .unset] [(.int u1)]))
  have bu1 := hu1 ▸ own_len _
  refine Go.st (fun _ kt => XS.istore X0.here hx rfl (hb hby at_5) rfl (l' := #[.val (.int fa), .val (.int fb), .val (.int fc), .val (.int fs), .val (.int u1), .unset, .unset, .unset, .unset, .unset, .unset, .unset, .unset, .unset, .unset, .unset, .unset, .unset, .unset, .unset, .unset, .unset, .unset]) rfl kt) ?_
  show Go p e below _ (s₁.setTop (mkF m 7 #[.val (.int fa), .val (.int fb), .val (.int fc), .val (.int fs), .val (.int u1), .unset, .unset, .unset, .unset, .unset, .unset, .unset, .unset, .unset, .unset, .unset, .unset, .unset, .unset, .unset, .unset, .unset, .unset] []))
  refine Go.st (fun _ kt => XS.iloadN X0.here hx rfl (hb hby at_7) rfl kt) ?_
  show Go p e below _ (s₁.setTop (mkF m 8 #[.val (.int fa), .val (.int fb), .val (.int fc), .val (.int fs), .val (.int u1), .unset, .unset, .unset, .unset, .unset, .unset, .unset, .unset, .unset, .unset, .unset, .unset, .unset, .unset, .unset, .unset, .unset, .unset] [(.int fs)]))
  refine Go.st (fun _ kt => XS.iconst X0.here hx rfl (hb hby at_8) kt) ?_
  show Go p e below _ (s₁.setTop (mkF m 9 #[.val (.int fa), .val (.int fb), .val (.int fc), .val (.int fs), .val (.int u1), .unset, .unset, .unset, .unset, .unset, .unset, .unset, .unset, .unset, .unset, .unset, .unset, .unset, .unset, .unset, .unset, .unset, .unset] [(.int (2 : Int32)), (.int fs)]))
  refine Go.st (fun _ kt => XS.ishr X0.here hx rfl (hb hby at_9) rfl kt) ?_
  show Go p e below _ (s₁.setTop (mkF m 10 #[.val (.int fa), .val (.int fb), .val (.int fc), .val (.int fs), .val (.int u1), .unset, .unset, .unset, .unset, .unset, .unset, .unset, .unset, .unset, .unset, .unset, .unset, .unset, .unset, .unset, .unset, .unset, .unset] [(.int (fs >>> ((2 : Int32) &&& 31)))]))
  refine Go.st (fun _ kt => XS.iconst X0.here hx rfl (hb hby at_10) kt) ?_
  show Go p e below _ (s₁.setTop (mkF m 11 #[.val (.int fa), .val (.int fb), .val (.int fc), .val (.int fs), .val (.int u1), .unset, .unset, .unset, .unset, .unset, .unset, .unset, .unset, .unset, .unset, .unset, .unset, .unset, .unset, .unset, .unset, .unset, .unset] [(.int (3 : Int32)), (.int (fs >>> ((2 : Int32) &&& 31)))]))
  refine Go.st (fun _ kt => XS.iand X0.here hx rfl (hb hby at_11) rfl kt) ?_
  show Go p e below _ (s₁.setTop (mkF m 12 #[.val (.int fa), .val (.int fb), .val (.int fc), .val (.int fs), .val (.int u1), .unset, .unset, .unset, .unset, .unset, .unset, .unset, .unset, .unset, .unset, .unset, .unset, .unset, .unset, .unset, .unset, .unset, .unset] [(.int ((fs >>> ((2 : Int32) &&& 31)) &&& (3 : Int32)))]))
  refine Go.st (fun _ kt => XS.iconst X0.here hx rfl (hb hby at_12) kt) ?_
  show Go p e below _ (s₁.setTop (mkF m 13 #[.val (.int fa), .val (.int fb), .val (.int fc), .val (.int fs), .val (.int u1), .unset, .unset, .unset, .unset, .unset, .unset, .unset, .unset, .unset, .unset, .unset, .unset, .unset, .unset, .unset, .unset, .unset, .unset] [(.int (3 : Int32)), (.int ((fs >>> ((2 : Int32) &&& 31)) &&& (3 : Int32)))]))
  refine Go.st (fun _ kt => iremM X0 hx rfl (hb hby at_13) rfl (by decide) kt) ?_
  show Go p e below _ (s₁.setTop (mkF m 14 #[.val (.int fa), .val (.int fb), .val (.int fc), .val (.int fs), .val (.int u1), .unset, .unset, .unset, .unset, .unset, .unset, .unset, .unset, .unset, .unset, .unset, .unset, .unset, .unset, .unset, .unset, .unset, .unset] [(.int (((fs >>> ((2 : Int32) &&& 31)) &&& (3 : Int32)) % (3 : Int32)))]))
  generalize hu2 : ((((fs >>> ((2 : Int32) &&& 31)) &&& (3 : Int32)) % (3 : Int32)) : Int32) = u2
  show Go p e below _ (s₁.setTop (mkF m 14 #[.val (.int fa), .val (.int fb), .val (.int fc), .val (.int fs), .val (.int u1), .unset, .unset, .unset, .unset, .unset, .unset, .unset, .unset, .unset, .unset, .unset, .unset, .unset, .unset, .unset, .unset, .unset, .unset] [(.int u2)]))
  have bu2 := hu2 ▸ own_len _
  refine Go.st (fun _ kt => XS.istore X0.here hx rfl (hb hby at_14) rfl (l' := #[.val (.int fa), .val (.int fb), .val (.int fc), .val (.int fs), .val (.int u1), .val (.int u2), .unset, .unset, .unset, .unset, .unset, .unset, .unset, .unset, .unset, .unset, .unset, .unset, .unset, .unset, .unset, .unset, .unset]) rfl kt) ?_
  show Go p e below _ (s₁.setTop (mkF m 16 #[.val (.int fa), .val (.int fb), .val (.int fc), .val (.int fs), .val (.int u1), .val (.int u2), .unset, .unset, .unset, .unset, .unset, .unset, .unset, .unset, .unset, .unset, .unset, .unset, .unset, .unset, .unset, .unset, .unset] []))
  refine Go.st (fun _ kt => XS.iloadN X0.here hx rfl (hb hby at_16) rfl kt) ?_
  show Go p e below _ (s₁.setTop (mkF m 17 #[.val (.int fa), .val (.int fb), .val (.int fc), .val (.int fs), .val (.int u1), .val (.int u2), .unset, .unset, .unset, .unset, .unset, .unset, .unset, .unset, .unset, .unset, .unset, .unset, .unset, .unset, .unset, .unset, .unset] [(.int fs)]))
  refine Go.st (fun _ kt => XS.iconst X0.here hx rfl (hb hby at_17) kt) ?_
  show Go p e below _ (s₁.setTop (mkF m 18 #[.val (.int fa), .val (.int fb), .val (.int fc), .val (.int fs), .val (.int u1), .val (.int u2), .unset, .unset, .unset, .unset, .unset, .unset, .unset, .unset, .unset, .unset, .unset, .unset, .unset, .unset, .unset, .unset, .unset] [(.int (4 : Int32)), (.int fs)]))
  refine Go.st (fun _ kt => XS.ishr X0.here hx rfl (hb hby at_18) rfl kt) ?_
  show Go p e below _ (s₁.setTop (mkF m 19 #[.val (.int fa), .val (.int fb), .val (.int fc), .val (.int fs), .val (.int u1), .val (.int u2), .unset, .unset, .unset, .unset, .unset, .unset, .unset, .unset, .unset, .unset, .unset, .unset, .unset, .unset, .unset, .unset, .unset] [(.int (fs >>> ((4 : Int32) &&& 31)))]))
  refine Go.st (fun _ kt => XS.iconst X0.here hx rfl (hb hby at_19) kt) ?_
  show Go p e below _ (s₁.setTop (mkF m 20 #[.val (.int fa), .val (.int fb), .val (.int fc), .val (.int fs), .val (.int u1), .val (.int u2), .unset, .unset, .unset, .unset, .unset, .unset, .unset, .unset, .unset, .unset, .unset, .unset, .unset, .unset, .unset, .unset, .unset] [(.int (3 : Int32)), (.int (fs >>> ((4 : Int32) &&& 31)))]))
  refine Go.st (fun _ kt => XS.iand X0.here hx rfl (hb hby at_20) rfl kt) ?_
  show Go p e below _ (s₁.setTop (mkF m 21 #[.val (.int fa), .val (.int fb), .val (.int fc), .val (.int fs), .val (.int u1), .val (.int u2), .unset, .unset, .unset, .unset, .unset, .unset, .unset, .unset, .unset, .unset, .unset, .unset, .unset, .unset, .unset, .unset, .unset] [(.int ((fs >>> ((4 : Int32) &&& 31)) &&& (3 : Int32)))]))
  refine Go.st (fun _ kt => XS.iconst X0.here hx rfl (hb hby at_21) kt) ?_
  show Go p e below _ (s₁.setTop (mkF m 22 #[.val (.int fa), .val (.int fb), .val (.int fc), .val (.int fs), .val (.int u1), .val (.int u2), .unset, .unset, .unset, .unset, .unset, .unset, .unset, .unset, .unset, .unset, .unset, .unset, .unset, .unset, .unset, .unset, .unset] [(.int (3 : Int32)), (.int ((fs >>> ((4 : Int32) &&& 31)) &&& (3 : Int32)))]))
  refine Go.st (fun _ kt => iremM X0 hx rfl (hb hby at_22) rfl (by decide) kt) ?_
  show Go p e below _ (s₁.setTop (mkF m 23 #[.val (.int fa), .val (.int fb), .val (.int fc), .val (.int fs), .val (.int u1), .val (.int u2), .unset, .unset, .unset, .unset, .unset, .unset, .unset, .unset, .unset, .unset, .unset, .unset, .unset, .unset, .unset, .unset, .unset] [(.int (((fs >>> ((4 : Int32) &&& 31)) &&& (3 : Int32)) % (3 : Int32)))]))
  generalize hu3 : ((((fs >>> ((4 : Int32) &&& 31)) &&& (3 : Int32)) % (3 : Int32)) : Int32) = u3
  show Go p e below _ (s₁.setTop (mkF m 23 #[.val (.int fa), .val (.int fb), .val (.int fc), .val (.int fs), .val (.int u1), .val (.int u2), .unset, .unset, .unset, .unset, .unset, .unset, .unset, .unset, .unset, .unset, .unset, .unset, .unset, .unset, .unset, .unset, .unset] [(.int u3)]))
  have bu3 := hu3 ▸ own_len _
  refine Go.st (fun _ kt => XS.istore X0.here hx rfl (hb hby at_23) rfl (l' := #[.val (.int fa), .val (.int fb), .val (.int fc), .val (.int fs), .val (.int u1), .val (.int u2), .val (.int u3), .unset, .unset, .unset, .unset, .unset, .unset, .unset, .unset, .unset, .unset, .unset, .unset, .unset, .unset, .unset, .unset]) rfl kt) ?_
  show Go p e below _ (s₁.setTop (mkF m 25 #[.val (.int fa), .val (.int fb), .val (.int fc), .val (.int fs), .val (.int u1), .val (.int u2), .val (.int u3), .unset, .unset, .unset, .unset, .unset, .unset, .unset, .unset, .unset, .unset, .unset, .unset, .unset, .unset, .unset, .unset] []))
  refine Go.st (fun _ kt => XS.iloadN X0.here hx rfl (hb hby at_25) rfl kt) ?_
  show Go p e below _ (s₁.setTop (mkF m 26 #[.val (.int fa), .val (.int fb), .val (.int fc), .val (.int fs), .val (.int u1), .val (.int u2), .val (.int u3), .unset, .unset, .unset, .unset, .unset, .unset, .unset, .unset, .unset, .unset, .unset, .unset, .unset, .unset, .unset, .unset] [(.int fs)]))
  refine Go.st (fun _ kt => XS.bipush X0.here hx rfl (hb hby at_26) kt) ?_
  show Go p e below _ (s₁.setTop (mkF m 28 #[.val (.int fa), .val (.int fb), .val (.int fc), .val (.int fs), .val (.int u1), .val (.int u2), .val (.int u3), .unset, .unset, .unset, .unset, .unset, .unset, .unset, .unset, .unset, .unset, .unset, .unset, .unset, .unset, .unset, .unset] [(.int (6 : Int32)), (.int fs)]))
  refine Go.st (fun _ kt => XS.ishr X0.here hx rfl (hb hby at_28) rfl kt) ?_
  show Go p e below _ (s₁.setTop (mkF m 29 #[.val (.int fa), .val (.int fb), .val (.int fc), .val (.int fs), .val (.int u1), .val (.int u2), .val (.int u3), .unset, .unset, .unset, .unset, .unset, .unset, .unset, .unset, .unset, .unset, .unset, .unset, .unset, .unset, .unset, .unset] [(.int (fs >>> ((6 : Int32) &&& 31)))]))
  refine Go.st (fun _ kt => XS.iconst X0.here hx rfl (hb hby at_29) kt) ?_
  show Go p e below _ (s₁.setTop (mkF m 30 #[.val (.int fa), .val (.int fb), .val (.int fc), .val (.int fs), .val (.int u1), .val (.int u2), .val (.int u3), .unset, .unset, .unset, .unset, .unset, .unset, .unset, .unset, .unset, .unset, .unset, .unset, .unset, .unset, .unset, .unset] [(.int (3 : Int32)), (.int (fs >>> ((6 : Int32) &&& 31)))]))
  refine Go.st (fun _ kt => XS.iand X0.here hx rfl (hb hby at_30) rfl kt) ?_
  show Go p e below _ (s₁.setTop (mkF m 31 #[.val (.int fa), .val (.int fb), .val (.int fc), .val (.int fs), .val (.int u1), .val (.int u2), .val (.int u3), .unset, .unset, .unset, .unset, .unset, .unset, .unset, .unset, .unset, .unset, .unset, .unset, .unset, .unset, .unset, .unset] [(.int ((fs >>> ((6 : Int32) &&& 31)) &&& (3 : Int32)))]))
  generalize hmd : (((fs >>> ((6 : Int32) &&& 31)) &&& (3 : Int32)) : Int32) = md
  show Go p e below _ (s₁.setTop (mkF m 31 #[.val (.int fa), .val (.int fb), .val (.int fc), .val (.int fs), .val (.int u1), .val (.int u2), .val (.int u3), .unset, .unset, .unset, .unset, .unset, .unset, .unset, .unset, .unset, .unset, .unset, .unset, .unset, .unset, .unset, .unset] [(.int md)]))
  refine Go.st (fun _ kt => XS.istore X0.here hx rfl (hb hby at_31) rfl (l' := #[.val (.int fa), .val (.int fb), .val (.int fc), .val (.int fs), .val (.int u1), .val (.int u2), .val (.int u3), .val (.int md), .unset, .unset, .unset, .unset, .unset, .unset, .unset, .unset, .unset, .unset, .unset, .unset, .unset, .unset, .unset]) rfl kt) ?_
  show Go p e below _ (s₁.setTop (mkF m 33 #[.val (.int fa), .val (.int fb), .val (.int fc), .val (.int fs), .val (.int u1), .val (.int u2), .val (.int u3), .val (.int md), .unset, .unset, .unset, .unset, .unset, .unset, .unset, .unset, .unset, .unset, .unset, .unset, .unset, .unset, .unset] []))
  refine Go.st (fun _ kt => XS.iloadN X0.here hx rfl (hb hby at_33) rfl kt) ?_
  show Go p e below _ (s₁.setTop (mkF m 34 #[.val (.int fa), .val (.int fb), .val (.int fc), .val (.int fs), .val (.int u1), .val (.int u2), .val (.int u3), .val (.int md), .unset, .unset, .unset, .unset, .unset, .unset, .unset, .unset, .unset, .unset, .unset, .unset, .unset, .unset, .unset] [(.int fa)]))
  refine Go.st (fun _ kt => XS.sipush X0.here hx rfl (hb hby at_34) kt) ?_
  show Go p e below _ (s₁.setTop (mkF m 37 #[.val (.int fa), .val (.int fb), .val (.int fc), .val (.int fs), .val (.int u1), .val (.int u2), .val (.int u3), .val (.int md), .unset, .unset, .unset, .unset, .unset, .unset, .unset, .unset, .unset, .unset, .unset, .unset, .unset, .unset, .unset] [(.int (255 : Int32)), (.int fa)]))
  refine Go.st (fun _ kt => XS.iand X0.here hx rfl (hb hby at_37) rfl kt) ?_
  show Go p e below _ (s₁.setTop (mkF m 38 #[.val (.int fa), .val (.int fb), .val (.int fc), .val (.int fs), .val (.int u1), .val (.int u2), .val (.int u3), .val (.int md), .unset, .unset, .unset, .unset, .unset, .unset, .unset, .unset, .unset, .unset, .unset, .unset, .unset, .unset, .unset] [(.int (fa &&& (255 : Int32)))]))
  generalize hl0 : ((fa &&& (255 : Int32)) : Int32) = l0
  show Go p e below _ (s₁.setTop (mkF m 38 #[.val (.int fa), .val (.int fb), .val (.int fc), .val (.int fs), .val (.int u1), .val (.int u2), .val (.int u3), .val (.int md), .unset, .unset, .unset, .unset, .unset, .unset, .unset, .unset, .unset, .unset, .unset, .unset, .unset, .unset, .unset] [(.int l0)]))
  have bl0 := hl0 ▸ own_and255 _
  refine Go.st (fun _ kt => XS.istore X0.here hx rfl (hb hby at_38) rfl (l' := #[.val (.int fa), .val (.int fb), .val (.int fc), .val (.int fs), .val (.int u1), .val (.int u2), .val (.int u3), .val (.int md), .val (.int l0), .unset, .unset, .unset, .unset, .unset, .unset, .unset, .unset, .unset, .unset, .unset, .unset, .unset, .unset]) rfl kt) ?_
  show Go p e below _ (s₁.setTop (mkF m 40 #[.val (.int fa), .val (.int fb), .val (.int fc), .val (.int fs), .val (.int u1), .val (.int u2), .val (.int u3), .val (.int md), .val (.int l0), .unset, .unset, .unset, .unset, .unset, .unset, .unset, .unset, .unset, .unset, .unset, .unset, .unset, .unset] []))
  refine Go.st (fun _ kt => XS.iloadN X0.here hx rfl (hb hby at_40) rfl kt) ?_
  show Go p e below _ (s₁.setTop (mkF m 41 #[.val (.int fa), .val (.int fb), .val (.int fc), .val (.int fs), .val (.int u1), .val (.int u2), .val (.int u3), .val (.int md), .val (.int l0), .unset, .unset, .unset, .unset, .unset, .unset, .unset, .unset, .unset, .unset, .unset, .unset, .unset, .unset] [(.int fa)]))
  refine Go.st (fun _ kt => XS.bipush X0.here hx rfl (hb hby at_41) kt) ?_
  show Go p e below _ (s₁.setTop (mkF m 43 #[.val (.int fa), .val (.int fb), .val (.int fc), .val (.int fs), .val (.int u1), .val (.int u2), .val (.int u3), .val (.int md), .val (.int l0), .unset, .unset, .unset, .unset, .unset, .unset, .unset, .unset, .unset, .unset, .unset, .unset, .unset, .unset] [(.int (8 : Int32)), (.int fa)]))
  refine Go.st (fun _ kt => XS.ishr X0.here hx rfl (hb hby at_43) rfl kt) ?_
  show Go p e below _ (s₁.setTop (mkF m 44 #[.val (.int fa), .val (.int fb), .val (.int fc), .val (.int fs), .val (.int u1), .val (.int u2), .val (.int u3), .val (.int md), .val (.int l0), .unset, .unset, .unset, .unset, .unset, .unset, .unset, .unset, .unset, .unset, .unset, .unset, .unset, .unset] [(.int (fa >>> ((8 : Int32) &&& 31)))]))
  refine Go.st (fun _ kt => XS.sipush X0.here hx rfl (hb hby at_44) kt) ?_
  show Go p e below _ (s₁.setTop (mkF m 47 #[.val (.int fa), .val (.int fb), .val (.int fc), .val (.int fs), .val (.int u1), .val (.int u2), .val (.int u3), .val (.int md), .val (.int l0), .unset, .unset, .unset, .unset, .unset, .unset, .unset, .unset, .unset, .unset, .unset, .unset, .unset, .unset] [(.int (255 : Int32)), (.int (fa >>> ((8 : Int32) &&& 31)))]))
  refine Go.st (fun _ kt => XS.iand X0.here hx rfl (hb hby at_47) rfl kt) ?_
  show Go p e below _ (s₁.setTop (mkF m 48 #[.val (.int fa), .val (.int fb), .val (.int fc), .val (.int fs), .val (.int u1), .val (.int u2), .val (.int u3), .val (.int md), .val (.int l0), .unset, .unset, .unset, .unset, .unset, .unset, .unset, .unset, .unset, .unset, .unset, .unset, .unset, .unset] [(.int ((fa >>> ((8 : Int32) &&& 31)) &&& (255 : Int32)))]))
  generalize hl1 : (((fa >>> ((8 : Int32) &&& 31)) &&& (255 : Int32)) : Int32) = l1
  show Go p e below _ (s₁.setTop (mkF m 48 #[.val (.int fa), .val (.int fb), .val (.int fc), .val (.int fs), .val (.int u1), .val (.int u2), .val (.int u3), .val (.int md), .val (.int l0), .unset, .unset, .unset, .unset, .unset, .unset, .unset, .unset, .unset, .unset, .unset, .unset, .unset, .unset] [(.int l1)]))
  have bl1 := hl1 ▸ own_and255 _
  refine Go.st (fun _ kt => XS.istore X0.here hx rfl (hb hby at_48) rfl (l' := #[.val (.int fa), .val (.int fb), .val (.int fc), .val (.int fs), .val (.int u1), .val (.int u2), .val (.int u3), .val (.int md), .val (.int l0), .val (.int l1), .unset, .unset, .unset, .unset, .unset, .unset, .unset, .unset, .unset, .unset, .unset, .unset, .unset]) rfl kt) ?_
  show Go p e below _ (s₁.setTop (mkF m 50 #[.val (.int fa), .val (.int fb), .val (.int fc), .val (.int fs), .val (.int u1), .val (.int u2), .val (.int u3), .val (.int md), .val (.int l0), .val (.int l1), .unset, .unset, .unset, .unset, .unset, .unset, .unset, .unset, .unset, .unset, .unset, .unset, .unset] []))
  refine Go.st (fun _ kt => XS.iloadN X0.here hx rfl (hb hby at_50) rfl kt) ?_
  show Go p e below _ (s₁.setTop (mkF m 51 #[.val (.int fa), .val (.int fb), .val (.int fc), .val (.int fs), .val (.int u1), .val (.int u2), .val (.int u3), .val (.int md), .val (.int l0), .val (.int l1), .unset, .unset, .unset, .unset, .unset, .unset, .unset, .unset, .unset, .unset, .unset, .unset, .unset] [(.int fb)]))
  refine Go.st (fun _ kt => XS.sipush X0.here hx rfl (hb hby at_51) kt) ?_
  show Go p e below _ (s₁.setTop (mkF m 54 #[.val (.int fa), .val (.int fb), .val (.int fc), .val (.int fs), .val (.int u1), .val (.int u2), .val (.int u3), .val (.int md), .val (.int l0), .val (.int l1), .unset, .unset, .unset, .unset, .unset, .unset, .unset, .unset, .unset, .unset, .unset, .unset, .unset] [(.int (255 : Int32)), (.int fb)]))
  refine Go.st (fun _ kt => XS.iand X0.here hx rfl (hb hby at_54) rfl kt) ?_
  show Go p e below _ (s₁.setTop (mkF m 55 #[.val (.int fa), .val (.int fb), .val (.int fc), .val (.int fs), .val (.int u1), .val (.int u2), .val (.int u3), .val (.int md), .val (.int l0), .val (.int l1), .unset, .unset, .unset, .unset, .unset, .unset, .unset, .unset, .unset, .unset, .unset, .unset, .unset] [(.int (fb &&& (255 : Int32)))]))
  generalize hr0 : ((fb &&& (255 : Int32)) : Int32) = r0
  show Go p e below _ (s₁.setTop (mkF m 55 #[.val (.int fa), .val (.int fb), .val (.int fc), .val (.int fs), .val (.int u1), .val (.int u2), .val (.int u3), .val (.int md), .val (.int l0), .val (.int l1), .unset, .unset, .unset, .unset, .unset, .unset, .unset, .unset, .unset, .unset, .unset, .unset, .unset] [(.int r0)]))
  have br0 := hr0 ▸ own_and255 _
  refine Go.st (fun _ kt => XS.istore X0.here hx rfl (hb hby at_55) rfl (l' := #[.val (.int fa), .val (.int fb), .val (.int fc), .val (.int fs), .val (.int u1), .val (.int u2), .val (.int u3), .val (.int md), .val (.int l0), .val (.int l1), .val (.int r0), .unset, .unset, .unset, .unset, .unset, .unset, .unset, .unset, .unset, .unset, .unset, .unset]) rfl kt) ?_
  show Go p e below _ (s₁.setTop (mkF m 57 #[.val (.int fa), .val (.int fb), .val (.int fc), .val (.int fs), .val (.int u1), .val (.int u2), .val (.int u3), .val (.int md), .val (.int l0), .val (.int l1), .val (.int r0), .unset, .unset, .unset, .unset, .unset, .unset, .unset, .unset, .unset, .unset, .unset, .unset] []))
  refine Go.st (fun _ kt => XS.iloadN X0.here hx rfl (hb hby at_57) rfl kt) ?_
  show Go p e below _ (s₁.setTop (mkF m 58 #[.val (.int fa), .val (.int fb), .val (.int fc), .val (.int fs), .val (.int u1), .val (.int u2), .val (.int u3), .val (.int md), .val (.int l0), .val (.int l1), .val (.int r0), .unset, .unset, .unset, .unset, .unset, .unset, .unset, .unset, .unset, .unset, .unset, .unset] [(.int fb)]))
  refine Go.st (fun _ kt => XS.bipush X0.here hx rfl (hb hby at_58) kt) ?_
  show Go p e below _ (s₁.setTop (mkF m 60 #[.val (.int fa), .val (.int fb), .val (.int fc), .val (.int fs), .val (.int u1), .val (.int u2), .val (.int u3), .val (.int md), .val (.int l0), .val (.int l1), .val (.int r0), .unset, .unset, .unset, .unset, .unset, .unset, .unset, .unset, .unset, .unset, .unset, .unset] [(.int (8 : Int32)), (.int fb)]))
  refine Go.st (fun _ kt => XS.ishr X0.here hx rfl (hb hby at_60) rfl kt) ?_
  show Go p e below _ (s₁.setTop (mkF m 61 #[.val (.int fa), .val (.int fb), .val (.int fc), .val (.int fs), .val (.int u1), .val (.int u2), .val (.int u3), .val (.int md), .val (.int l0), .val (.int l1), .val (.int r0), .unset, .unset, .unset, .unset, .unset, .unset, .unset, .unset, .unset, .unset, .unset, .unset] [(.int (fb >>> ((8 : Int32) &&& 31)))]))
  refine Go.st (fun _ kt => XS.sipush X0.here hx rfl (hb hby at_61) kt) ?_
  show Go p e below _ (s₁.setTop (mkF m 64 #[.val (.int fa), .val (.int fb), .val (.int fc), .val (.int fs), .val (.int u1), .val (.int u2), .val (.int u3), .val (.int md), .val (.int l0), .val (.int l1), .val (.int r0), .unset, .unset, .unset, .unset, .unset, .unset, .unset, .unset, .unset, .unset, .unset, .unset] [(.int (255 : Int32)), (.int (fb >>> ((8 : Int32) &&& 31)))]))
  refine Go.st (fun _ kt => XS.iand X0.here hx rfl (hb hby at_64) rfl kt) ?_
  show Go p e below _ (s₁.setTop (mkF m 65 #[.val (.int fa), .val (.int fb), .val (.int fc), .val (.int fs), .val (.int u1), .val (.int u2), .val (.int u3), .val (.int md), .val (.int l0), .val (.int l1), .val (.int r0), .unset, .unset, .unset, .unset, .unset, .unset, .unset, .unset, .unset, .unset, .unset, .unset] [(.int ((fb >>> ((8 : Int32) &&& 31)) &&& (255 : Int32)))]))
  generalize hr1 : (((fb >>> ((8 : Int32) &&& 31)) &&& (255 : Int32)) : Int32) = r1
  show Go p e below _ (s₁.setTop (mkF m 65 #[.val (.int fa), .val (.int fb), .val (.int fc), .val (.int fs), .val (.int u1), .val (.int u2), .val (.int u3), .val (.int md), .val (.int l0), .val (.int l1), .val (.int r0), .unset, .unset, .unset, .unset, .unset, .unset, .unset, .unset, .unset, .unset, .unset, .unset] [(.int r1)]))
  have br1 := hr1 ▸ own_and255 _
  refine Go.st (fun _ kt => XS.istore X0.here hx rfl (hb hby at_65) rfl (l' := #[.val (.int fa), .val (.int fb), .val (.int fc), .val (.int fs), .val (.int u1), .val (.int u2), .val (.int u3), .val (.int md), .val (.int l0), .val (.int l1), .val (.int r0), .val (.int r1), .unset, .unset, .unset, .unset, .unset, .unset, .unset, .unset, .unset, .unset, .unset]) rfl kt) ?_
  show Go p e below _ (s₁.setTop (mkF m 67 #[.val (.int fa), .val (.int fb), .val (.int fc), .val (.int fs), .val (.int u1), .val (.int u2), .val (.int u3), .val (.int md), .val (.int l0), .val (.int l1), .val (.int r0), .val (.int r1), .unset, .unset, .unset, .unset, .unset, .unset, .unset, .unset, .unset, .unset, .unset] []))
  refine Go.st (fun _ kt => XS.iconst X0.here hx rfl (hb hby at_67) kt) ?_
  show Go p e below _ (s₁.setTop (mkF m 68 #[.val (.int fa), .val (.int fb), .val (.int fc), .val (.int fs), .val (.int u1), .val (.int u2), .val (.int u3), .val (.int md), .val (.int l0), .val (.int l1), .val (.int r0), .val (.int r1), .unset, .unset, .unset, .unset, .unset, .unset, .unset, .unset, .unset, .unset, .unset] [(.int (0 : Int32))]))
  refine Go.st (fun _ kt => XS.istore X0.here hx rfl (hb hby at_68) rfl (l' := #[.val (.int fa), .val (.int fb), .val (.int fc), .val (.int fs), .val (.int u1), .val (.int u2), .val (.int u3), .val (.int md), .val (.int l0), .val (.int l1), .val (.int r0), .val (.int r1), .val (.int (0 : Int32)), .unset, .unset, .unset, .unset, .unset, .unset, .unset, .unset, .unset, .unset]) rfl kt) ?_
  show Go p e below _ (s₁.setTop (mkF m 70 #[.val (.int fa), .val (.int fb), .val (.int fc), .val (.int fs), .val (.int u1), .val (.int u2), .val (.int u3), .val (.int md), .val (.int l0), .val (.int l1), .val (.int r0), .val (.int r1), .val (.int (0 : Int32)), .unset, .unset, .unset, .unset, .unset, .unset, .unset, .unset, .unset, .unset] []))
  refine Go.st (fun _ kt => XS.iconst X0.here hx rfl (hb hby at_70) kt) ?_
  show Go p e below _ (s₁.setTop (mkF m 71 #[.val (.int fa), .val (.int fb), .val (.int fc), .val (.int fs), .val (.int u1), .val (.int u2), .val (.int u3), .val (.int md), .val (.int l0), .val (.int l1), .val (.int r0), .val (.int r1), .val (.int (0 : Int32)), .unset, .unset, .unset, .unset, .unset, .unset, .unset, .unset, .unset, .unset] [(.int (0 : Int32))]))
  refine Go.st (fun _ kt => XS.istore X0.here hx rfl (hb hby at_71) rfl (l' := #[.val (.int fa), .val (.int fb), .val (.int fc), .val (.int fs), .val (.int u1), .val (.int u2), .val (.int u3), .val (.int md), .val (.int l0), .val (.int l1), .val (.int r0), .val (.int r1), .val (.int (0 : Int32)), .val (.int (0 : Int32)), .unset, .unset, .unset, .unset, .unset, .unset, .unset, .unset, .unset]) rfl kt) ?_
  show Go p e below _ (s₁.setTop (mkF m 73 #[.val (.int fa), .val (.int fb), .val (.int fc), .val (.int fs), .val (.int u1), .val (.int u2), .val (.int u3), .val (.int md), .val (.int l0), .val (.int l1), .val (.int r0), .val (.int r1), .val (.int (0 : Int32)), .val (.int (0 : Int32)), .unset, .unset, .unset, .unset, .unset, .unset, .unset, .unset, .unset] []))
  refine Go.st (fun _ kt => XS.iload X0.here hx rfl (hb hby at_73) rfl kt) ?_
  show Go p e below _ (s₁.setTop (mkF m 75 #[.val (.int fa), .val (.int fb), .val (.int fc), .val (.int fs), .val (.int u1), .val (.int u2), .val (.int u3), .val (.int md), .val (.int l0), .val (.int l1), .val (.int r0), .val (.int r1), .val (.int (0 : Int32)), .val (.int (0 : Int32)), .unset, .unset, .unset, .unset, .unset, .unset, .unset, .unset, .unset] [(.int md)]))
  by_cases hc75_1 : md = (0 : Int32)
  · refine Go.st (fun _ kt => XS.ifNo X0.here hx rfl (hb hby at_75) rfl ((if0 _ _).trans (teq hc75_1).2) kt) ?_
    show Go p e below _ (s₁.setTop (mkF m 78 #[.val (.int fa), .val (.int fb), .val (.int fc), .val (.int fs), .val (.int u1), .val (.int u2), .val (.int u3), .val (.int md), .val (.int l0), .val (.int l1), .val (.int r0), .val (.int r1), .val (.int (0 : Int32)), .val (.int (0 : Int32)), .unset, .unset, .unset, .unset, .unset, .unset, .unset, .unset, .unset] []))
    refine Go.st (fun _ kt => XS.iload X0.here hx rfl (hb hby at_78) rfl kt) ?_
    show Go p e below _ (s₁.setTop (mkF m 80 #[.val (.int fa), .val (.int fb), .val (.int fc), .val (.int fs), .val (.int u1), .val (.int u2), .val (.int u3), .val (.int md), .val (.int l0), .val (.int l1), .val (.int r0), .val (.int r1), .val (.int (0 : Int32)), .val (.int (0 : Int32)), .unset, .unset, .unset, .unset, .unset, .unset, .unset, .unset, .unset] [(.int l0)]))
    refine Go.st (fun _ kt => XS.istore X0.here hx rfl (hb hby at_80) rfl (l' := #[.val (.int fa), .val (.int fb), .val (.int fc), .val (.int fs), .val (.int u1), .val (.int u2), .val (.int u3), .val (.int md), .val (.int l0), .val (.int l1), .val (.int r0), .val (.int r1), .val (.int l0), .val (.int (0 : Int32)), .unset, .unset, .unset, .unset, .unset, .unset, .unset, .unset, .unset]) rfl kt) ?_
    show Go p e below _ (s₁.setTop (mkF m 82 #[.val (.int fa), .val (.int fb), .val (.int fc), .val (.int fs), .val (.int u1), .val (.int u2), .val (.int u3), .val (.int md), .val (.int l0), .val (.int l1), .val (.int r0), .val (.int r1), .val (.int l0), .val (.int (0 : Int32)), .unset, .unset, .unset, .unset, .unset, .unset, .unset, .unset, .unset] []))
    refine Go.st (fun _ kt => XS.iload X0.here hx rfl (hb hby at_82) rfl kt) ?_
    show Go p e below _ (s₁.setTop (mkF m 84 #[.val (.int fa), .val (.int fb), .val (.int fc), .val (.int fs), .val (.int u1), .val (.int u2), .val (.int u3), .val (.int md), .val (.int l0), .val (.int l1), .val (.int r0), .val (.int r1), .val (.int l0), .val (.int (0 : Int32)), .unset, .unset, .unset, .unset, .unset, .unset, .unset, .unset, .unset] [(.int l1)]))
    refine Go.st (fun _ kt => XS.istore X0.here hx rfl (hb hby at_84) rfl (l' := #[.val (.int fa), .val (.int fb), .val (.int fc), .val (.int fs), .val (.int u1), .val (.int u2), .val (.int u3), .val (.int md), .val (.int l0), .val (.int l1), .val (.int r0), .val (.int r1), .val (.int l0), .val (.int l1), .unset, .unset, .unset, .unset, .unset, .unset, .unset, .unset, .unset]) rfl kt) ?_
    show Go p e below _ (s₁.setTop (mkF m 86 #[.val (.int fa), .val (.int fb), .val (.int fc), .val (.int fs), .val (.int u1), .val (.int u2), .val (.int u3), .val (.int md), .val (.int l0), .val (.int l1), .val (.int r0), .val (.int r1), .val (.int l0), .val (.int l1), .unset, .unset, .unset, .unset, .unset, .unset, .unset, .unset, .unset] []))
    refine Go.st (fun _ kt => XS.goto X0.here hx rfl (pc0 := 86) (pc' := 103) rfl (hb hby at_86) (by decide) (by decide) kt) ?_
    show Go p e below _ (s₁.setTop (mkF m 103 #[.val (.int fa), .val (.int fb), .val (.int fc), .val (.int fs), .val (.int u1), .val (.int u2), .val (.int u3), .val (.int md), .val (.int l0), .val (.int l1), .val (.int r0), .val (.int r1), .val (.int l0), .val (.int l1), .unset, .unset, .unset, .unset, .unset, .unset, .unset, .unset, .unset] []))
    refine Go.st (fun _ kt => XS.iload X0.here hx rfl (hb hby at_103) rfl kt) ?_
    show Go p e below _ (s₁.setTop (mkF m 105 #[.val (.int fa), .val (.int fb), .val (.int fc), .val (.int fs), .val (.int u1), .val (.int u2), .val (.int u3), .val (.int md), .val (.int l0), .val (.int l1), .val (.int r0), .val (.int r1), .val (.int l0), .val (.int l1), .unset, .unset, .unset, .unset, .unset, .unset, .unset, .unset, .unset] [(.int l0)]))
    refine Go.st (fun _ kt => XS.iloadN X0.here hx rfl (hb hby at_105) rfl kt) ?_
    show Go p e below _ (s₁.setTop (mkF m 106 #[.val (.int fa), .val (.int fb), .val (.int fc), .val (.int fs), .val (.int u1), .val (.int u2), .val (.int u3), .val (.int md), .val (.int l0), .val (.int l1), .val (.int r0), .val (.int r1), .val (.int l0), .val (.int l1), .unset, .unset, .unset, .unset, .unset, .unset, .unset, .unset, .unset] [(.int fc), (.int l0)]))
    refine Go.st (fun _ kt => XS.ixor X0.here hx rfl (hb hby at_106) rfl kt) ?_
    show Go p e below _ (s₁.setTop (mkF m 107 #[.val (.int fa), .val (.int fb), .val (.int fc), .val (.int fs), .val (.int u1), .val (.int u2), .val (.int u3), .val (.int md), .val (.int l0), .val (.int l1), .val (.int r0), .val (.int r1), .val (.int l0), .val (.int l1), .unset, .unset, .unset, .unset, .unset, .unset, .unset, .unset, .unset] [(.int (l0 ^^^ fc))]))
    refine Go.st (fun _ kt => XS.sipush X0.here hx rfl (hb hby at_107) kt) ?_
    show Go p e below _ (s₁.setTop (mkF m 110 #[.val (.int fa), .val (.int fb), .val (.int fc), .val (.int fs), .val (.int u1), .val (.int u2), .val (.int u3), .val (.int md), .val (.int l0), .val (.int l1), .val (.int r0), .val (.int r1), .val (.int l0), .val (.int l1), .unset, .unset, .unset, .unset, .unset, .unset, .unset, .unset, .unset] [(.int (255 : Int32)), (.int (l0 ^^^ fc))]))
    refine Go.st (fun _ kt => XS.iand X0.here hx rfl (hb hby at_110) rfl kt) ?_
    show Go p e below _ (s₁.setTop (mkF m 111 #[.val (.int fa), .val (.int fb), .val (.int fc), .val (.int fs), .val (.int u1), .val (.int u2), .val (.int u3), .val (.int md), .val (.int l0), .val (.int l1), .val (.int r0), .val (.int r1), .val (.int l0), .val (.int l1), .unset, .unset, .unset, .unset, .unset, .unset, .unset, .unset, .unset] [(.int ((l0 ^^^ fc) &&& (255 : Int32)))]))
    generalize hq0 : (((l0 ^^^ fc) &&& (255 : Int32)) : Int32) = q0
    show Go p e below _ (s₁.setTop (mkF m 111 #[.val (.int fa), .val (.int fb), .val (.int fc), .val (.int fs), .val (.int u1), .val (.int u2), .val (.int u3), .val (.int md), .val (.int l0), .val (.int l1), .val (.int r0), .val (.int r1), .val (.int l0), .val (.int l1), .unset, .unset, .unset, .unset, .unset, .unset, .unset, .unset, .unset] [(.int q0)]))
    have bq0 := hq0 ▸ own_and255 _
    refine Go.st (fun _ kt => XS.istore X0.here hx rfl (hb hby at_111) rfl (l' := #[.val (.int fa), .val (.int fb), .val (.int fc), .val (.int fs), .val (.int u1), .val (.int u2), .val (.int u3), .val (.int md), .val (.int l0), .val (.int l1), .val (.int r0), .val (.int r1), .val (.int l0), .val (.int l1), .val (.int q0), .unset, .unset, .unset, .unset, .unset, .unset, .unset, .unset]) rfl kt) ?_
    show Go p e below _ (s₁.setTop (mkF m 113 #[.val (.int fa), .val (.int fb), .val (.int fc), .val (.int fs), .val (.int u1), .val (.int u2), .val (.int u3), .val (.int md), .val (.int l0), .val (.int l1), .val (.int r0), .val (.int r1), .val (.int l0), .val (.int l1), .val (.int q0), .unset, .unset, .unset, .unset, .unset, .unset, .unset, .unset] []))
    refine Go.st (fun _ kt => XS.iload X0.here hx rfl (hb hby at_113) rfl kt) ?_
    show Go p e below _ (s₁.setTop (mkF m 115 #[.val (.int fa), .val (.int fb), .val (.int fc), .val (.int fs), .val (.int u1), .val (.int u2), .val (.int u3), .val (.int md), .val (.int l0), .val (.int l1), .val (.int r0), .val (.int r1), .val (.int l0), .val (.int l1), .val (.int q0), .unset, .unset, .unset, .unset, .unset, .unset, .unset, .unset] [(.int l1)]))
    refine Go.st (fun _ kt => XS.iloadN X0.here hx rfl (hb hby at_115) rfl kt) ?_
    show Go p e below _ (s₁.setTop (mkF m 116 #[.val (.int fa), .val (.int fb), .val (.int fc), .val (.int fs), .val (.int u1), .val (.int u2), .val (.int u3), .val (.int md), .val (.int l0), .val (.int l1), .val (.int r0), .val (.int r1), .val (.int l0), .val (.int l1), .val (.int q0), .unset, .unset, .unset, .unset, .unset, .unset, .unset, .unset] [(.int fc), (.int l1)]))
    refine Go.st (fun _ kt => XS.bipush X0.here hx rfl (hb hby at_116) kt) ?_
    show Go p e below _ (s₁.setTop (mkF m 118 #[.val (.int fa), .val (.int fb), .val (.int fc), .val (.int fs), .val (.int u1), .val (.int u2), .val (.int u3), .val (.int md), .val (.int l0), .val (.int l1), .val (.int r0), .val (.int r1), .val (.int l0), .val (.int l1), .val (.int q0), .unset, .unset, .unset, .unset, .unset, .unset, .unset, .unset] [(.int (8 : Int32)), (.int fc), (.int l1)]))
    refine Go.st (fun _ kt => XS.ishr X0.here hx rfl (hb hby at_118) rfl kt) ?_
    show Go p e below _ (s₁.setTop (mkF m 119 #[.val (.int fa), .val (.int fb), .val (.int fc), .val (.int fs), .val (.int u1), .val (.int u2), .val (.int u3), .val (.int md), .val (.int l0), .val (.int l1), .val (.int r0), .val (.int r1), .val (.int l0), .val (.int l1), .val (.int q0), .unset, .unset, .unset, .unset, .unset, .unset, .unset, .unset] [(.int (fc >>> ((8 : Int32) &&& 31))), (.int l1)]))
    refine Go.st (fun _ kt => XS.ixor X0.here hx rfl (hb hby at_119) rfl kt) ?_
    show Go p e below _ (s₁.setTop (mkF m 120 #[.val (.int fa), .val (.int fb), .val (.int fc), .val (.int fs), .val (.int u1), .val (.int u2), .val (.int u3), .val (.int md), .val (.int l0), .val (.int l1), .val (.int r0), .val (.int r1), .val (.int l0), .val (.int l1), .val (.int q0), .unset, .unset, .unset, .unset, .unset, .unset, .unset, .unset] [(.int (l1 ^^^ (fc >>> ((8 : Int32) &&& 31))))]))
    refine Go.st (fun _ kt => XS.sipush X0.here hx rfl (hb hby at_120) kt) ?_
    show Go p e below _ (s₁.setTop (mkF m 123 #[.val (.int fa), .val (.int fb), .val (.int fc), .val (.int fs), .val (.int u1), .val (.int u2), .val (.int u3), .val (.int md), .val (.int l0), .val (.int l1), .val (.int r0), .val (.int r1), .val (.int l0), .val (.int l1), .val (.int q0), .unset, .unset, .unset, .unset, .unset, .unset, .unset, .unset] [(.int (255 : Int32)), (.int (l1 ^^^ (fc >>> ((8 : Int32) &&& 31))))]))
    refine Go.st (fun _ kt => XS.iand X0.here hx rfl (hb hby at_123) rfl kt) ?_
    show Go p e below _ (s₁.setTop (mkF m 124 #[.val (.int fa), .val (.int fb), .val (.int fc), .val (.int fs), .val (.int u1), .val (.int u2), .val (.int u3), .val (.int md), .val (.int l0), .val (.int l1), .val (.int r0), .val (.int r1), .val (.int l0), .val (.int l1), .val (.int q0), .unset, .unset, .unset, .unset, .unset, .unset, .unset, .unset] [(.int ((l1 ^^^ (fc >>> ((8 : Int32) &&& 31))) &&& (255 : Int32)))]))
    generalize hq1 : (((l1 ^^^ (fc >>> ((8 : Int32) &&& 31))) &&& (255 : Int32)) : Int32) = q1
    show Go p e below _ (s₁.setTop (mkF m 124 #[.val (.int fa), .val (.int fb), .val (.int fc), .val (.int fs), .val (.int u1), .val (.int u2), .val (.int u3), .val (.int md), .val (.int l0), .val (.int l1), .val (.int r0), .val (.int r1), .val (.int l0), .val (.int l1), .val (.int q0), .unset, .unset, .unset, .unset, .unset, .unset, .unset, .unset] [(.int q1)]))
    have bq1 := hq1 ▸ own_and255 _
    refine Go.st (fun _ kt => XS.istore X0.here hx rfl (hb hby at_124) rfl (l' := #[.val (.int fa), .val (.int fb), .val (.int fc), .val (.int fs), .val (.int u1), .val (.int u2), .val (.int u3), .val (.int md), .val (.int l0), .val (.int l1), .val (.int r0), .val (.int r1), .val (.int l0), .val (.int l1), .val (.int q0), .val (.int q1), .unset, .unset, .unset, .unset, .unset, .unset, .unset]) rfl kt) ?_
    show Go p e below _ (s₁.setTop (mkF m 126 #[.val (.int fa), .val (.int fb), .val (.int fc), .val (.int fs), .val (.int u1), .val (.int u2), .val (.int u3), .val (.int md), .val (.int l0), .val (.int l1), .val (.int r0), .val (.int r1), .val (.int l0), .val (.int l1), .val (.int q0), .val (.int q1), .unset, .unset, .unset, .unset, .unset, .unset, .unset] []))
    refine Go.st (fun _ kt => XS.iload X0.here hx rfl (hb hby at_126) rfl kt) ?_
    show Go p e below _ (s₁.setTop (mkF m 128 #[.val (.int fa), .val (.int fb), .val (.int fc), .val (.int fs), .val (.int u1), .val (.int u2), .val (.int u3), .val (.int md), .val (.int l0), .val (.int l1), .val (.int r0), .val (.int r1), .val (.int l0), .val (.int l1), .val (.int q0), .val (.int q1), .unset, .unset, .unset, .unset, .unset, .unset, .unset] [(.int md)]))
    refine Go.st (fun _ kt => XS.iconst X0.here hx rfl (hb hby at_128) kt) ?_
    show Go p e below _ (s₁.setTop (mkF m 129 #[.val (.int fa), .val (.int fb), .val (.int fc), .val (.int fs), .val (.int u1), .val (.int u2), .val (.int u3), .val (.int md), .val (.int l0), .val (.int l1), .val (.int r0), .val (.int r1), .val (.int l0), .val (.int l1), .val (.int q0), .val (.int q1), .unset, .unset, .unset, .unset, .unset, .unset, .unset] [(.int (3 : Int32)), (.int md)]))
    refine Go.st (fun _ kt => XS.icmpYes X0.here hx rfl (pc0 := 129) (pc' := 136) rfl (hb hby at_129) rfl (feq (by rw [hc75_1]; decide)).2 (by decide) (by decide) kt) ?_
    show Go p e below _ (s₁.setTop (mkF m 136 #[.val (.int fa), .val (.int fb), .val (.int fc), .val (.int fs), .val (.int u1), .val (.int u2), .val (.int u3), .val (.int md), .val (.int l0), .val (.int l1), .val (.int r0), .val (.int r1), .val (.int l0), .val (.int l1), .val (.int q0), .val (.int q1), .unset, .unset, .unset, .unset, .unset, .unset, .unset] []))
    refine Go.st (fun _ kt => XS.iconst X0.here hx rfl (hb hby at_136) kt) ?_
    show Go p e below _ (s₁.setTop (mkF m 137 #[.val (.int fa), .val (.int fb), .val (.int fc), .val (.int fs), .val (.int u1), .val (.int u2), .val (.int u3), .val (.int md), .val (.int l0), .val (.int l1), .val (.int r0), .val (.int r1), .val (.int l0), .val (.int l1), .val (.int q0), .val (.int q1), .unset, .unset, .unset, .unset, .unset, .unset, .unset] [(.int (0 : Int32))]))
    refine Go.st (fun _ kt => XS.istore X0.here hx rfl (hb hby at_137) rfl (l' := #[.val (.int fa), .val (.int fb), .val (.int fc), .val (.int fs), .val (.int u1), .val (.int u2), .val (.int u3), .val (.int md), .val (.int l0), .val (.int l1), .val (.int r0), .val (.int r1), .val (.int l0), .val (.int l1), .val (.int q0), .val (.int q1), .val (.int (0 : Int32)), .unset, .unset, .unset, .unset, .unset, .unset]) rfl kt) ?_
    show Go p e below _ (s₁.setTop (mkF m 139 #[.val (.int fa), .val (.int fb), .val (.int fc), .val (.int fs), .val (.int u1), .val (.int u2), .val (.int u3), .val (.int md), .val (.int l0), .val (.int l1), .val (.int r0), .val (.int r1), .val (.int l0), .val (.int l1), .val (.int q0), .val (.int q1), .val (.int (0 : Int32)), .unset, .unset, .unset, .unset, .unset, .unset] []))
    refine Go.st (fun _ kt => XS.iload X0.here hx rfl (hb hby at_139) rfl kt) ?_
    show Go p e below _ (s₁.setTop (mkF m 141 #[.val (.int fa), .val (.int fb), .val (.int fc), .val (.int fs), .val (.int u1), .val (.int u2), .val (.int u3), .val (.int md), .val (.int l0), .val (.int l1), .val (.int r0), .val (.int r1), .val (.int l0), .val (.int l1), .val (.int q0), .val (.int q1), .val (.int (0 : Int32)), .unset, .unset, .unset, .unset, .unset, .unset] [(.int u1)]))
    refine Go.st (fun _ kt => XS.iload X0.here hx rfl (hb hby at_141) rfl kt) ?_
    show Go p e below _ (s₁.setTop (mkF m 143 #[.val (.int fa), .val (.int fb), .val (.int fc), .val (.int fs), .val (.int u1), .val (.int u2), .val (.int u3), .val (.int md), .val (.int l0), .val (.int l1), .val (.int r0), .val (.int r1), .val (.int l0), .val (.int l1), .val (.int q0), .val (.int q1), .val (.int (0 : Int32)), .unset, .unset, .unset, .unset, .unset, .unset] [(.int l0), (.int u1)]))
    refine Go.st (fun _ kt => XS.iload X0.here hx rfl (hb hby at_143) rfl kt) ?_
    show Go p e below _ (s₁.setTop (mkF m 145 #[.val (.int fa), .val (.int fb), .val (.int fc), .val (.int fs), .val (.int u1), .val (.int u2), .val (.int u3), .val (.int md), .val (.int l0), .val (.int l1), .val (.int r0), .val (.int r1), .val (.int l0), .val (.int l1), .val (.int q0), .val (.int q1), .val (.int (0 : Int32)), .unset, .unset, .unset, .unset, .unset, .unset] [(.int l1), (.int l0), (.int u1)]))
    obtain ⟨_, _, ⟨T2, L2, k2, n2⟩, -, Xb2, hSb2, gr2, ⟨Lc2, hQ2, l2, y2, z2⟩, st2⟩ := callSS X0 hx (y := (⟨"com/example/manyhands/manyhands/crowd/OrderingTakesPinLaw", "mk", "(III)Ljava/lang/String;"⟩ : MethodName)) hown (mvT hZ (hw _ (List.mem_of_getElem? (i := 0) rfl))) (mvT hZ (hw _ (List.mem_of_getElem? (i := 1) rfl))) (mvT hZ (hw _ (List.mem_of_getElem? (i := 2) rfl))) (mvT hZ (hw _ (List.mem_of_getElem? (i := 3) rfl))) (by decide) (own_backJ (PU := fun vm_ => JE Z vm_ h0 n0) (W := 0) (rm1 l Z a0 hw [] u1 l0 l1 G1 h0 n0 Z0 O2 P5 (own_EX X0 e0 N0 hz0 hh XE) hz0 hCH hCW bu1 bl0 bl1) hZ (hw _ (List.mem_of_getElem? (i := 3) rfl)) (hw _ (List.mem_of_getElem? (i := 2) rfl)) (by decide) (by decide)) (g := (mkF m 145 #[.val (.int fa), .val (.int fb), .val (.int fc), .val (.int fs), .val (.int u1), .val (.int u2), .val (.int u3), .val (.int md), .val (.int l0), .val (.int l1), .val (.int r0), .val (.int r1), .val (.int l0), .val (.int l1), .val (.int q0), .val (.int q1), .val (.int (0 : Int32)), .unset, .unset, .unset, .unset, .unset, .unset] [(.int l1), (.int l0), (.int u1)])) rfl (by rw [hml]; rfl) (argsL := [(.int u1), (.int l0), (.int l1)]) (rest := []) (lenOf own_pd14 rfl) rfl (by show 2 * 0 + _ ≤ _; exact Nat.le_of_eq rfl) (hb hby at_145) (fun _ hWm => ⟨rfl, e0, (by decide : 0 + 4 ≤ _), (by decide : 0 + 8 ≤ _), JE.warm (s := s) J0 hWm⟩)
    dsimp only [Pt.U, Pt.locs, Pt.cells, Pt.slots] at Xb2 hSb2 gr2 l2 y2 z2 st2 hQ2
    subst l2 y2 z2
    obtain ⟨X2, hS2, hZ, hown⟩ := rebS hS0 (by rw [e0]; exact (Nat.le_refl h0.size)) Xb2 hSb2 gr2 hZ hown
    obtain ⟨x2, t2, kb2, rfl, N2r, K2q, J2, gz2, E2s, C2s, V2s, A2s⟩ := hQ2
    have N2q : Fr n0 _ := Fr.le N2r (Nat.le_refl _)
    have gn_x2 : n0 ≤ x2 := Nat.le_trans Z0 gz2
    have Zs2 : n0 ≤ T2.heap.size := Nat.le_trans Z0 K2q.1
    have N2 := Fr.app N0 N2q
    refine Go.tr st2 ?_
    show Go p e below _ (T2.setTop (mkF m 148 #[.val (.int fa), .val (.int fb), .val (.int fc), .val (.int fs), .val (.int u1), .val (.int u2), .val (.int u3), .val (.int md), .val (.int l0), .val (.int l1), .val (.int r0), .val (.int r1), .val (.int l0), .val (.int l1), .val (.int q0), .val (.int q1), .val (.int (0 : Int32)), .unset, .unset, .unset, .unset, .unset, .unset] [(.ref x2)]))
    refine Go.st (fun _ kt => XS.astore X2.here hx rfl (hb hby at_148) rfl rfl (l' := #[.val (.int fa), .val (.int fb), .val (.int fc), .val (.int fs), .val (.int u1), .val (.int u2), .val (.int u3), .val (.int md), .val (.int l0), .val (.int l1), .val (.int r0), .val (.int r1), .val (.int l0), .val (.int l1), .val (.int q0), .val (.int q1), .val (.int (0 : Int32)), .val (.ref x2), .unset, .unset, .unset, .unset, .unset]) rfl kt) ?_
    show Go p e below _ (T2.setTop (mkF m 150 #[.val (.int fa), .val (.int fb), .val (.int fc), .val (.int fs), .val (.int u1), .val (.int u2), .val (.int u3), .val (.int md), .val (.int l0), .val (.int l1), .val (.int r0), .val (.int r1), .val (.int l0), .val (.int l1), .val (.int q0), .val (.int q1), .val (.int (0 : Int32)), .val (.ref x2), .unset, .unset, .unset, .unset, .unset] []))
    refine Go.st (fun _ kt => XS.iload X2.here hx rfl (hb hby at_150) rfl kt) ?_
    show Go p e below _ (T2.setTop (mkF m 152 #[.val (.int fa), .val (.int fb), .val (.int fc), .val (.int fs), .val (.int u1), .val (.int u2), .val (.int u3), .val (.int md), .val (.int l0), .val (.int l1), .val (.int r0), .val (.int r1), .val (.int l0), .val (.int l1), .val (.int q0), .val (.int q1), .val (.int (0 : Int32)), .val (.ref x2), .unset, .unset, .unset, .unset, .unset] [(.int u2)]))
    refine Go.st (fun _ kt => XS.iload X2.here hx rfl (hb hby at_152) rfl kt) ?_
    show Go p e below _ (T2.setTop (mkF m 154 #[.val (.int fa), .val (.int fb), .val (.int fc), .val (.int fs), .val (.int u1), .val (.int u2), .val (.int u3), .val (.int md), .val (.int l0), .val (.int l1), .val (.int r0), .val (.int r1), .val (.int l0), .val (.int l1), .val (.int q0), .val (.int q1), .val (.int (0 : Int32)), .val (.ref x2), .unset, .unset, .unset, .unset, .unset] [(.int r0), (.int u2)]))
    refine Go.st (fun _ kt => XS.iload X2.here hx rfl (hb hby at_154) rfl kt) ?_
    show Go p e below _ (T2.setTop (mkF m 156 #[.val (.int fa), .val (.int fb), .val (.int fc), .val (.int fs), .val (.int u1), .val (.int u2), .val (.int u3), .val (.int md), .val (.int l0), .val (.int l1), .val (.int r0), .val (.int r1), .val (.int l0), .val (.int l1), .val (.int q0), .val (.int q1), .val (.int (0 : Int32)), .val (.ref x2), .unset, .unset, .unset, .unset, .unset] [(.int r1), (.int r0), (.int u2)]))
    obtain ⟨_, _, ⟨T3, L3, k3, n3⟩, -, Xb3, hSb3, gr3, ⟨Lc3, hQ3, l3, y3, z3⟩, st3⟩ := callSS X2 hx (y := (⟨"com/example/manyhands/manyhands/crowd/OrderingTakesPinLaw", "mk", "(III)Ljava/lang/String;"⟩ : MethodName)) hown (mvT hZ (hw _ (List.mem_of_getElem? (i := 0) rfl))) (mvT hZ (hw _ (List.mem_of_getElem? (i := 1) rfl))) (mvT hZ (hw _ (List.mem_of_getElem? (i := 2) rfl))) (mvT hZ (hw _ (List.mem_of_getElem? (i := 3) rfl))) (by decide) (own_backJ (PU := fun vm_ => JE Z vm_ T2.heap T2.heap.size) (W := 0) (rm1 l Z a0 hw [] u2 r0 r1 G1 T2.heap T2.heap.size (Nat.le_refl _) O2 P5 (own_EX X2 rfl N2 hz0 hh XE) (Nat.le_trans hz0 Zs2) hCH hCW bu2 br0 br1) hZ (hw _ (List.mem_of_getElem? (i := 3) rfl)) (hw _ (List.mem_of_getElem? (i := 2) rfl)) (by decide) (by decide)) (g := (mkF m 156 #[.val (.int fa), .val (.int fb), .val (.int fc), .val (.int fs), .val (.int u1), .val (.int u2), .val (.int u3), .val (.int md), .val (.int l0), .val (.int l1), .val (.int r0), .val (.int r1), .val (.int l0), .val (.int l1), .val (.int q0), .val (.int q1), .val (.int (0 : Int32)), .val (.ref x2), .unset, .unset, .unset, .unset, .unset] [(.int r1), (.int r0), (.int u2)])) rfl (by rw [hml]; rfl) (argsL := [(.int u2), (.int r0), (.int r1)]) (rest := []) (lenOf own_pd14 rfl) rfl (by show 2 * 0 + _ ≤ _; exact Nat.le_of_eq rfl) (hb hby at_156) (fun _ hWm => ⟨rfl, rfl, (by decide : 4 + 4 ≤ _), (by decide : 8 + 8 ≤ _), JE.warm (s := s) J2 hWm⟩)
    dsimp only [Pt.U, Pt.locs, Pt.cells, Pt.slots] at Xb3 hSb3 gr3 l3 y3 z3 st3 hQ3
    subst l3 y3 z3
    obtain ⟨X3, hS3, hZ, hown⟩ := rebS hS2 (Nat.le_refl _) Xb3 hSb3 gr3 hZ hown
    obtain ⟨x3, t3, kb3, rfl, N3r, K3q, J3, gz3, E3s, C3s, V3s, A3s⟩ := hQ3
    have N3q : Fr n0 _ := Fr.le N3r Zs2
    have lt_x2_x3 : x2 < x3 := Nat.lt_of_lt_of_le E2s.lt gz3
    have lt_t2_x3 : t2 < x3 := Nat.lt_of_lt_of_le A2s.lt gz3
    have gn_x3 : n0 ≤ x3 := Nat.le_trans Zs2 gz3
    have Zs3 : n0 ≤ T3.heap.size := Nat.le_trans Zs2 K3q.1
    have N3 := Fr.app N2 N3q
    refine Go.tr st3 ?_
    show Go p e below _ (T3.setTop (mkF m 159 #[.val (.int fa), .val (.int fb), .val (.int fc), .val (.int fs), .val (.int u1), .val (.int u2), .val (.int u3), .val (.int md), .val (.int l0), .val (.int l1), .val (.int r0), .val (.int r1), .val (.int l0), .val (.int l1), .val (.int q0), .val (.int q1), .val (.int (0 : Int32)), .val (.ref x2), .unset, .unset, .unset, .unset, .unset] [(.ref x3)]))
    refine Go.st (fun _ kt => XS.astore X3.here hx rfl (hb hby at_159) rfl rfl (l' := #[.val (.int fa), .val (.int fb), .val (.int fc), .val (.int fs), .val (.int u1), .val (.int u2), .val (.int u3), .val (.int md), .val (.int l0), .val (.int l1), .val (.int r0), .val (.int r1), .val (.int l0), .val (.int l1), .val (.int q0), .val (.int q1), .val (.int (0 : Int32)), .val (.ref x2), .val (.ref x3), .unset, .unset, .unset, .unset]) rfl kt) ?_
    show Go p e below _ (T3.setTop (mkF m 161 #[.val (.int fa), .val (.int fb), .val (.int fc), .val (.int fs), .val (.int u1), .val (.int u2), .val (.int u3), .val (.int md), .val (.int l0), .val (.int l1), .val (.int r0), .val (.int r1), .val (.int l0), .val (.int l1), .val (.int q0), .val (.int q1), .val (.int (0 : Int32)), .val (.ref x2), .val (.ref x3), .unset, .unset, .unset, .unset] []))
    refine Go.st (fun _ kt => XS.iload X3.here hx rfl (hb hby at_161) rfl kt) ?_
    show Go p e below _ (T3.setTop (mkF m 163 #[.val (.int fa), .val (.int fb), .val (.int fc), .val (.int fs), .val (.int u1), .val (.int u2), .val (.int u3), .val (.int md), .val (.int l0), .val (.int l1), .val (.int r0), .val (.int r1), .val (.int l0), .val (.int l1), .val (.int q0), .val (.int q1), .val (.int (0 : Int32)), .val (.ref x2), .val (.ref x3), .unset, .unset, .unset, .unset] [(.int (0 : Int32))]))
    refine Go.st (fun _ kt => XS.ifYes X3.here hx rfl (pc0 := 163) (pc' := 170) rfl (hb hby at_163) rfl ((if0 _ _).trans (teq (by decide : (0 : Int32) = (0 : Int32))).1) (by decide) (by decide) kt) ?_
    show Go p e below _ (T3.setTop (mkF m 170 #[.val (.int fa), .val (.int fb), .val (.int fc), .val (.int fs), .val (.int u1), .val (.int u2), .val (.int u3), .val (.int md), .val (.int l0), .val (.int l1), .val (.int r0), .val (.int r1), .val (.int l0), .val (.int l1), .val (.int q0), .val (.int q1), .val (.int (0 : Int32)), .val (.ref x2), .val (.ref x3), .unset, .unset, .unset, .unset] []))
    refine Go.st (fun _ kt => XS.iload X3.here hx rfl (hb hby at_170) rfl kt) ?_
    show Go p e below _ (T3.setTop (mkF m 172 #[.val (.int fa), .val (.int fb), .val (.int fc), .val (.int fs), .val (.int u1), .val (.int u2), .val (.int u3), .val (.int md), .val (.int l0), .val (.int l1), .val (.int r0), .val (.int r1), .val (.int l0), .val (.int l1), .val (.int q0), .val (.int q1), .val (.int (0 : Int32)), .val (.ref x2), .val (.ref x3), .unset, .unset, .unset, .unset] [(.int u3)]))
    refine Go.st (fun _ kt => XS.iload X3.here hx rfl (hb hby at_172) rfl kt) ?_
    show Go p e below _ (T3.setTop (mkF m 174 #[.val (.int fa), .val (.int fb), .val (.int fc), .val (.int fs), .val (.int u1), .val (.int u2), .val (.int u3), .val (.int md), .val (.int l0), .val (.int l1), .val (.int r0), .val (.int r1), .val (.int l0), .val (.int l1), .val (.int q0), .val (.int q1), .val (.int (0 : Int32)), .val (.ref x2), .val (.ref x3), .unset, .unset, .unset, .unset] [(.int q0), (.int u3)]))
    refine Go.st (fun _ kt => XS.iload X3.here hx rfl (hb hby at_174) rfl kt) ?_
    show Go p e below _ (T3.setTop (mkF m 176 #[.val (.int fa), .val (.int fb), .val (.int fc), .val (.int fs), .val (.int u1), .val (.int u2), .val (.int u3), .val (.int md), .val (.int l0), .val (.int l1), .val (.int r0), .val (.int r1), .val (.int l0), .val (.int l1), .val (.int q0), .val (.int q1), .val (.int (0 : Int32)), .val (.ref x2), .val (.ref x3), .unset, .unset, .unset, .unset] [(.int q1), (.int q0), (.int u3)]))
    obtain ⟨_, _, ⟨T4, L4, k4, n4⟩, -, Xb4, hSb4, gr4, ⟨Lc4, hQ4, l4, y4, z4⟩, st4⟩ := callSS X3 hx (y := (⟨"com/example/manyhands/manyhands/crowd/OrderingTakesPinLaw", "mk", "(III)Ljava/lang/String;"⟩ : MethodName)) hown (mvT hZ (hw _ (List.mem_of_getElem? (i := 0) rfl))) (mvT hZ (hw _ (List.mem_of_getElem? (i := 1) rfl))) (mvT hZ (hw _ (List.mem_of_getElem? (i := 2) rfl))) (mvT hZ (hw _ (List.mem_of_getElem? (i := 3) rfl))) (by decide) (own_backJ (PU := fun vm_ => JE Z vm_ T3.heap T3.heap.size) (W := 0) (rm1 l Z a0 hw [] u3 q0 q1 G1 T3.heap T3.heap.size (Nat.le_refl _) O2 P5 (own_EX X3 rfl N3 hz0 hh XE) (Nat.le_trans hz0 Zs3) hCH hCW bu3 bq0 bq1) hZ (hw _ (List.mem_of_getElem? (i := 3) rfl)) (hw _ (List.mem_of_getElem? (i := 2) rfl)) (by decide) (by decide)) (g := (mkF m 176 #[.val (.int fa), .val (.int fb), .val (.int fc), .val (.int fs), .val (.int u1), .val (.int u2), .val (.int u3), .val (.int md), .val (.int l0), .val (.int l1), .val (.int r0), .val (.int r1), .val (.int l0), .val (.int l1), .val (.int q0), .val (.int q1), .val (.int (0 : Int32)), .val (.ref x2), .val (.ref x3), .unset, .unset, .unset, .unset] [(.int q1), (.int q0), (.int u3)])) rfl (by rw [hml]; rfl) (argsL := [(.int u3), (.int q0), (.int q1)]) (rest := []) (lenOf own_pd14 rfl) rfl (by show 2 * 0 + _ ≤ _; exact Nat.le_of_eq rfl) (hb hby at_176) (fun _ hWm => ⟨rfl, rfl, (by decide : 8 + 4 ≤ _), (by decide : 16 + 8 ≤ _), JE.warm (s := s) J3 hWm⟩)
    dsimp only [Pt.U, Pt.locs, Pt.cells, Pt.slots] at Xb4 hSb4 gr4 l4 y4 z4 st4 hQ4
    subst l4 y4 z4
    obtain ⟨X4, hS4, hZ, hown⟩ := rebS hS3 (Nat.le_refl _) Xb4 hSb4 gr4 hZ hown
    obtain ⟨x4, t4, kb4, rfl, N4r, K4q, J4, gz4, E4s, C4s, V4s, A4s⟩ := hQ4
    have N4q : Fr n0 _ := Fr.le N4r Zs3
    have f5 := (E2s.keep K3q)
    have lt_x2_x4 : x2 < x4 := Nat.lt_of_lt_of_le f5.lt gz4
    have f6 := (A2s.keep K3q nin0)
    have lt_t2_x4 : t2 < x4 := Nat.lt_of_lt_of_le f6.lt gz4
    have lt_x3_x4 : x3 < x4 := Nat.lt_of_lt_of_le E3s.lt gz4
    have lt_t3_x4 : t3 < x4 := Nat.lt_of_lt_of_le A3s.lt gz4
    have gn_x4 : n0 ≤ x4 := Nat.le_trans Zs3 gz4
    have Zs4 : n0 ≤ T4.heap.size := Nat.le_trans Zs3 K4q.1
    have N4 := Fr.app N3 N4q
    refine Go.tr st4 ?_
    show Go p e below _ (T4.setTop (mkF m 179 #[.val (.int fa), .val (.int fb), .val (.int fc), .val (.int fs), .val (.int u1), .val (.int u2), .val (.int u3), .val (.int md), .val (.int l0), .val (.int l1), .val (.int r0), .val (.int r1), .val (.int l0), .val (.int l1), .val (.int q0), .val (.int q1), .val (.int (0 : Int32)), .val (.ref x2), .val (.ref x3), .unset, .unset, .unset, .unset] [(.ref x4)]))
    refine Go.st (fun _ kt => XS.astore X4.here hx rfl (hb hby at_179) rfl rfl (l' := #[.val (.int fa), .val (.int fb), .val (.int fc), .val (.int fs), .val (.int u1), .val (.int u2), .val (.int u3), .val (.int md), .val (.int l0), .val (.int l1), .val (.int r0), .val (.int r1), .val (.int l0), .val (.int l1), .val (.int q0), .val (.int q1), .val (.int (0 : Int32)), .val (.ref x2), .val (.ref x3), .val (.ref x4), .unset, .unset, .unset]) rfl kt) ?_
    show Go p e below _ (T4.setTop (mkF m 181 #[.val (.int fa), .val (.int fb), .val (.int fc), .val (.int fs), .val (.int u1), .val (.int u2), .val (.int u3), .val (.int md), .val (.int l0), .val (.int l1), .val (.int r0), .val (.int r1), .val (.int l0), .val (.int l1), .val (.int q0), .val (.int q1), .val (.int (0 : Int32)), .val (.ref x2), .val (.ref x3), .val (.ref x4), .unset, .unset, .unset] []))
    refine Go.st (fun _ kt => XS.iloadN X4.here hx rfl (hb hby at_181) rfl kt) ?_
    show Go p e below _ (T4.setTop (mkF m 182 #[.val (.int fa), .val (.int fb), .val (.int fc), .val (.int fs), .val (.int u1), .val (.int u2), .val (.int u3), .val (.int md), .val (.int l0), .val (.int l1), .val (.int r0), .val (.int r1), .val (.int l0), .val (.int l1), .val (.int q0), .val (.int q1), .val (.int (0 : Int32)), .val (.ref x2), .val (.ref x3), .val (.ref x4), .unset, .unset, .unset] [(.int fs)]))
    refine Go.st (fun _ kt => XS.bipush X4.here hx rfl (hb hby at_182) kt) ?_
    show Go p e below _ (T4.setTop (mkF m 184 #[.val (.int fa), .val (.int fb), .val (.int fc), .val (.int fs), .val (.int u1), .val (.int u2), .val (.int u3), .val (.int md), .val (.int l0), .val (.int l1), .val (.int r0), .val (.int r1), .val (.int l0), .val (.int l1), .val (.int q0), .val (.int q1), .val (.int (0 : Int32)), .val (.ref x2), .val (.ref x3), .val (.ref x4), .unset, .unset, .unset] [(.int (8 : Int32)), (.int fs)]))
    refine Go.st (fun _ kt => XS.ishr X4.here hx rfl (hb hby at_184) rfl kt) ?_
    show Go p e below _ (T4.setTop (mkF m 185 #[.val (.int fa), .val (.int fb), .val (.int fc), .val (.int fs), .val (.int u1), .val (.int u2), .val (.int u3), .val (.int md), .val (.int l0), .val (.int l1), .val (.int r0), .val (.int r1), .val (.int l0), .val (.int l1), .val (.int q0), .val (.int q1), .val (.int (0 : Int32)), .val (.ref x2), .val (.ref x3), .val (.ref x4), .unset, .unset, .unset] [(.int (fs >>> ((8 : Int32) &&& 31)))]))
    refine Go.st (fun _ kt => XS.sipush X4.here hx rfl (hb hby at_185) kt) ?_
    show Go p e below _ (T4.setTop (mkF m 188 #[.val (.int fa), .val (.int fb), .val (.int fc), .val (.int fs), .val (.int u1), .val (.int u2), .val (.int u3), .val (.int md), .val (.int l0), .val (.int l1), .val (.int r0), .val (.int r1), .val (.int l0), .val (.int l1), .val (.int q0), .val (.int q1), .val (.int (0 : Int32)), .val (.ref x2), .val (.ref x3), .val (.ref x4), .unset, .unset, .unset] [(.int (255 : Int32)), (.int (fs >>> ((8 : Int32) &&& 31)))]))
    refine Go.st (fun _ kt => XS.iand X4.here hx rfl (hb hby at_188) rfl kt) ?_
    show Go p e below _ (T4.setTop (mkF m 189 #[.val (.int fa), .val (.int fb), .val (.int fc), .val (.int fs), .val (.int u1), .val (.int u2), .val (.int u3), .val (.int md), .val (.int l0), .val (.int l1), .val (.int r0), .val (.int r1), .val (.int l0), .val (.int l1), .val (.int q0), .val (.int q1), .val (.int (0 : Int32)), .val (.ref x2), .val (.ref x3), .val (.ref x4), .unset, .unset, .unset] [(.int ((fs >>> ((8 : Int32) &&& 31)) &&& (255 : Int32)))]))
    generalize hqc : (((fs >>> ((8 : Int32) &&& 31)) &&& (255 : Int32)) : Int32) = qc
    show Go p e below _ (T4.setTop (mkF m 189 #[.val (.int fa), .val (.int fb), .val (.int fc), .val (.int fs), .val (.int u1), .val (.int u2), .val (.int u3), .val (.int md), .val (.int l0), .val (.int l1), .val (.int r0), .val (.int r1), .val (.int l0), .val (.int l1), .val (.int q0), .val (.int q1), .val (.int (0 : Int32)), .val (.ref x2), .val (.ref x3), .val (.ref x4), .unset, .unset, .unset] [(.int qc)]))
    have bqc := hqc ▸ own_and255 _
    refine Go.st (fun _ kt => XS.i2c X4.here hx rfl (hb hby at_189) rfl kt) ?_
    show Go p e below _ (T4.setTop (mkF m 190 #[.val (.int fa), .val (.int fb), .val (.int fc), .val (.int fs), .val (.int u1), .val (.int u2), .val (.int u3), .val (.int md), .val (.int l0), .val (.int l1), .val (.int r0), .val (.int r1), .val (.int l0), .val (.int l1), .val (.int q0), .val (.int q1), .val (.int (0 : Int32)), .val (.ref x2), .val (.ref x3), .val (.ref x4), .unset, .unset, .unset] [(.int (qc.toUInt32.toUInt16.toUInt32.toInt32))]))
    rw [(own_chr bqc : (qc.toUInt32.toUInt16.toUInt32.toInt32) = qc)]
    show Go p e below _ (T4.setTop (mkF m 190 #[.val (.int fa), .val (.int fb), .val (.int fc), .val (.int fs), .val (.int u1), .val (.int u2), .val (.int u3), .val (.int md), .val (.int l0), .val (.int l1), .val (.int r0), .val (.int r1), .val (.int l0), .val (.int l1), .val (.int q0), .val (.int q1), .val (.int (0 : Int32)), .val (.ref x2), .val (.ref x3), .val (.ref x4), .unset, .unset, .unset] [(.int qc)]))
    obtain ⟨_, _, ⟨T7, L7, k7, n7⟩, -, X7, ⟨Lc7, hQ7, l7, y7, z7⟩, st7⟩ := Jvm.LawKit.callS X4 hx (y := (⟨"java/lang/String", "valueOf", "(C)Ljava/lang/String;"⟩ : MethodName)) hown (mvT hZ (hw _ (List.mem_of_getElem? (i := 37) rfl))) (mvT hZ (hw _ (List.mem_of_getElem? (i := 38) rfl))) (mvT hZ (hw _ (List.mem_of_getElem? (i := 6) rfl))) (mvT hZ (hw _ (List.mem_of_getElem? (i := 39) rfl))) (by decide) (backOf (W := 0) (rm8 l Z a0 hw [] qc G1 T4.heap n0 Zs4 O2 P5 (own_EX X4 rfl N4 hz0 hh XE) hz0 bqc.2) hZ (hw _ (List.mem_of_getElem? (i := 39) rfl)) (hw _ (List.mem_of_getElem? (i := 6) rfl)) (by decide) (by decide)) (g := (mkF m 190 #[.val (.int fa), .val (.int fb), .val (.int fc), .val (.int fs), .val (.int u1), .val (.int u2), .val (.int u3), .val (.int md), .val (.int l0), .val (.int l1), .val (.int r0), .val (.int r1), .val (.int l0), .val (.int l1), .val (.int q0), .val (.int q1), .val (.int (0 : Int32)), .val (.ref x2), .val (.ref x3), .val (.ref x4), .unset, .unset, .unset] [(.int qc)])) rfl (by rw [hml]; rfl) (argsL := [(.int qc)]) (rest := []) (lenOf own_pd15 rfl) rfl (by show 2 * 0 + _ ≤ _; exact Nat.le_of_eq rfl) (hb hby at_190) (fun _ _ => ⟨rfl, rfl, (by decide : 12 + 2 ≤ _), (by decide : 24 + 5 ≤ _)⟩)
    dsimp only [Pt.U, Pt.locs, Pt.cells, Pt.slots] at X7 l7 y7 z7 st7 hQ7
    subst l7 y7 z7
    obtain ⟨x7, rfl, N7q, K7q, gz7, E7s⟩ := hQ7
    have f8 := (f5.keep K4q)
    have lt_x2_x7 : x2 < x7 := Nat.lt_of_lt_of_le f8.lt gz7
    have f9 := (f6.keep K4q nin0)
    have lt_t2_x7 : t2 < x7 := Nat.lt_of_lt_of_le f9.lt gz7
    have f10 := (E3s.keep K4q)
    have lt_x3_x7 : x3 < x7 := Nat.lt_of_lt_of_le f10.lt gz7
    have f11 := (A3s.keep K4q nin0)
    have lt_t3_x7 : t3 < x7 := Nat.lt_of_lt_of_le f11.lt gz7
    have lt_x4_x7 : x4 < x7 := Nat.lt_of_lt_of_le E4s.lt gz7
    have lt_t4_x7 : t4 < x7 := Nat.lt_of_lt_of_le A4s.lt gz7
    have gn_x7 : n0 ≤ x7 := Nat.le_trans Zs4 gz7
    have Zs7 : n0 ≤ T7.heap.size := Nat.le_trans Zs4 K7q.1
    have Gk7 := Nat.le_trans (Nat.le_refl _) K7q.1
    have N7 := Fr.app N4 N7q
    refine Go.st st7 ?_
    show Go p e below _ (T7.setTop (mkF m 193 #[.val (.int fa), .val (.int fb), .val (.int fc), .val (.int fs), .val (.int u1), .val (.int u2), .val (.int u3), .val (.int md), .val (.int l0), .val (.int l1), .val (.int r0), .val (.int r1), .val (.int l0), .val (.int l1), .val (.int q0), .val (.int q1), .val (.int (0 : Int32)), .val (.ref x2), .val (.ref x3), .val (.ref x4), .unset, .unset, .unset] [(.ref x7)]))
    refine Go.st (fun _ kt => XS.astore X7.here hx rfl (hb hby at_193) rfl rfl (l' := #[.val (.int fa), .val (.int fb), .val (.int fc), .val (.int fs), .val (.int u1), .val (.int u2), .val (.int u3), .val (.int md), .val (.int l0), .val (.int l1), .val (.int r0), .val (.int r1), .val (.int l0), .val (.int l1), .val (.int q0), .val (.int q1), .val (.int (0 : Int32)), .val (.ref x2), .val (.ref x3), .val (.ref x4), .val (.ref x7), .unset, .unset]) rfl kt) ?_
    show Go p e below _ (T7.setTop (mkF m 195 #[.val (.int fa), .val (.int fb), .val (.int fc), .val (.int fs), .val (.int u1), .val (.int u2), .val (.int u3), .val (.int md), .val (.int l0), .val (.int l1), .val (.int r0), .val (.int r1), .val (.int l0), .val (.int l1), .val (.int q0), .val (.int q1), .val (.int (0 : Int32)), .val (.ref x2), .val (.ref x3), .val (.ref x4), .val (.ref x7), .unset, .unset] []))
    obtain ⟨T12, h12, X12, e12, E12, A12, D12, U12, st12⟩ := newO X7 hx hZ hown (hw _ (List.mem_of_getElem? (i := 51) rfl)) (hw _ (List.mem_of_getElem? (i := 52) rfl)) (hw _ (List.mem_of_getElem? (i := 53) rfl)) rfl (g := (mkF m 195 #[.val (.int fa), .val (.int fb), .val (.int fc), .val (.int fs), .val (.int u1), .val (.int u2), .val (.int u3), .val (.int md), .val (.int l0), .val (.int l1), .val (.int r0), .val (.int r1), .val (.int l0), .val (.int l1), .val (.int q0), .val (.int q1), .val (.int (0 : Int32)), .val (.ref x2), .val (.ref x3), .val (.ref x4), .val (.ref x7), .unset, .unset] [])) rfl (hb hby at_195) (by decide) (by decide)
    obtain ⟨b12, g12⟩ : ∃ z, z = T7.heap.size := ⟨_, rfl⟩
    rw [← g12] at A12 D12 U12 st12
    have f13 := (f8.keep K7q)
    have lt_x2_b12 : x2 < b12 := Nat.lt_of_lt_of_eq f13.lt g12.symm
    have f14 := (f9.keep K7q nin0)
    have lt_t2_b12 : t2 < b12 := Nat.lt_of_lt_of_eq f14.lt g12.symm
    have f15 := (f10.keep K7q)
    have lt_x3_b12 : x3 < b12 := Nat.lt_of_lt_of_eq f15.lt g12.symm
    have f16 := (f11.keep K7q nin0)
    have lt_t3_b12 : t3 < b12 := Nat.lt_of_lt_of_eq f16.lt g12.symm
    have f17 := (E4s.keep K7q)
    have lt_x4_b12 : x4 < b12 := Nat.lt_of_lt_of_eq f17.lt g12.symm
    have f18 := (A4s.keep K7q nin0)
    have lt_t4_b12 : t4 < b12 := Nat.lt_of_lt_of_eq f18.lt g12.symm
    have lt_x7_b12 : x7 < b12 := Nat.lt_of_lt_of_eq E7s.lt g12.symm
    have gn_b12 : n0 ≤ b12 := Nat.le_trans Zs7 (Nat.le_of_eq g12.symm)
    have Zs12 : n0 ≤ h12.size := Nat.le_trans Zs7 E12.1
    have Gk12 := Nat.le_trans Gk7 E12.1
    refine Go.st st12 ?_
    have F12_question : Fld Z h12 b12 "com/example/manyhands/manyhands/crowd/Ordering" "question" "Ljava/lang/String;" .null := D12 (Or.inr (hw _ (List.mem_of_getElem? (i := 71) rfl))) (ty := (.object "java/lang/String")) (by decide)
    have F12_left : Fld Z h12 b12 "com/example/manyhands/manyhands/crowd/Ordering" "left" "Ljava/lang/String;" .null := D12 (Or.inr (hw _ (List.mem_of_getElem? (i := 73) rfl))) (ty := (.object "java/lang/String")) (by decide)
    have F12_right : Fld Z h12 b12 "com/example/manyhands/manyhands/crowd/Ordering" "right" "Ljava/lang/String;" .null := D12 (Or.inr (hw _ (List.mem_of_getElem? (i := 75) rfl))) (ty := (.object "java/lang/String")) (by decide)
    show Go p e below _ (T12.setTop (mkF m 198 #[.val (.int fa), .val (.int fb), .val (.int fc), .val (.int fs), .val (.int u1), .val (.int u2), .val (.int u3), .val (.int md), .val (.int l0), .val (.int l1), .val (.int r0), .val (.int r1), .val (.int l0), .val (.int l1), .val (.int q0), .val (.int q1), .val (.int (0 : Int32)), .val (.ref x2), .val (.ref x3), .val (.ref x4), .val (.ref x7), .unset, .unset] [(.ref b12)]))
    refine Go.st (fun _ kt => XS.dup X12.here hx rfl (hb hby at_198) rfl rfl kt) ?_
    show Go p e below _ (T12.setTop (mkF m 199 #[.val (.int fa), .val (.int fb), .val (.int fc), .val (.int fs), .val (.int u1), .val (.int u2), .val (.int u3), .val (.int md), .val (.int l0), .val (.int l1), .val (.int r0), .val (.int r1), .val (.int l0), .val (.int l1), .val (.int q0), .val (.int q1), .val (.int (0 : Int32)), .val (.ref x2), .val (.ref x3), .val (.ref x4), .val (.ref x7), .unset, .unset] [(.ref b12), (.ref b12)]))
    refine Go.st (fun _ kt => XS.aload X12.here hx rfl (hb hby at_199) rfl rfl kt) ?_
    show Go p e below _ (T12.setTop (mkF m 201 #[.val (.int fa), .val (.int fb), .val (.int fc), .val (.int fs), .val (.int u1), .val (.int u2), .val (.int u3), .val (.int md), .val (.int l0), .val (.int l1), .val (.int r0), .val (.int r1), .val (.int l0), .val (.int l1), .val (.int q0), .val (.int q1), .val (.int (0 : Int32)), .val (.ref x2), .val (.ref x3), .val (.ref x4), .val (.ref x7), .unset, .unset] [(.ref x7), (.ref b12), (.ref b12)]))
    refine Go.st (fun _ kt => XS.aload X12.here hx rfl (hb hby at_201) rfl rfl kt) ?_
    show Go p e below _ (T12.setTop (mkF m 203 #[.val (.int fa), .val (.int fb), .val (.int fc), .val (.int fs), .val (.int u1), .val (.int u2), .val (.int u3), .val (.int md), .val (.int l0), .val (.int l1), .val (.int r0), .val (.int r1), .val (.int l0), .val (.int l1), .val (.int q0), .val (.int q1), .val (.int (0 : Int32)), .val (.ref x2), .val (.ref x3), .val (.ref x4), .val (.ref x7), .unset, .unset] [(.ref x2), (.ref x7), (.ref b12), (.ref b12)]))
    refine Go.st (fun _ kt => XS.aload X12.here hx rfl (hb hby at_203) rfl rfl kt) ?_
    show Go p e below _ (T12.setTop (mkF m 205 #[.val (.int fa), .val (.int fb), .val (.int fc), .val (.int fs), .val (.int u1), .val (.int u2), .val (.int u3), .val (.int md), .val (.int l0), .val (.int l1), .val (.int r0), .val (.int r1), .val (.int l0), .val (.int l1), .val (.int q0), .val (.int q1), .val (.int (0 : Int32)), .val (.ref x2), .val (.ref x3), .val (.ref x4), .val (.ref x7), .unset, .unset] [(.ref x3), (.ref x2), (.ref x7), (.ref b12), (.ref b12)]))
    obtain ⟨_, _, ⟨T19, L19, k19, n19⟩, -, Xb19, hSb19, gr19, ⟨Lc19, hQ19, l19, y19, z19⟩, st19⟩ := X12.specialBackS hx (y := (⟨"com/example/manyhands/manyhands/crowd/Ordering", "<init>", "(Ljava/lang/String;Ljava/lang/String;Ljava/lang/String;)V"⟩ : MethodName)) rfl hown (mvT hZ (hw _ (List.mem_of_getElem? (i := 54) rfl))) (mvT hZ (hw _ (List.mem_of_getElem? (i := 55) rfl))) (mvT hZ (hw _ (List.mem_of_getElem? (i := 56) rfl))) (by decide) (own_backJ (PU := fun _ => True) (W := 1) (rm12 l Z a0 hw [] b12 x7 x2 x3 h12 n0 Zs12 A12 F12_question F12_left F12_right gn_b12) hZ (hw _ (List.mem_of_getElem? (i := 56) rfl)) (hw _ (List.mem_of_getElem? (i := 53) rfl)) (by decide) (by decide)) (g := (mkF m 205 #[.val (.int fa), .val (.int fb), .val (.int fc), .val (.int fs), .val (.int u1), .val (.int u2), .val (.int u3), .val (.int md), .val (.int l0), .val (.int l1), .val (.int r0), .val (.int r1), .val (.int l0), .val (.int l1), .val (.int q0), .val (.int q1), .val (.int (0 : Int32)), .val (.ref x2), .val (.ref x3), .val (.ref x4), .val (.ref x7), .unset, .unset] [(.ref x3), (.ref x2), (.ref x7), (.ref b12), (.ref b12)])) rfl (by rw [hml]; rfl) (Steps.refl _) (a := b12) (argsL := [(.ref x7), (.ref x2), (.ref x3)]) (rest := [(.ref b12)]) (lenOf own_pd16 rfl) rfl (by show 2 * 0 + _ ≤ _; exact Nat.le_of_eq rfl) (hb hby at_205) (fun _ hWm => ⟨rfl, e12, (by decide : 15 + 6 ≤ _), (by decide : 32 + 80 ≤ _), trivial⟩)
    dsimp only [Pt.U, Pt.locs, Pt.cells, Pt.slots] at Xb19 hSb19 gr19 l19 y19 z19 st19 hQ19
    subst l19 y19 z19
    obtain ⟨X19, hS19, hZ, hown⟩ := rebS hS4 (by rw [e12]; exact Gk12) Xb19 hSb19 gr19 hZ hown
    obtain ⟨rfl, N19q, K19q, Fle19, Fri19⟩ := hQ19
    have Zs19 : n0 ≤ T19.heap.size := Nat.le_trans Zs12 K19q.1
    have N19 := Fr.app N7 N19q
    refine Go.tr st19 ?_
    show Go p e below _ (T19.setTop (mkF m 208 #[.val (.int fa), .val (.int fb), .val (.int fc), .val (.int fs), .val (.int u1), .val (.int u2), .val (.int u3), .val (.int md), .val (.int l0), .val (.int l1), .val (.int r0), .val (.int r1), .val (.int l0), .val (.int l1), .val (.int q0), .val (.int q1), .val (.int (0 : Int32)), .val (.ref x2), .val (.ref x3), .val (.ref x4), .val (.ref x7), .unset, .unset] [(.ref b12)]))
    refine Go.st (fun _ kt => XS.astore X19.here hx rfl (hb hby at_208) rfl rfl (l' := #[.val (.int fa), .val (.int fb), .val (.int fc), .val (.int fs), .val (.int u1), .val (.int u2), .val (.int u3), .val (.int md), .val (.int l0), .val (.int l1), .val (.int r0), .val (.int r1), .val (.int l0), .val (.int l1), .val (.int q0), .val (.int q1), .val (.int (0 : Int32)), .val (.ref x2), .val (.ref x3), .val (.ref x4), .val (.ref x7), .val (.ref b12), .unset]) rfl kt) ?_
    show Go p e below _ (T19.setTop (mkF m 210 #[.val (.int fa), .val (.int fb), .val (.int fc), .val (.int fs), .val (.int u1), .val (.int u2), .val (.int u3), .val (.int md), .val (.int l0), .val (.int l1), .val (.int r0), .val (.int r1), .val (.int l0), .val (.int l1), .val (.int q0), .val (.int q1), .val (.int (0 : Int32)), .val (.ref x2), .val (.ref x3), .val (.ref x4), .val (.ref x7), .val (.ref b12), .unset] []))
    refine Go.st (fun _ kt => XS.iload X19.here hx rfl (hb hby at_210) rfl kt) ?_
    show Go p e below _ (T19.setTop (mkF m 212 #[.val (.int fa), .val (.int fb), .val (.int fc), .val (.int fs), .val (.int u1), .val (.int u2), .val (.int u3), .val (.int md), .val (.int l0), .val (.int l1), .val (.int r0), .val (.int r1), .val (.int l0), .val (.int l1), .val (.int q0), .val (.int q1), .val (.int (0 : Int32)), .val (.ref x2), .val (.ref x3), .val (.ref x4), .val (.ref x7), .val (.ref b12), .unset] [(.int (0 : Int32))]))
    refine Go.st (fun _ kt => XS.ifNo X19.here hx rfl (hb hby at_212) rfl ((if0 _ _).trans (teq (by decide : (0 : Int32) = (0 : Int32))).2) kt) ?_
    show Go p e below _ (T19.setTop (mkF m 215 #[.val (.int fa), .val (.int fb), .val (.int fc), .val (.int fs), .val (.int u1), .val (.int u2), .val (.int u3), .val (.int md), .val (.int l0), .val (.int l1), .val (.int r0), .val (.int r1), .val (.int l0), .val (.int l1), .val (.int q0), .val (.int q1), .val (.int (0 : Int32)), .val (.ref x2), .val (.ref x3), .val (.ref x4), .val (.ref x7), .val (.ref b12), .unset] []))
    refine Go.st (fun _ kt => XS.iload X19.here hx rfl (hb hby at_215) rfl kt) ?_
    show Go p e below _ (T19.setTop (mkF m 217 #[.val (.int fa), .val (.int fb), .val (.int fc), .val (.int fs), .val (.int u1), .val (.int u2), .val (.int u3), .val (.int md), .val (.int l0), .val (.int l1), .val (.int r0), .val (.int r1), .val (.int l0), .val (.int l1), .val (.int q0), .val (.int q1), .val (.int (0 : Int32)), .val (.ref x2), .val (.ref x3), .val (.ref x4), .val (.ref x7), .val (.ref b12), .unset] [(.int u3)]))
    refine Go.st (fun _ kt => XS.iload X19.here hx rfl (hb hby at_217) rfl kt) ?_
    show Go p e below _ (T19.setTop (mkF m 219 #[.val (.int fa), .val (.int fb), .val (.int fc), .val (.int fs), .val (.int u1), .val (.int u2), .val (.int u3), .val (.int md), .val (.int l0), .val (.int l1), .val (.int r0), .val (.int r1), .val (.int l0), .val (.int l1), .val (.int q0), .val (.int q1), .val (.int (0 : Int32)), .val (.ref x2), .val (.ref x3), .val (.ref x4), .val (.ref x7), .val (.ref b12), .unset] [(.int q0), (.int u3)]))
    refine Go.st (fun _ kt => XS.iload X19.here hx rfl (hb hby at_219) rfl kt) ?_
    show Go p e below _ (T19.setTop (mkF m 221 #[.val (.int fa), .val (.int fb), .val (.int fc), .val (.int fs), .val (.int u1), .val (.int u2), .val (.int u3), .val (.int md), .val (.int l0), .val (.int l1), .val (.int r0), .val (.int r1), .val (.int l0), .val (.int l1), .val (.int q0), .val (.int q1), .val (.int (0 : Int32)), .val (.ref x2), .val (.ref x3), .val (.ref x4), .val (.ref x7), .val (.ref b12), .unset] [(.int q1), (.int q0), (.int u3)]))
    refine Go.st (fun _ kt => XS.iload X19.here hx rfl (hb hby at_221) rfl kt) ?_
    show Go p e below _ (T19.setTop (mkF m 223 #[.val (.int fa), .val (.int fb), .val (.int fc), .val (.int fs), .val (.int u1), .val (.int u2), .val (.int u3), .val (.int md), .val (.int l0), .val (.int l1), .val (.int r0), .val (.int r1), .val (.int l0), .val (.int l1), .val (.int q0), .val (.int q1), .val (.int (0 : Int32)), .val (.ref x2), .val (.ref x3), .val (.ref x4), .val (.ref x7), .val (.ref b12), .unset] [(.int u1), (.int q1), (.int q0), (.int u3)]))
    refine Go.st (fun _ kt => XS.iload X19.here hx rfl (hb hby at_223) rfl kt) ?_
    show Go p e below _ (T19.setTop (mkF m 225 #[.val (.int fa), .val (.int fb), .val (.int fc), .val (.int fs), .val (.int u1), .val (.int u2), .val (.int u3), .val (.int md), .val (.int l0), .val (.int l1), .val (.int r0), .val (.int r1), .val (.int l0), .val (.int l1), .val (.int q0), .val (.int q1), .val (.int (0 : Int32)), .val (.ref x2), .val (.ref x3), .val (.ref x4), .val (.ref x7), .val (.ref b12), .unset] [(.int l0), (.int u1), (.int q1), (.int q0), (.int u3)]))
    refine Go.st (fun _ kt => XS.iload X19.here hx rfl (hb hby at_225) rfl kt) ?_
    show Go p e below _ (T19.setTop (mkF m 227 #[.val (.int fa), .val (.int fb), .val (.int fc), .val (.int fs), .val (.int u1), .val (.int u2), .val (.int u3), .val (.int md), .val (.int l0), .val (.int l1), .val (.int r0), .val (.int r1), .val (.int l0), .val (.int l1), .val (.int q0), .val (.int q1), .val (.int (0 : Int32)), .val (.ref x2), .val (.ref x3), .val (.ref x4), .val (.ref x7), .val (.ref b12), .unset] [(.int l1), (.int l0), (.int u1), (.int q1), (.int q0), (.int u3)]))
    obtain ⟨_, _, ⟨T20, L20, k20, n20⟩, -, X20, ⟨Lc20, hQ20, l20, y20, z20⟩, st20⟩ := Jvm.LawKit.callS X19 hx (y := (⟨"com/example/manyhands/manyhands/crowd/OrderingTakesPinLaw", "same", "(IIIIII)Z"⟩ : MethodName)) hown (mvT hZ (hw _ (List.mem_of_getElem? (i := 76) rfl))) (mvT hZ (hw _ (List.mem_of_getElem? (i := 77) rfl))) (mvT hZ (hw _ (List.mem_of_getElem? (i := 2) rfl))) (mvT hZ (hw _ (List.mem_of_getElem? (i := 78) rfl))) (by decide) (backOf (W := 0) (rm15 l Z a0 hw [] u3 q0 q1 u1 l0 l1 T19.heap n0 Zs19) hZ (hw _ (List.mem_of_getElem? (i := 78) rfl)) (hw _ (List.mem_of_getElem? (i := 2) rfl)) (by decide) (by decide)) (g := (mkF m 227 #[.val (.int fa), .val (.int fb), .val (.int fc), .val (.int fs), .val (.int u1), .val (.int u2), .val (.int u3), .val (.int md), .val (.int l0), .val (.int l1), .val (.int r0), .val (.int r1), .val (.int l0), .val (.int l1), .val (.int q0), .val (.int q1), .val (.int (0 : Int32)), .val (.ref x2), .val (.ref x3), .val (.ref x4), .val (.ref x7), .val (.ref b12), .unset] [(.int l1), (.int l0), (.int u1), (.int q1), (.int q0), (.int u3)])) rfl (by rw [hml]; rfl) (argsL := [(.int u3), (.int q0), (.int q1), (.int u1), (.int l0), (.int l1)]) (rest := []) (lenOf own_pd17 rfl) rfl (by show 2 * 0 + _ ≤ _; exact Nat.le_of_eq rfl) (hb hby at_227) (fun _ _ => ⟨rfl, rfl, (by decide : 21 + 0 ≤ _), (by decide : 112 + 0 ≤ _)⟩)
    dsimp only [Pt.U, Pt.locs, Pt.cells, Pt.slots] at X20 l20 y20 z20 st20 hQ20
    subst l20 y20 z20
    obtain ⟨rfl, N20q, e20⟩ := hQ20
    have N20 := Fr.app N19 N20q
    refine Go.st st20 ?_
    show Go p e below _ (T20.setTop (mkF m 230 #[.val (.int fa), .val (.int fb), .val (.int fc), .val (.int fs), .val (.int u1), .val (.int u2), .val (.int u3), .val (.int md), .val (.int l0), .val (.int l1), .val (.int r0), .val (.int r1), .val (.int l0), .val (.int l1), .val (.int q0), .val (.int q1), .val (.int (0 : Int32)), .val (.ref x2), .val (.ref x3), .val (.ref x4), .val (.ref x7), .val (.ref b12), .unset] [(.int (own_same u3 q0 q1 u1 l0 l1))]))
    by_cases hc230_21 : (own_same u3 q0 q1 u1 l0 l1) = (0 : Int32)
    · refine Go.st (fun _ kt => XS.ifNo X20.here hx rfl (hb hby at_230) rfl ((if0 _ _).trans (teq hc230_21).2) kt) ?_
      show Go p e below _ (T20.setTop (mkF m 233 #[.val (.int fa), .val (.int fb), .val (.int fc), .val (.int fs), .val (.int u1), .val (.int u2), .val (.int u3), .val (.int md), .val (.int l0), .val (.int l1), .val (.int r0), .val (.int r1), .val (.int l0), .val (.int l1), .val (.int q0), .val (.int q1), .val (.int (0 : Int32)), .val (.ref x2), .val (.ref x3), .val (.ref x4), .val (.ref x7), .val (.ref b12), .unset] []))
      refine Go.st (fun _ kt => XS.iload X20.here hx rfl (hb hby at_233) rfl kt) ?_
      show Go p e below _ (T20.setTop (mkF m 235 #[.val (.int fa), .val (.int fb), .val (.int fc), .val (.int fs), .val (.int u1), .val (.int u2), .val (.int u3), .val (.int md), .val (.int l0), .val (.int l1), .val (.int r0), .val (.int r1), .val (.int l0), .val (.int l1), .val (.int q0), .val (.int q1), .val (.int (0 : Int32)), .val (.ref x2), .val (.ref x3), .val (.ref x4), .val (.ref x7), .val (.ref b12), .unset] [(.int u3)]))
      refine Go.st (fun _ kt => XS.iload X20.here hx rfl (hb hby at_235) rfl kt) ?_
      show Go p e below _ (T20.setTop (mkF m 237 #[.val (.int fa), .val (.int fb), .val (.int fc), .val (.int fs), .val (.int u1), .val (.int u2), .val (.int u3), .val (.int md), .val (.int l0), .val (.int l1), .val (.int r0), .val (.int r1), .val (.int l0), .val (.int l1), .val (.int q0), .val (.int q1), .val (.int (0 : Int32)), .val (.ref x2), .val (.ref x3), .val (.ref x4), .val (.ref x7), .val (.ref b12), .unset] [(.int q0), (.int u3)]))
      refine Go.st (fun _ kt => XS.iload X20.here hx rfl (hb hby at_237) rfl kt) ?_
      show Go p e below _ (T20.setTop (mkF m 239 #[.val (.int fa), .val (.int fb), .val (.int fc), .val (.int fs), .val (.int u1), .val (.int u2), .val (.int u3), .val (.int md), .val (.int l0), .val (.int l1), .val (.int r0), .val (.int r1), .val (.int l0), .val (.int l1), .val (.int q0), .val (.int q1), .val (.int (0 : Int32)), .val (.ref x2), .val (.ref x3), .val (.ref x4), .val (.ref x7), .val (.ref b12), .unset] [(.int q1), (.int q0), (.int u3)]))
      refine Go.st (fun _ kt => XS.iload X20.here hx rfl (hb hby at_239) rfl kt) ?_
      show Go p e below _ (T20.setTop (mkF m 241 #[.val (.int fa), .val (.int fb), .val (.int fc), .val (.int fs), .val (.int u1), .val (.int u2), .val (.int u3), .val (.int md), .val (.int l0), .val (.int l1), .val (.int r0), .val (.int r1), .val (.int l0), .val (.int l1), .val (.int q0), .val (.int q1), .val (.int (0 : Int32)), .val (.ref x2), .val (.ref x3), .val (.ref x4), .val (.ref x7), .val (.ref b12), .unset] [(.int u2), (.int q1), (.int q0), (.int u3)]))
      refine Go.st (fun _ kt => XS.iload X20.here hx rfl (hb hby at_241) rfl kt) ?_
      show Go p e below _ (T20.setTop (mkF m 243 #[.val (.int fa), .val (.int fb), .val (.int fc), .val (.int fs), .val (.int u1), .val (.int u2), .val (.int u3), .val (.int md), .val (.int l0), .val (.int l1), .val (.int r0), .val (.int r1), .val (.int l0), .val (.int l1), .val (.int q0), .val (.int q1), .val (.int (0 : Int32)), .val (.ref x2), .val (.ref x3), .val (.ref x4), .val (.ref x7), .val (.ref b12), .unset] [(.int r0), (.int u2), (.int q1), (.int q0), (.int u3)]))
      refine Go.st (fun _ kt => XS.iload X20.here hx rfl (hb hby at_243) rfl kt) ?_
      show Go p e below _ (T20.setTop (mkF m 245 #[.val (.int fa), .val (.int fb), .val (.int fc), .val (.int fs), .val (.int u1), .val (.int u2), .val (.int u3), .val (.int md), .val (.int l0), .val (.int l1), .val (.int r0), .val (.int r1), .val (.int l0), .val (.int l1), .val (.int q0), .val (.int q1), .val (.int (0 : Int32)), .val (.ref x2), .val (.ref x3), .val (.ref x4), .val (.ref x7), .val (.ref b12), .unset] [(.int r1), (.int r0), (.int u2), (.int q1), (.int q0), (.int u3)]))
      obtain ⟨_, _, ⟨T22, L22, k22, n22⟩, -, X22, ⟨Lc22, hQ22, l22, y22, z22⟩, st22⟩ := Jvm.LawKit.callS X20 hx (y := (⟨"com/example/manyhands/manyhands/crowd/OrderingTakesPinLaw", "same", "(IIIIII)Z"⟩ : MethodName)) hown (mvT hZ (hw _ (List.mem_of_getElem? (i := 76) rfl))) (mvT hZ (hw _ (List.mem_of_getElem? (i := 77) rfl))) (mvT hZ (hw _ (List.mem_of_getElem? (i := 2) rfl))) (mvT hZ (hw _ (List.mem_of_getElem? (i := 78) rfl))) (by decide) (backOf (W := 0) (rm15 l Z a0 hw [] u3 q0 q1 u2 r0 r1 T19.heap n0 Zs19) hZ (hw _ (List.mem_of_getElem? (i := 78) rfl)) (hw _ (List.mem_of_getElem? (i := 2) rfl)) (by decide) (by decide)) (g := (mkF m 245 #[.val (.int fa), .val (.int fb), .val (.int fc), .val (.int fs), .val (.int u1), .val (.int u2), .val (.int u3), .val (.int md), .val (.int l0), .val (.int l1), .val (.int r0), .val (.int r1), .val (.int l0), .val (.int l1), .val (.int q0), .val (.int q1), .val (.int (0 : Int32)), .val (.ref x2), .val (.ref x3), .val (.ref x4), .val (.ref x7), .val (.ref b12), .unset] [(.int r1), (.int r0), (.int u2), (.int q1), (.int q0), (.int u3)])) rfl (by rw [hml]; rfl) (argsL := [(.int u3), (.int q0), (.int q1), (.int u2), (.int r0), (.int r1)]) (rest := []) (lenOf own_pd17 rfl) rfl (by show 2 * 0 + _ ≤ _; exact Nat.le_of_eq rfl) (hb hby at_245) (fun _ _ => ⟨rfl, e20, (by decide : 21 + 0 ≤ _), (by decide : 112 + 0 ≤ _)⟩)
      dsimp only [Pt.U, Pt.locs, Pt.cells, Pt.slots] at X22 l22 y22 z22 st22 hQ22
      subst l22 y22 z22
      obtain ⟨rfl, N22q, e22⟩ := hQ22
      have N22 := Fr.app N20 N22q
      refine Go.st st22 ?_
      show Go p e below _ (T22.setTop (mkF m 248 #[.val (.int fa), .val (.int fb), .val (.int fc), .val (.int fs), .val (.int u1), .val (.int u2), .val (.int u3), .val (.int md), .val (.int l0), .val (.int l1), .val (.int r0), .val (.int r1), .val (.int l0), .val (.int l1), .val (.int q0), .val (.int q1), .val (.int (0 : Int32)), .val (.ref x2), .val (.ref x3), .val (.ref x4), .val (.ref x7), .val (.ref b12), .unset] [(.int (own_same u3 q0 q1 u2 r0 r1))]))
      by_cases hc248_23 : (own_same u3 q0 q1 u2 r0 r1) = (0 : Int32)
      · refine Go.st (fun _ kt => XS.ifYes X22.here hx rfl (pc0 := 248) (pc' := 255) rfl (hb hby at_248) rfl ((if0 _ _).trans (teq hc248_23).1) (by decide) (by decide) kt) ?_
        show Go p e below _ (T22.setTop (mkF m 255 #[.val (.int fa), .val (.int fb), .val (.int fc), .val (.int fs), .val (.int u1), .val (.int u2), .val (.int u3), .val (.int md), .val (.int l0), .val (.int l1), .val (.int r0), .val (.int r1), .val (.int l0), .val (.int l1), .val (.int q0), .val (.int q1), .val (.int (0 : Int32)), .val (.ref x2), .val (.ref x3), .val (.ref x4), .val (.ref x7), .val (.ref b12), .unset] []))
        refine Go.st (fun _ kt => XS.iconst X22.here hx rfl (hb hby at_255) kt) ?_
        show Go p e below _ (T22.setTop (mkF m 256 #[.val (.int fa), .val (.int fb), .val (.int fc), .val (.int fs), .val (.int u1), .val (.int u2), .val (.int u3), .val (.int md), .val (.int l0), .val (.int l1), .val (.int r0), .val (.int r1), .val (.int l0), .val (.int l1), .val (.int q0), .val (.int q1), .val (.int (0 : Int32)), .val (.ref x2), .val (.ref x3), .val (.ref x4), .val (.ref x7), .val (.ref b12), .unset] [(.int (0 : Int32))]))
        refine Go.st (fun _ kt => XS.istore X22.here hx rfl (hb hby at_256) rfl (l' := #[.val (.int fa), .val (.int fb), .val (.int fc), .val (.int fs), .val (.int u1), .val (.int u2), .val (.int u3), .val (.int md), .val (.int l0), .val (.int l1), .val (.int r0), .val (.int r1), .val (.int l0), .val (.int l1), .val (.int q0), .val (.int q1), .val (.int (0 : Int32)), .val (.ref x2), .val (.ref x3), .val (.ref x4), .val (.ref x7), .val (.ref b12), .val (.int (0 : Int32))]) rfl kt) ?_
        show Go p e below _ (T22.setTop (mkF m 258 #[.val (.int fa), .val (.int fb), .val (.int fc), .val (.int fs), .val (.int u1), .val (.int u2), .val (.int u3), .val (.int md), .val (.int l0), .val (.int l1), .val (.int r0), .val (.int r1), .val (.int l0), .val (.int l1), .val (.int q0), .val (.int q1), .val (.int (0 : Int32)), .val (.ref x2), .val (.ref x3), .val (.ref x4), .val (.ref x7), .val (.ref b12), .val (.int (0 : Int32))] []))
        refine Go.st (fun _ kt => XS.aload X22.here hx rfl (hb hby at_258) rfl rfl kt) ?_
        show Go p e below _ (T22.setTop (mkF m 260 #[.val (.int fa), .val (.int fb), .val (.int fc), .val (.int fs), .val (.int u1), .val (.int u2), .val (.int u3), .val (.int md), .val (.int l0), .val (.int l1), .val (.int r0), .val (.int r1), .val (.int l0), .val (.int l1), .val (.int q0), .val (.int q1), .val (.int (0 : Int32)), .val (.ref x2), .val (.ref x3), .val (.ref x4), .val (.ref x7), .val (.ref b12), .val (.int (0 : Int32))] [(.ref b12)]))
        refine Go.st (fun _ kt => XS.aload X22.here hx rfl (hb hby at_260) rfl rfl kt) ?_
        show Go p e below _ (T22.setTop (mkF m 262 #[.val (.int fa), .val (.int fb), .val (.int fc), .val (.int fs), .val (.int u1), .val (.int u2), .val (.int u3), .val (.int md), .val (.int l0), .val (.int l1), .val (.int r0), .val (.int r1), .val (.int l0), .val (.int l1), .val (.int q0), .val (.int q1), .val (.int (0 : Int32)), .val (.ref x2), .val (.ref x3), .val (.ref x4), .val (.ref x7), .val (.ref b12), .val (.int (0 : Int32))] [(.ref x4), (.ref b12)]))
        have f24 := (A12.keep K19q)
        have f25 := ((f13.ext E12).keep K19q)
        have f26 := (((((C2s.keep K3q nin0).keep K4q nin0).keep K7q nin0).ext E12).keep K19q (ninS (Nat.ne_of_lt lt_x2_b12) nin0))
        have f27 := (((((V2s.keep K3q nin0).keep K4q nin0).keep K7q nin0).ext E12).keep K19q (ninS (Nat.ne_of_lt lt_x2_b12) nin0))
        have f28 := ((f14.ext E12).keep K19q (ninS (Nat.ne_of_lt lt_t2_b12) nin0))
        have f29 := ((f15.ext E12).keep K19q)
        have f30 := ((((C3s.keep K4q nin0).keep K7q nin0).ext E12).keep K19q (ninS (Nat.ne_of_lt lt_x3_b12) nin0))
        have f31 := ((((V3s.keep K4q nin0).keep K7q nin0).ext E12).keep K19q (ninS (Nat.ne_of_lt lt_x3_b12) nin0))
        have f32 := ((f16.ext E12).keep K19q (ninS (Nat.ne_of_lt lt_t3_b12) nin0))
        have f33 := ((f17.ext E12).keep K19q)
        have f34 := (((C4s.keep K7q nin0).ext E12).keep K19q (ninS (Nat.ne_of_lt lt_x4_b12) nin0))
        have f35 := (((V4s.keep K7q nin0).ext E12).keep K19q (ninS (Nat.ne_of_lt lt_x4_b12) nin0))
        have f36 := ((f18.ext E12).keep K19q (ninS (Nat.ne_of_lt lt_t4_b12) nin0))
        obtain ⟨cq37, kq37, q37a, q37b, q37c⟩ := isOf hZ e22 f24
        obtain ⟨_, _, ⟨T37, L37, k37, n37⟩, -, X37, ⟨Lc37, hQ37, l37, y37, z37⟩, st37⟩ := X22.virtualBack hx (y := (⟨"com/example/manyhands/manyhands/crowd/Ordering", "takes", "(Ljava/lang/String;)Z"⟩ : MethodName)) (z := (⟨"com/example/manyhands/manyhands/crowd/Ordering", "takes", "(Ljava/lang/String;)Z"⟩ : MethodName)) hown (mvT hZ (hw _ (List.mem_of_getElem? (i := 79) rfl))) (mvT hZ (hw _ (List.mem_of_getElem? (i := 80) rfl))) (notFace_of_selects (args := #[]) (mvT hZ (hw _ (List.mem_of_getElem? (i := 82) rfl)))) (mvT hZ (hw _ (List.mem_of_getElem? (i := 82) rfl))) (mvT hZ (hw _ (List.mem_of_getElem? (i := 81) rfl))) (by decide) (backOf (W := 0) (rm16c l Z a0 hw [] b12 x4 x2 x3 t2 kb2 (own_cs u1 l0 l1) t3 kb3 (own_cs u2 r0 r1) t4 kb4 (own_cs u3 q0 q1) G1 T19.heap n0 Zs19 f24 Fle19 Fri19 ⟨f25, f26, f27, f28⟩ (own_csb bl0 bl1) (own_csl _ _ _) ⟨f29, f30, f31, f32⟩ (own_csb br0 br1) (own_csl _ _ _) ⟨f33, f34, f35, f36⟩ (own_csb bq0 bq1) (own_csl _ _ _) O2 P5 (own_EX X22 e22 N22 hz0 hh XE) hz0 ((own_sameZ bu3 bu1).mp hc230_21) ((own_sameZ bu3 bu2).mp hc248_23)) hZ (hw _ (List.mem_of_getElem? (i := 83) rfl)) (hw _ (List.mem_of_getElem? (i := 53) rfl)) (by decide) (by decide)) q37a q37c (g := (mkF m 262 #[.val (.int fa), .val (.int fb), .val (.int fc), .val (.int fs), .val (.int u1), .val (.int u2), .val (.int u3), .val (.int md), .val (.int l0), .val (.int l1), .val (.int r0), .val (.int r1), .val (.int l0), .val (.int l1), .val (.int q0), .val (.int q1), .val (.int (0 : Int32)), .val (.ref x2), .val (.ref x3), .val (.ref x4), .val (.ref x7), .val (.ref b12), .val (.int (0 : Int32))] [(.ref x4), (.ref b12)])) rfl (by rw [hml]; rfl) (Steps.refl _) (argsL := [(.ref x4)]) (rest := []) (lenOf own_pd18 rfl) rfl (by show 2 * 0 + _ ≤ _; exact Nat.le_of_eq rfl) (hb hby at_262) (fun _ _ => ⟨rfl, e22, (by decide : 21 + 0 ≤ _), (by decide : 112 + 0 ≤ _)⟩)
        dsimp only [Pt.U, Pt.locs, Pt.cells, Pt.slots] at X37 l37 y37 z37 st37 hQ37
        subst l37 y37 z37
        obtain ⟨rfl, N37q, e37⟩ := hQ37
        have N37 := Fr.app N22 N37q
        refine Go.tr st37 ?_
        show Go p e below _ (T37.setTop (mkF m 265 #[.val (.int fa), .val (.int fb), .val (.int fc), .val (.int fs), .val (.int u1), .val (.int u2), .val (.int u3), .val (.int md), .val (.int l0), .val (.int l1), .val (.int r0), .val (.int r1), .val (.int l0), .val (.int l1), .val (.int q0), .val (.int q1), .val (.int (0 : Int32)), .val (.ref x2), .val (.ref x3), .val (.ref x4), .val (.ref x7), .val (.ref b12), .val (.int (0 : Int32))] [(.int (0 : Int32))]))
        refine Go.st (fun _ kt => XS.iload X37.here hx rfl (hb hby at_265) rfl kt) ?_
        show Go p e below _ (T37.setTop (mkF m 267 #[.val (.int fa), .val (.int fb), .val (.int fc), .val (.int fs), .val (.int u1), .val (.int u2), .val (.int u3), .val (.int md), .val (.int l0), .val (.int l1), .val (.int r0), .val (.int r1), .val (.int l0), .val (.int l1), .val (.int q0), .val (.int q1), .val (.int (0 : Int32)), .val (.ref x2), .val (.ref x3), .val (.ref x4), .val (.ref x7), .val (.ref b12), .val (.int (0 : Int32))] [(.int (0 : Int32)), (.int (0 : Int32))]))
        refine Go.st (fun _ kt => XS.icmpNo X37.here hx rfl (hb hby at_267) rfl (teq (by decide : (0 : Int32) = (0 : Int32))).2 kt) ?_
        show Go p e below _ (T37.setTop (mkF m 270 #[.val (.int fa), .val (.int fb), .val (.int fc), .val (.int fs), .val (.int u1), .val (.int u2), .val (.int u3), .val (.int md), .val (.int l0), .val (.int l1), .val (.int r0), .val (.int r1), .val (.int l0), .val (.int l1), .val (.int q0), .val (.int q1), .val (.int (0 : Int32)), .val (.ref x2), .val (.ref x3), .val (.ref x4), .val (.ref x7), .val (.ref b12), .val (.int (0 : Int32))] []))
        refine Go.st (fun _ kt => XS.iconst X37.here hx rfl (hb hby at_270) kt) ?_
        show Go p e below _ (T37.setTop (mkF m 271 #[.val (.int fa), .val (.int fb), .val (.int fc), .val (.int fs), .val (.int u1), .val (.int u2), .val (.int u3), .val (.int md), .val (.int l0), .val (.int l1), .val (.int r0), .val (.int r1), .val (.int l0), .val (.int l1), .val (.int q0), .val (.int q1), .val (.int (0 : Int32)), .val (.ref x2), .val (.ref x3), .val (.ref x4), .val (.ref x7), .val (.ref b12), .val (.int (0 : Int32))] [(.int (1 : Int32))]))
        refine Go.st (fun _ kt => XS.goto X37.here hx rfl (pc0 := 271) (pc' := 275) rfl (hb hby at_271) (by decide) (by decide) kt) ?_
        show Go p e below _ (T37.setTop (mkF m 275 #[.val (.int fa), .val (.int fb), .val (.int fc), .val (.int fs), .val (.int u1), .val (.int u2), .val (.int u3), .val (.int md), .val (.int l0), .val (.int l1), .val (.int r0), .val (.int r1), .val (.int l0), .val (.int l1), .val (.int q0), .val (.int q1), .val (.int (0 : Int32)), .val (.ref x2), .val (.ref x3), .val (.ref x4), .val (.ref x7), .val (.ref b12), .val (.int (0 : Int32))] [(.int (1 : Int32))]))
        refine Go.retNS X37 hx (t := .boolean) Bd.returns (by simp) (BodyLoose.notSynchronized Bd) hS19 (by rw [e37]; exact (Nat.le_refl _)) (hb hby at_275) (Q := (Q_rm0 Z fa fb fc fs G1 h0 n0)) (by decide) (by decide) ?_
        intro vm2 hW2
        show (Q_rm0 Z fa fb fc fs G1 h0 n0) _ vm2 T37.heap _
        rw [e37]
        exact ⟨rfl, N37⟩
      · refine Go.st (fun _ kt => XS.ifNo X22.here hx rfl (hb hby at_248) rfl ((if0 _ _).trans (feq hc248_23).1) kt) ?_
        show Go p e below _ (T22.setTop (mkF m 251 #[.val (.int fa), .val (.int fb), .val (.int fc), .val (.int fs), .val (.int u1), .val (.int u2), .val (.int u3), .val (.int md), .val (.int l0), .val (.int l1), .val (.int r0), .val (.int r1), .val (.int l0), .val (.int l1), .val (.int q0), .val (.int q1), .val (.int (0 : Int32)), .val (.ref x2), .val (.ref x3), .val (.ref x4), .val (.ref x7), .val (.ref b12), .unset] []))
        refine Go.st (fun _ kt => XS.iconst X22.here hx rfl (hb hby at_251) kt) ?_
        show Go p e below _ (T22.setTop (mkF m 252 #[.val (.int fa), .val (.int fb), .val (.int fc), .val (.int fs), .val (.int u1), .val (.int u2), .val (.int u3), .val (.int md), .val (.int l0), .val (.int l1), .val (.int r0), .val (.int r1), .val (.int l0), .val (.int l1), .val (.int q0), .val (.int q1), .val (.int (0 : Int32)), .val (.ref x2), .val (.ref x3), .val (.ref x4), .val (.ref x7), .val (.ref b12), .unset] [(.int (1 : Int32))]))
        refine Go.st (fun _ kt => XS.goto X22.here hx rfl (pc0 := 252) (pc' := 256) rfl (hb hby at_252) (by decide) (by decide) kt) ?_
        show Go p e below _ (T22.setTop (mkF m 256 #[.val (.int fa), .val (.int fb), .val (.int fc), .val (.int fs), .val (.int u1), .val (.int u2), .val (.int u3), .val (.int md), .val (.int l0), .val (.int l1), .val (.int r0), .val (.int r1), .val (.int l0), .val (.int l1), .val (.int q0), .val (.int q1), .val (.int (0 : Int32)), .val (.ref x2), .val (.ref x3), .val (.ref x4), .val (.ref x7), .val (.ref b12), .unset] [(.int (1 : Int32))]))
        refine Go.st (fun _ kt => XS.istore X22.here hx rfl (hb hby at_256) rfl (l' := #[.val (.int fa), .val (.int fb), .val (.int fc), .val (.int fs), .val (.int u1), .val (.int u2), .val (.int u3), .val (.int md), .val (.int l0), .val (.int l1), .val (.int r0), .val (.int r1), .val (.int l0), .val (.int l1), .val (.int q0), .val (.int q1), .val (.int (0 : Int32)), .val (.ref x2), .val (.ref x3), .val (.ref x4), .val (.ref x7), .val (.ref b12), .val (.int (1 : Int32))]) rfl kt) ?_
        show Go p e below _ (T22.setTop (mkF m 258 #[.val (.int fa), .val (.int fb), .val (.int fc), .val (.int fs), .val (.int u1), .val (.int u2), .val (.int u3), .val (.int md), .val (.int l0), .val (.int l1), .val (.int r0), .val (.int r1), .val (.int l0), .val (.int l1), .val (.int q0), .val (.int q1), .val (.int (0 : Int32)), .val (.ref x2), .val (.ref x3), .val (.ref x4), .val (.ref x7), .val (.ref b12), .val (.int (1 : Int32))] []))
        refine Go.st (fun _ kt => XS.aload X22.here hx rfl (hb hby at_258) rfl rfl kt) ?_
        show Go p e below _ (T22.setTop (mkF m 260 #[.val (.int fa), .val (.int fb), .val (.int fc), .val (.int fs), .val (.int u1), .val (.int u2), .val (.int u3), .val (.int md), .val (.int l0), .val (.int l1), .val (.int r0), .val (.int r1), .val (.int l0), .val (.int l1), .val (.int q0), .val (.int q1), .val (.int (0 : Int32)), .val (.ref x2), .val (.ref x3), .val (.ref x4), .val (.ref x7), .val (.ref b12), .val (.int (1 : Int32))] [(.ref b12)]))
        refine Go.st (fun _ kt => XS.aload X22.here hx rfl (hb hby at_260) rfl rfl kt) ?_
        show Go p e below _ (T22.setTop (mkF m 262 #[.val (.int fa), .val (.int fb), .val (.int fc), .val (.int fs), .val (.int u1), .val (.int u2), .val (.int u3), .val (.int md), .val (.int l0), .val (.int l1), .val (.int r0), .val (.int r1), .val (.int l0), .val (.int l1), .val (.int q0), .val (.int q1), .val (.int (0 : Int32)), .val (.ref x2), .val (.ref x3), .val (.ref x4), .val (.ref x7), .val (.ref b12), .val (.int (1 : Int32))] [(.ref x4), (.ref b12)]))
        have f38 := (A12.keep K19q)
        have f39 := ((f13.ext E12).keep K19q)
        have f40 := (((((C2s.keep K3q nin0).keep K4q nin0).keep K7q nin0).ext E12).keep K19q (ninS (Nat.ne_of_lt lt_x2_b12) nin0))
        have f41 := (((((V2s.keep K3q nin0).keep K4q nin0).keep K7q nin0).ext E12).keep K19q (ninS (Nat.ne_of_lt lt_x2_b12) nin0))
        have f42 := ((f14.ext E12).keep K19q (ninS (Nat.ne_of_lt lt_t2_b12) nin0))
        have f43 := ((f15.ext E12).keep K19q)
        have f44 := ((((C3s.keep K4q nin0).keep K7q nin0).ext E12).keep K19q (ninS (Nat.ne_of_lt lt_x3_b12) nin0))
        have f45 := ((((V3s.keep K4q nin0).keep K7q nin0).ext E12).keep K19q (ninS (Nat.ne_of_lt lt_x3_b12) nin0))
        have f46 := ((f16.ext E12).keep K19q (ninS (Nat.ne_of_lt lt_t3_b12) nin0))
        have f47 := ((f17.ext E12).keep K19q)
        have f48 := (((C4s.keep K7q nin0).ext E12).keep K19q (ninS (Nat.ne_of_lt lt_x4_b12) nin0))
        have f49 := (((V4s.keep K7q nin0).ext E12).keep K19q (ninS (Nat.ne_of_lt lt_x4_b12) nin0))
        have f50 := ((f18.ext E12).keep K19q (ninS (Nat.ne_of_lt lt_t4_b12) nin0))
        obtain ⟨cq51, kq51, q51a, q51b, q51c⟩ := isOf hZ e22 f38
        obtain ⟨_, _, ⟨T51, L51, k51, n51⟩, -, X51, ⟨Lc51, hQ51, l51, y51, z51⟩, st51⟩ := X22.virtualBack hx (y := (⟨"com/example/manyhands/manyhands/crowd/Ordering", "takes", "(Ljava/lang/String;)Z"⟩ : MethodName)) (z := (⟨"com/example/manyhands/manyhands/crowd/Ordering", "takes", "(Ljava/lang/String;)Z"⟩ : MethodName)) hown (mvT hZ (hw _ (List.mem_of_getElem? (i := 79) rfl))) (mvT hZ (hw _ (List.mem_of_getElem? (i := 80) rfl))) (notFace_of_selects (args := #[]) (mvT hZ (hw _ (List.mem_of_getElem? (i := 82) rfl)))) (mvT hZ (hw _ (List.mem_of_getElem? (i := 82) rfl))) (mvT hZ (hw _ (List.mem_of_getElem? (i := 81) rfl))) (by decide) (backOf (W := 0) (rm16b l Z a0 hw [] b12 x4 x2 x3 t2 kb2 (own_cs u1 l0 l1) t3 kb3 (own_cs u2 r0 r1) t4 kb4 (own_cs u3 q0 q1) G1 T19.heap n0 Zs19 f38 Fle19 Fri19 ⟨f39, f40, f41, f42⟩ (own_csb bl0 bl1) (own_csl _ _ _) ⟨f43, f44, f45, f46⟩ (own_csb br0 br1) (own_csl _ _ _) ⟨f47, f48, f49, f50⟩ (own_csb bq0 bq1) (own_csl _ _ _) O2 P5 (own_EX X22 e22 N22 hz0 hh XE) hz0 ((own_sameZ bu3 bu1).mp hc230_21) (Classical.not_not.mp fun q => hc248_23 ((own_sameZ bu3 bu2).mpr q))) hZ (hw _ (List.mem_of_getElem? (i := 83) rfl)) (hw _ (List.mem_of_getElem? (i := 53) rfl)) (by decide) (by decide)) q51a q51c (g := (mkF m 262 #[.val (.int fa), .val (.int fb), .val (.int fc), .val (.int fs), .val (.int u1), .val (.int u2), .val (.int u3), .val (.int md), .val (.int l0), .val (.int l1), .val (.int r0), .val (.int r1), .val (.int l0), .val (.int l1), .val (.int q0), .val (.int q1), .val (.int (0 : Int32)), .val (.ref x2), .val (.ref x3), .val (.ref x4), .val (.ref x7), .val (.ref b12), .val (.int (1 : Int32))] [(.ref x4), (.ref b12)])) rfl (by rw [hml]; rfl) (Steps.refl _) (argsL := [(.ref x4)]) (rest := []) (lenOf own_pd18 rfl) rfl (by show 2 * 0 + _ ≤ _; exact Nat.le_of_eq rfl) (hb hby at_262) (fun _ _ => ⟨rfl, e22, (by decide : 21 + 0 ≤ _), (by decide : 112 + 0 ≤ _)⟩)
        dsimp only [Pt.U, Pt.locs, Pt.cells, Pt.slots] at X51 l51 y51 z51 st51 hQ51
        subst l51 y51 z51
        obtain ⟨rfl, N51q, e51⟩ := hQ51
        have N51 := Fr.app N22 N51q
        refine Go.tr st51 ?_
        show Go p e below _ (T51.setTop (mkF m 265 #[.val (.int fa), .val (.int fb), .val (.int fc), .val (.int fs), .val (.int u1), .val (.int u2), .val (.int u3), .val (.int md), .val (.int l0), .val (.int l1), .val (.int r0), .val (.int r1), .val (.int l0), .val (.int l1), .val (.int q0), .val (.int q1), .val (.int (0 : Int32)), .val (.ref x2), .val (.ref x3), .val (.ref x4), .val (.ref x7), .val (.ref b12), .val (.int (1 : Int32))] [(.int (1 : Int32))]))
        refine Go.st (fun _ kt => XS.iload X51.here hx rfl (hb hby at_265) rfl kt) ?_
        show Go p e below _ (T51.setTop (mkF m 267 #[.val (.int fa), .val (.int fb), .val (.int fc), .val (.int fs), .val (.int u1), .val (.int u2), .val (.int u3), .val (.int md), .val (.int l0), .val (.int l1), .val (.int r0), .val (.int r1), .val (.int l0), .val (.int l1), .val (.int q0), .val (.int q1), .val (.int (0 : Int32)), .val (.ref x2), .val (.ref x3), .val (.ref x4), .val (.ref x7), .val (.ref b12), .val (.int (1 : Int32))] [(.int (1 : Int32)), (.int (1 : Int32))]))
        refine Go.st (fun _ kt => XS.icmpNo X51.here hx rfl (hb hby at_267) rfl (teq (by decide : (1 : Int32) = (1 : Int32))).2 kt) ?_
        show Go p e below _ (T51.setTop (mkF m 270 #[.val (.int fa), .val (.int fb), .val (.int fc), .val (.int fs), .val (.int u1), .val (.int u2), .val (.int u3), .val (.int md), .val (.int l0), .val (.int l1), .val (.int r0), .val (.int r1), .val (.int l0), .val (.int l1), .val (.int q0), .val (.int q1), .val (.int (0 : Int32)), .val (.ref x2), .val (.ref x3), .val (.ref x4), .val (.ref x7), .val (.ref b12), .val (.int (1 : Int32))] []))
        refine Go.st (fun _ kt => XS.iconst X51.here hx rfl (hb hby at_270) kt) ?_
        show Go p e below _ (T51.setTop (mkF m 271 #[.val (.int fa), .val (.int fb), .val (.int fc), .val (.int fs), .val (.int u1), .val (.int u2), .val (.int u3), .val (.int md), .val (.int l0), .val (.int l1), .val (.int r0), .val (.int r1), .val (.int l0), .val (.int l1), .val (.int q0), .val (.int q1), .val (.int (0 : Int32)), .val (.ref x2), .val (.ref x3), .val (.ref x4), .val (.ref x7), .val (.ref b12), .val (.int (1 : Int32))] [(.int (1 : Int32))]))
        refine Go.st (fun _ kt => XS.goto X51.here hx rfl (pc0 := 271) (pc' := 275) rfl (hb hby at_271) (by decide) (by decide) kt) ?_
        show Go p e below _ (T51.setTop (mkF m 275 #[.val (.int fa), .val (.int fb), .val (.int fc), .val (.int fs), .val (.int u1), .val (.int u2), .val (.int u3), .val (.int md), .val (.int l0), .val (.int l1), .val (.int r0), .val (.int r1), .val (.int l0), .val (.int l1), .val (.int q0), .val (.int q1), .val (.int (0 : Int32)), .val (.ref x2), .val (.ref x3), .val (.ref x4), .val (.ref x7), .val (.ref b12), .val (.int (1 : Int32))] [(.int (1 : Int32))]))
        refine Go.retNS X51 hx (t := .boolean) Bd.returns (by simp) (BodyLoose.notSynchronized Bd) hS19 (by rw [e51]; exact (Nat.le_refl _)) (hb hby at_275) (Q := (Q_rm0 Z fa fb fc fs G1 h0 n0)) (by decide) (by decide) ?_
        intro vm2 hW2
        show (Q_rm0 Z fa fb fc fs G1 h0 n0) _ vm2 T51.heap _
        rw [e51]
        exact ⟨rfl, N51⟩
    · refine Go.st (fun _ kt => XS.ifYes X20.here hx rfl (pc0 := 230) (pc' := 251) rfl (hb hby at_230) rfl ((if0 _ _).trans (feq hc230_21).2) (by decide) (by decide) kt) ?_
      show Go p e below _ (T20.setTop (mkF m 251 #[.val (.int fa), .val (.int fb), .val (.int fc), .val (.int fs), .val (.int u1), .val (.int u2), .val (.int u3), .val (.int md), .val (.int l0), .val (.int l1), .val (.int r0), .val (.int r1), .val (.int l0), .val (.int l1), .val (.int q0), .val (.int q1), .val (.int (0 : Int32)), .val (.ref x2), .val (.ref x3), .val (.ref x4), .val (.ref x7), .val (.ref b12), .unset] []))
      refine Go.st (fun _ kt => XS.iconst X20.here hx rfl (hb hby at_251) kt) ?_
      show Go p e below _ (T20.setTop (mkF m 252 #[.val (.int fa), .val (.int fb), .val (.int fc), .val (.int fs), .val (.int u1), .val (.int u2), .val (.int u3), .val (.int md), .val (.int l0), .val (.int l1), .val (.int r0), .val (.int r1), .val (.int l0), .val (.int l1), .val (.int q0), .val (.int q1), .val (.int (0 : Int32)), .val (.ref x2), .val (.ref x3), .val (.ref x4), .val (.ref x7), .val (.ref b12), .unset] [(.int (1 : Int32))]))
      refine Go.st (fun _ kt => XS.goto X20.here hx rfl (pc0 := 252) (pc' := 256) rfl (hb hby at_252) (by decide) (by decide) kt) ?_
      show Go p e below _ (T20.setTop (mkF m 256 #[.val (.int fa), .val (.int fb), .val (.int fc), .val (.int fs), .val (.int u1), .val (.int u2), .val (.int u3), .val (.int md), .val (.int l0), .val (.int l1), .val (.int r0), .val (.int r1), .val (.int l0), .val (.int l1), .val (.int q0), .val (.int q1), .val (.int (0 : Int32)), .val (.ref x2), .val (.ref x3), .val (.ref x4), .val (.ref x7), .val (.ref b12), .unset] [(.int (1 : Int32))]))
      refine Go.st (fun _ kt => XS.istore X20.here hx rfl (hb hby at_256) rfl (l' := #[.val (.int fa), .val (.int fb), .val (.int fc), .val (.int fs), .val (.int u1), .val (.int u2), .val (.int u3), .val (.int md), .val (.int l0), .val (.int l1), .val (.int r0), .val (.int r1), .val (.int l0), .val (.int l1), .val (.int q0), .val (.int q1), .val (.int (0 : Int32)), .val (.ref x2), .val (.ref x3), .val (.ref x4), .val (.ref x7), .val (.ref b12), .val (.int (1 : Int32))]) rfl kt) ?_
      show Go p e below _ (T20.setTop (mkF m 258 #[.val (.int fa), .val (.int fb), .val (.int fc), .val (.int fs), .val (.int u1), .val (.int u2), .val (.int u3), .val (.int md), .val (.int l0), .val (.int l1), .val (.int r0), .val (.int r1), .val (.int l0), .val (.int l1), .val (.int q0), .val (.int q1), .val (.int (0 : Int32)), .val (.ref x2), .val (.ref x3), .val (.ref x4), .val (.ref x7), .val (.ref b12), .val (.int (1 : Int32))] []))
      refine Go.st (fun _ kt => XS.aload X20.here hx rfl (hb hby at_258) rfl rfl kt) ?_
      show Go p e below _ (T20.setTop (mkF m 260 #[.val (.int fa), .val (.int fb), .val (.int fc), .val (.int fs), .val (.int u1), .val (.int u2), .val (.int u3), .val (.int md), .val (.int l0), .val (.int l1), .val (.int r0), .val (.int r1), .val (.int l0), .val (.int l1), .val (.int q0), .val (.int q1), .val (.int (0 : Int32)), .val (.ref x2), .val (.ref x3), .val (.ref x4), .val (.ref x7), .val (.ref b12), .val (.int (1 : Int32))] [(.ref b12)]))
      refine Go.st (fun _ kt => XS.aload X20.here hx rfl (hb hby at_260) rfl rfl kt) ?_
      show Go p e below _ (T20.setTop (mkF m 262 #[.val (.int fa), .val (.int fb), .val (.int fc), .val (.int fs), .val (.int u1), .val (.int u2), .val (.int u3), .val (.int md), .val (.int l0), .val (.int l1), .val (.int r0), .val (.int r1), .val (.int l0), .val (.int l1), .val (.int q0), .val (.int q1), .val (.int (0 : Int32)), .val (.ref x2), .val (.ref x3), .val (.ref x4), .val (.ref x7), .val (.ref b12), .val (.int (1 : Int32))] [(.ref x4), (.ref b12)]))
      have f52 := (A12.keep K19q)
      have f53 := ((f13.ext E12).keep K19q)
      have f54 := (((((C2s.keep K3q nin0).keep K4q nin0).keep K7q nin0).ext E12).keep K19q (ninS (Nat.ne_of_lt lt_x2_b12) nin0))
      have f55 := (((((V2s.keep K3q nin0).keep K4q nin0).keep K7q nin0).ext E12).keep K19q (ninS (Nat.ne_of_lt lt_x2_b12) nin0))
      have f56 := ((f14.ext E12).keep K19q (ninS (Nat.ne_of_lt lt_t2_b12) nin0))
      have f57 := ((f15.ext E12).keep K19q)
      have f58 := ((((C3s.keep K4q nin0).keep K7q nin0).ext E12).keep K19q (ninS (Nat.ne_of_lt lt_x3_b12) nin0))
      have f59 := ((((V3s.keep K4q nin0).keep K7q nin0).ext E12).keep K19q (ninS (Nat.ne_of_lt lt_x3_b12) nin0))
      have f60 := ((f16.ext E12).keep K19q (ninS (Nat.ne_of_lt lt_t3_b12) nin0))
      have f61 := ((f17.ext E12).keep K19q)
      have f62 := (((C4s.keep K7q nin0).ext E12).keep K19q (ninS (Nat.ne_of_lt lt_x4_b12) nin0))
      have f63 := (((V4s.keep K7q nin0).ext E12).keep K19q (ninS (Nat.ne_of_lt lt_x4_b12) nin0))
      have f64 := ((f18.ext E12).keep K19q (ninS (Nat.ne_of_lt lt_t4_b12) nin0))
      obtain ⟨cq65, kq65, q65a, q65b, q65c⟩ := isOf hZ e20 f52
      obtain ⟨_, _, ⟨T65, L65, k65, n65⟩, -, X65, ⟨Lc65, hQ65, l65, y65, z65⟩, st65⟩ := X20.virtualBack hx (y := (⟨"com/example/manyhands/manyhands/crowd/Ordering", "takes", "(Ljava/lang/String;)Z"⟩ : MethodName)) (z := (⟨"com/example/manyhands/manyhands/crowd/Ordering", "takes", "(Ljava/lang/String;)Z"⟩ : MethodName)) hown (mvT hZ (hw _ (List.mem_of_getElem? (i := 79) rfl))) (mvT hZ (hw _ (List.mem_of_getElem? (i := 80) rfl))) (notFace_of_selects (args := #[]) (mvT hZ (hw _ (List.mem_of_getElem? (i := 82) rfl)))) (mvT hZ (hw _ (List.mem_of_getElem? (i := 82) rfl))) (mvT hZ (hw _ (List.mem_of_getElem? (i := 81) rfl))) (by decide) (backOf (W := 0) (rm16a l Z a0 hw [] b12 x4 x2 x3 t2 kb2 (own_cs u1 l0 l1) t3 kb3 (own_cs u2 r0 r1) t4 kb4 (own_cs u3 q0 q1) G1 T19.heap n0 Zs19 f52 Fle19 Fri19 ⟨f53, f54, f55, f56⟩ (own_csb bl0 bl1) (own_csl _ _ _) ⟨f57, f58, f59, f60⟩ (own_csb br0 br1) (own_csl _ _ _) ⟨f61, f62, f63, f64⟩ (own_csb bq0 bq1) (own_csl _ _ _) O2 P5 (own_EX X20 e20 N20 hz0 hh XE) hz0 (Classical.not_not.mp fun q => hc230_21 ((own_sameZ bu3 bu1).mpr q))) hZ (hw _ (List.mem_of_getElem? (i := 83) rfl)) (hw _ (List.mem_of_getElem? (i := 53) rfl)) (by decide) (by decide)) q65a q65c (g := (mkF m 262 #[.val (.int fa), .val (.int fb), .val (.int fc), .val (.int fs), .val (.int u1), .val (.int u2), .val (.int u3), .val (.int md), .val (.int l0), .val (.int l1), .val (.int r0), .val (.int r1), .val (.int l0), .val (.int l1), .val (.int q0), .val (.int q1), .val (.int (0 : Int32)), .val (.ref x2), .val (.ref x3), .val (.ref x4), .val (.ref x7), .val (.ref b12), .val (.int (1 : Int32))] [(.ref x4), (.ref b12)])) rfl (by rw [hml]; rfl) (Steps.refl _) (argsL := [(.ref x4)]) (rest := []) (lenOf own_pd18 rfl) rfl (by show 2 * 0 + _ ≤ _; exact Nat.le_of_eq rfl) (hb hby at_262) (fun _ _ => ⟨rfl, e20, (by decide : 21 + 0 ≤ _), (by decide : 112 + 0 ≤ _)⟩)
      dsimp only [Pt.U, Pt.locs, Pt.cells, Pt.slots] at X65 l65 y65 z65 st65 hQ65
      subst l65 y65 z65
      obtain ⟨rfl, N65q, e65⟩ := hQ65
      have N65 := Fr.app N20 N65q
      refine Go.tr st65 ?_
      show Go p e below _ (T65.setTop (mkF m 265 #[.val (.int fa), .val (.int fb), .val (.int fc), .val (.int fs), .val (.int u1), .val (.int u2), .val (.int u3), .val (.int md), .val (.int l0), .val (.int l1), .val (.int r0), .val (.int r1), .val (.int l0), .val (.int l1), .val (.int q0), .val (.int q1), .val (.int (0 : Int32)), .val (.ref x2), .val (.ref x3), .val (.ref x4), .val (.ref x7), .val (.ref b12), .val (.int (1 : Int32))] [(.int (1 : Int32))]))
      refine Go.st (fun _ kt => XS.iload X65.here hx rfl (hb hby at_265) rfl kt) ?_
      show Go p e below _ (T65.setTop (mkF m 267 #[.val (.int fa), .val (.int fb), .val (.int fc), .val (.int fs), .val (.int u1), .val (.int u2), .val (.int u3), .val (.int md), .val (.int l0), .val (.int l1), .val (.int r0), .val (.int r1), .val (.int l0), .val (.int l1), .val (.int q0), .val (.int q1), .val (.int (0 : Int32)), .val (.ref x2), .val (.ref x3), .val (.ref x4), .val (.ref x7), .val (.ref b12), .val (.int (1 : Int32))] [(.int (1 : Int32)), (.int (1 : Int32))]))
      refine Go.st (fun _ kt => XS.icmpNo X65.here hx rfl (hb hby at_267) rfl (teq (by decide : (1 : Int32) = (1 : Int32))).2 kt) ?_
      show Go p e below _ (T65.setTop (mkF m 270 #[.val (.int fa), .val (.int fb), .val (.int fc), .val (.int fs), .val (.int u1), .val (.int u2), .val (.int u3), .val (.int md), .val (.int l0), .val (.int l1), .val (.int r0), .val (.int r1), .val (.int l0), .val (.int l1), .val (.int q0), .val (.int q1), .val (.int (0 : Int32)), .val (.ref x2), .val (.ref x3), .val (.ref x4), .val (.ref x7), .val (.ref b12), .val (.int (1 : Int32))] []))
      refine Go.st (fun _ kt => XS.iconst X65.here hx rfl (hb hby at_270) kt) ?_
      show Go p e below _ (T65.setTop (mkF m 271 #[.val (.int fa), .val (.int fb), .val (.int fc), .val (.int fs), .val (.int u1), .val (.int u2), .val (.int u3), .val (.int md), .val (.int l0), .val (.int l1), .val (.int r0), .val (.int r1), .val (.int l0), .val (.int l1), .val (.int q0), .val (.int q1), .val (.int (0 : Int32)), .val (.ref x2), .val (.ref x3), .val (.ref x4), .val (.ref x7), .val (.ref b12), .val (.int (1 : Int32))] [(.int (1 : Int32))]))
      refine Go.st (fun _ kt => XS.goto X65.here hx rfl (pc0 := 271) (pc' := 275) rfl (hb hby at_271) (by decide) (by decide) kt) ?_
      show Go p e below _ (T65.setTop (mkF m 275 #[.val (.int fa), .val (.int fb), .val (.int fc), .val (.int fs), .val (.int u1), .val (.int u2), .val (.int u3), .val (.int md), .val (.int l0), .val (.int l1), .val (.int r0), .val (.int r1), .val (.int l0), .val (.int l1), .val (.int q0), .val (.int q1), .val (.int (0 : Int32)), .val (.ref x2), .val (.ref x3), .val (.ref x4), .val (.ref x7), .val (.ref b12), .val (.int (1 : Int32))] [(.int (1 : Int32))]))
      refine Go.retNS X65 hx (t := .boolean) Bd.returns (by simp) (BodyLoose.notSynchronized Bd) hS19 (by rw [e65]; exact (Nat.le_refl _)) (hb hby at_275) (Q := (Q_rm0 Z fa fb fc fs G1 h0 n0)) (by decide) (by decide) ?_
      intro vm2 hW2
      show (Q_rm0 Z fa fb fc fs G1 h0 n0) _ vm2 T65.heap _
      rw [e65]
      exact ⟨rfl, N65⟩
  · refine Go.st (fun _ kt => XS.ifYes X0.here hx rfl (pc0 := 75) (pc' := 89) rfl (hb hby at_75) rfl ((if0 _ _).trans (feq hc75_1).2) (by decide) (by decide) kt) ?_
    show Go p e below _ (s₁.setTop (mkF m 89 #[.val (.int fa), .val (.int fb), .val (.int fc), .val (.int fs), .val (.int u1), .val (.int u2), .val (.int u3), .val (.int md), .val (.int l0), .val (.int l1), .val (.int r0), .val (.int r1), .val (.int (0 : Int32)), .val (.int (0 : Int32)), .unset, .unset, .unset, .unset, .unset, .unset, .unset, .unset, .unset] []))
    refine Go.st (fun _ kt => XS.iload X0.here hx rfl (hb hby at_89) rfl kt) ?_
    show Go p e below _ (s₁.setTop (mkF m 91 #[.val (.int fa), .val (.int fb), .val (.int fc), .val (.int fs), .val (.int u1), .val (.int u2), .val (.int u3), .val (.int md), .val (.int l0), .val (.int l1), .val (.int r0), .val (.int r1), .val (.int (0 : Int32)), .val (.int (0 : Int32)), .unset, .unset, .unset, .unset, .unset, .unset, .unset, .unset, .unset] [(.int md)]))
    refine Go.st (fun _ kt => XS.iconst X0.here hx rfl (hb hby at_91) kt) ?_
    show Go p e below _ (s₁.setTop (mkF m 92 #[.val (.int fa), .val (.int fb), .val (.int fc), .val (.int fs), .val (.int u1), .val (.int u2), .val (.int u3), .val (.int md), .val (.int l0), .val (.int l1), .val (.int r0), .val (.int r1), .val (.int (0 : Int32)), .val (.int (0 : Int32)), .unset, .unset, .unset, .unset, .unset, .unset, .unset, .unset, .unset] [(.int (1 : Int32)), (.int md)]))
    by_cases hc92_66 : md = (1 : Int32)
    · refine Go.st (fun _ kt => XS.icmpNo X0.here hx rfl (hb hby at_92) rfl (teq hc92_66).2 kt) ?_
      show Go p e below _ (s₁.setTop (mkF m 95 #[.val (.int fa), .val (.int fb), .val (.int fc), .val (.int fs), .val (.int u1), .val (.int u2), .val (.int u3), .val (.int md), .val (.int l0), .val (.int l1), .val (.int r0), .val (.int r1), .val (.int (0 : Int32)), .val (.int (0 : Int32)), .unset, .unset, .unset, .unset, .unset, .unset, .unset, .unset, .unset] []))
      refine Go.st (fun _ kt => XS.iload X0.here hx rfl (hb hby at_95) rfl kt) ?_
      show Go p e below _ (s₁.setTop (mkF m 97 #[.val (.int fa), .val (.int fb), .val (.int fc), .val (.int fs), .val (.int u1), .val (.int u2), .val (.int u3), .val (.int md), .val (.int l0), .val (.int l1), .val (.int r0), .val (.int r1), .val (.int (0 : Int32)), .val (.int (0 : Int32)), .unset, .unset, .unset, .unset, .unset, .unset, .unset, .unset, .unset] [(.int r0)]))
      refine Go.st (fun _ kt => XS.istore X0.here hx rfl (hb hby at_97) rfl (l' := #[.val (.int fa), .val (.int fb), .val (.int fc), .val (.int fs), .val (.int u1), .val (.int u2), .val (.int u3), .val (.int md), .val (.int l0), .val (.int l1), .val (.int r0), .val (.int r1), .val (.int r0), .val (.int (0 : Int32)), .unset, .unset, .unset, .unset, .unset, .unset, .unset, .unset, .unset]) rfl kt) ?_
      show Go p e below _ (s₁.setTop (mkF m 99 #[.val (.int fa), .val (.int fb), .val (.int fc), .val (.int fs), .val (.int u1), .val (.int u2), .val (.int u3), .val (.int md), .val (.int l0), .val (.int l1), .val (.int r0), .val (.int r1), .val (.int r0), .val (.int (0 : Int32)), .unset, .unset, .unset, .unset, .unset, .unset, .unset, .unset, .unset] []))
      refine Go.st (fun _ kt => XS.iload X0.here hx rfl (hb hby at_99) rfl kt) ?_
      show Go p e below _ (s₁.setTop (mkF m 101 #[.val (.int fa), .val (.int fb), .val (.int fc), .val (.int fs), .val (.int u1), .val (.int u2), .val (.int u3), .val (.int md), .val (.int l0), .val (.int l1), .val (.int r0), .val (.int r1), .val (.int r0), .val (.int (0 : Int32)), .unset, .unset, .unset, .unset, .unset, .unset, .unset, .unset, .unset] [(.int r1)]))
      refine Go.st (fun _ kt => XS.istore X0.here hx rfl (hb hby at_101) rfl (l' := #[.val (.int fa), .val (.int fb), .val (.int fc), .val (.int fs), .val (.int u1), .val (.int u2), .val (.int u3), .val (.int md), .val (.int l0), .val (.int l1), .val (.int r0), .val (.int r1), .val (.int r0), .val (.int r1), .unset, .unset, .unset, .unset, .unset, .unset, .unset, .unset, .unset]) rfl kt) ?_
      show Go p e below _ (s₁.setTop (mkF m 103 #[.val (.int fa), .val (.int fb), .val (.int fc), .val (.int fs), .val (.int u1), .val (.int u2), .val (.int u3), .val (.int md), .val (.int l0), .val (.int l1), .val (.int r0), .val (.int r1), .val (.int r0), .val (.int r1), .unset, .unset, .unset, .unset, .unset, .unset, .unset, .unset, .unset] []))
      refine Go.st (fun _ kt => XS.iload X0.here hx rfl (hb hby at_103) rfl kt) ?_
      show Go p e below _ (s₁.setTop (mkF m 105 #[.val (.int fa), .val (.int fb), .val (.int fc), .val (.int fs), .val (.int u1), .val (.int u2), .val (.int u3), .val (.int md), .val (.int l0), .val (.int l1), .val (.int r0), .val (.int r1), .val (.int r0), .val (.int r1), .unset, .unset, .unset, .unset, .unset, .unset, .unset, .unset, .unset] [(.int r0)]))
      refine Go.st (fun _ kt => XS.iloadN X0.here hx rfl (hb hby at_105) rfl kt) ?_
      show Go p e below _ (s₁.setTop (mkF m 106 #[.val (.int fa), .val (.int fb), .val (.int fc), .val (.int fs), .val (.int u1), .val (.int u2), .val (.int u3), .val (.int md), .val (.int l0), .val (.int l1), .val (.int r0), .val (.int r1), .val (.int r0), .val (.int r1), .unset, .unset, .unset, .unset, .unset, .unset, .unset, .unset, .unset] [(.int fc), (.int r0)]))
      refine Go.st (fun _ kt => XS.ixor X0.here hx rfl (hb hby at_106) rfl kt) ?_
      show Go p e below _ (s₁.setTop (mkF m 107 #[.val (.int fa), .val (.int fb), .val (.int fc), .val (.int fs), .val (.int u1), .val (.int u2), .val (.int u3), .val (.int md), .val (.int l0), .val (.int l1), .val (.int r0), .val (.int r1), .val (.int r0), .val (.int r1), .unset, .unset, .unset, .unset, .unset, .unset, .unset, .unset, .unset] [(.int (r0 ^^^ fc))]))
      refine Go.st (fun _ kt => XS.sipush X0.here hx rfl (hb hby at_107) kt) ?_
      show Go p e below _ (s₁.setTop (mkF m 110 #[.val (.int fa), .val (.int fb), .val (.int fc), .val (.int fs), .val (.int u1), .val (.int u2), .val (.int u3), .val (.int md), .val (.int l0), .val (.int l1), .val (.int r0), .val (.int r1), .val (.int r0), .val (.int r1), .unset, .unset, .unset, .unset, .unset, .unset, .unset, .unset, .unset] [(.int (255 : Int32)), (.int (r0 ^^^ fc))]))
      refine Go.st (fun _ kt => XS.iand X0.here hx rfl (hb hby at_110) rfl kt) ?_
      show Go p e below _ (s₁.setTop (mkF m 111 #[.val (.int fa), .val (.int fb), .val (.int fc), .val (.int fs), .val (.int u1), .val (.int u2), .val (.int u3), .val (.int md), .val (.int l0), .val (.int l1), .val (.int r0), .val (.int r1), .val (.int r0), .val (.int r1), .unset, .unset, .unset, .unset, .unset, .unset, .unset, .unset, .unset] [(.int ((r0 ^^^ fc) &&& (255 : Int32)))]))
      generalize hq0 : (((r0 ^^^ fc) &&& (255 : Int32)) : Int32) = q0
      show Go p e below _ (s₁.setTop (mkF m 111 #[.val (.int fa), .val (.int fb), .val (.int fc), .val (.int fs), .val (.int u1), .val (.int u2), .val (.int u3), .val (.int md), .val (.int l0), .val (.int l1), .val (.int r0), .val (.int r1), .val (.int r0), .val (.int r1), .unset, .unset, .unset, .unset, .unset, .unset, .unset, .unset, .unset] [(.int q0)]))
      have bq0 := hq0 ▸ own_and255 _
      refine Go.st (fun _ kt => XS.istore X0.here hx rfl (hb hby at_111) rfl (l' := #[.val (.int fa), .val (.int fb), .val (.int fc), .val (.int fs), .val (.int u1), .val (.int u2), .val (.int u3), .val (.int md), .val (.int l0), .val (.int l1), .val (.int r0), .val (.int r1), .val (.int r0), .val (.int r1), .val (.int q0), .unset, .unset, .unset, .unset, .unset, .unset, .unset, .unset]) rfl kt) ?_
      show Go p e below _ (s₁.setTop (mkF m 113 #[.val (.int fa), .val (.int fb), .val (.int fc), .val (.int fs), .val (.int u1), .val (.int u2), .val (.int u3), .val (.int md), .val (.int l0), .val (.int l1), .val (.int r0), .val (.int r1), .val (.int r0), .val (.int r1), .val (.int q0), .unset, .unset, .unset, .unset, .unset, .unset, .unset, .unset] []))
      refine Go.st (fun _ kt => XS.iload X0.here hx rfl (hb hby at_113) rfl kt) ?_
      show Go p e below _ (s₁.setTop (mkF m 115 #[.val (.int fa), .val (.int fb), .val (.int fc), .val (.int fs), .val (.int u1), .val (.int u2), .val (.int u3), .val (.int md), .val (.int l0), .val (.int l1), .val (.int r0), .val (.int r1), .val (.int r0), .val (.int r1), .val (.int q0), .unset, .unset, .unset, .unset, .unset, .unset, .unset, .unset] [(.int r1)]))
      refine Go.st (fun _ kt => XS.iloadN X0.here hx rfl (hb hby at_115) rfl kt) ?_
      show Go p e below _ (s₁.setTop (mkF m 116 #[.val (.int fa), .val (.int fb), .val (.int fc), .val (.int fs), .val (.int u1), .val (.int u2), .val (.int u3), .val (.int md), .val (.int l0), .val (.int l1), .val (.int r0), .val (.int r1), .val (.int r0), .val (.int r1), .val (.int q0), .unset, .unset, .unset, .unset, .unset, .unset, .unset, .unset] [(.int fc), (.int r1)]))
      refine Go.st (fun _ kt => XS.bipush X0.here hx rfl (hb hby at_116) kt) ?_
      show Go p e below _ (s₁.setTop (mkF m 118 #[.val (.int fa), .val (.int fb), .val (.int fc), .val (.int fs), .val (.int u1), .val (.int u2), .val (.int u3), .val (.int md), .val (.int l0), .val (.int l1), .val (.int r0), .val (.int r1), .val (.int r0), .val (.int r1), .val (.int q0), .unset, .unset, .unset, .unset, .unset, .unset, .unset, .unset] [(.int (8 : Int32)), (.int fc), (.int r1)]))
      refine Go.st (fun _ kt => XS.ishr X0.here hx rfl (hb hby at_118) rfl kt) ?_
      show Go p e below _ (s₁.setTop (mkF m 119 #[.val (.int fa), .val (.int fb), .val (.int fc), .val (.int fs), .val (.int u1), .val (.int u2), .val (.int u3), .val (.int md), .val (.int l0), .val (.int l1), .val (.int r0), .val (.int r1), .val (.int r0), .val (.int r1), .val (.int q0), .unset, .unset, .unset, .unset, .unset, .unset, .unset, .unset] [(.int (fc >>> ((8 : Int32) &&& 31))), (.int r1)]))
      refine Go.st (fun _ kt => XS.ixor X0.here hx rfl (hb hby at_119) rfl kt) ?_
      show Go p e below _ (s₁.setTop (mkF m 120 #[.val (.int fa), .val (.int fb), .val (.int fc), .val (.int fs), .val (.int u1), .val (.int u2), .val (.int u3), .val (.int md), .val (.int l0), .val (.int l1), .val (.int r0), .val (.int r1), .val (.int r0), .val (.int r1), .val (.int q0), .unset, .unset, .unset, .unset, .unset, .unset, .unset, .unset] [(.int (r1 ^^^ (fc >>> ((8 : Int32) &&& 31))))]))
      refine Go.st (fun _ kt => XS.sipush X0.here hx rfl (hb hby at_120) kt) ?_
      show Go p e below _ (s₁.setTop (mkF m 123 #[.val (.int fa), .val (.int fb), .val (.int fc), .val (.int fs), .val (.int u1), .val (.int u2), .val (.int u3), .val (.int md), .val (.int l0), .val (.int l1), .val (.int r0), .val (.int r1), .val (.int r0), .val (.int r1), .val (.int q0), .unset, .unset, .unset, .unset, .unset, .unset, .unset, .unset] [(.int (255 : Int32)), (.int (r1 ^^^ (fc >>> ((8 : Int32) &&& 31))))]))
      refine Go.st (fun _ kt => XS.iand X0.here hx rfl (hb hby at_123) rfl kt) ?_
      show Go p e below _ (s₁.setTop (mkF m 124 #[.val (.int fa), .val (.int fb), .val (.int fc), .val (.int fs), .val (.int u1), .val (.int u2), .val (.int u3), .val (.int md), .val (.int l0), .val (.int l1), .val (.int r0), .val (.int r1), .val (.int r0), .val (.int r1), .val (.int q0), .unset, .unset, .unset, .unset, .unset, .unset, .unset, .unset] [(.int ((r1 ^^^ (fc >>> ((8 : Int32) &&& 31))) &&& (255 : Int32)))]))
      generalize hq1 : (((r1 ^^^ (fc >>> ((8 : Int32) &&& 31))) &&& (255 : Int32)) : Int32) = q1
      show Go p e below _ (s₁.setTop (mkF m 124 #[.val (.int fa), .val (.int fb), .val (.int fc), .val (.int fs), .val (.int u1), .val (.int u2), .val (.int u3), .val (.int md), .val (.int l0), .val (.int l1), .val (.int r0), .val (.int r1), .val (.int r0), .val (.int r1), .val (.int q0), .unset, .unset, .unset, .unset, .unset, .unset, .unset, .unset] [(.int q1)]))
      have bq1 := hq1 ▸ own_and255 _
      refine Go.st (fun _ kt => XS.istore X0.here hx rfl (hb hby at_124) rfl (l' := #[.val (.int fa), .val (.int fb), .val (.int fc), .val (.int fs), .val (.int u1), .val (.int u2), .val (.int u3), .val (.int md), .val (.int l0), .val (.int l1), .val (.int r0), .val (.int r1), .val (.int r0), .val (.int r1), .val (.int q0), .val (.int q1), .unset, .unset, .unset, .unset, .unset, .unset, .unset]) rfl kt) ?_
      show Go p e below _ (s₁.setTop (mkF m 126 #[.val (.int fa), .val (.int fb), .val (.int fc), .val (.int fs), .val (.int u1), .val (.int u2), .val (.int u3), .val (.int md), .val (.int l0), .val (.int l1), .val (.int r0), .val (.int r1), .val (.int r0), .val (.int r1), .val (.int q0), .val (.int q1), .unset, .unset, .unset, .unset, .unset, .unset, .unset] []))
      refine Go.st (fun _ kt => XS.iload X0.here hx rfl (hb hby at_126) rfl kt) ?_
      show Go p e below _ (s₁.setTop (mkF m 128 #[.val (.int fa), .val (.int fb), .val (.int fc), .val (.int fs), .val (.int u1), .val (.int u2), .val (.int u3), .val (.int md), .val (.int l0), .val (.int l1), .val (.int r0), .val (.int r1), .val (.int r0), .val (.int r1), .val (.int q0), .val (.int q1), .unset, .unset, .unset, .unset, .unset, .unset, .unset] [(.int md)]))
      refine Go.st (fun _ kt => XS.iconst X0.here hx rfl (hb hby at_128) kt) ?_
      show Go p e below _ (s₁.setTop (mkF m 129 #[.val (.int fa), .val (.int fb), .val (.int fc), .val (.int fs), .val (.int u1), .val (.int u2), .val (.int u3), .val (.int md), .val (.int l0), .val (.int l1), .val (.int r0), .val (.int r1), .val (.int r0), .val (.int r1), .val (.int q0), .val (.int q1), .unset, .unset, .unset, .unset, .unset, .unset, .unset] [(.int (3 : Int32)), (.int md)]))
      refine Go.st (fun _ kt => XS.icmpYes X0.here hx rfl (pc0 := 129) (pc' := 136) rfl (hb hby at_129) rfl (feq (by rw [hc92_66]; decide)).2 (by decide) (by decide) kt) ?_
      show Go p e below _ (s₁.setTop (mkF m 136 #[.val (.int fa), .val (.int fb), .val (.int fc), .val (.int fs), .val (.int u1), .val (.int u2), .val (.int u3), .val (.int md), .val (.int l0), .val (.int l1), .val (.int r0), .val (.int r1), .val (.int r0), .val (.int r1), .val (.int q0), .val (.int q1), .unset, .unset, .unset, .unset, .unset, .unset, .unset] []))
      refine Go.st (fun _ kt => XS.iconst X0.here hx rfl (hb hby at_136) kt) ?_
      show Go p e below _ (s₁.setTop (mkF m 137 #[.val (.int fa), .val (.int fb), .val (.int fc), .val (.int fs), .val (.int u1), .val (.int u2), .val (.int u3), .val (.int md), .val (.int l0), .val (.int l1), .val (.int r0), .val (.int r1), .val (.int r0), .val (.int r1), .val (.int q0), .val (.int q1), .unset, .unset, .unset, .unset, .unset, .unset, .unset] [(.int (0 : Int32))]))
      refine Go.st (fun _ kt => XS.istore X0.here hx rfl (hb hby at_137) rfl (l' := #[.val (.int fa), .val (.int fb), .val (.int fc), .val (.int fs), .val (.int u1), .val (.int u2), .val (.int u3), .val (.int md), .val (.int l0), .val (.int l1), .val (.int r0), .val (.int r1), .val (.int r0), .val (.int r1), .val (.int q0), .val (.int q1), .val (.int (0 : Int32)), .unset, .unset, .unset, .unset, .unset, .unset]) rfl kt) ?_
      show Go p e below _ (s₁.setTop (mkF m 139 #[.val (.int fa), .val (.int fb), .val (.int fc), .val (.int fs), .val (.int u1), .val (.int u2), .val (.int u3), .val (.int md), .val (.int l0), .val (.int l1), .val (.int r0), .val (.int r1), .val (.int r0), .val (.int r1), .val (.int q0), .val (.int q1), .val (.int (0 : Int32)), .unset, .unset, .unset, .unset, .unset, .unset] []))
      refine Go.st (fun _ kt => XS.iload X0.here hx rfl (hb hby at_139) rfl kt) ?_
      show Go p e below _ (s₁.setTop (mkF m 141 #[.val (.int fa), .val (.int fb), .val (.int fc), .val (.int fs), .val (.int u1), .val (.int u2), .val (.int u3), .val (.int md), .val (.int l0), .val (.int l1), .val (.int r0), .val (.int r1), .val (.int r0), .val (.int r1), .val (.int q0), .val (.int q1), .val (.int (0 : Int32)), .unset, .unset, .unset, .unset, .unset, .unset] [(.int u1)]))
      refine Go.st (fun _ kt => XS.iload X0.here hx rfl (hb hby at_141) rfl kt) ?_
      show Go p e below _ (s₁.setTop (mkF m 143 #[.val (.int fa), .val (.int fb), .val (.int fc), .val (.int fs), .val (.int u1), .val (.int u2), .val (.int u3), .val (.int md), .val (.int l0), .val (.int l1), .val (.int r0), .val (.int r1), .val (.int r0), .val (.int r1), .val (.int q0), .val (.int q1), .val (.int (0 : Int32)), .unset, .unset, .unset, .unset, .unset, .unset] [(.int l0), (.int u1)]))
      refine Go.st (fun _ kt => XS.iload X0.here hx rfl (hb hby at_143) rfl kt) ?_
      show Go p e below _ (s₁.setTop (mkF m 145 #[.val (.int fa), .val (.int fb), .val (.int fc), .val (.int fs), .val (.int u1), .val (.int u2), .val (.int u3), .val (.int md), .val (.int l0), .val (.int l1), .val (.int r0), .val (.int r1), .val (.int r0), .val (.int r1), .val (.int q0), .val (.int q1), .val (.int (0 : Int32)), .unset, .unset, .unset, .unset, .unset, .unset] [(.int l1), (.int l0), (.int u1)]))
      obtain ⟨_, _, ⟨T67, L67, k67, n67⟩, -, Xb67, hSb67, gr67, ⟨Lc67, hQ67, l67, y67, z67⟩, st67⟩ := callSS X0 hx (y := (⟨"com/example/manyhands/manyhands/crowd/OrderingTakesPinLaw", "mk", "(III)Ljava/lang/String;"⟩ : MethodName)) hown (mvT hZ (hw _ (List.mem_of_getElem? (i := 0) rfl))) (mvT hZ (hw _ (List.mem_of_getElem? (i := 1) rfl))) (mvT hZ (hw _ (List.mem_of_getElem? (i := 2) rfl))) (mvT hZ (hw _ (List.mem_of_getElem? (i := 3) rfl))) (by decide) (own_backJ (PU := fun vm_ => JE Z vm_ h0 n0) (W := 0) (rm1 l Z a0 hw [] u1 l0 l1 G1 h0 n0 Z0 O2 P5 (own_EX X0 e0 N0 hz0 hh XE) hz0 hCH hCW bu1 bl0 bl1) hZ (hw _ (List.mem_of_getElem? (i := 3) rfl)) (hw _ (List.mem_of_getElem? (i := 2) rfl)) (by decide) (by decide)) (g := (mkF m 145 #[.val (.int fa), .val (.int fb), .val (.int fc), .val (.int fs), .val (.int u1), .val (.int u2), .val (.int u3), .val (.int md), .val (.int l0), .val (.int l1), .val (.int r0), .val (.int r1), .val (.int r0), .val (.int r1), .val (.int q0), .val (.int q1), .val (.int (0 : Int32)), .unset, .unset, .unset, .unset, .unset, .unset] [(.int l1), (.int l0), (.int u1)])) rfl (by rw [hml]; rfl) (argsL := [(.int u1), (.int l0), (.int l1)]) (rest := []) (lenOf own_pd14 rfl) rfl (by show 2 * 0 + _ ≤ _; exact Nat.le_of_eq rfl) (hb hby at_145) (fun _ hWm => ⟨rfl, e0, (by decide : 0 + 4 ≤ _), (by decide : 0 + 8 ≤ _), JE.warm (s := s) J0 hWm⟩)
      dsimp only [Pt.U, Pt.locs, Pt.cells, Pt.slots] at Xb67 hSb67 gr67 l67 y67 z67 st67 hQ67
      subst l67 y67 z67
      obtain ⟨X67, hS67, hZ, hown⟩ := rebS hS0 (by rw [e0]; exact (Nat.le_refl h0.size)) Xb67 hSb67 gr67 hZ hown
      obtain ⟨x67, t67, kb67, rfl, N67r, K67q, J67, gz67, E67s, C67s, V67s, A67s⟩ := hQ67
      have N67q : Fr n0 _ := Fr.le N67r (Nat.le_refl _)
      have gn_x67 : n0 ≤ x67 := Nat.le_trans Z0 gz67
      have Zs67 : n0 ≤ T67.heap.size := Nat.le_trans Z0 K67q.1
      have N67 := Fr.app N0 N67q
      refine Go.tr st67 ?_
      show Go p e below _ (T67.setTop (mkF m 148 #[.val (.int fa), .val (.int fb), .val (.int fc), .val (.int fs), .val (.int u1), .val (.int u2), .val (.int u3), .val (.int md), .val (.int l0), .val (.int l1), .val (.int r0), .val (.int r1), .val (.int r0), .val (.int r1), .val (.int q0), .val (.int q1), .val (.int (0 : Int32)), .unset, .unset, .unset, .unset, .unset, .unset] [(.ref x67)]))
      refine Go.st (fun _ kt => XS.astore X67.here hx rfl (hb hby at_148) rfl rfl (l' := #[.val (.int fa), .val (.int fb), .val (.int fc), .val (.int fs), .val (.int u1), .val (.int u2), .val (.int u3), .val (.int md), .val (.int l0), .val (.int l1), .val (.int r0), .val (.int r1), .val (.int r0), .val (.int r1), .val (.int q0), .val (.int q1), .val (.int (0 : Int32)), .val (.ref x67), .unset, .unset, .unset, .unset, .unset]) rfl kt) ?_
      show Go p e below _ (T67.setTop (mkF m 150 #[.val (.int fa), .val (.int fb), .val (.int fc), .val (.int fs), .val (.int u1), .val (.int u2), .val (.int u3), .val (.int md), .val (.int l0), .val (.int l1), .val (.int r0), .val (.int r1), .val (.int r0), .val (.int r1), .val (.int q0), .val (.int q1), .val (.int (0 : Int32)), .val (.ref x67), .unset, .unset, .unset, .unset, .unset] []))
      refine Go.st (fun _ kt => XS.iload X67.here hx rfl (hb hby at_150) rfl kt) ?_
      show Go p e below _ (T67.setTop (mkF m 152 #[.val (.int fa), .val (.int fb), .val (.int fc), .val (.int fs), .val (.int u1), .val (.int u2), .val (.int u3), .val (.int md), .val (.int l0), .val (.int l1), .val (.int r0), .val (.int r1), .val (.int r0), .val (.int r1), .val (.int q0), .val (.int q1), .val (.int (0 : Int32)), .val (.ref x67), .unset, .unset, .unset, .unset, .unset] [(.int u2)]))
      refine Go.st (fun _ kt => XS.iload X67.here hx rfl (hb hby at_152) rfl kt) ?_
      show Go p e below _ (T67.setTop (mkF m 154 #[.val (.int fa), .val (.int fb), .val (.int fc), .val (.int fs), .val (.int u1), .val (.int u2), .val (.int u3), .val (.int md), .val (.int l0), .val (.int l1), .val (.int r0), .val (.int r1), .val (.int r0), .val (.int r1), .val (.int q0), .val (.int q1), .val (.int (0 : Int32)), .val (.ref x67), .unset, .unset, .unset, .unset, .unset] [(.int r0), (.int u2)]))
      refine Go.st (fun _ kt => XS.iload X67.here hx rfl (hb hby at_154) rfl kt) ?_
      show Go p e below _ (T67.setTop (mkF m 156 #[.val (.int fa), .val (.int fb), .val (.int fc), .val (.int fs), .val (.int u1), .val (.int u2), .val (.int u3), .val (.int md), .val (.int l0), .val (.int l1), .val (.int r0), .val (.int r1), .val (.int r0), .val (.int r1), .val (.int q0), .val (.int q1), .val (.int (0 : Int32)), .val (.ref x67), .unset, .unset, .unset, .unset, .unset] [(.int r1), (.int r0), (.int u2)]))
      obtain ⟨_, _, ⟨T68, L68, k68, n68⟩, -, Xb68, hSb68, gr68, ⟨Lc68, hQ68, l68, y68, z68⟩, st68⟩ := callSS X67 hx (y := (⟨"com/example/manyhands/manyhands/crowd/OrderingTakesPinLaw", "mk", "(III)Ljava/lang/String;"⟩ : MethodName)) hown (mvT hZ (hw _ (List.mem_of_getElem? (i := 0) rfl))) (mvT hZ (hw _ (List.mem_of_getElem? (i := 1) rfl))) (mvT hZ (hw _ (List.mem_of_getElem? (i := 2) rfl))) (mvT hZ (hw _ (List.mem_of_getElem? (i := 3) rfl))) (by decide) (own_backJ (PU := fun vm_ => JE Z vm_ T67.heap T67.heap.size) (W := 0) (rm1 l Z a0 hw [] u2 r0 r1 G1 T67.heap T67.heap.size (Nat.le_refl _) O2 P5 (own_EX X67 rfl N67 hz0 hh XE) (Nat.le_trans hz0 Zs67) hCH hCW bu2 br0 br1) hZ (hw _ (List.mem_of_getElem? (i := 3) rfl)) (hw _ (List.mem_of_getElem? (i := 2) rfl)) (by decide) (by decide)) (g := (mkF m 156 #[.val (.int fa), .val (.int fb), .val (.int fc), .val (.int fs), .val (.int u1), .val (.int u2), .val (.int u3), .val (.int md), .val (.int l0), .val (.int l1), .val (.int r0), .val (.int r1), .val (.int r0), .val (.int r1), .val (.int q0), .val (.int q1), .val (.int (0 : Int32)), .val (.ref x67), .unset, .unset, .unset, .unset, .unset] [(.int r1), (.int r0), (.int u2)])) rfl (by rw [hml]; rfl) (argsL := [(.int u2), (.int r0), (.int r1)]) (rest := []) (lenOf own_pd14 rfl) rfl (by show 2 * 0 + _ ≤ _; exact Nat.le_of_eq rfl) (hb hby at_156) (fun _ hWm => ⟨rfl, rfl, (by decide : 4 + 4 ≤ _), (by decide : 8 + 8 ≤ _), JE.warm (s := s) J67 hWm⟩)
      dsimp only [Pt.U, Pt.locs, Pt.cells, Pt.slots] at Xb68 hSb68 gr68 l68 y68 z68 st68 hQ68
      subst l68 y68 z68
      obtain ⟨X68, hS68, hZ, hown⟩ := rebS hS67 (Nat.le_refl _) Xb68 hSb68 gr68 hZ hown
      obtain ⟨x68, t68, kb68, rfl, N68r, K68q, J68, gz68, E68s, C68s, V68s, A68s⟩ := hQ68
      have N68q : Fr n0 _ := Fr.le N68r Zs67
      have lt_x67_x68 : x67 < x68 := Nat.lt_of_lt_of_le E67s.lt gz68
      have lt_t67_x68 : t67 < x68 := Nat.lt_of_lt_of_le A67s.lt gz68
      have gn_x68 : n0 ≤ x68 := Nat.le_trans Zs67 gz68
      have Zs68 : n0 ≤ T68.heap.size := Nat.le_trans Zs67 K68q.1
      have N68 := Fr.app N67 N68q
      refine Go.tr st68 ?_
      show Go p e below _ (T68.setTop (mkF m 159 #[.val (.int fa), .val (.int fb), .val (.int fc), .val (.int fs), .val (.int u1), .val (.int u2), .val (.int u3), .val (.int md), .val (.int l0), .val (.int l1), .val (.int r0), .val (.int r1), .val (.int r0), .val (.int r1), .val (.int q0), .val (.int q1), .val (.int (0 : Int32)), .val (.ref x67), .unset, .unset, .unset, .unset, .unset] [(.ref x68)]))
      refine Go.st (fun _ kt => XS.astore X68.here hx rfl (hb hby at_159) rfl rfl (l' := #[.val (.int fa), .val (.int fb), .val (.int fc), .val (.int fs), .val (.int u1), .val (.int u2), .val (.int u3), .val (.int md), .val (.int l0), .val (.int l1), .val (.int r0), .val (.int r1), .val (.int r0), .val (.int r1), .val (.int q0), .val (.int q1), .val (.int (0 : Int32)), .val (.ref x67), .val (.ref x68), .unset, .unset, .unset, .unset]) rfl kt) ?_
      show Go p e below _ (T68.setTop (mkF m 161 #[.val (.int fa), .val (.int fb), .val (.int fc), .val (.int fs), .val (.int u1), .val (.int u2), .val (.int u3), .val (.int md), .val (.int l0), .val (.int l1), .val (.int r0), .val (.int r1), .val (.int r0), .val (.int r1), .val (.int q0), .val (.int q1), .val (.int (0 : Int32)), .val (.ref x67), .val (.ref x68), .unset, .unset, .unset, .unset] []))
      refine Go.st (fun _ kt => XS.iload X68.here hx rfl (hb hby at_161) rfl kt) ?_
      show Go p e below _ (T68.setTop (mkF m 163 #[.val (.int fa), .val (.int fb), .val (.int fc), .val (.int fs), .val (.int u1), .val (.int u2), .val (.int u3), .val (.int md), .val (.int l0), .val (.int l1), .val (.int r0), .val (.int r1), .val (.int r0), .val (.int r1), .val (.int q0), .val (.int q1), .val (.int (0 : Int32)), .val (.ref x67), .val (.ref x68), .unset, .unset, .unset, .unset] [(.int (0 : Int32))]))
      refine Go.st (fun _ kt => XS.ifYes X68.here hx rfl (pc0 := 163) (pc' := 170) rfl (hb hby at_163) rfl ((if0 _ _).trans (teq (by decide : (0 : Int32) = (0 : Int32))).1) (by decide) (by decide) kt) ?_
      show Go p e below _ (T68.setTop (mkF m 170 #[.val (.int fa), .val (.int fb), .val (.int fc), .val (.int fs), .val (.int u1), .val (.int u2), .val (.int u3), .val (.int md), .val (.int l0), .val (.int l1), .val (.int r0), .val (.int r1), .val (.int r0), .val (.int r1), .val (.int q0), .val (.int q1), .val (.int (0 : Int32)), .val (.ref x67), .val (.ref x68), .unset, .unset, .unset, .unset] []))
      refine Go.st (fun _ kt => XS.iload X68.here hx rfl (hb hby at_170) rfl kt) ?_
      show Go p e below _ (T68.setTop (mkF m 172 #[.val (.int fa), .val (.int fb), .val (.int fc), .val (.int fs), .val (.int u1), .val (.int u2), .val (.int u3), .val (.int md), .val (.int l0), .val (.int l1), .val (.int r0), .val (.int r1), .val (.int r0), .val (.int r1), .val (.int q0), .val (.int q1), .val (.int (0 : Int32)), .val (.ref x67), .val (.ref x68), .unset, .unset, .unset, .unset] [(.int u3)]))
      refine Go.st (fun _ kt => XS.iload X68.here hx rfl (hb hby at_172) rfl kt) ?_
      show Go p e below _ (T68.setTop (mkF m 174 #[.val (.int fa), .val (.int fb), .val (.int fc), .val (.int fs), .val (.int u1), .val (.int u2), .val (.int u3), .val (.int md), .val (.int l0), .val (.int l1), .val (.int r0), .val (.int r1), .val (.int r0), .val (.int r1), .val (.int q0), .val (.int q1), .val (.int (0 : Int32)), .val (.ref x67), .val (.ref x68), .unset, .unset, .unset, .unset] [(.int q0), (.int u3)]))
      refine Go.st (fun _ kt => XS.iload X68.here hx rfl (hb hby at_174) rfl kt) ?_
      show Go p e below _ (T68.setTop (mkF m 176 #[.val (.int fa), .val (.int fb), .val (.int fc), .val (.int fs), .val (.int u1), .val (.int u2), .val (.int u3), .val (.int md), .val (.int l0), .val (.int l1), .val (.int r0), .val (.int r1), .val (.int r0), .val (.int r1), .val (.int q0), .val (.int q1), .val (.int (0 : Int32)), .val (.ref x67), .val (.ref x68), .unset, .unset, .unset, .unset] [(.int q1), (.int q0), (.int u3)]))
      obtain ⟨_, _, ⟨T69, L69, k69, n69⟩, -, Xb69, hSb69, gr69, ⟨Lc69, hQ69, l69, y69, z69⟩, st69⟩ := callSS X68 hx (y := (⟨"com/example/manyhands/manyhands/crowd/OrderingTakesPinLaw", "mk", "(III)Ljava/lang/String;"⟩ : MethodName)) hown (mvT hZ (hw _ (List.mem_of_getElem? (i := 0) rfl))) (mvT hZ (hw _ (List.mem_of_getElem? (i := 1) rfl))) (mvT hZ (hw _ (List.mem_of_getElem? (i := 2) rfl))) (mvT hZ (hw _ (List.mem_of_getElem? (i := 3) rfl))) (by decide) (own_backJ (PU := fun vm_ => JE Z vm_ T68.heap T68.heap.size) (W := 0) (rm1 l Z a0 hw [] u3 q0 q1 G1 T68.heap T68.heap.size (Nat.le_refl _) O2 P5 (own_EX X68 rfl N68 hz0 hh XE) (Nat.le_trans hz0 Zs68) hCH hCW bu3 bq0 bq1) hZ (hw _ (List.mem_of_getElem? (i := 3) rfl)) (hw _ (List.mem_of_getElem? (i := 2) rfl)) (by decide) (by decide)) (g := (mkF m 176 #[.val (.int fa), .val (.int fb), .val (.int fc), .val (.int fs), .val (.int u1), .val (.int u2), .val (.int u3), .val (.int md), .val (.int l0), .val (.int l1), .val (.int r0), .val (.int r1), .val (.int r0), .val (.int r1), .val (.int q0), .val (.int q1), .val (.int (0 : Int32)), .val (.ref x67), .val (.ref x68), .unset, .unset, .unset, .unset] [(.int q1), (.int q0), (.int u3)])) rfl (by rw [hml]; rfl) (argsL := [(.int u3), (.int q0), (.int q1)]) (rest := []) (lenOf own_pd14 rfl) rfl (by show 2 * 0 + _ ≤ _; exact Nat.le_of_eq rfl) (hb hby at_176) (fun _ hWm => ⟨rfl, rfl, (by decide : 8 + 4 ≤ _), (by decide : 16 + 8 ≤ _), JE.warm (s := s) J68 hWm⟩)
      dsimp only [Pt.U, Pt.locs, Pt.cells, Pt.slots] at Xb69 hSb69 gr69 l69 y69 z69 st69 hQ69
      subst l69 y69 z69
      obtain ⟨X69, hS69, hZ, hown⟩ := rebS hS68 (Nat.le_refl _) Xb69 hSb69 gr69 hZ hown
      obtain ⟨x69, t69, kb69, rfl, N69r, K69q, J69, gz69, E69s, C69s, V69s, A69s⟩ := hQ69
      have N69q : Fr n0 _ := Fr.le N69r Zs68
      have f70 := (E67s.keep K68q)
      have lt_x67_x69 : x67 < x69 := Nat.lt_of_lt_of_le f70.lt gz69
      have f71 := (A67s.keep K68q nin0)
      have lt_t67_x69 : t67 < x69 := Nat.lt_of_lt_of_le f71.lt gz69
      have lt_x68_x69 : x68 < x69 := Nat.lt_of_lt_of_le E68s.lt gz69
      have lt_t68_x69 : t68 < x69 := Nat.lt_of_lt_of_le A68s.lt gz69
      have gn_x69 : n0 ≤ x69 := Nat.le_trans Zs68 gz69
      have Zs69 : n0 ≤ T69.heap.size := Nat.le_trans Zs68 K69q.1
      have N69 := Fr.app N68 N69q
      refine Go.tr st69 ?_
      show Go p e below _ (T69.setTop (mkF m 179 #[.val (.int fa), .val (.int fb), .val (.int fc), .val (.int fs), .val (.int u1), .val (.int u2), .val (.int u3), .val (.int md), .val (.int l0), .val (.int l1), .val (.int r0), .val (.int r1), .val (.int r0), .val (.int r1), .val (.int q0), .val (.int q1), .val (.int (0 : Int32)), .val (.ref x67), .val (.ref x68), .unset, .unset, .unset, .unset] [(.ref x69)]))
      refine Go.st (fun _ kt => XS.astore X69.here hx rfl (hb hby at_179) rfl rfl (l' := #[.val (.int fa), .val (.int fb), .val (.int fc), .val (.int fs), .val (.int u1), .val (.int u2), .val (.int u3), .val (.int md), .val (.int l0), .val (.int l1), .val (.int r0), .val (.int r1), .val (.int r0), .val (.int r1), .val (.int q0), .val (.int q1), .val (.int (0 : Int32)), .val (.ref x67), .val (.ref x68), .val (.ref x69), .unset, .unset, .unset]) rfl kt) ?_
      show Go p e below _ (T69.setTop (mkF m 181 #[.val (.int fa), .val (.int fb), .val (.int fc), .val (.int fs), .val (.int u1), .val (.int u2), .val (.int u3), .val (.int md), .val (.int l0), .val (.int l1), .val (.int r0), .val (.int r1), .val (.int r0), .val (.int r1), .val (.int q0), .val (.int q1), .val (.int (0 : Int32)), .val (.ref x67), .val (.ref x68), .val (.ref x69), .unset, .unset, .unset] []))
      refine Go.st (fun _ kt => XS.iloadN X69.here hx rfl (hb hby at_181) rfl kt) ?_
      show Go p e below _ (T69.setTop (mkF m 182 #[.val (.int fa), .val (.int fb), .val (.int fc), .val (.int fs), .val (.int u1), .val (.int u2), .val (.int u3), .val (.int md), .val (.int l0), .val (.int l1), .val (.int r0), .val (.int r1), .val (.int r0), .val (.int r1), .val (.int q0), .val (.int q1), .val (.int (0 : Int32)), .val (.ref x67), .val (.ref x68), .val (.ref x69), .unset, .unset, .unset] [(.int fs)]))
      refine Go.st (fun _ kt => XS.bipush X69.here hx rfl (hb hby at_182) kt) ?_
      show Go p e below _ (T69.setTop (mkF m 184 #[.val (.int fa), .val (.int fb), .val (.int fc), .val (.int fs), .val (.int u1), .val (.int u2), .val (.int u3), .val (.int md), .val (.int l0), .val (.int l1), .val (.int r0), .val (.int r1), .val (.int r0), .val (.int r1), .val (.int q0), .val (.int q1), .val (.int (0 : Int32)), .val (.ref x67), .val (.ref x68), .val (.ref x69), .unset, .unset, .unset] [(.int (8 : Int32)), (.int fs)]))
      refine Go.st (fun _ kt => XS.ishr X69.here hx rfl (hb hby at_184) rfl kt) ?_
      show Go p e below _ (T69.setTop (mkF m 185 #[.val (.int fa), .val (.int fb), .val (.int fc), .val (.int fs), .val (.int u1), .val (.int u2), .val (.int u3), .val (.int md), .val (.int l0), .val (.int l1), .val (.int r0), .val (.int r1), .val (.int r0), .val (.int r1), .val (.int q0), .val (.int q1), .val (.int (0 : Int32)), .val (.ref x67), .val (.ref x68), .val (.ref x69), .unset, .unset, .unset] [(.int (fs >>> ((8 : Int32) &&& 31)))]))
      refine Go.st (fun _ kt => XS.sipush X69.here hx rfl (hb hby at_185) kt) ?_
      show Go p e below _ (T69.setTop (mkF m 188 #[.val (.int fa), .val (.int fb), .val (.int fc), .val (.int fs), .val (.int u1), .val (.int u2), .val (.int u3), .val (.int md), .val (.int l0), .val (.int l1), .val (.int r0), .val (.int r1), .val (.int r0), .val (.int r1), .val (.int q0), .val (.int q1), .val (.int (0 : Int32)), .val (.ref x67), .val (.ref x68), .val (.ref x69), .unset, .unset, .unset] [(.int (255 : Int32)), (.int (fs >>> ((8 : Int32) &&& 31)))]))
      refine Go.st (fun _ kt => XS.iand X69.here hx rfl (hb hby at_188) rfl kt) ?_
      show Go p e below _ (T69.setTop (mkF m 189 #[.val (.int fa), .val (.int fb), .val (.int fc), .val (.int fs), .val (.int u1), .val (.int u2), .val (.int u3), .val (.int md), .val (.int l0), .val (.int l1), .val (.int r0), .val (.int r1), .val (.int r0), .val (.int r1), .val (.int q0), .val (.int q1), .val (.int (0 : Int32)), .val (.ref x67), .val (.ref x68), .val (.ref x69), .unset, .unset, .unset] [(.int ((fs >>> ((8 : Int32) &&& 31)) &&& (255 : Int32)))]))
      generalize hqc : (((fs >>> ((8 : Int32) &&& 31)) &&& (255 : Int32)) : Int32) = qc
      show Go p e below _ (T69.setTop (mkF m 189 #[.val (.int fa), .val (.int fb), .val (.int fc), .val (.int fs), .val (.int u1), .val (.int u2), .val (.int u3), .val (.int md), .val (.int l0), .val (.int l1), .val (.int r0), .val (.int r1), .val (.int r0), .val (.int r1), .val (.int q0), .val (.int q1), .val (.int (0 : Int32)), .val (.ref x67), .val (.ref x68), .val (.ref x69), .unset, .unset, .unset] [(.int qc)]))
      have bqc := hqc ▸ own_and255 _
      refine Go.st (fun _ kt => XS.i2c X69.here hx rfl (hb hby at_189) rfl kt) ?_
      show Go p e below _ (T69.setTop (mkF m 190 #[.val (.int fa), .val (.int fb), .val (.int fc), .val (.int fs), .val (.int u1), .val (.int u2), .val (.int u3), .val (.int md), .val (.int l0), .val (.int l1), .val (.int r0), .val (.int r1), .val (.int r0), .val (.int r1), .val (.int q0), .val (.int q1), .val (.int (0 : Int32)), .val (.ref x67), .val (.ref x68), .val (.ref x69), .unset, .unset, .unset] [(.int (qc.toUInt32.toUInt16.toUInt32.toInt32))]))
      rw [(own_chr bqc : (qc.toUInt32.toUInt16.toUInt32.toInt32) = qc)]
      show Go p e below _ (T69.setTop (mkF m 190 #[.val (.int fa), .val (.int fb), .val (.int fc), .val (.int fs), .val (.int u1), .val (.int u2), .val (.int u3), .val (.int md), .val (.int l0), .val (.int l1), .val (.int r0), .val (.int r1), .val (.int r0), .val (.int r1), .val (.int q0), .val (.int q1), .val (.int (0 : Int32)), .val (.ref x67), .val (.ref x68), .val (.ref x69), .unset, .unset, .unset] [(.int qc)]))
      obtain ⟨_, _, ⟨T72, L72, k72, n72⟩, -, X72, ⟨Lc72, hQ72, l72, y72, z72⟩, st72⟩ := Jvm.LawKit.callS X69 hx (y := (⟨"java/lang/String", "valueOf", "(C)Ljava/lang/String;"⟩ : MethodName)) hown (mvT hZ (hw _ (List.mem_of_getElem? (i := 37) rfl))) (mvT hZ (hw _ (List.mem_of_getElem? (i := 38) rfl))) (mvT hZ (hw _ (List.mem_of_getElem? (i := 6) rfl))) (mvT hZ (hw _ (List.mem_of_getElem? (i := 39) rfl))) (by decide) (backOf (W := 0) (rm8 l Z a0 hw [] qc G1 T69.heap n0 Zs69 O2 P5 (own_EX X69 rfl N69 hz0 hh XE) hz0 bqc.2) hZ (hw _ (List.mem_of_getElem? (i := 39) rfl)) (hw _ (List.mem_of_getElem? (i := 6) rfl)) (by decide) (by decide)) (g := (mkF m 190 #[.val (.int fa), .val (.int fb), .val (.int fc), .val (.int fs), .val (.int u1), .val (.int u2), .val (.int u3), .val (.int md), .val (.int l0), .val (.int l1), .val (.int r0), .val (.int r1), .val (.int r0), .val (.int r1), .val (.int q0), .val (.int q1), .val (.int (0 : Int32)), .val (.ref x67), .val (.ref x68), .val (.ref x69), .unset, .unset, .unset] [(.int qc)])) rfl (by rw [hml]; rfl) (argsL := [(.int qc)]) (rest := []) (lenOf own_pd15 rfl) rfl (by show 2 * 0 + _ ≤ _; exact Nat.le_of_eq rfl) (hb hby at_190) (fun _ _ => ⟨rfl, rfl, (by decide : 12 + 2 ≤ _), (by decide : 24 + 5 ≤ _)⟩)
      dsimp only [Pt.U, Pt.locs, Pt.cells, Pt.slots] at X72 l72 y72 z72 st72 hQ72
      subst l72 y72 z72
      obtain ⟨x72, rfl, N72q, K72q, gz72, E72s⟩ := hQ72
      have f73 := (f70.keep K69q)
      have lt_x67_x72 : x67 < x72 := Nat.lt_of_lt_of_le f73.lt gz72
      have f74 := (f71.keep K69q nin0)
      have lt_t67_x72 : t67 < x72 := Nat.lt_of_lt_of_le f74.lt gz72
      have f75 := (E68s.keep K69q)
      have lt_x68_x72 : x68 < x72 := Nat.lt_of_lt_of_le f75.lt gz72
      have f76 := (A68s.keep K69q nin0)
      have lt_t68_x72 : t68 < x72 := Nat.lt_of_lt_of_le f76.lt gz72
      have lt_x69_x72 : x69 < x72 := Nat.lt_of_lt_of_le E69s.lt gz72
      have lt_t69_x72 : t69 < x72 := Nat.lt_of_lt_of_le A69s.lt gz72
      have gn_x72 : n0 ≤ x72 := Nat.le_trans Zs69 gz72
      have Zs72 : n0 ≤ T72.heap.size := Nat.le_trans Zs69 K72q.1
      have Gk72 := Nat.le_trans (Nat.le_refl _) K72q.1
      have N72 := Fr.app N69 N72q
      refine Go.st st72 ?_
      show Go p e below _ (T72.setTop (mkF m 193 #[.val (.int fa), .val (.int fb), .val (.int fc), .val (.int fs), .val (.int u1), .val (.int u2), .val (.int u3), .val (.int md), .val (.int l0), .val (.int l1), .val (.int r0), .val (.int r1), .val (.int r0), .val (.int r1), .val (.int q0), .val (.int q1), .val (.int (0 : Int32)), .val (.ref x67), .val (.ref x68), .val (.ref x69), .unset, .unset, .unset] [(.ref x72)]))
      refine Go.st (fun _ kt => XS.astore X72.here hx rfl (hb hby at_193) rfl rfl (l' := #[.val (.int fa), .val (.int fb), .val (.int fc), .val (.int fs), .val (.int u1), .val (.int u2), .val (.int u3), .val (.int md), .val (.int l0), .val (.int l1), .val (.int r0), .val (.int r1), .val (.int r0), .val (.int r1), .val (.int q0), .val (.int q1), .val (.int (0 : Int32)), .val (.ref x67), .val (.ref x68), .val (.ref x69), .val (.ref x72), .unset, .unset]) rfl kt) ?_
      show Go p e below _ (T72.setTop (mkF m 195 #[.val (.int fa), .val (.int fb), .val (.int fc), .val (.int fs), .val (.int u1), .val (.int u2), .val (.int u3), .val (.int md), .val (.int l0), .val (.int l1), .val (.int r0), .val (.int r1), .val (.int r0), .val (.int r1), .val (.int q0), .val (.int q1), .val (.int (0 : Int32)), .val (.ref x67), .val (.ref x68), .val (.ref x69), .val (.ref x72), .unset, .unset] []))
      obtain ⟨T77, h77, X77, e77, E77, A77, D77, U77, st77⟩ := newO X72 hx hZ hown (hw _ (List.mem_of_getElem? (i := 51) rfl)) (hw _ (List.mem_of_getElem? (i := 52) rfl)) (hw _ (List.mem_of_getElem? (i := 53) rfl)) rfl (g := (mkF m 195 #[.val (.int fa), .val (.int fb), .val (.int fc), .val (.int fs), .val (.int u1), .val (.int u2), .val (.int u3), .val (.int md), .val (.int l0), .val (.int l1), .val (.int r0), .val (.int r1), .val (.int r0), .val (.int r1), .val (.int q0), .val (.int q1), .val (.int (0 : Int32)), .val (.ref x67), .val (.ref x68), .val (.ref x69), .val (.ref x72), .unset, .unset] [])) rfl (hb hby at_195) (by decide) (by decide)
      obtain ⟨b77, g77⟩ : ∃ z, z = T72.heap.size := ⟨_, rfl⟩
      rw [← g77] at A77 D77 U77 st77
      have f78 := (f73.keep K72q)
      have lt_x67_b77 : x67 < b77 := Nat.lt_of_lt_of_eq f78.lt g77.symm
      have f79 := (f74.keep K72q nin0)
      have lt_t67_b77 : t67 < b77 := Nat.lt_of_lt_of_eq f79.lt g77.symm
      have f80 := (f75.keep K72q)
      have lt_x68_b77 : x68 < b77 := Nat.lt_of_lt_of_eq f80.lt g77.symm
      have f81 := (f76.keep K72q nin0)
      have lt_t68_b77 : t68 < b77 := Nat.lt_of_lt_of_eq f81.lt g77.symm
      have f82 := (E69s.keep K72q)
      have lt_x69_b77 : x69 < b77 := Nat.lt_of_lt_of_eq f82.lt g77.symm
      have f83 := (A69s.keep K72q nin0)
      have lt_t69_b77 : t69 < b77 := Nat.lt_of_lt_of_eq f83.lt g77.symm
      have lt_x72_b77 : x72 < b77 := Nat.lt_of_lt_of_eq E72s.lt g77.symm
      have gn_b77 : n0 ≤ b77 := Nat.le_trans Zs72 (Nat.le_of_eq g77.symm)
      have Zs77 : n0 ≤ h77.size := Nat.le_trans Zs72 E77.1
      have Gk77 := Nat.le_trans Gk72 E77.1
      refine Go.st st77 ?_
      have F77_question : Fld Z h77 b77 "com/example/manyhands/manyhands/crowd/Ordering" "question" "Ljava/lang/String;" .null := D77 (Or.inr (hw _ (List.mem_of_getElem? (i := 71) rfl))) (ty := (.object "java/lang/String")) (by decide)
      have F77_left : Fld Z h77 b77 "com/example/manyhands/manyhands/crowd/Ordering" "left" "Ljava/lang/String;" .null := D77 (Or.inr (hw _ (List.mem_of_getElem? (i := 73) rfl))) (ty := (.object "java/lang/String")) (by decide)
      have F77_right : Fld Z h77 b77 "com/example/manyhands/manyhands/crowd/Ordering" "right" "Ljava/lang/String;" .null := D77 (Or.inr (hw _ (List.mem_of_getElem? (i := 75) rfl))) (ty := (.object "java/lang/String")) (by decide)
      show Go p e below _ (T77.setTop (mkF m 198 #[.val (.int fa), .val (.int fb), .val (.int fc), .val (.int fs), .val (.int u1), .val (.int u2), .val (.int u3), .val (.int md), .val (.int l0), .val (.int l1), .val (.int r0), .val (.int r1), .val (.int r0), .val (.int r1), .val (.int q0), .val (.int q1), .val (.int (0 : Int32)), .val (.ref x67), .val (.ref x68), .val (.ref x69), .val (.ref x72), .unset, .unset] [(.ref b77)]))
      refine Go.st (fun _ kt => XS.dup X77.here hx rfl (hb hby at_198) rfl rfl kt) ?_
      show Go p e below _ (T77.setTop (mkF m 199 #[.val (.int fa), .val (.int fb), .val (.int fc), .val (.int fs), .val (.int u1), .val (.int u2), .val (.int u3), .val (.int md), .val (.int l0), .val (.int l1), .val (.int r0), .val (.int r1), .val (.int r0), .val (.int r1), .val (.int q0), .val (.int q1), .val (.int (0 : Int32)), .val (.ref x67), .val (.ref x68), .val (.ref x69), .val (.ref x72), .unset, .unset] [(.ref b77), (.ref b77)]))
      refine Go.st (fun _ kt => XS.aload X77.here hx rfl (hb hby at_199) rfl rfl kt) ?_
      show Go p e below _ (T77.setTop (mkF m 201 #[.val (.int fa), .val (.int fb), .val (.int fc), .val (.int fs), .val (.int u1), .val (.int u2), .val (.int u3), .val (.int md), .val (.int l0), .val (.int l1), .val (.int r0), .val (.int r1), .val (.int r0), .val (.int r1), .val (.int q0), .val (.int q1), .val (.int (0 : Int32)), .val (.ref x67), .val (.ref x68), .val (.ref x69), .val (.ref x72), .unset, .unset] [(.ref x72), (.ref b77), (.ref b77)]))
      refine Go.st (fun _ kt => XS.aload X77.here hx rfl (hb hby at_201) rfl rfl kt) ?_
      show Go p e below _ (T77.setTop (mkF m 203 #[.val (.int fa), .val (.int fb), .val (.int fc), .val (.int fs), .val (.int u1), .val (.int u2), .val (.int u3), .val (.int md), .val (.int l0), .val (.int l1), .val (.int r0), .val (.int r1), .val (.int r0), .val (.int r1), .val (.int q0), .val (.int q1), .val (.int (0 : Int32)), .val (.ref x67), .val (.ref x68), .val (.ref x69), .val (.ref x72), .unset, .unset] [(.ref x67), (.ref x72), (.ref b77), (.ref b77)]))
      refine Go.st (fun _ kt => XS.aload X77.here hx rfl (hb hby at_203) rfl rfl kt) ?_
      show Go p e below _ (T77.setTop (mkF m 205 #[.val (.int fa), .val (.int fb), .val (.int fc), .val (.int fs), .val (.int u1), .val (.int u2), .val (.int u3), .val (.int md), .val (.int l0), .val (.int l1), .val (.int r0), .val (.int r1), .val (.int r0), .val (.int r1), .val (.int q0), .val (.int q1), .val (.int (0 : Int32)), .val (.ref x67), .val (.ref x68), .val (.ref x69), .val (.ref x72), .unset, .unset] [(.ref x68), (.ref x67), (.ref x72), (.ref b77), (.ref b77)]))
      obtain ⟨_, _, ⟨T84, L84, k84, n84⟩, -, Xb84, hSb84, gr84, ⟨Lc84, hQ84, l84, y84, z84⟩, st84⟩ := X77.specialBackS hx (y := (⟨"com/example/manyhands/manyhands/crowd/Ordering", "<init>", "(Ljava/lang/String;Ljava/lang/String;Ljava/lang/String;)V"⟩ : MethodName)) rfl hown (mvT hZ (hw _ (List.mem_of_getElem? (i := 54) rfl))) (mvT hZ (hw _ (List.mem_of_getElem? (i := 55) rfl))) (mvT hZ (hw _ (List.mem_of_getElem? (i := 56) rfl))) (by decide) (own_backJ (PU := fun _ => True) (W := 1) (rm12 l Z a0 hw [] b77 x72 x67 x68 h77 n0 Zs77 A77 F77_question F77_left F77_right gn_b77) hZ (hw _ (List.mem_of_getElem? (i := 56) rfl)) (hw _ (List.mem_of_getElem? (i := 53) rfl)) (by decide) (by decide)) (g := (mkF m 205 #[.val (.int fa), .val (.int fb), .val (.int fc), .val (.int fs), .val (.int u1), .val (.int u2), .val (.int u3), .val (.int md), .val (.int l0), .val (.int l1), .val (.int r0), .val (.int r1), .val (.int r0), .val (.int r1), .val (.int q0), .val (.int q1), .val (.int (0 : Int32)), .val (.ref x67), .val (.ref x68), .val (.ref x69), .val (.ref x72), .unset, .unset] [(.ref x68), (.ref x67), (.ref x72), (.ref b77), (.ref b77)])) rfl (by rw [hml]; rfl) (Steps.refl _) (a := b77) (argsL := [(.ref x72), (.ref x67), (.ref x68)]) (rest := [(.ref b77)]) (lenOf own_pd16 rfl) rfl (by show 2 * 0 + _ ≤ _; exact Nat.le_of_eq rfl) (hb hby at_205) (fun _ hWm => ⟨rfl, e77, (by decide : 15 + 6 ≤ _), (by decide : 32 + 80 ≤ _), trivial⟩)
      dsimp only [Pt.U, Pt.locs, Pt.cells, Pt.slots] at Xb84 hSb84 gr84 l84 y84 z84 st84 hQ84
      subst l84 y84 z84
      obtain ⟨X84, hS84, hZ, hown⟩ := rebS hS69 (by rw [e77]; exact Gk77) Xb84 hSb84 gr84 hZ hown
      obtain ⟨rfl, N84q, K84q, Fle84, Fri84⟩ := hQ84
      have Zs84 : n0 ≤ T84.heap.size := Nat.le_trans Zs77 K84q.1
      have N84 := Fr.app N72 N84q
      refine Go.tr st84 ?_
      show Go p e below _ (T84.setTop (mkF m 208 #[.val (.int fa), .val (.int fb), .val (.int fc), .val (.int fs), .val (.int u1), .val (.int u2), .val (.int u3), .val (.int md), .val (.int l0), .val (.int l1), .val (.int r0), .val (.int r1), .val (.int r0), .val (.int r1), .val (.int q0), .val (.int q1), .val (.int (0 : Int32)), .val (.ref x67), .val (.ref x68), .val (.ref x69), .val (.ref x72), .unset, .unset] [(.ref b77)]))
      refine Go.st (fun _ kt => XS.astore X84.here hx rfl (hb hby at_208) rfl rfl (l' := #[.val (.int fa), .val (.int fb), .val (.int fc), .val (.int fs), .val (.int u1), .val (.int u2), .val (.int u3), .val (.int md), .val (.int l0), .val (.int l1), .val (.int r0), .val (.int r1), .val (.int r0), .val (.int r1), .val (.int q0), .val (.int q1), .val (.int (0 : Int32)), .val (.ref x67), .val (.ref x68), .val (.ref x69), .val (.ref x72), .val (.ref b77), .unset]) rfl kt) ?_
      show Go p e below _ (T84.setTop (mkF m 210 #[.val (.int fa), .val (.int fb), .val (.int fc), .val (.int fs), .val (.int u1), .val (.int u2), .val (.int u3), .val (.int md), .val (.int l0), .val (.int l1), .val (.int r0), .val (.int r1), .val (.int r0), .val (.int r1), .val (.int q0), .val (.int q1), .val (.int (0 : Int32)), .val (.ref x67), .val (.ref x68), .val (.ref x69), .val (.ref x72), .val (.ref b77), .unset] []))
      refine Go.st (fun _ kt => XS.iload X84.here hx rfl (hb hby at_210) rfl kt) ?_
      show Go p e below _ (T84.setTop (mkF m 212 #[.val (.int fa), .val (.int fb), .val (.int fc), .val (.int fs), .val (.int u1), .val (.int u2), .val (.int u3), .val (.int md), .val (.int l0), .val (.int l1), .val (.int r0), .val (.int r1), .val (.int r0), .val (.int r1), .val (.int q0), .val (.int q1), .val (.int (0 : Int32)), .val (.ref x67), .val (.ref x68), .val (.ref x69), .val (.ref x72), .val (.ref b77), .unset] [(.int (0 : Int32))]))
      refine Go.st (fun _ kt => XS.ifNo X84.here hx rfl (hb hby at_212) rfl ((if0 _ _).trans (teq (by decide : (0 : Int32) = (0 : Int32))).2) kt) ?_
      show Go p e below _ (T84.setTop (mkF m 215 #[.val (.int fa), .val (.int fb), .val (.int fc), .val (.int fs), .val (.int u1), .val (.int u2), .val (.int u3), .val (.int md), .val (.int l0), .val (.int l1), .val (.int r0), .val (.int r1), .val (.int r0), .val (.int r1), .val (.int q0), .val (.int q1), .val (.int (0 : Int32)), .val (.ref x67), .val (.ref x68), .val (.ref x69), .val (.ref x72), .val (.ref b77), .unset] []))
      refine Go.st (fun _ kt => XS.iload X84.here hx rfl (hb hby at_215) rfl kt) ?_
      show Go p e below _ (T84.setTop (mkF m 217 #[.val (.int fa), .val (.int fb), .val (.int fc), .val (.int fs), .val (.int u1), .val (.int u2), .val (.int u3), .val (.int md), .val (.int l0), .val (.int l1), .val (.int r0), .val (.int r1), .val (.int r0), .val (.int r1), .val (.int q0), .val (.int q1), .val (.int (0 : Int32)), .val (.ref x67), .val (.ref x68), .val (.ref x69), .val (.ref x72), .val (.ref b77), .unset] [(.int u3)]))
      refine Go.st (fun _ kt => XS.iload X84.here hx rfl (hb hby at_217) rfl kt) ?_
      show Go p e below _ (T84.setTop (mkF m 219 #[.val (.int fa), .val (.int fb), .val (.int fc), .val (.int fs), .val (.int u1), .val (.int u2), .val (.int u3), .val (.int md), .val (.int l0), .val (.int l1), .val (.int r0), .val (.int r1), .val (.int r0), .val (.int r1), .val (.int q0), .val (.int q1), .val (.int (0 : Int32)), .val (.ref x67), .val (.ref x68), .val (.ref x69), .val (.ref x72), .val (.ref b77), .unset] [(.int q0), (.int u3)]))
      refine Go.st (fun _ kt => XS.iload X84.here hx rfl (hb hby at_219) rfl kt) ?_
      show Go p e below _ (T84.setTop (mkF m 221 #[.val (.int fa), .val (.int fb), .val (.int fc), .val (.int fs), .val (.int u1), .val (.int u2), .val (.int u3), .val (.int md), .val (.int l0), .val (.int l1), .val (.int r0), .val (.int r1), .val (.int r0), .val (.int r1), .val (.int q0), .val (.int q1), .val (.int (0 : Int32)), .val (.ref x67), .val (.ref x68), .val (.ref x69), .val (.ref x72), .val (.ref b77), .unset] [(.int q1), (.int q0), (.int u3)]))
      refine Go.st (fun _ kt => XS.iload X84.here hx rfl (hb hby at_221) rfl kt) ?_
      show Go p e below _ (T84.setTop (mkF m 223 #[.val (.int fa), .val (.int fb), .val (.int fc), .val (.int fs), .val (.int u1), .val (.int u2), .val (.int u3), .val (.int md), .val (.int l0), .val (.int l1), .val (.int r0), .val (.int r1), .val (.int r0), .val (.int r1), .val (.int q0), .val (.int q1), .val (.int (0 : Int32)), .val (.ref x67), .val (.ref x68), .val (.ref x69), .val (.ref x72), .val (.ref b77), .unset] [(.int u1), (.int q1), (.int q0), (.int u3)]))
      refine Go.st (fun _ kt => XS.iload X84.here hx rfl (hb hby at_223) rfl kt) ?_
      show Go p e below _ (T84.setTop (mkF m 225 #[.val (.int fa), .val (.int fb), .val (.int fc), .val (.int fs), .val (.int u1), .val (.int u2), .val (.int u3), .val (.int md), .val (.int l0), .val (.int l1), .val (.int r0), .val (.int r1), .val (.int r0), .val (.int r1), .val (.int q0), .val (.int q1), .val (.int (0 : Int32)), .val (.ref x67), .val (.ref x68), .val (.ref x69), .val (.ref x72), .val (.ref b77), .unset] [(.int l0), (.int u1), (.int q1), (.int q0), (.int u3)]))
      refine Go.st (fun _ kt => XS.iload X84.here hx rfl (hb hby at_225) rfl kt) ?_
      show Go p e below _ (T84.setTop (mkF m 227 #[.val (.int fa), .val (.int fb), .val (.int fc), .val (.int fs), .val (.int u1), .val (.int u2), .val (.int u3), .val (.int md), .val (.int l0), .val (.int l1), .val (.int r0), .val (.int r1), .val (.int r0), .val (.int r1), .val (.int q0), .val (.int q1), .val (.int (0 : Int32)), .val (.ref x67), .val (.ref x68), .val (.ref x69), .val (.ref x72), .val (.ref b77), .unset] [(.int l1), (.int l0), (.int u1), (.int q1), (.int q0), (.int u3)]))
      obtain ⟨_, _, ⟨T85, L85, k85, n85⟩, -, X85, ⟨Lc85, hQ85, l85, y85, z85⟩, st85⟩ := Jvm.LawKit.callS X84 hx (y := (⟨"com/example/manyhands/manyhands/crowd/OrderingTakesPinLaw", "same", "(IIIIII)Z"⟩ : MethodName)) hown (mvT hZ (hw _ (List.mem_of_getElem? (i := 76) rfl))) (mvT hZ (hw _ (List.mem_of_getElem? (i := 77) rfl))) (mvT hZ (hw _ (List.mem_of_getElem? (i := 2) rfl))) (mvT hZ (hw _ (List.mem_of_getElem? (i := 78) rfl))) (by decide) (backOf (W := 0) (rm15 l Z a0 hw [] u3 q0 q1 u1 l0 l1 T84.heap n0 Zs84) hZ (hw _ (List.mem_of_getElem? (i := 78) rfl)) (hw _ (List.mem_of_getElem? (i := 2) rfl)) (by decide) (by decide)) (g := (mkF m 227 #[.val (.int fa), .val (.int fb), .val (.int fc), .val (.int fs), .val (.int u1), .val (.int u2), .val (.int u3), .val (.int md), .val (.int l0), .val (.int l1), .val (.int r0), .val (.int r1), .val (.int r0), .val (.int r1), .val (.int q0), .val (.int q1), .val (.int (0 : Int32)), .val (.ref x67), .val (.ref x68), .val (.ref x69), .val (.ref x72), .val (.ref b77), .unset] [(.int l1), (.int l0), (.int u1), (.int q1), (.int q0), (.int u3)])) rfl (by rw [hml]; rfl) (argsL := [(.int u3), (.int q0), (.int q1), (.int u1), (.int l0), (.int l1)]) (rest := []) (lenOf own_pd17 rfl) rfl (by show 2 * 0 + _ ≤ _; exact Nat.le_of_eq rfl) (hb hby at_227) (fun _ _ => ⟨rfl, rfl, (by decide : 21 + 0 ≤ _), (by decide : 112 + 0 ≤ _)⟩)
      dsimp only [Pt.U, Pt.locs, Pt.cells, Pt.slots] at X85 l85 y85 z85 st85 hQ85
      subst l85 y85 z85
      obtain ⟨rfl, N85q, e85⟩ := hQ85
      have N85 := Fr.app N84 N85q
      refine Go.st st85 ?_
      show Go p e below _ (T85.setTop (mkF m 230 #[.val (.int fa), .val (.int fb), .val (.int fc), .val (.int fs), .val (.int u1), .val (.int u2), .val (.int u3), .val (.int md), .val (.int l0), .val (.int l1), .val (.int r0), .val (.int r1), .val (.int r0), .val (.int r1), .val (.int q0), .val (.int q1), .val (.int (0 : Int32)), .val (.ref x67), .val (.ref x68), .val (.ref x69), .val (.ref x72), .val (.ref b77), .unset] [(.int (own_same u3 q0 q1 u1 l0 l1))]))
      by_cases hc230_86 : (own_same u3 q0 q1 u1 l0 l1) = (0 : Int32)
      · refine Go.st (fun _ kt => XS.ifNo X85.here hx rfl (hb hby at_230) rfl ((if0 _ _).trans (teq hc230_86).2) kt) ?_
        show Go p e below _ (T85.setTop (mkF m 233 #[.val (.int fa), .val (.int fb), .val (.int fc), .val (.int fs), .val (.int u1), .val (.int u2), .val (.int u3), .val (.int md), .val (.int l0), .val (.int l1), .val (.int r0), .val (.int r1), .val (.int r0), .val (.int r1), .val (.int q0), .val (.int q1), .val (.int (0 : Int32)), .val (.ref x67), .val (.ref x68), .val (.ref x69), .val (.ref x72), .val (.ref b77), .unset] []))
        refine Go.st (fun _ kt => XS.iload X85.here hx rfl (hb hby at_233) rfl kt) ?_
        show Go p e below _ (T85.setTop (mkF m 235 #[.val (.int fa), .val (.int fb), .val (.int fc), .val (.int fs), .val (.int u1), .val (.int u2), .val (.int u3), .val (.int md), .val (.int l0), .val (.int l1), .val (.int r0), .val (.int r1), .val (.int r0), .val (.int r1), .val (.int q0), .val (.int q1), .val (.int (0 : Int32)), .val (.ref x67), .val (.ref x68), .val (.ref x69), .val (.ref x72), .val (.ref b77), .unset] [(.int u3)]))
        refine Go.st (fun _ kt => XS.iload X85.here hx rfl (hb hby at_235) rfl kt) ?_
        show Go p e below _ (T85.setTop (mkF m 237 #[.val (.int fa), .val (.int fb), .val (.int fc), .val (.int fs), .val (.int u1), .val (.int u2), .val (.int u3), .val (.int md), .val (.int l0), .val (.int l1), .val (.int r0), .val (.int r1), .val (.int r0), .val (.int r1), .val (.int q0), .val (.int q1), .val (.int (0 : Int32)), .val (.ref x67), .val (.ref x68), .val (.ref x69), .val (.ref x72), .val (.ref b77), .unset] [(.int q0), (.int u3)]))
        refine Go.st (fun _ kt => XS.iload X85.here hx rfl (hb hby at_237) rfl kt) ?_
        show Go p e below _ (T85.setTop (mkF m 239 #[.val (.int fa), .val (.int fb), .val (.int fc), .val (.int fs), .val (.int u1), .val (.int u2), .val (.int u3), .val (.int md), .val (.int l0), .val (.int l1), .val (.int r0), .val (.int r1), .val (.int r0), .val (.int r1), .val (.int q0), .val (.int q1), .val (.int (0 : Int32)), .val (.ref x67), .val (.ref x68), .val (.ref x69), .val (.ref x72), .val (.ref b77), .unset] [(.int q1), (.int q0), (.int u3)]))
        refine Go.st (fun _ kt => XS.iload X85.here hx rfl (hb hby at_239) rfl kt) ?_
        show Go p e below _ (T85.setTop (mkF m 241 #[.val (.int fa), .val (.int fb), .val (.int fc), .val (.int fs), .val (.int u1), .val (.int u2), .val (.int u3), .val (.int md), .val (.int l0), .val (.int l1), .val (.int r0), .val (.int r1), .val (.int r0), .val (.int r1), .val (.int q0), .val (.int q1), .val (.int (0 : Int32)), .val (.ref x67), .val (.ref x68), .val (.ref x69), .val (.ref x72), .val (.ref b77), .unset] [(.int u2), (.int q1), (.int q0), (.int u3)]))
        refine Go.st (fun _ kt => XS.iload X85.here hx rfl (hb hby at_241) rfl kt) ?_
        show Go p e below _ (T85.setTop (mkF m 243 #[.val (.int fa), .val (.int fb), .val (.int fc), .val (.int fs), .val (.int u1), .val (.int u2), .val (.int u3), .val (.int md), .val (.int l0), .val (.int l1), .val (.int r0), .val (.int r1), .val (.int r0), .val (.int r1), .val (.int q0), .val (.int q1), .val (.int (0 : Int32)), .val (.ref x67), .val (.ref x68), .val (.ref x69), .val (.ref x72), .val (.ref b77), .unset] [(.int r0), (.int u2), (.int q1), (.int q0), (.int u3)]))
        refine Go.st (fun _ kt => XS.iload X85.here hx rfl (hb hby at_243) rfl kt) ?_
        show Go p e below _ (T85.setTop (mkF m 245 #[.val (.int fa), .val (.int fb), .val (.int fc), .val (.int fs), .val (.int u1), .val (.int u2), .val (.int u3), .val (.int md), .val (.int l0), .val (.int l1), .val (.int r0), .val (.int r1), .val (.int r0), .val (.int r1), .val (.int q0), .val (.int q1), .val (.int (0 : Int32)), .val (.ref x67), .val (.ref x68), .val (.ref x69), .val (.ref x72), .val (.ref b77), .unset] [(.int r1), (.int r0), (.int u2), (.int q1), (.int q0), (.int u3)]))
        obtain ⟨_, _, ⟨T87, L87, k87, n87⟩, -, X87, ⟨Lc87, hQ87, l87, y87, z87⟩, st87⟩ := Jvm.LawKit.callS X85 hx (y := (⟨"com/example/manyhands/manyhands/crowd/OrderingTakesPinLaw", "same", "(IIIIII)Z"⟩ : MethodName)) hown (mvT hZ (hw _ (List.mem_of_getElem? (i := 76) rfl))) (mvT hZ (hw _ (List.mem_of_getElem? (i := 77) rfl))) (mvT hZ (hw _ (List.mem_of_getElem? (i := 2) rfl))) (mvT hZ (hw _ (List.mem_of_getElem? (i := 78) rfl))) (by decide) (backOf (W := 0) (rm15 l Z a0 hw [] u3 q0 q1 u2 r0 r1 T84.heap n0 Zs84) hZ (hw _ (List.mem_of_getElem? (i := 78) rfl)) (hw _ (List.mem_of_getElem? (i := 2) rfl)) (by decide) (by decide)) (g := (mkF m 245 #[.val (.int fa), .val (.int fb), .val (.int fc), .val (.int fs), .val (.int u1), .val (.int u2), .val (.int u3), .val (.int md), .val (.int l0), .val (.int l1), .val (.int r0), .val (.int r1), .val (.int r0), .val (.int r1), .val (.int q0), .val (.int q1), .val (.int (0 : Int32)), .val (.ref x67), .val (.ref x68), .val (.ref x69), .val (.ref x72), .val (.ref b77), .unset] [(.int r1), (.int r0), (.int u2), (.int q1), (.int q0), (.int u3)])) rfl (by rw [hml]; rfl) (argsL := [(.int u3), (.int q0), (.int q1), (.int u2), (.int r0), (.int r1)]) (rest := []) (lenOf own_pd17 rfl) rfl (by show 2 * 0 + _ ≤ _; exact Nat.le_of_eq rfl) (hb hby at_245) (fun _ _ => ⟨rfl, e85, (by decide : 21 + 0 ≤ _), (by decide : 112 + 0 ≤ _)⟩)
        dsimp only [Pt.U, Pt.locs, Pt.cells, Pt.slots] at X87 l87 y87 z87 st87 hQ87
        subst l87 y87 z87
        obtain ⟨rfl, N87q, e87⟩ := hQ87
        have N87 := Fr.app N85 N87q
        refine Go.st st87 ?_
        show Go p e below _ (T87.setTop (mkF m 248 #[.val (.int fa), .val (.int fb), .val (.int fc), .val (.int fs), .val (.int u1), .val (.int u2), .val (.int u3), .val (.int md), .val (.int l0), .val (.int l1), .val (.int r0), .val (.int r1), .val (.int r0), .val (.int r1), .val (.int q0), .val (.int q1), .val (.int (0 : Int32)), .val (.ref x67), .val (.ref x68), .val (.ref x69), .val (.ref x72), .val (.ref b77), .unset] [(.int (own_same u3 q0 q1 u2 r0 r1))]))
        by_cases hc248_88 : (own_same u3 q0 q1 u2 r0 r1) = (0 : Int32)
        · refine Go.st (fun _ kt => XS.ifYes X87.here hx rfl (pc0 := 248) (pc' := 255) rfl (hb hby at_248) rfl ((if0 _ _).trans (teq hc248_88).1) (by decide) (by decide) kt) ?_
          show Go p e below _ (T87.setTop (mkF m 255 #[.val (.int fa), .val (.int fb), .val (.int fc), .val (.int fs), .val (.int u1), .val (.int u2), .val (.int u3), .val (.int md), .val (.int l0), .val (.int l1), .val (.int r0), .val (.int r1), .val (.int r0), .val (.int r1), .val (.int q0), .val (.int q1), .val (.int (0 : Int32)), .val (.ref x67), .val (.ref x68), .val (.ref x69), .val (.ref x72), .val (.ref b77), .unset] []))
          refine Go.st (fun _ kt => XS.iconst X87.here hx rfl (hb hby at_255) kt) ?_
          show Go p e below _ (T87.setTop (mkF m 256 #[.val (.int fa), .val (.int fb), .val (.int fc), .val (.int fs), .val (.int u1), .val (.int u2), .val (.int u3), .val (.int md), .val (.int l0), .val (.int l1), .val (.int r0), .val (.int r1), .val (.int r0), .val (.int r1), .val (.int q0), .val (.int q1), .val (.int (0 : Int32)), .val (.ref x67), .val (.ref x68), .val (.ref x69), .val (.ref x72), .val (.ref b77), .unset] [(.int (0 : Int32))]))
          refine Go.st (fun _ kt => XS.istore X87.here hx rfl (hb hby at_256) rfl (l' := #[.val (.int fa), .val (.int fb), .val (.int fc), .val (.int fs), .val (.int u1), .val (.int u2), .val (.int u3), .val (.int md), .val (.int l0), .val (.int l1), .val (.int r0), .val (.int r1), .val (.int r0), .val (.int r1), .val (.int q0), .val (.int q1), .val (.int (0 : Int32)), .val (.ref x67), .val (.ref x68), .val (.ref x69), .val (.ref x72), .val (.ref b77), .val (.int (0 : Int32))]) rfl kt) ?_
          show Go p e below _ (T87.setTop (mkF m 258 #[.val (.int fa), .val (.int fb), .val (.int fc), .val (.int fs), .val (.int u1), .val (.int u2), .val (.int u3), .val (.int md), .val (.int l0), .val (.int l1), .val (.int r0), .val (.int r1), .val (.int r0), .val (.int r1), .val (.int q0), .val (.int q1), .val (.int (0 : Int32)), .val (.ref x67), .val (.ref x68), .val (.ref x69), .val (.ref x72), .val (.ref b77), .val (.int (0 : Int32))] []))
          refine Go.st (fun _ kt => XS.aload X87.here hx rfl (hb hby at_258) rfl rfl kt) ?_
          show Go p e below _ (T87.setTop (mkF m 260 #[.val (.int fa), .val (.int fb), .val (.int fc), .val (.int fs), .val (.int u1), .val (.int u2), .val (.int u3), .val (.int md), .val (.int l0), .val (.int l1), .val (.int r0), .val (.int r1), .val (.int r0), .val (.int r1), .val (.int q0), .val (.int q1), .val (.int (0 : Int32)), .val (.ref x67), .val (.ref x68), .val (.ref x69), .val (.ref x72), .val (.ref b77), .val (.int (0 : Int32))] [(.ref b77)]))
          refine Go.st (fun _ kt => XS.aload X87.here hx rfl (hb hby at_260) rfl rfl kt) ?_
          show Go p e below _ (T87.setTop (mkF m 262 #[.val (.int fa), .val (.int fb), .val (.int fc), .val (.int fs), .val (.int u1), .val (.int u2), .val (.int u3), .val (.int md), .val (.int l0), .val (.int l1), .val (.int r0), .val (.int r1), .val (.int r0), .val (.int r1), .val (.int q0), .val (.int q1), .val (.int (0 : Int32)), .val (.ref x67), .val (.ref x68), .val (.ref x69), .val (.ref x72), .val (.ref b77), .val (.int (0 : Int32))] [(.ref x69), (.ref b77)]))
          have f89 := (A77.keep K84q)
          have f90 := ((f78.ext E77).keep K84q)
          have f91 := (((((C67s.keep K68q nin0).keep K69q nin0).keep K72q nin0).ext E77).keep K84q (ninS (Nat.ne_of_lt lt_x67_b77) nin0))
          have f92 := (((((V67s.keep K68q nin0).keep K69q nin0).keep K72q nin0).ext E77).keep K84q (ninS (Nat.ne_of_lt lt_x67_b77) nin0))
          have f93 := ((f79.ext E77).keep K84q (ninS (Nat.ne_of_lt lt_t67_b77) nin0))
          have f94 := ((f80.ext E77).keep K84q)
          have f95 := ((((C68s.keep K69q nin0).keep K72q nin0).ext E77).keep K84q (ninS (Nat.ne_of_lt lt_x68_b77) nin0))
          have f96 := ((((V68s.keep K69q nin0).keep K72q nin0).ext E77).keep K84q (ninS (Nat.ne_of_lt lt_x68_b77) nin0))
          have f97 := ((f81.ext E77).keep K84q (ninS (Nat.ne_of_lt lt_t68_b77) nin0))
          have f98 := ((f82.ext E77).keep K84q)
          have f99 := (((C69s.keep K72q nin0).ext E77).keep K84q (ninS (Nat.ne_of_lt lt_x69_b77) nin0))
          have f100 := (((V69s.keep K72q nin0).ext E77).keep K84q (ninS (Nat.ne_of_lt lt_x69_b77) nin0))
          have f101 := ((f83.ext E77).keep K84q (ninS (Nat.ne_of_lt lt_t69_b77) nin0))
          obtain ⟨cq102, kq102, q102a, q102b, q102c⟩ := isOf hZ e87 f89
          obtain ⟨_, _, ⟨T102, L102, k102, n102⟩, -, X102, ⟨Lc102, hQ102, l102, y102, z102⟩, st102⟩ := X87.virtualBack hx (y := (⟨"com/example/manyhands/manyhands/crowd/Ordering", "takes", "(Ljava/lang/String;)Z"⟩ : MethodName)) (z := (⟨"com/example/manyhands/manyhands/crowd/Ordering", "takes", "(Ljava/lang/String;)Z"⟩ : MethodName)) hown (mvT hZ (hw _ (List.mem_of_getElem? (i := 79) rfl))) (mvT hZ (hw _ (List.mem_of_getElem? (i := 80) rfl))) (notFace_of_selects (args := #[]) (mvT hZ (hw _ (List.mem_of_getElem? (i := 82) rfl)))) (mvT hZ (hw _ (List.mem_of_getElem? (i := 82) rfl))) (mvT hZ (hw _ (List.mem_of_getElem? (i := 81) rfl))) (by decide) (backOf (W := 0) (rm16c l Z a0 hw [] b77 x69 x67 x68 t67 kb67 (own_cs u1 l0 l1) t68 kb68 (own_cs u2 r0 r1) t69 kb69 (own_cs u3 q0 q1) G1 T84.heap n0 Zs84 f89 Fle84 Fri84 ⟨f90, f91, f92, f93⟩ (own_csb bl0 bl1) (own_csl _ _ _) ⟨f94, f95, f96, f97⟩ (own_csb br0 br1) (own_csl _ _ _) ⟨f98, f99, f100, f101⟩ (own_csb bq0 bq1) (own_csl _ _ _) O2 P5 (own_EX X87 e87 N87 hz0 hh XE) hz0 ((own_sameZ bu3 bu1).mp hc230_86) ((own_sameZ bu3 bu2).mp hc248_88)) hZ (hw _ (List.mem_of_getElem? (i := 83) rfl)) (hw _ (List.mem_of_getElem? (i := 53) rfl)) (by decide) (by decide)) q102a q102c (g := (mkF m 262 #[.val (.int fa), .val (.int fb), .val (.int fc), .val (.int fs), .val (.int u1), .val (.int u2), .val (.int u3), .val (.int md), .val (.int l0), .val (.int l1), .val (.int r0), .val (.int r1), .val (.int r0), .val (.int r1), .val (.int q0), .val (.int q1), .val (.int (0 : Int32)), .val (.ref x67), .val (.ref x68), .val (.ref x69), .val (.ref x72), .val (.ref b77), .val (.int (0 : Int32))] [(.ref x69), (.ref b77)])) rfl (by rw [hml]; rfl) (Steps.refl _) (argsL := [(.ref x69)]) (rest := []) (lenOf own_pd18 rfl) rfl (by show 2 * 0 + _ ≤ _; exact Nat.le_of_eq rfl) (hb hby at_262) (fun _ _ => ⟨rfl, e87, (by decide : 21 + 0 ≤ _), (by decide : 112 + 0 ≤ _)⟩)
          dsimp only [Pt.U, Pt.locs, Pt.cells, Pt.slots] at X102 l102 y102 z102 st102 hQ102
          subst l102 y102 z102
          obtain ⟨rfl, N102q, e102⟩ := hQ102
          have N102 := Fr.app N87 N102q
          refine Go.tr st102 ?_
          show Go p e below _ (T102.setTop (mkF m 265 #[.val (.int fa), .val (.int fb), .val (.int fc), .val (.int fs), .val (.int u1), .val (.int u2), .val (.int u3), .val (.int md), .val (.int l0), .val (.int l1), .val (.int r0), .val (.int r1), .val (.int r0), .val (.int r1), .val (.int q0), .val (.int q1), .val (.int (0 : Int32)), .val (.ref x67), .val (.ref x68), .val (.ref x69), .val (.ref x72), .val (.ref b77), .val (.int (0 : Int32))] [(.int (0 : Int32))]))
          refine Go.st (fun _ kt => XS.iload X102.here hx rfl (hb hby at_265) rfl kt) ?_
          show Go p e below _ (T102.setTop (mkF m 267 #[.val (.int fa), .val (.int fb), .val (.int fc), .val (.int fs), .val (.int u1), .val (.int u2), .val (.int u3), .val (.int md), .val (.int l0), .val (.int l1), .val (.int r0), .val (.int r1), .val (.int r0), .val (.int r1), .val (.int q0), .val (.int q1), .val (.int (0 : Int32)), .val (.ref x67), .val (.ref x68), .val (.ref x69), .val (.ref x72), .val (.ref b77), .val (.int (0 : Int32))] [(.int (0 : Int32)), (.int (0 : Int32))]))
          refine Go.st (fun _ kt => XS.icmpNo X102.here hx rfl (hb hby at_267) rfl (teq (by decide : (0 : Int32) = (0 : Int32))).2 kt) ?_
          show Go p e below _ (T102.setTop (mkF m 270 #[.val (.int fa), .val (.int fb), .val (.int fc), .val (.int fs), .val (.int u1), .val (.int u2), .val (.int u3), .val (.int md), .val (.int l0), .val (.int l1), .val (.int r0), .val (.int r1), .val (.int r0), .val (.int r1), .val (.int q0), .val (.int q1), .val (.int (0 : Int32)), .val (.ref x67), .val (.ref x68), .val (.ref x69), .val (.ref x72), .val (.ref b77), .val (.int (0 : Int32))] []))
          refine Go.st (fun _ kt => XS.iconst X102.here hx rfl (hb hby at_270) kt) ?_
          show Go p e below _ (T102.setTop (mkF m 271 #[.val (.int fa), .val (.int fb), .val (.int fc), .val (.int fs), .val (.int u1), .val (.int u2), .val (.int u3), .val (.int md), .val (.int l0), .val (.int l1), .val (.int r0), .val (.int r1), .val (.int r0), .val (.int r1), .val (.int q0), .val (.int q1), .val (.int (0 : Int32)), .val (.ref x67), .val (.ref x68), .val (.ref x69), .val (.ref x72), .val (.ref b77), .val (.int (0 : Int32))] [(.int (1 : Int32))]))
          refine Go.st (fun _ kt => XS.goto X102.here hx rfl (pc0 := 271) (pc' := 275) rfl (hb hby at_271) (by decide) (by decide) kt) ?_
          show Go p e below _ (T102.setTop (mkF m 275 #[.val (.int fa), .val (.int fb), .val (.int fc), .val (.int fs), .val (.int u1), .val (.int u2), .val (.int u3), .val (.int md), .val (.int l0), .val (.int l1), .val (.int r0), .val (.int r1), .val (.int r0), .val (.int r1), .val (.int q0), .val (.int q1), .val (.int (0 : Int32)), .val (.ref x67), .val (.ref x68), .val (.ref x69), .val (.ref x72), .val (.ref b77), .val (.int (0 : Int32))] [(.int (1 : Int32))]))
          refine Go.retNS X102 hx (t := .boolean) Bd.returns (by simp) (BodyLoose.notSynchronized Bd) hS84 (by rw [e102]; exact (Nat.le_refl _)) (hb hby at_275) (Q := (Q_rm0 Z fa fb fc fs G1 h0 n0)) (by decide) (by decide) ?_
          intro vm2 hW2
          show (Q_rm0 Z fa fb fc fs G1 h0 n0) _ vm2 T102.heap _
          rw [e102]
          exact ⟨rfl, N102⟩
        · refine Go.st (fun _ kt => XS.ifNo X87.here hx rfl (hb hby at_248) rfl ((if0 _ _).trans (feq hc248_88).1) kt) ?_
          show Go p e below _ (T87.setTop (mkF m 251 #[.val (.int fa), .val (.int fb), .val (.int fc), .val (.int fs), .val (.int u1), .val (.int u2), .val (.int u3), .val (.int md), .val (.int l0), .val (.int l1), .val (.int r0), .val (.int r1), .val (.int r0), .val (.int r1), .val (.int q0), .val (.int q1), .val (.int (0 : Int32)), .val (.ref x67), .val (.ref x68), .val (.ref x69), .val (.ref x72), .val (.ref b77), .unset] []))
          refine Go.st (fun _ kt => XS.iconst X87.here hx rfl (hb hby at_251) kt) ?_
          show Go p e below _ (T87.setTop (mkF m 252 #[.val (.int fa), .val (.int fb), .val (.int fc), .val (.int fs), .val (.int u1), .val (.int u2), .val (.int u3), .val (.int md), .val (.int l0), .val (.int l1), .val (.int r0), .val (.int r1), .val (.int r0), .val (.int r1), .val (.int q0), .val (.int q1), .val (.int (0 : Int32)), .val (.ref x67), .val (.ref x68), .val (.ref x69), .val (.ref x72), .val (.ref b77), .unset] [(.int (1 : Int32))]))
          refine Go.st (fun _ kt => XS.goto X87.here hx rfl (pc0 := 252) (pc' := 256) rfl (hb hby at_252) (by decide) (by decide) kt) ?_
          show Go p e below _ (T87.setTop (mkF m 256 #[.val (.int fa), .val (.int fb), .val (.int fc), .val (.int fs), .val (.int u1), .val (.int u2), .val (.int u3), .val (.int md), .val (.int l0), .val (.int l1), .val (.int r0), .val (.int r1), .val (.int r0), .val (.int r1), .val (.int q0), .val (.int q1), .val (.int (0 : Int32)), .val (.ref x67), .val (.ref x68), .val (.ref x69), .val (.ref x72), .val (.ref b77), .unset] [(.int (1 : Int32))]))
          refine Go.st (fun _ kt => XS.istore X87.here hx rfl (hb hby at_256) rfl (l' := #[.val (.int fa), .val (.int fb), .val (.int fc), .val (.int fs), .val (.int u1), .val (.int u2), .val (.int u3), .val (.int md), .val (.int l0), .val (.int l1), .val (.int r0), .val (.int r1), .val (.int r0), .val (.int r1), .val (.int q0), .val (.int q1), .val (.int (0 : Int32)), .val (.ref x67), .val (.ref x68), .val (.ref x69), .val (.ref x72), .val (.ref b77), .val (.int (1 : Int32))]) rfl kt) ?_
          show Go p e below _ (T87.setTop (mkF m 258 #[.val (.int fa), .val (.int fb), .val (.int fc), .val (.int fs), .val (.int u1), .val (.int u2), .val (.int u3), .val (.int md), .val (.int l0), .val (.int l1), .val (.int r0), .val (.int r1), .val (.int r0), .val (.int r1), .val (.int q0), .val (.int q1), .val (.int (0 : Int32)), .val (.ref x67), .val (.ref x68), .val (.ref x69), .val (.ref x72), .val (.ref b77), .val (.int (1 : Int32))] []))
          refine Go.st (fun _ kt => XS.aload X87.here hx rfl (hb hby at_258) rfl rfl kt) ?_
          show Go p e below _ (T87.setTop (mkF m 260 #[.val (.int fa), .val (.int fb), .val (.int fc), .val (.int fs), .val (.int u1), .val (.int u2), .val (.int u3), .val (.int md), .val (.int l0), .val (.int l1), .val (.int r0), .val (.int r1), .val (.int r0), .val (.int r1), .val (.int q0), .val (.int q1), .val (.int (0 : Int32)), .val (.ref x67), .val (.ref x68), .val (.ref x69), .val (.ref x72), .val (.ref b77), .val (.int (1 : Int32))] [(.ref b77)]))
          refine Go.st (fun _ kt => XS.aload X87.here hx rfl (hb hby at_260) rfl rfl kt) ?_
          show Go p e below _ (T87.setTop (mkF m 262 #[.val (.int fa), .val (.int fb), .val (.int fc), .val (.int fs), .val (.int u1), .val (.int u2), .val (.int u3), .val (.int md), .val (.int l0), .val (.int l1), .val (.int r0), .val (.int r1), .val (.int r0), .val (.int r1), .val (.int q0), .val (.int q1), .val (.int (0 : Int32)), .val (.ref x67), .val (.ref x68), .val (.ref x69), .val (.ref x72), .val (.ref b77), .val (.int (1 : Int32))] [(.ref x69), (.ref b77)]))
          have f103 := (A77.keep K84q)
          have f104 := ((f78.ext E77).keep K84q)
          have f105 := (((((C67s.keep K68q nin0).keep K69q nin0).keep K72q nin0).ext E77).keep K84q (ninS (Nat.ne_of_lt lt_x67_b77) nin0))
          have f106 := (((((V67s.keep K68q nin0).keep K69q nin0).keep K72q nin0).ext E77).keep K84q (ninS (Nat.ne_of_lt lt_x67_b77) nin0))
          have f107 := ((f79.ext E77).keep K84q (ninS (Nat.ne_of_lt lt_t67_b77) nin0))
          have f108 := ((f80.ext E77).keep K84q)
          have f109 := ((((C68s.keep K69q nin0).keep K72q nin0).ext E77).keep K84q (ninS (Nat.ne_of_lt lt_x68_b77) nin0))
          have f110 := ((((V68s.keep K69q nin0).keep K72q nin0).ext E77).keep K84q (ninS (Nat.ne_of_lt lt_x68_b77) nin0))
          have f111 := ((f81.ext E77).keep K84q (ninS (Nat.ne_of_lt lt_t68_b77) nin0))
          have f112 := ((f82.ext E77).keep K84q)
          have f113 := (((C69s.keep K72q nin0).ext E77).keep K84q (ninS (Nat.ne_of_lt lt_x69_b77) nin0))
          have f114 := (((V69s.keep K72q nin0).ext E77).keep K84q (ninS (Nat.ne_of_lt lt_x69_b77) nin0))
          have f115 := ((f83.ext E77).keep K84q (ninS (Nat.ne_of_lt lt_t69_b77) nin0))
          obtain ⟨cq116, kq116, q116a, q116b, q116c⟩ := isOf hZ e87 f103
          obtain ⟨_, _, ⟨T116, L116, k116, n116⟩, -, X116, ⟨Lc116, hQ116, l116, y116, z116⟩, st116⟩ := X87.virtualBack hx (y := (⟨"com/example/manyhands/manyhands/crowd/Ordering", "takes", "(Ljava/lang/String;)Z"⟩ : MethodName)) (z := (⟨"com/example/manyhands/manyhands/crowd/Ordering", "takes", "(Ljava/lang/String;)Z"⟩ : MethodName)) hown (mvT hZ (hw _ (List.mem_of_getElem? (i := 79) rfl))) (mvT hZ (hw _ (List.mem_of_getElem? (i := 80) rfl))) (notFace_of_selects (args := #[]) (mvT hZ (hw _ (List.mem_of_getElem? (i := 82) rfl)))) (mvT hZ (hw _ (List.mem_of_getElem? (i := 82) rfl))) (mvT hZ (hw _ (List.mem_of_getElem? (i := 81) rfl))) (by decide) (backOf (W := 0) (rm16b l Z a0 hw [] b77 x69 x67 x68 t67 kb67 (own_cs u1 l0 l1) t68 kb68 (own_cs u2 r0 r1) t69 kb69 (own_cs u3 q0 q1) G1 T84.heap n0 Zs84 f103 Fle84 Fri84 ⟨f104, f105, f106, f107⟩ (own_csb bl0 bl1) (own_csl _ _ _) ⟨f108, f109, f110, f111⟩ (own_csb br0 br1) (own_csl _ _ _) ⟨f112, f113, f114, f115⟩ (own_csb bq0 bq1) (own_csl _ _ _) O2 P5 (own_EX X87 e87 N87 hz0 hh XE) hz0 ((own_sameZ bu3 bu1).mp hc230_86) (Classical.not_not.mp fun q => hc248_88 ((own_sameZ bu3 bu2).mpr q))) hZ (hw _ (List.mem_of_getElem? (i := 83) rfl)) (hw _ (List.mem_of_getElem? (i := 53) rfl)) (by decide) (by decide)) q116a q116c (g := (mkF m 262 #[.val (.int fa), .val (.int fb), .val (.int fc), .val (.int fs), .val (.int u1), .val (.int u2), .val (.int u3), .val (.int md), .val (.int l0), .val (.int l1), .val (.int r0), .val (.int r1), .val (.int r0), .val (.int r1), .val (.int q0), .val (.int q1), .val (.int (0 : Int32)), .val (.ref x67), .val (.ref x68), .val (.ref x69), .val (.ref x72), .val (.ref b77), .val (.int (1 : Int32))] [(.ref x69), (.ref b77)])) rfl (by rw [hml]; rfl) (Steps.refl _) (argsL := [(.ref x69)]) (rest := []) (lenOf own_pd18 rfl) rfl (by show 2 * 0 + _ ≤ _; exact Nat.le_of_eq rfl) (hb hby at_262) (fun _ _ => ⟨rfl, e87, (by decide : 21 + 0 ≤ _), (by decide : 112 + 0 ≤ _)⟩)
          dsimp only [Pt.U, Pt.locs, Pt.cells, Pt.slots] at X116 l116 y116 z116 st116 hQ116
          subst l116 y116 z116
          obtain ⟨rfl, N116q, e116⟩ := hQ116
          have N116 := Fr.app N87 N116q
          refine Go.tr st116 ?_
          show Go p e below _ (T116.setTop (mkF m 265 #[.val (.int fa), .val (.int fb), .val (.int fc), .val (.int fs), .val (.int u1), .val (.int u2), .val (.int u3), .val (.int md), .val (.int l0), .val (.int l1), .val (.int r0), .val (.int r1), .val (.int r0), .val (.int r1), .val (.int q0), .val (.int q1), .val (.int (0 : Int32)), .val (.ref x67), .val (.ref x68), .val (.ref x69), .val (.ref x72), .val (.ref b77), .val (.int (1 : Int32))] [(.int (1 : Int32))]))
          refine Go.st (fun _ kt => XS.iload X116.here hx rfl (hb hby at_265) rfl kt) ?_
          show Go p e below _ (T116.setTop (mkF m 267 #[.val (.int fa), .val (.int fb), .val (.int fc), .val (.int fs), .val (.int u1), .val (.int u2), .val (.int u3), .val (.int md), .val (.int l0), .val (.int l1), .val (.int r0), .val (.int r1), .val (.int r0), .val (.int r1), .val (.int q0), .val (.int q1), .val (.int (0 : Int32)), .val (.ref x67), .val (.ref x68), .val (.ref x69), .val (.ref x72), .val (.ref b77), .val (.int (1 : Int32))] [(.int (1 : Int32)), (.int (1 : Int32))]))
          refine Go.st (fun _ kt => XS.icmpNo X116.here hx rfl (hb hby at_267) rfl (teq (by decide : (1 : Int32) = (1 : Int32))).2 kt) ?_
          show Go p e below _ (T116.setTop (mkF m 270 #[.val (.int fa), .val (.int fb), .val (.int fc), .val (.int fs), .val (.int u1), .val (.int u2), .val (.int u3), .val (.int md), .val (.int l0), .val (.int l1), .val (.int r0), .val (.int r1), .val (.int r0), .val (.int r1), .val (.int q0), .val (.int q1), .val (.int (0 : Int32)), .val (.ref x67), .val (.ref x68), .val (.ref x69), .val (.ref x72), .val (.ref b77), .val (.int (1 : Int32))] []))
          refine Go.st (fun _ kt => XS.iconst X116.here hx rfl (hb hby at_270) kt) ?_
          show Go p e below _ (T116.setTop (mkF m 271 #[.val (.int fa), .val (.int fb), .val (.int fc), .val (.int fs), .val (.int u1), .val (.int u2), .val (.int u3), .val (.int md), .val (.int l0), .val (.int l1), .val (.int r0), .val (.int r1), .val (.int r0), .val (.int r1), .val (.int q0), .val (.int q1), .val (.int (0 : Int32)), .val (.ref x67), .val (.ref x68), .val (.ref x69), .val (.ref x72), .val (.ref b77), .val (.int (1 : Int32))] [(.int (1 : Int32))]))
          refine Go.st (fun _ kt => XS.goto X116.here hx rfl (pc0 := 271) (pc' := 275) rfl (hb hby at_271) (by decide) (by decide) kt) ?_
          show Go p e below _ (T116.setTop (mkF m 275 #[.val (.int fa), .val (.int fb), .val (.int fc), .val (.int fs), .val (.int u1), .val (.int u2), .val (.int u3), .val (.int md), .val (.int l0), .val (.int l1), .val (.int r0), .val (.int r1), .val (.int r0), .val (.int r1), .val (.int q0), .val (.int q1), .val (.int (0 : Int32)), .val (.ref x67), .val (.ref x68), .val (.ref x69), .val (.ref x72), .val (.ref b77), .val (.int (1 : Int32))] [(.int (1 : Int32))]))
          refine Go.retNS X116 hx (t := .boolean) Bd.returns (by simp) (BodyLoose.notSynchronized Bd) hS84 (by rw [e116]; exact (Nat.le_refl _)) (hb hby at_275) (Q := (Q_rm0 Z fa fb fc fs G1 h0 n0)) (by decide) (by decide) ?_
          intro vm2 hW2
          show (Q_rm0 Z fa fb fc fs G1 h0 n0) _ vm2 T116.heap _
          rw [e116]
          exact ⟨rfl, N116⟩
      · refine Go.st (fun _ kt => XS.ifYes X85.here hx rfl (pc0 := 230) (pc' := 251) rfl (hb hby at_230) rfl ((if0 _ _).trans (feq hc230_86).2) (by decide) (by decide) kt) ?_
        show Go p e below _ (T85.setTop (mkF m 251 #[.val (.int fa), .val (.int fb), .val (.int fc), .val (.int fs), .val (.int u1), .val (.int u2), .val (.int u3), .val (.int md), .val (.int l0), .val (.int l1), .val (.int r0), .val (.int r1), .val (.int r0), .val (.int r1), .val (.int q0), .val (.int q1), .val (.int (0 : Int32)), .val (.ref x67), .val (.ref x68), .val (.ref x69), .val (.ref x72), .val (.ref b77), .unset] []))
        refine Go.st (fun _ kt => XS.iconst X85.here hx rfl (hb hby at_251) kt) ?_
        show Go p e below _ (T85.setTop (mkF m 252 #[.val (.int fa), .val (.int fb), .val (.int fc), .val (.int fs), .val (.int u1), .val (.int u2), .val (.int u3), .val (.int md), .val (.int l0), .val (.int l1), .val (.int r0), .val (.int r1), .val (.int r0), .val (.int r1), .val (.int q0), .val (.int q1), .val (.int (0 : Int32)), .val (.ref x67), .val (.ref x68), .val (.ref x69), .val (.ref x72), .val (.ref b77), .unset] [(.int (1 : Int32))]))
        refine Go.st (fun _ kt => XS.goto X85.here hx rfl (pc0 := 252) (pc' := 256) rfl (hb hby at_252) (by decide) (by decide) kt) ?_
        show Go p e below _ (T85.setTop (mkF m 256 #[.val (.int fa), .val (.int fb), .val (.int fc), .val (.int fs), .val (.int u1), .val (.int u2), .val (.int u3), .val (.int md), .val (.int l0), .val (.int l1), .val (.int r0), .val (.int r1), .val (.int r0), .val (.int r1), .val (.int q0), .val (.int q1), .val (.int (0 : Int32)), .val (.ref x67), .val (.ref x68), .val (.ref x69), .val (.ref x72), .val (.ref b77), .unset] [(.int (1 : Int32))]))
        refine Go.st (fun _ kt => XS.istore X85.here hx rfl (hb hby at_256) rfl (l' := #[.val (.int fa), .val (.int fb), .val (.int fc), .val (.int fs), .val (.int u1), .val (.int u2), .val (.int u3), .val (.int md), .val (.int l0), .val (.int l1), .val (.int r0), .val (.int r1), .val (.int r0), .val (.int r1), .val (.int q0), .val (.int q1), .val (.int (0 : Int32)), .val (.ref x67), .val (.ref x68), .val (.ref x69), .val (.ref x72), .val (.ref b77), .val (.int (1 : Int32))]) rfl kt) ?_
        show Go p e below _ (T85.setTop (mkF m 258 #[.val (.int fa), .val (.int fb), .val (.int fc), .val (.int fs), .val (.int u1), .val (.int u2), .val (.int u3), .val (.int md), .val (.int l0), .val (.int l1), .val (.int r0), .val (.int r1), .val (.int r0), .val (.int r1), .val (.int q0), .val (.int q1), .val (.int (0 : Int32)), .val (.ref x67), .val (.ref x68), .val (.ref x69), .val (.ref x72), .val (.ref b77), .val (.int (1 : Int32))] []))
        refine Go.st (fun _ kt => XS.aload X85.here hx rfl (hb hby at_258) rfl rfl kt) ?_
        show Go p e below _ (T85.setTop (mkF m 260 #[.val (.int fa), .val (.int fb), .val (.int fc), .val (.int fs), .val (.int u1), .val (.int u2), .val (.int u3), .val (.int md), .val (.int l0), .val (.int l1), .val (.int r0), .val (.int r1), .val (.int r0), .val (.int r1), .val (.int q0), .val (.int q1), .val (.int (0 : Int32)), .val (.ref x67), .val (.ref x68), .val (.ref x69), .val (.ref x72), .val (.ref b77), .val (.int (1 : Int32))] [(.ref b77)]))
        refine Go.st (fun _ kt => XS.aload X85.here hx rfl (hb hby at_260) rfl rfl kt) ?_
        show Go p e below _ (T85.setTop (mkF m 262 #[.val (.int fa), .val (.int fb), .val (.int fc), .val (.int fs), .val (.int u1), .val (.int u2), .val (.int u3), .val (.int md), .val (.int l0), .val (.int l1), .val (.int r0), .val (.int r1), .val (.int r0), .val (.int r1), .val (.int q0), .val (.int q1), .val (.int (0 : Int32)), .val (.ref x67), .val (.ref x68), .val (.ref x69), .val (.ref x72), .val (.ref b77), .val (.int (1 : Int32))] [(.ref x69), (.ref b77)]))
        have f117 := (A77.keep K84q)
        have f118 := ((f78.ext E77).keep K84q)
        have f119 := (((((C67s.keep K68q nin0).keep K69q nin0).keep K72q nin0).ext E77).keep K84q (ninS (Nat.ne_of_lt lt_x67_b77) nin0))
        have f120 := (((((V67s.keep K68q nin0).keep K69q nin0).keep K72q nin0).ext E77).keep K84q (ninS (Nat.ne_of_lt lt_x67_b77) nin0))
        have f121 := ((f79.ext E77).keep K84q (ninS (Nat.ne_of_lt lt_t67_b77) nin0))
        have f122 := ((f80.ext E77).keep K84q)
        have f123 := ((((C68s.keep K69q nin0).keep K72q nin0).ext E77).keep K84q (ninS (Nat.ne_of_lt lt_x68_b77) nin0))
        have f124 := ((((V68s.keep K69q nin0).keep K72q nin0).ext E77).keep K84q (ninS (Nat.ne_of_lt lt_x68_b77) nin0))
        have f125 := ((f81.ext E77).keep K84q (ninS (Nat.ne_of_lt lt_t68_b77) nin0))
        have f126 := ((f82.ext E77).keep K84q)
        have f127 := (((C69s.keep K72q nin0).ext E77).keep K84q (ninS (Nat.ne_of_lt lt_x69_b77) nin0))
        have f128 := (((V69s.keep K72q nin0).ext E77).keep K84q (ninS (Nat.ne_of_lt lt_x69_b77) nin0))
        have f129 := ((f83.ext E77).keep K84q (ninS (Nat.ne_of_lt lt_t69_b77) nin0))
        obtain ⟨cq130, kq130, q130a, q130b, q130c⟩ := isOf hZ e85 f117
        obtain ⟨_, _, ⟨T130, L130, k130, n130⟩, -, X130, ⟨Lc130, hQ130, l130, y130, z130⟩, st130⟩ := X85.virtualBack hx (y := (⟨"com/example/manyhands/manyhands/crowd/Ordering", "takes", "(Ljava/lang/String;)Z"⟩ : MethodName)) (z := (⟨"com/example/manyhands/manyhands/crowd/Ordering", "takes", "(Ljava/lang/String;)Z"⟩ : MethodName)) hown (mvT hZ (hw _ (List.mem_of_getElem? (i := 79) rfl))) (mvT hZ (hw _ (List.mem_of_getElem? (i := 80) rfl))) (notFace_of_selects (args := #[]) (mvT hZ (hw _ (List.mem_of_getElem? (i := 82) rfl)))) (mvT hZ (hw _ (List.mem_of_getElem? (i := 82) rfl))) (mvT hZ (hw _ (List.mem_of_getElem? (i := 81) rfl))) (by decide) (backOf (W := 0) (rm16a l Z a0 hw [] b77 x69 x67 x68 t67 kb67 (own_cs u1 l0 l1) t68 kb68 (own_cs u2 r0 r1) t69 kb69 (own_cs u3 q0 q1) G1 T84.heap n0 Zs84 f117 Fle84 Fri84 ⟨f118, f119, f120, f121⟩ (own_csb bl0 bl1) (own_csl _ _ _) ⟨f122, f123, f124, f125⟩ (own_csb br0 br1) (own_csl _ _ _) ⟨f126, f127, f128, f129⟩ (own_csb bq0 bq1) (own_csl _ _ _) O2 P5 (own_EX X85 e85 N85 hz0 hh XE) hz0 (Classical.not_not.mp fun q => hc230_86 ((own_sameZ bu3 bu1).mpr q))) hZ (hw _ (List.mem_of_getElem? (i := 83) rfl)) (hw _ (List.mem_of_getElem? (i := 53) rfl)) (by decide) (by decide)) q130a q130c (g := (mkF m 262 #[.val (.int fa), .val (.int fb), .val (.int fc), .val (.int fs), .val (.int u1), .val (.int u2), .val (.int u3), .val (.int md), .val (.int l0), .val (.int l1), .val (.int r0), .val (.int r1), .val (.int r0), .val (.int r1), .val (.int q0), .val (.int q1), .val (.int (0 : Int32)), .val (.ref x67), .val (.ref x68), .val (.ref x69), .val (.ref x72), .val (.ref b77), .val (.int (1 : Int32))] [(.ref x69), (.ref b77)])) rfl (by rw [hml]; rfl) (Steps.refl _) (argsL := [(.ref x69)]) (rest := []) (lenOf own_pd18 rfl) rfl (by show 2 * 0 + _ ≤ _; exact Nat.le_of_eq rfl) (hb hby at_262) (fun _ _ => ⟨rfl, e85, (by decide : 21 + 0 ≤ _), (by decide : 112 + 0 ≤ _)⟩)
        dsimp only [Pt.U, Pt.locs, Pt.cells, Pt.slots] at X130 l130 y130 z130 st130 hQ130
        subst l130 y130 z130
        obtain ⟨rfl, N130q, e130⟩ := hQ130
        have N130 := Fr.app N85 N130q
        refine Go.tr st130 ?_
        show Go p e below _ (T130.setTop (mkF m 265 #[.val (.int fa), .val (.int fb), .val (.int fc), .val (.int fs), .val (.int u1), .val (.int u2), .val (.int u3), .val (.int md), .val (.int l0), .val (.int l1), .val (.int r0), .val (.int r1), .val (.int r0), .val (.int r1), .val (.int q0), .val (.int q1), .val (.int (0 : Int32)), .val (.ref x67), .val (.ref x68), .val (.ref x69), .val (.ref x72), .val (.ref b77), .val (.int (1 : Int32))] [(.int (1 : Int32))]))
        refine Go.st (fun _ kt => XS.iload X130.here hx rfl (hb hby at_265) rfl kt) ?_
        show Go p e below _ (T130.setTop (mkF m 267 #[.val (.int fa), .val (.int fb), .val (.int fc), .val (.int fs), .val (.int u1), .val (.int u2), .val (.int u3), .val (.int md), .val (.int l0), .val (.int l1), .val (.int r0), .val (.int r1), .val (.int r0), .val (.int r1), .val (.int q0), .val (.int q1), .val (.int (0 : Int32)), .val (.ref x67), .val (.ref x68), .val (.ref x69), .val (.ref x72), .val (.ref b77), .val (.int (1 : Int32))] [(.int (1 : Int32)), (.int (1 : Int32))]))
        refine Go.st (fun _ kt => XS.icmpNo X130.here hx rfl (hb hby at_267) rfl (teq (by decide : (1 : Int32) = (1 : Int32))).2 kt) ?_
        show Go p e below _ (T130.setTop (mkF m 270 #[.val (.int fa), .val (.int fb), .val (.int fc), .val (.int fs), .val (.int u1), .val (.int u2), .val (.int u3), .val (.int md), .val (.int l0), .val (.int l1), .val (.int r0), .val (.int r1), .val (.int r0), .val (.int r1), .val (.int q0), .val (.int q1), .val (.int (0 : Int32)), .val (.ref x67), .val (.ref x68), .val (.ref x69), .val (.ref x72), .val (.ref b77), .val (.int (1 : Int32))] []))
        refine Go.st (fun _ kt => XS.iconst X130.here hx rfl (hb hby at_270) kt) ?_
        show Go p e below _ (T130.setTop (mkF m 271 #[.val (.int fa), .val (.int fb), .val (.int fc), .val (.int fs), .val (.int u1), .val (.int u2), .val (.int u3), .val (.int md), .val (.int l0), .val (.int l1), .val (.int r0), .val (.int r1), .val (.int r0), .val (.int r1), .val (.int q0), .val (.int q1), .val (.int (0 : Int32)), .val (.ref x67), .val (.ref x68), .val (.ref x69), .val (.ref x72), .val (.ref b77), .val (.int (1 : Int32))] [(.int (1 : Int32))]))
        refine Go.st (fun _ kt => XS.goto X130.here hx rfl (pc0 := 271) (pc' := 275) rfl (hb hby at_271) (by decide) (by decide) kt) ?_
        show Go p e below _ (T130.setTop (mkF m 275 #[.val (.int fa), .val (.int fb), .val (.int fc), .val (.int fs), .val (.int u1), .val (.int u2), .val (.int u3), .val (.int md), .val (.int l0), .val (.int l1), .val (.int r0), .val (.int r1), .val (.int r0), .val (.int r1), .val (.int q0), .val (.int q1), .val (.int (0 : Int32)), .val (.ref x67), .val (.ref x68), .val (.ref x69), .val (.ref x72), .val (.ref b77), .val (.int (1 : Int32))] [(.int (1 : Int32))]))
        refine Go.retNS X130 hx (t := .boolean) Bd.returns (by simp) (BodyLoose.notSynchronized Bd) hS84 (by rw [e130]; exact (Nat.le_refl _)) (hb hby at_275) (Q := (Q_rm0 Z fa fb fc fs G1 h0 n0)) (by decide) (by decide) ?_
        intro vm2 hW2
        show (Q_rm0 Z fa fb fc fs G1 h0 n0) _ vm2 T130.heap _
        rw [e130]
        exact ⟨rfl, N130⟩
    · refine Go.st (fun _ kt => XS.icmpYes X0.here hx rfl (pc0 := 92) (pc' := 103) rfl (hb hby at_92) rfl (feq hc92_66).2 (by decide) (by decide) kt) ?_
      show Go p e below _ (s₁.setTop (mkF m 103 #[.val (.int fa), .val (.int fb), .val (.int fc), .val (.int fs), .val (.int u1), .val (.int u2), .val (.int u3), .val (.int md), .val (.int l0), .val (.int l1), .val (.int r0), .val (.int r1), .val (.int (0 : Int32)), .val (.int (0 : Int32)), .unset, .unset, .unset, .unset, .unset, .unset, .unset, .unset, .unset] []))
      refine Go.st (fun _ kt => XS.iload X0.here hx rfl (hb hby at_103) rfl kt) ?_
      show Go p e below _ (s₁.setTop (mkF m 105 #[.val (.int fa), .val (.int fb), .val (.int fc), .val (.int fs), .val (.int u1), .val (.int u2), .val (.int u3), .val (.int md), .val (.int l0), .val (.int l1), .val (.int r0), .val (.int r1), .val (.int (0 : Int32)), .val (.int (0 : Int32)), .unset, .unset, .unset, .unset, .unset, .unset, .unset, .unset, .unset] [(.int (0 : Int32))]))
      refine Go.st (fun _ kt => XS.iloadN X0.here hx rfl (hb hby at_105) rfl kt) ?_
      show Go p e below _ (s₁.setTop (mkF m 106 #[.val (.int fa), .val (.int fb), .val (.int fc), .val (.int fs), .val (.int u1), .val (.int u2), .val (.int u3), .val (.int md), .val (.int l0), .val (.int l1), .val (.int r0), .val (.int r1), .val (.int (0 : Int32)), .val (.int (0 : Int32)), .unset, .unset, .unset, .unset, .unset, .unset, .unset, .unset, .unset] [(.int fc), (.int (0 : Int32))]))
      refine Go.st (fun _ kt => XS.ixor X0.here hx rfl (hb hby at_106) rfl kt) ?_
      show Go p e below _ (s₁.setTop (mkF m 107 #[.val (.int fa), .val (.int fb), .val (.int fc), .val (.int fs), .val (.int u1), .val (.int u2), .val (.int u3), .val (.int md), .val (.int l0), .val (.int l1), .val (.int r0), .val (.int r1), .val (.int (0 : Int32)), .val (.int (0 : Int32)), .unset, .unset, .unset, .unset, .unset, .unset, .unset, .unset, .unset] [(.int ((0 : Int32) ^^^ fc))]))
      refine Go.st (fun _ kt => XS.sipush X0.here hx rfl (hb hby at_107) kt) ?_
      show Go p e below _ (s₁.setTop (mkF m 110 #[.val (.int fa), .val (.int fb), .val (.int fc), .val (.int fs), .val (.int u1), .val (.int u2), .val (.int u3), .val (.int md), .val (.int l0), .val (.int l1), .val (.int r0), .val (.int r1), .val (.int (0 : Int32)), .val (.int (0 : Int32)), .unset, .unset, .unset, .unset, .unset, .unset, .unset, .unset, .unset] [(.int (255 : Int32)), (.int ((0 : Int32) ^^^ fc))]))
      refine Go.st (fun _ kt => XS.iand X0.here hx rfl (hb hby at_110) rfl kt) ?_
      show Go p e below _ (s₁.setTop (mkF m 111 #[.val (.int fa), .val (.int fb), .val (.int fc), .val (.int fs), .val (.int u1), .val (.int u2), .val (.int u3), .val (.int md), .val (.int l0), .val (.int l1), .val (.int r0), .val (.int r1), .val (.int (0 : Int32)), .val (.int (0 : Int32)), .unset, .unset, .unset, .unset, .unset, .unset, .unset, .unset, .unset] [(.int (((0 : Int32) ^^^ fc) &&& (255 : Int32)))]))
      generalize hq0 : ((((0 : Int32) ^^^ fc) &&& (255 : Int32)) : Int32) = q0
      show Go p e below _ (s₁.setTop (mkF m 111 #[.val (.int fa), .val (.int fb), .val (.int fc), .val (.int fs), .val (.int u1), .val (.int u2), .val (.int u3), .val (.int md), .val (.int l0), .val (.int l1), .val (.int r0), .val (.int r1), .val (.int (0 : Int32)), .val (.int (0 : Int32)), .unset, .unset, .unset, .unset, .unset, .unset, .unset, .unset, .unset] [(.int q0)]))
      have bq0 := hq0 ▸ own_and255 _
      refine Go.st (fun _ kt => XS.istore X0.here hx rfl (hb hby at_111) rfl (l' := #[.val (.int fa), .val (.int fb), .val (.int fc), .val (.int fs), .val (.int u1), .val (.int u2), .val (.int u3), .val (.int md), .val (.int l0), .val (.int l1), .val (.int r0), .val (.int r1), .val (.int (0 : Int32)), .val (.int (0 : Int32)), .val (.int q0), .unset, .unset, .unset, .unset, .unset, .unset, .unset, .unset]) rfl kt) ?_
      show Go p e below _ (s₁.setTop (mkF m 113 #[.val (.int fa), .val (.int fb), .val (.int fc), .val (.int fs), .val (.int u1), .val (.int u2), .val (.int u3), .val (.int md), .val (.int l0), .val (.int l1), .val (.int r0), .val (.int r1), .val (.int (0 : Int32)), .val (.int (0 : Int32)), .val (.int q0), .unset, .unset, .unset, .unset, .unset, .unset, .unset, .unset] []))
      refine Go.st (fun _ kt => XS.iload X0.here hx rfl (hb hby at_113) rfl kt) ?_
      show Go p e below _ (s₁.setTop (mkF m 115 #[.val (.int fa), .val (.int fb), .val (.int fc), .val (.int fs), .val (.int u1), .val (.int u2), .val (.int u3), .val (.int md), .val (.int l0), .val (.int l1), .val (.int r0), .val (.int r1), .val (.int (0 : Int32)), .val (.int (0 : Int32)), .val (.int q0), .unset, .unset, .unset, .unset, .unset, .unset, .unset, .unset] [(.int (0 : Int32))]))
      refine Go.st (fun _ kt => XS.iloadN X0.here hx rfl (hb hby at_115) rfl kt) ?_
      show Go p e below _ (s₁.setTop (mkF m 116 #[.val (.int fa), .val (.int fb), .val (.int fc), .val (.int fs), .val (.int u1), .val (.int u2), .val (.int u3), .val (.int md), .val (.int l0), .val (.int l1), .val (.int r0), .val (.int r1), .val (.int (0 : Int32)), .val (.int (0 : Int32)), .val (.int q0), .unset, .unset, .unset, .unset, .unset, .unset, .unset, .unset] [(.int fc), (.int (0 : Int32))]))
      refine Go.st (fun _ kt => XS.bipush X0.here hx rfl (hb hby at_116) kt) ?_
      show Go p e below _ (s₁.setTop (mkF m 118 #[.val (.int fa), .val (.int fb), .val (.int fc), .val (.int fs), .val (.int u1), .val (.int u2), .val (.int u3), .val (.int md), .val (.int l0), .val (.int l1), .val (.int r0), .val (.int r1), .val (.int (0 : Int32)), .val (.int (0 : Int32)), .val (.int q0), .unset, .unset, .unset, .unset, .unset, .unset, .unset, .unset] [(.int (8 : Int32)), (.int fc), (.int (0 : Int32))]))
      refine Go.st (fun _ kt => XS.ishr X0.here hx rfl (hb hby at_118) rfl kt) ?_
      show Go p e below _ (s₁.setTop (mkF m 119 #[.val (.int fa), .val (.int fb), .val (.int fc), .val (.int fs), .val (.int u1), .val (.int u2), .val (.int u3), .val (.int md), .val (.int l0), .val (.int l1), .val (.int r0), .val (.int r1), .val (.int (0 : Int32)), .val (.int (0 : Int32)), .val (.int q0), .unset, .unset, .unset, .unset, .unset, .unset, .unset, .unset] [(.int (fc >>> ((8 : Int32) &&& 31))), (.int (0 : Int32))]))
      refine Go.st (fun _ kt => XS.ixor X0.here hx rfl (hb hby at_119) rfl kt) ?_
      show Go p e below _ (s₁.setTop (mkF m 120 #[.val (.int fa), .val (.int fb), .val (.int fc), .val (.int fs), .val (.int u1), .val (.int u2), .val (.int u3), .val (.int md), .val (.int l0), .val (.int l1), .val (.int r0), .val (.int r1), .val (.int (0 : Int32)), .val (.int (0 : Int32)), .val (.int q0), .unset, .unset, .unset, .unset, .unset, .unset, .unset, .unset] [(.int ((0 : Int32) ^^^ (fc >>> ((8 : Int32) &&& 31))))]))
      refine Go.st (fun _ kt => XS.sipush X0.here hx rfl (hb hby at_120) kt) ?_
      show Go p e below _ (s₁.setTop (mkF m 123 #[.val (.int fa), .val (.int fb), .val (.int fc), .val (.int fs), .val (.int u1), .val (.int u2), .val (.int u3), .val (.int md), .val (.int l0), .val (.int l1), .val (.int r0), .val (.int r1), .val (.int (0 : Int32)), .val (.int (0 : Int32)), .val (.int q0), .unset, .unset, .unset, .unset, .unset, .unset, .unset, .unset] [(.int (255 : Int32)), (.int ((0 : Int32) ^^^ (fc >>> ((8 : Int32) &&& 31))))]))
      refine Go.st (fun _ kt => XS.iand X0.here hx rfl (hb hby at_123) rfl kt) ?_
      show Go p e below _ (s₁.setTop (mkF m 124 #[.val (.int fa), .val (.int fb), .val (.int fc), .val (.int fs), .val (.int u1), .val (.int u2), .val (.int u3), .val (.int md), .val (.int l0), .val (.int l1), .val (.int r0), .val (.int r1), .val (.int (0 : Int32)), .val (.int (0 : Int32)), .val (.int q0), .unset, .unset, .unset, .unset, .unset, .unset, .unset, .unset] [(.int (((0 : Int32) ^^^ (fc >>> ((8 : Int32) &&& 31))) &&& (255 : Int32)))]))
      generalize hq1 : ((((0 : Int32) ^^^ (fc >>> ((8 : Int32) &&& 31))) &&& (255 : Int32)) : Int32) = q1
      show Go p e below _ (s₁.setTop (mkF m 124 #[.val (.int fa), .val (.int fb), .val (.int fc), .val (.int fs), .val (.int u1), .val (.int u2), .val (.int u3), .val (.int md), .val (.int l0), .val (.int l1), .val (.int r0), .val (.int r1), .val (.int (0 : Int32)), .val (.int (0 : Int32)), .val (.int q0), .unset, .unset, .unset, .unset, .unset, .unset, .unset, .unset] [(.int q1)]))
      have bq1 := hq1 ▸ own_and255 _
      refine Go.st (fun _ kt => XS.istore X0.here hx rfl (hb hby at_124) rfl (l' := #[.val (.int fa), .val (.int fb), .val (.int fc), .val (.int fs), .val (.int u1), .val (.int u2), .val (.int u3), .val (.int md), .val (.int l0), .val (.int l1), .val (.int r0), .val (.int r1), .val (.int (0 : Int32)), .val (.int (0 : Int32)), .val (.int q0), .val (.int q1), .unset, .unset, .unset, .unset, .unset, .unset, .unset]) rfl kt) ?_
      show Go p e below _ (s₁.setTop (mkF m 126 #[.val (.int fa), .val (.int fb), .val (.int fc), .val (.int fs), .val (.int u1), .val (.int u2), .val (.int u3), .val (.int md), .val (.int l0), .val (.int l1), .val (.int r0), .val (.int r1), .val (.int (0 : Int32)), .val (.int (0 : Int32)), .val (.int q0), .val (.int q1), .unset, .unset, .unset, .unset, .unset, .unset, .unset] []))
      refine Go.st (fun _ kt => XS.iload X0.here hx rfl (hb hby at_126) rfl kt) ?_
      show Go p e below _ (s₁.setTop (mkF m 128 #[.val (.int fa), .val (.int fb), .val (.int fc), .val (.int fs), .val (.int u1), .val (.int u2), .val (.int u3), .val (.int md), .val (.int l0), .val (.int l1), .val (.int r0), .val (.int r1), .val (.int (0 : Int32)), .val (.int (0 : Int32)), .val (.int q0), .val (.int q1), .unset, .unset, .unset, .unset, .unset, .unset, .unset] [(.int md)]))
      refine Go.st (fun _ kt => XS.iconst X0.here hx rfl (hb hby at_128) kt) ?_
      show Go p e below _ (s₁.setTop (mkF m 129 #[.val (.int fa), .val (.int fb), .val (.int fc), .val (.int fs), .val (.int u1), .val (.int u2), .val (.int u3), .val (.int md), .val (.int l0), .val (.int l1), .val (.int r0), .val (.int r1), .val (.int (0 : Int32)), .val (.int (0 : Int32)), .val (.int q0), .val (.int q1), .unset, .unset, .unset, .unset, .unset, .unset, .unset] [(.int (3 : Int32)), (.int md)]))
      by_cases hc129_131 : md = (3 : Int32)
      · refine Go.st (fun _ kt => XS.icmpNo X0.here hx rfl (hb hby at_129) rfl (teq hc129_131).2 kt) ?_
        show Go p e below _ (s₁.setTop (mkF m 132 #[.val (.int fa), .val (.int fb), .val (.int fc), .val (.int fs), .val (.int u1), .val (.int u2), .val (.int u3), .val (.int md), .val (.int l0), .val (.int l1), .val (.int r0), .val (.int r1), .val (.int (0 : Int32)), .val (.int (0 : Int32)), .val (.int q0), .val (.int q1), .unset, .unset, .unset, .unset, .unset, .unset, .unset] []))
        refine Go.st (fun _ kt => XS.iconst X0.here hx rfl (hb hby at_132) kt) ?_
        show Go p e below _ (s₁.setTop (mkF m 133 #[.val (.int fa), .val (.int fb), .val (.int fc), .val (.int fs), .val (.int u1), .val (.int u2), .val (.int u3), .val (.int md), .val (.int l0), .val (.int l1), .val (.int r0), .val (.int r1), .val (.int (0 : Int32)), .val (.int (0 : Int32)), .val (.int q0), .val (.int q1), .unset, .unset, .unset, .unset, .unset, .unset, .unset] [(.int (1 : Int32))]))
        refine Go.st (fun _ kt => XS.goto X0.here hx rfl (pc0 := 133) (pc' := 137) rfl (hb hby at_133) (by decide) (by decide) kt) ?_
        show Go p e below _ (s₁.setTop (mkF m 137 #[.val (.int fa), .val (.int fb), .val (.int fc), .val (.int fs), .val (.int u1), .val (.int u2), .val (.int u3), .val (.int md), .val (.int l0), .val (.int l1), .val (.int r0), .val (.int r1), .val (.int (0 : Int32)), .val (.int (0 : Int32)), .val (.int q0), .val (.int q1), .unset, .unset, .unset, .unset, .unset, .unset, .unset] [(.int (1 : Int32))]))
        refine Go.st (fun _ kt => XS.istore X0.here hx rfl (hb hby at_137) rfl (l' := #[.val (.int fa), .val (.int fb), .val (.int fc), .val (.int fs), .val (.int u1), .val (.int u2), .val (.int u3), .val (.int md), .val (.int l0), .val (.int l1), .val (.int r0), .val (.int r1), .val (.int (0 : Int32)), .val (.int (0 : Int32)), .val (.int q0), .val (.int q1), .val (.int (1 : Int32)), .unset, .unset, .unset, .unset, .unset, .unset]) rfl kt) ?_
        show Go p e below _ (s₁.setTop (mkF m 139 #[.val (.int fa), .val (.int fb), .val (.int fc), .val (.int fs), .val (.int u1), .val (.int u2), .val (.int u3), .val (.int md), .val (.int l0), .val (.int l1), .val (.int r0), .val (.int r1), .val (.int (0 : Int32)), .val (.int (0 : Int32)), .val (.int q0), .val (.int q1), .val (.int (1 : Int32)), .unset, .unset, .unset, .unset, .unset, .unset] []))
        refine Go.st (fun _ kt => XS.iload X0.here hx rfl (hb hby at_139) rfl kt) ?_
        show Go p e below _ (s₁.setTop (mkF m 141 #[.val (.int fa), .val (.int fb), .val (.int fc), .val (.int fs), .val (.int u1), .val (.int u2), .val (.int u3), .val (.int md), .val (.int l0), .val (.int l1), .val (.int r0), .val (.int r1), .val (.int (0 : Int32)), .val (.int (0 : Int32)), .val (.int q0), .val (.int q1), .val (.int (1 : Int32)), .unset, .unset, .unset, .unset, .unset, .unset] [(.int u1)]))
        refine Go.st (fun _ kt => XS.iload X0.here hx rfl (hb hby at_141) rfl kt) ?_
        show Go p e below _ (s₁.setTop (mkF m 143 #[.val (.int fa), .val (.int fb), .val (.int fc), .val (.int fs), .val (.int u1), .val (.int u2), .val (.int u3), .val (.int md), .val (.int l0), .val (.int l1), .val (.int r0), .val (.int r1), .val (.int (0 : Int32)), .val (.int (0 : Int32)), .val (.int q0), .val (.int q1), .val (.int (1 : Int32)), .unset, .unset, .unset, .unset, .unset, .unset] [(.int l0), (.int u1)]))
        refine Go.st (fun _ kt => XS.iload X0.here hx rfl (hb hby at_143) rfl kt) ?_
        show Go p e below _ (s₁.setTop (mkF m 145 #[.val (.int fa), .val (.int fb), .val (.int fc), .val (.int fs), .val (.int u1), .val (.int u2), .val (.int u3), .val (.int md), .val (.int l0), .val (.int l1), .val (.int r0), .val (.int r1), .val (.int (0 : Int32)), .val (.int (0 : Int32)), .val (.int q0), .val (.int q1), .val (.int (1 : Int32)), .unset, .unset, .unset, .unset, .unset, .unset] [(.int l1), (.int l0), (.int u1)]))
        obtain ⟨_, _, ⟨T132, L132, k132, n132⟩, -, Xb132, hSb132, gr132, ⟨Lc132, hQ132, l132, y132, z132⟩, st132⟩ := callSS X0 hx (y := (⟨"com/example/manyhands/manyhands/crowd/OrderingTakesPinLaw", "mk", "(III)Ljava/lang/String;"⟩ : MethodName)) hown (mvT hZ (hw _ (List.mem_of_getElem? (i := 0) rfl))) (mvT hZ (hw _ (List.mem_of_getElem? (i := 1) rfl))) (mvT hZ (hw _ (List.mem_of_getElem? (i := 2) rfl))) (mvT hZ (hw _ (List.mem_of_getElem? (i := 3) rfl))) (by decide) (own_backJ (PU := fun vm_ => JE Z vm_ h0 n0) (W := 0) (rm1 l Z a0 hw [] u1 l0 l1 G1 h0 n0 Z0 O2 P5 (own_EX X0 e0 N0 hz0 hh XE) hz0 hCH hCW bu1 bl0 bl1) hZ (hw _ (List.mem_of_getElem? (i := 3) rfl)) (hw _ (List.mem_of_getElem? (i := 2) rfl)) (by decide) (by decide)) (g := (mkF m 145 #[.val (.int fa), .val (.int fb), .val (.int fc), .val (.int fs), .val (.int u1), .val (.int u2), .val (.int u3), .val (.int md), .val (.int l0), .val (.int l1), .val (.int r0), .val (.int r1), .val (.int (0 : Int32)), .val (.int (0 : Int32)), .val (.int q0), .val (.int q1), .val (.int (1 : Int32)), .unset, .unset, .unset, .unset, .unset, .unset] [(.int l1), (.int l0), (.int u1)])) rfl (by rw [hml]; rfl) (argsL := [(.int u1), (.int l0), (.int l1)]) (rest := []) (lenOf own_pd14 rfl) rfl (by show 2 * 0 + _ ≤ _; exact Nat.le_of_eq rfl) (hb hby at_145) (fun _ hWm => ⟨rfl, e0, (by decide : 0 + 4 ≤ _), (by decide : 0 + 8 ≤ _), JE.warm (s := s) J0 hWm⟩)
        dsimp only [Pt.U, Pt.locs, Pt.cells, Pt.slots] at Xb132 hSb132 gr132 l132 y132 z132 st132 hQ132
        subst l132 y132 z132
        obtain ⟨X132, hS132, hZ, hown⟩ := rebS hS0 (by rw [e0]; exact (Nat.le_refl h0.size)) Xb132 hSb132 gr132 hZ hown
        obtain ⟨x132, t132, kb132, rfl, N132r, K132q, J132, gz132, E132s, C132s, V132s, A132s⟩ := hQ132
        have N132q : Fr n0 _ := Fr.le N132r (Nat.le_refl _)
        have gn_x132 : n0 ≤ x132 := Nat.le_trans Z0 gz132
        have Zs132 : n0 ≤ T132.heap.size := Nat.le_trans Z0 K132q.1
        have N132 := Fr.app N0 N132q
        refine Go.tr st132 ?_
        show Go p e below _ (T132.setTop (mkF m 148 #[.val (.int fa), .val (.int fb), .val (.int fc), .val (.int fs), .val (.int u1), .val (.int u2), .val (.int u3), .val (.int md), .val (.int l0), .val (.int l1), .val (.int r0), .val (.int r1), .val (.int (0 : Int32)), .val (.int (0 : Int32)), .val (.int q0), .val (.int q1), .val (.int (1 : Int32)), .unset, .unset, .unset, .unset, .unset, .unset] [(.ref x132)]))
        refine Go.st (fun _ kt => XS.astore X132.here hx rfl (hb hby at_148) rfl rfl (l' := #[.val (.int fa), .val (.int fb), .val (.int fc), .val (.int fs), .val (.int u1), .val (.int u2), .val (.int u3), .val (.int md), .val (.int l0), .val (.int l1), .val (.int r0), .val (.int r1), .val (.int (0 : Int32)), .val (.int (0 : Int32)), .val (.int q0), .val (.int q1), .val (.int (1 : Int32)), .val (.ref x132), .unset, .unset, .unset, .unset, .unset]) rfl kt) ?_
        show Go p e below _ (T132.setTop (mkF m 150 #[.val (.int fa), .val (.int fb), .val (.int fc), .val (.int fs), .val (.int u1), .val (.int u2), .val (.int u3), .val (.int md), .val (.int l0), .val (.int l1), .val (.int r0), .val (.int r1), .val (.int (0 : Int32)), .val (.int (0 : Int32)), .val (.int q0), .val (.int q1), .val (.int (1 : Int32)), .val (.ref x132), .unset, .unset, .unset, .unset, .unset] []))
        refine Go.st (fun _ kt => XS.iload X132.here hx rfl (hb hby at_150) rfl kt) ?_
        show Go p e below _ (T132.setTop (mkF m 152 #[.val (.int fa), .val (.int fb), .val (.int fc), .val (.int fs), .val (.int u1), .val (.int u2), .val (.int u3), .val (.int md), .val (.int l0), .val (.int l1), .val (.int r0), .val (.int r1), .val (.int (0 : Int32)), .val (.int (0 : Int32)), .val (.int q0), .val (.int q1), .val (.int (1 : Int32)), .val (.ref x132), .unset, .unset, .unset, .unset, .unset] [(.int u2)]))
        refine Go.st (fun _ kt => XS.iload X132.here hx rfl (hb hby at_152) rfl kt) ?_
        show Go p e below _ (T132.setTop (mkF m 154 #[.val (.int fa), .val (.int fb), .val (.int fc), .val (.int fs), .val (.int u1), .val (.int u2), .val (.int u3), .val (.int md), .val (.int l0), .val (.int l1), .val (.int r0), .val (.int r1), .val (.int (0 : Int32)), .val (.int (0 : Int32)), .val (.int q0), .val (.int q1), .val (.int (1 : Int32)), .val (.ref x132), .unset, .unset, .unset, .unset, .unset] [(.int r0), (.int u2)]))
        refine Go.st (fun _ kt => XS.iload X132.here hx rfl (hb hby at_154) rfl kt) ?_
        show Go p e below _ (T132.setTop (mkF m 156 #[.val (.int fa), .val (.int fb), .val (.int fc), .val (.int fs), .val (.int u1), .val (.int u2), .val (.int u3), .val (.int md), .val (.int l0), .val (.int l1), .val (.int r0), .val (.int r1), .val (.int (0 : Int32)), .val (.int (0 : Int32)), .val (.int q0), .val (.int q1), .val (.int (1 : Int32)), .val (.ref x132), .unset, .unset, .unset, .unset, .unset] [(.int r1), (.int r0), (.int u2)]))
        obtain ⟨_, _, ⟨T133, L133, k133, n133⟩, -, Xb133, hSb133, gr133, ⟨Lc133, hQ133, l133, y133, z133⟩, st133⟩ := callSS X132 hx (y := (⟨"com/example/manyhands/manyhands/crowd/OrderingTakesPinLaw", "mk", "(III)Ljava/lang/String;"⟩ : MethodName)) hown (mvT hZ (hw _ (List.mem_of_getElem? (i := 0) rfl))) (mvT hZ (hw _ (List.mem_of_getElem? (i := 1) rfl))) (mvT hZ (hw _ (List.mem_of_getElem? (i := 2) rfl))) (mvT hZ (hw _ (List.mem_of_getElem? (i := 3) rfl))) (by decide) (own_backJ (PU := fun vm_ => JE Z vm_ T132.heap T132.heap.size) (W := 0) (rm1 l Z a0 hw [] u2 r0 r1 G1 T132.heap T132.heap.size (Nat.le_refl _) O2 P5 (own_EX X132 rfl N132 hz0 hh XE) (Nat.le_trans hz0 Zs132) hCH hCW bu2 br0 br1) hZ (hw _ (List.mem_of_getElem? (i := 3) rfl)) (hw _ (List.mem_of_getElem? (i := 2) rfl)) (by decide) (by decide)) (g := (mkF m 156 #[.val (.int fa), .val (.int fb), .val (.int fc), .val (.int fs), .val (.int u1), .val (.int u2), .val (.int u3), .val (.int md), .val (.int l0), .val (.int l1), .val (.int r0), .val (.int r1), .val (.int (0 : Int32)), .val (.int (0 : Int32)), .val (.int q0), .val (.int q1), .val (.int (1 : Int32)), .val (.ref x132), .unset, .unset, .unset, .unset, .unset] [(.int r1), (.int r0), (.int u2)])) rfl (by rw [hml]; rfl) (argsL := [(.int u2), (.int r0), (.int r1)]) (rest := []) (lenOf own_pd14 rfl) rfl (by show 2 * 0 + _ ≤ _; exact Nat.le_of_eq rfl) (hb hby at_156) (fun _ hWm => ⟨rfl, rfl, (by decide : 4 + 4 ≤ _), (by decide : 8 + 8 ≤ _), JE.warm (s := s) J132 hWm⟩)
        dsimp only [Pt.U, Pt.locs, Pt.cells, Pt.slots] at Xb133 hSb133 gr133 l133 y133 z133 st133 hQ133
        subst l133 y133 z133
        obtain ⟨X133, hS133, hZ, hown⟩ := rebS hS132 (Nat.le_refl _) Xb133 hSb133 gr133 hZ hown
        obtain ⟨x133, t133, kb133, rfl, N133r, K133q, J133, gz133, E133s, C133s, V133s, A133s⟩ := hQ133
        have N133q : Fr n0 _ := Fr.le N133r Zs132
        have lt_x132_x133 : x132 < x133 := Nat.lt_of_lt_of_le E132s.lt gz133
        have lt_t132_x133 : t132 < x133 := Nat.lt_of_lt_of_le A132s.lt gz133
        have gn_x133 : n0 ≤ x133 := Nat.le_trans Zs132 gz133
        have Zs133 : n0 ≤ T133.heap.size := Nat.le_trans Zs132 K133q.1
        have N133 := Fr.app N132 N133q
        refine Go.tr st133 ?_
        show Go p e below _ (T133.setTop (mkF m 159 #[.val (.int fa), .val (.int fb), .val (.int fc), .val (.int fs), .val (.int u1), .val (.int u2), .val (.int u3), .val (.int md), .val (.int l0), .val (.int l1), .val (.int r0), .val (.int r1), .val (.int (0 : Int32)), .val (.int (0 : Int32)), .val (.int q0), .val (.int q1), .val (.int (1 : Int32)), .val (.ref x132), .unset, .unset, .unset, .unset, .unset] [(.ref x133)]))
        refine Go.st (fun _ kt => XS.astore X133.here hx rfl (hb hby at_159) rfl rfl (l' := #[.val (.int fa), .val (.int fb), .val (.int fc), .val (.int fs), .val (.int u1), .val (.int u2), .val (.int u3), .val (.int md), .val (.int l0), .val (.int l1), .val (.int r0), .val (.int r1), .val (.int (0 : Int32)), .val (.int (0 : Int32)), .val (.int q0), .val (.int q1), .val (.int (1 : Int32)), .val (.ref x132), .val (.ref x133), .unset, .unset, .unset, .unset]) rfl kt) ?_
        show Go p e below _ (T133.setTop (mkF m 161 #[.val (.int fa), .val (.int fb), .val (.int fc), .val (.int fs), .val (.int u1), .val (.int u2), .val (.int u3), .val (.int md), .val (.int l0), .val (.int l1), .val (.int r0), .val (.int r1), .val (.int (0 : Int32)), .val (.int (0 : Int32)), .val (.int q0), .val (.int q1), .val (.int (1 : Int32)), .val (.ref x132), .val (.ref x133), .unset, .unset, .unset, .unset] []))
        refine Go.st (fun _ kt => XS.iload X133.here hx rfl (hb hby at_161) rfl kt) ?_
        show Go p e below _ (T133.setTop (mkF m 163 #[.val (.int fa), .val (.int fb), .val (.int fc), .val (.int fs), .val (.int u1), .val (.int u2), .val (.int u3), .val (.int md), .val (.int l0), .val (.int l1), .val (.int r0), .val (.int r1), .val (.int (0 : Int32)), .val (.int (0 : Int32)), .val (.int q0), .val (.int q1), .val (.int (1 : Int32)), .val (.ref x132), .val (.ref x133), .unset, .unset, .unset, .unset] [(.int (1 : Int32))]))
        refine Go.st (fun _ kt => XS.ifNo X133.here hx rfl (hb hby at_163) rfl ((if0 _ _).trans (feq (by decide : ¬ ((1 : Int32) = (0 : Int32)))).1) kt) ?_
        show Go p e below _ (T133.setTop (mkF m 166 #[.val (.int fa), .val (.int fb), .val (.int fc), .val (.int fs), .val (.int u1), .val (.int u2), .val (.int u3), .val (.int md), .val (.int l0), .val (.int l1), .val (.int r0), .val (.int r1), .val (.int (0 : Int32)), .val (.int (0 : Int32)), .val (.int q0), .val (.int q1), .val (.int (1 : Int32)), .val (.ref x132), .val (.ref x133), .unset, .unset, .unset, .unset] []))
        refine Go.st (fun _ kt => XS.aconstNull X133.here hx rfl (hb hby at_166) kt) ?_
        show Go p e below _ (T133.setTop (mkF m 167 #[.val (.int fa), .val (.int fb), .val (.int fc), .val (.int fs), .val (.int u1), .val (.int u2), .val (.int u3), .val (.int md), .val (.int l0), .val (.int l1), .val (.int r0), .val (.int r1), .val (.int (0 : Int32)), .val (.int (0 : Int32)), .val (.int q0), .val (.int q1), .val (.int (1 : Int32)), .val (.ref x132), .val (.ref x133), .unset, .unset, .unset, .unset] [.null]))
        refine Go.st (fun _ kt => XS.goto X133.here hx rfl (pc0 := 167) (pc' := 179) rfl (hb hby at_167) (by decide) (by decide) kt) ?_
        show Go p e below _ (T133.setTop (mkF m 179 #[.val (.int fa), .val (.int fb), .val (.int fc), .val (.int fs), .val (.int u1), .val (.int u2), .val (.int u3), .val (.int md), .val (.int l0), .val (.int l1), .val (.int r0), .val (.int r1), .val (.int (0 : Int32)), .val (.int (0 : Int32)), .val (.int q0), .val (.int q1), .val (.int (1 : Int32)), .val (.ref x132), .val (.ref x133), .unset, .unset, .unset, .unset] [.null]))
        refine Go.st (fun _ kt => XS.astore X133.here hx rfl (hb hby at_179) rfl rfl (l' := #[.val (.int fa), .val (.int fb), .val (.int fc), .val (.int fs), .val (.int u1), .val (.int u2), .val (.int u3), .val (.int md), .val (.int l0), .val (.int l1), .val (.int r0), .val (.int r1), .val (.int (0 : Int32)), .val (.int (0 : Int32)), .val (.int q0), .val (.int q1), .val (.int (1 : Int32)), .val (.ref x132), .val (.ref x133), .val .null, .unset, .unset, .unset]) rfl kt) ?_
        show Go p e below _ (T133.setTop (mkF m 181 #[.val (.int fa), .val (.int fb), .val (.int fc), .val (.int fs), .val (.int u1), .val (.int u2), .val (.int u3), .val (.int md), .val (.int l0), .val (.int l1), .val (.int r0), .val (.int r1), .val (.int (0 : Int32)), .val (.int (0 : Int32)), .val (.int q0), .val (.int q1), .val (.int (1 : Int32)), .val (.ref x132), .val (.ref x133), .val .null, .unset, .unset, .unset] []))
        refine Go.st (fun _ kt => XS.iloadN X133.here hx rfl (hb hby at_181) rfl kt) ?_
        show Go p e below _ (T133.setTop (mkF m 182 #[.val (.int fa), .val (.int fb), .val (.int fc), .val (.int fs), .val (.int u1), .val (.int u2), .val (.int u3), .val (.int md), .val (.int l0), .val (.int l1), .val (.int r0), .val (.int r1), .val (.int (0 : Int32)), .val (.int (0 : Int32)), .val (.int q0), .val (.int q1), .val (.int (1 : Int32)), .val (.ref x132), .val (.ref x133), .val .null, .unset, .unset, .unset] [(.int fs)]))
        refine Go.st (fun _ kt => XS.bipush X133.here hx rfl (hb hby at_182) kt) ?_
        show Go p e below _ (T133.setTop (mkF m 184 #[.val (.int fa), .val (.int fb), .val (.int fc), .val (.int fs), .val (.int u1), .val (.int u2), .val (.int u3), .val (.int md), .val (.int l0), .val (.int l1), .val (.int r0), .val (.int r1), .val (.int (0 : Int32)), .val (.int (0 : Int32)), .val (.int q0), .val (.int q1), .val (.int (1 : Int32)), .val (.ref x132), .val (.ref x133), .val .null, .unset, .unset, .unset] [(.int (8 : Int32)), (.int fs)]))
        refine Go.st (fun _ kt => XS.ishr X133.here hx rfl (hb hby at_184) rfl kt) ?_
        show Go p e below _ (T133.setTop (mkF m 185 #[.val (.int fa), .val (.int fb), .val (.int fc), .val (.int fs), .val (.int u1), .val (.int u2), .val (.int u3), .val (.int md), .val (.int l0), .val (.int l1), .val (.int r0), .val (.int r1), .val (.int (0 : Int32)), .val (.int (0 : Int32)), .val (.int q0), .val (.int q1), .val (.int (1 : Int32)), .val (.ref x132), .val (.ref x133), .val .null, .unset, .unset, .unset] [(.int (fs >>> ((8 : Int32) &&& 31)))]))
        refine Go.st (fun _ kt => XS.sipush X133.here hx rfl (hb hby at_185) kt) ?_
        show Go p e below _ (T133.setTop (mkF m 188 #[.val (.int fa), .val (.int fb), .val (.int fc), .val (.int fs), .val (.int u1), .val (.int u2), .val (.int u3), .val (.int md), .val (.int l0), .val (.int l1), .val (.int r0), .val (.int r1), .val (.int (0 : Int32)), .val (.int (0 : Int32)), .val (.int q0), .val (.int q1), .val (.int (1 : Int32)), .val (.ref x132), .val (.ref x133), .val .null, .unset, .unset, .unset] [(.int (255 : Int32)), (.int (fs >>> ((8 : Int32) &&& 31)))]))
        refine Go.st (fun _ kt => XS.iand X133.here hx rfl (hb hby at_188) rfl kt) ?_
        show Go p e below _ (T133.setTop (mkF m 189 #[.val (.int fa), .val (.int fb), .val (.int fc), .val (.int fs), .val (.int u1), .val (.int u2), .val (.int u3), .val (.int md), .val (.int l0), .val (.int l1), .val (.int r0), .val (.int r1), .val (.int (0 : Int32)), .val (.int (0 : Int32)), .val (.int q0), .val (.int q1), .val (.int (1 : Int32)), .val (.ref x132), .val (.ref x133), .val .null, .unset, .unset, .unset] [(.int ((fs >>> ((8 : Int32) &&& 31)) &&& (255 : Int32)))]))
        generalize hqc : (((fs >>> ((8 : Int32) &&& 31)) &&& (255 : Int32)) : Int32) = qc
        show Go p e below _ (T133.setTop (mkF m 189 #[.val (.int fa), .val (.int fb), .val (.int fc), .val (.int fs), .val (.int u1), .val (.int u2), .val (.int u3), .val (.int md), .val (.int l0), .val (.int l1), .val (.int r0), .val (.int r1), .val (.int (0 : Int32)), .val (.int (0 : Int32)), .val (.int q0), .val (.int q1), .val (.int (1 : Int32)), .val (.ref x132), .val (.ref x133), .val .null, .unset, .unset, .unset] [(.int qc)]))
        have bqc := hqc ▸ own_and255 _
        refine Go.st (fun _ kt => XS.i2c X133.here hx rfl (hb hby at_189) rfl kt) ?_
        show Go p e below _ (T133.setTop (mkF m 190 #[.val (.int fa), .val (.int fb), .val (.int fc), .val (.int fs), .val (.int u1), .val (.int u2), .val (.int u3), .val (.int md), .val (.int l0), .val (.int l1), .val (.int r0), .val (.int r1), .val (.int (0 : Int32)), .val (.int (0 : Int32)), .val (.int q0), .val (.int q1), .val (.int (1 : Int32)), .val (.ref x132), .val (.ref x133), .val .null, .unset, .unset, .unset] [(.int (qc.toUInt32.toUInt16.toUInt32.toInt32))]))
        rw [(own_chr bqc : (qc.toUInt32.toUInt16.toUInt32.toInt32) = qc)]
        show Go p e below _ (T133.setTop (mkF m 190 #[.val (.int fa), .val (.int fb), .val (.int fc), .val (.int fs), .val (.int u1), .val (.int u2), .val (.int u3), .val (.int md), .val (.int l0), .val (.int l1), .val (.int r0), .val (.int r1), .val (.int (0 : Int32)), .val (.int (0 : Int32)), .val (.int q0), .val (.int q1), .val (.int (1 : Int32)), .val (.ref x132), .val (.ref x133), .val .null, .unset, .unset, .unset] [(.int qc)]))
        obtain ⟨_, _, ⟨T134, L134, k134, n134⟩, -, X134, ⟨Lc134, hQ134, l134, y134, z134⟩, st134⟩ := Jvm.LawKit.callS X133 hx (y := (⟨"java/lang/String", "valueOf", "(C)Ljava/lang/String;"⟩ : MethodName)) hown (mvT hZ (hw _ (List.mem_of_getElem? (i := 37) rfl))) (mvT hZ (hw _ (List.mem_of_getElem? (i := 38) rfl))) (mvT hZ (hw _ (List.mem_of_getElem? (i := 6) rfl))) (mvT hZ (hw _ (List.mem_of_getElem? (i := 39) rfl))) (by decide) (backOf (W := 0) (rm8 l Z a0 hw [] qc G1 T133.heap n0 Zs133 O2 P5 (own_EX X133 rfl N133 hz0 hh XE) hz0 bqc.2) hZ (hw _ (List.mem_of_getElem? (i := 39) rfl)) (hw _ (List.mem_of_getElem? (i := 6) rfl)) (by decide) (by decide)) (g := (mkF m 190 #[.val (.int fa), .val (.int fb), .val (.int fc), .val (.int fs), .val (.int u1), .val (.int u2), .val (.int u3), .val (.int md), .val (.int l0), .val (.int l1), .val (.int r0), .val (.int r1), .val (.int (0 : Int32)), .val (.int (0 : Int32)), .val (.int q0), .val (.int q1), .val (.int (1 : Int32)), .val (.ref x132), .val (.ref x133), .val .null, .unset, .unset, .unset] [(.int qc)])) rfl (by rw [hml]; rfl) (argsL := [(.int qc)]) (rest := []) (lenOf own_pd15 rfl) rfl (by show 2 * 0 + _ ≤ _; exact Nat.le_of_eq rfl) (hb hby at_190) (fun _ _ => ⟨rfl, rfl, (by decide : 8 + 2 ≤ _), (by decide : 16 + 5 ≤ _)⟩)
        dsimp only [Pt.U, Pt.locs, Pt.cells, Pt.slots] at X134 l134 y134 z134 st134 hQ134
        subst l134 y134 z134
        obtain ⟨x134, rfl, N134q, K134q, gz134, E134s⟩ := hQ134
        have f135 := (E132s.keep K133q)
        have lt_x132_x134 : x132 < x134 := Nat.lt_of_lt_of_le f135.lt gz134
        have f136 := (A132s.keep K133q nin0)
        have lt_t132_x134 : t132 < x134 := Nat.lt_of_lt_of_le f136.lt gz134
        have lt_x133_x134 : x133 < x134 := Nat.lt_of_lt_of_le E133s.lt gz134
        have lt_t133_x134 : t133 < x134 := Nat.lt_of_lt_of_le A133s.lt gz134
        have gn_x134 : n0 ≤ x134 := Nat.le_trans Zs133 gz134
        have Zs134 : n0 ≤ T134.heap.size := Nat.le_trans Zs133 K134q.1
        have Gk134 := Nat.le_trans (Nat.le_refl _) K134q.1
        have N134 := Fr.app N133 N134q
        refine Go.st st134 ?_
        show Go p e below _ (T134.setTop (mkF m 193 #[.val (.int fa), .val (.int fb), .val (.int fc), .val (.int fs), .val (.int u1), .val (.int u2), .val (.int u3), .val (.int md), .val (.int l0), .val (.int l1), .val (.int r0), .val (.int r1), .val (.int (0 : Int32)), .val (.int (0 : Int32)), .val (.int q0), .val (.int q1), .val (.int (1 : Int32)), .val (.ref x132), .val (.ref x133), .val .null, .unset, .unset, .unset] [(.ref x134)]))
        refine Go.st (fun _ kt => XS.astore X134.here hx rfl (hb hby at_193) rfl rfl (l' := #[.val (.int fa), .val (.int fb), .val (.int fc), .val (.int fs), .val (.int u1), .val (.int u2), .val (.int u3), .val (.int md), .val (.int l0), .val (.int l1), .val (.int r0), .val (.int r1), .val (.int (0 : Int32)), .val (.int (0 : Int32)), .val (.int q0), .val (.int q1), .val (.int (1 : Int32)), .val (.ref x132), .val (.ref x133), .val .null, .val (.ref x134), .unset, .unset]) rfl kt) ?_
        show Go p e below _ (T134.setTop (mkF m 195 #[.val (.int fa), .val (.int fb), .val (.int fc), .val (.int fs), .val (.int u1), .val (.int u2), .val (.int u3), .val (.int md), .val (.int l0), .val (.int l1), .val (.int r0), .val (.int r1), .val (.int (0 : Int32)), .val (.int (0 : Int32)), .val (.int q0), .val (.int q1), .val (.int (1 : Int32)), .val (.ref x132), .val (.ref x133), .val .null, .val (.ref x134), .unset, .unset] []))
        obtain ⟨T137, h137, X137, e137, E137, A137, D137, U137, st137⟩ := newO X134 hx hZ hown (hw _ (List.mem_of_getElem? (i := 51) rfl)) (hw _ (List.mem_of_getElem? (i := 52) rfl)) (hw _ (List.mem_of_getElem? (i := 53) rfl)) rfl (g := (mkF m 195 #[.val (.int fa), .val (.int fb), .val (.int fc), .val (.int fs), .val (.int u1), .val (.int u2), .val (.int u3), .val (.int md), .val (.int l0), .val (.int l1), .val (.int r0), .val (.int r1), .val (.int (0 : Int32)), .val (.int (0 : Int32)), .val (.int q0), .val (.int q1), .val (.int (1 : Int32)), .val (.ref x132), .val (.ref x133), .val .null, .val (.ref x134), .unset, .unset] [])) rfl (hb hby at_195) (by decide) (by decide)
        obtain ⟨b137, g137⟩ : ∃ z, z = T134.heap.size := ⟨_, rfl⟩
        rw [← g137] at A137 D137 U137 st137
        have f138 := (f135.keep K134q)
        have lt_x132_b137 : x132 < b137 := Nat.lt_of_lt_of_eq f138.lt g137.symm
        have f139 := (f136.keep K134q nin0)
        have lt_t132_b137 : t132 < b137 := Nat.lt_of_lt_of_eq f139.lt g137.symm
        have f140 := (E133s.keep K134q)
        have lt_x133_b137 : x133 < b137 := Nat.lt_of_lt_of_eq f140.lt g137.symm
        have f141 := (A133s.keep K134q nin0)
        have lt_t133_b137 : t133 < b137 := Nat.lt_of_lt_of_eq f141.lt g137.symm
        have lt_x134_b137 : x134 < b137 := Nat.lt_of_lt_of_eq E134s.lt g137.symm
        have gn_b137 : n0 ≤ b137 := Nat.le_trans Zs134 (Nat.le_of_eq g137.symm)
        have Zs137 : n0 ≤ h137.size := Nat.le_trans Zs134 E137.1
        have Gk137 := Nat.le_trans Gk134 E137.1
        refine Go.st st137 ?_
        have F137_question : Fld Z h137 b137 "com/example/manyhands/manyhands/crowd/Ordering" "question" "Ljava/lang/String;" .null := D137 (Or.inr (hw _ (List.mem_of_getElem? (i := 71) rfl))) (ty := (.object "java/lang/String")) (by decide)
        have F137_left : Fld Z h137 b137 "com/example/manyhands/manyhands/crowd/Ordering" "left" "Ljava/lang/String;" .null := D137 (Or.inr (hw _ (List.mem_of_getElem? (i := 73) rfl))) (ty := (.object "java/lang/String")) (by decide)
        have F137_right : Fld Z h137 b137 "com/example/manyhands/manyhands/crowd/Ordering" "right" "Ljava/lang/String;" .null := D137 (Or.inr (hw _ (List.mem_of_getElem? (i := 75) rfl))) (ty := (.object "java/lang/String")) (by decide)
        show Go p e below _ (T137.setTop (mkF m 198 #[.val (.int fa), .val (.int fb), .val (.int fc), .val (.int fs), .val (.int u1), .val (.int u2), .val (.int u3), .val (.int md), .val (.int l0), .val (.int l1), .val (.int r0), .val (.int r1), .val (.int (0 : Int32)), .val (.int (0 : Int32)), .val (.int q0), .val (.int q1), .val (.int (1 : Int32)), .val (.ref x132), .val (.ref x133), .val .null, .val (.ref x134), .unset, .unset] [(.ref b137)]))
        refine Go.st (fun _ kt => XS.dup X137.here hx rfl (hb hby at_198) rfl rfl kt) ?_
        show Go p e below _ (T137.setTop (mkF m 199 #[.val (.int fa), .val (.int fb), .val (.int fc), .val (.int fs), .val (.int u1), .val (.int u2), .val (.int u3), .val (.int md), .val (.int l0), .val (.int l1), .val (.int r0), .val (.int r1), .val (.int (0 : Int32)), .val (.int (0 : Int32)), .val (.int q0), .val (.int q1), .val (.int (1 : Int32)), .val (.ref x132), .val (.ref x133), .val .null, .val (.ref x134), .unset, .unset] [(.ref b137), (.ref b137)]))
        refine Go.st (fun _ kt => XS.aload X137.here hx rfl (hb hby at_199) rfl rfl kt) ?_
        show Go p e below _ (T137.setTop (mkF m 201 #[.val (.int fa), .val (.int fb), .val (.int fc), .val (.int fs), .val (.int u1), .val (.int u2), .val (.int u3), .val (.int md), .val (.int l0), .val (.int l1), .val (.int r0), .val (.int r1), .val (.int (0 : Int32)), .val (.int (0 : Int32)), .val (.int q0), .val (.int q1), .val (.int (1 : Int32)), .val (.ref x132), .val (.ref x133), .val .null, .val (.ref x134), .unset, .unset] [(.ref x134), (.ref b137), (.ref b137)]))
        refine Go.st (fun _ kt => XS.aload X137.here hx rfl (hb hby at_201) rfl rfl kt) ?_
        show Go p e below _ (T137.setTop (mkF m 203 #[.val (.int fa), .val (.int fb), .val (.int fc), .val (.int fs), .val (.int u1), .val (.int u2), .val (.int u3), .val (.int md), .val (.int l0), .val (.int l1), .val (.int r0), .val (.int r1), .val (.int (0 : Int32)), .val (.int (0 : Int32)), .val (.int q0), .val (.int q1), .val (.int (1 : Int32)), .val (.ref x132), .val (.ref x133), .val .null, .val (.ref x134), .unset, .unset] [(.ref x132), (.ref x134), (.ref b137), (.ref b137)]))
        refine Go.st (fun _ kt => XS.aload X137.here hx rfl (hb hby at_203) rfl rfl kt) ?_
        show Go p e below _ (T137.setTop (mkF m 205 #[.val (.int fa), .val (.int fb), .val (.int fc), .val (.int fs), .val (.int u1), .val (.int u2), .val (.int u3), .val (.int md), .val (.int l0), .val (.int l1), .val (.int r0), .val (.int r1), .val (.int (0 : Int32)), .val (.int (0 : Int32)), .val (.int q0), .val (.int q1), .val (.int (1 : Int32)), .val (.ref x132), .val (.ref x133), .val .null, .val (.ref x134), .unset, .unset] [(.ref x133), (.ref x132), (.ref x134), (.ref b137), (.ref b137)]))
        obtain ⟨_, _, ⟨T142, L142, k142, n142⟩, -, Xb142, hSb142, gr142, ⟨Lc142, hQ142, l142, y142, z142⟩, st142⟩ := X137.specialBackS hx (y := (⟨"com/example/manyhands/manyhands/crowd/Ordering", "<init>", "(Ljava/lang/String;Ljava/lang/String;Ljava/lang/String;)V"⟩ : MethodName)) rfl hown (mvT hZ (hw _ (List.mem_of_getElem? (i := 54) rfl))) (mvT hZ (hw _ (List.mem_of_getElem? (i := 55) rfl))) (mvT hZ (hw _ (List.mem_of_getElem? (i := 56) rfl))) (by decide) (own_backJ (PU := fun _ => True) (W := 1) (rm12 l Z a0 hw [] b137 x134 x132 x133 h137 n0 Zs137 A137 F137_question F137_left F137_right gn_b137) hZ (hw _ (List.mem_of_getElem? (i := 56) rfl)) (hw _ (List.mem_of_getElem? (i := 53) rfl)) (by decide) (by decide)) (g := (mkF m 205 #[.val (.int fa), .val (.int fb), .val (.int fc), .val (.int fs), .val (.int u1), .val (.int u2), .val (.int u3), .val (.int md), .val (.int l0), .val (.int l1), .val (.int r0), .val (.int r1), .val (.int (0 : Int32)), .val (.int (0 : Int32)), .val (.int q0), .val (.int q1), .val (.int (1 : Int32)), .val (.ref x132), .val (.ref x133), .val .null, .val (.ref x134), .unset, .unset] [(.ref x133), (.ref x132), (.ref x134), (.ref b137), (.ref b137)])) rfl (by rw [hml]; rfl) (Steps.refl _) (a := b137) (argsL := [(.ref x134), (.ref x132), (.ref x133)]) (rest := [(.ref b137)]) (lenOf own_pd16 rfl) rfl (by show 2 * 0 + _ ≤ _; exact Nat.le_of_eq rfl) (hb hby at_205) (fun _ hWm => ⟨rfl, e137, (by decide : 11 + 6 ≤ _), (by decide : 24 + 80 ≤ _), trivial⟩)
        dsimp only [Pt.U, Pt.locs, Pt.cells, Pt.slots] at Xb142 hSb142 gr142 l142 y142 z142 st142 hQ142
        subst l142 y142 z142
        obtain ⟨X142, hS142, hZ, hown⟩ := rebS hS133 (by rw [e137]; exact Gk137) Xb142 hSb142 gr142 hZ hown
        obtain ⟨rfl, N142q, K142q, Fle142, Fri142⟩ := hQ142
        have Zs142 : n0 ≤ T142.heap.size := Nat.le_trans Zs137 K142q.1
        have N142 := Fr.app N134 N142q
        refine Go.tr st142 ?_
        show Go p e below _ (T142.setTop (mkF m 208 #[.val (.int fa), .val (.int fb), .val (.int fc), .val (.int fs), .val (.int u1), .val (.int u2), .val (.int u3), .val (.int md), .val (.int l0), .val (.int l1), .val (.int r0), .val (.int r1), .val (.int (0 : Int32)), .val (.int (0 : Int32)), .val (.int q0), .val (.int q1), .val (.int (1 : Int32)), .val (.ref x132), .val (.ref x133), .val .null, .val (.ref x134), .unset, .unset] [(.ref b137)]))
        refine Go.st (fun _ kt => XS.astore X142.here hx rfl (hb hby at_208) rfl rfl (l' := #[.val (.int fa), .val (.int fb), .val (.int fc), .val (.int fs), .val (.int u1), .val (.int u2), .val (.int u3), .val (.int md), .val (.int l0), .val (.int l1), .val (.int r0), .val (.int r1), .val (.int (0 : Int32)), .val (.int (0 : Int32)), .val (.int q0), .val (.int q1), .val (.int (1 : Int32)), .val (.ref x132), .val (.ref x133), .val .null, .val (.ref x134), .val (.ref b137), .unset]) rfl kt) ?_
        show Go p e below _ (T142.setTop (mkF m 210 #[.val (.int fa), .val (.int fb), .val (.int fc), .val (.int fs), .val (.int u1), .val (.int u2), .val (.int u3), .val (.int md), .val (.int l0), .val (.int l1), .val (.int r0), .val (.int r1), .val (.int (0 : Int32)), .val (.int (0 : Int32)), .val (.int q0), .val (.int q1), .val (.int (1 : Int32)), .val (.ref x132), .val (.ref x133), .val .null, .val (.ref x134), .val (.ref b137), .unset] []))
        refine Go.st (fun _ kt => XS.iload X142.here hx rfl (hb hby at_210) rfl kt) ?_
        show Go p e below _ (T142.setTop (mkF m 212 #[.val (.int fa), .val (.int fb), .val (.int fc), .val (.int fs), .val (.int u1), .val (.int u2), .val (.int u3), .val (.int md), .val (.int l0), .val (.int l1), .val (.int r0), .val (.int r1), .val (.int (0 : Int32)), .val (.int (0 : Int32)), .val (.int q0), .val (.int q1), .val (.int (1 : Int32)), .val (.ref x132), .val (.ref x133), .val .null, .val (.ref x134), .val (.ref b137), .unset] [(.int (1 : Int32))]))
        refine Go.st (fun _ kt => XS.ifYes X142.here hx rfl (pc0 := 212) (pc' := 255) rfl (hb hby at_212) rfl ((if0 _ _).trans (feq (by decide : ¬ ((1 : Int32) = (0 : Int32)))).2) (by decide) (by decide) kt) ?_
        show Go p e below _ (T142.setTop (mkF m 255 #[.val (.int fa), .val (.int fb), .val (.int fc), .val (.int fs), .val (.int u1), .val (.int u2), .val (.int u3), .val (.int md), .val (.int l0), .val (.int l1), .val (.int r0), .val (.int r1), .val (.int (0 : Int32)), .val (.int (0 : Int32)), .val (.int q0), .val (.int q1), .val (.int (1 : Int32)), .val (.ref x132), .val (.ref x133), .val .null, .val (.ref x134), .val (.ref b137), .unset] []))
        refine Go.st (fun _ kt => XS.iconst X142.here hx rfl (hb hby at_255) kt) ?_
        show Go p e below _ (T142.setTop (mkF m 256 #[.val (.int fa), .val (.int fb), .val (.int fc), .val (.int fs), .val (.int u1), .val (.int u2), .val (.int u3), .val (.int md), .val (.int l0), .val (.int l1), .val (.int r0), .val (.int r1), .val (.int (0 : Int32)), .val (.int (0 : Int32)), .val (.int q0), .val (.int q1), .val (.int (1 : Int32)), .val (.ref x132), .val (.ref x133), .val .null, .val (.ref x134), .val (.ref b137), .unset] [(.int (0 : Int32))]))
        refine Go.st (fun _ kt => XS.istore X142.here hx rfl (hb hby at_256) rfl (l' := #[.val (.int fa), .val (.int fb), .val (.int fc), .val (.int fs), .val (.int u1), .val (.int u2), .val (.int u3), .val (.int md), .val (.int l0), .val (.int l1), .val (.int r0), .val (.int r1), .val (.int (0 : Int32)), .val (.int (0 : Int32)), .val (.int q0), .val (.int q1), .val (.int (1 : Int32)), .val (.ref x132), .val (.ref x133), .val .null, .val (.ref x134), .val (.ref b137), .val (.int (0 : Int32))]) rfl kt) ?_
        show Go p e below _ (T142.setTop (mkF m 258 #[.val (.int fa), .val (.int fb), .val (.int fc), .val (.int fs), .val (.int u1), .val (.int u2), .val (.int u3), .val (.int md), .val (.int l0), .val (.int l1), .val (.int r0), .val (.int r1), .val (.int (0 : Int32)), .val (.int (0 : Int32)), .val (.int q0), .val (.int q1), .val (.int (1 : Int32)), .val (.ref x132), .val (.ref x133), .val .null, .val (.ref x134), .val (.ref b137), .val (.int (0 : Int32))] []))
        refine Go.st (fun _ kt => XS.aload X142.here hx rfl (hb hby at_258) rfl rfl kt) ?_
        show Go p e below _ (T142.setTop (mkF m 260 #[.val (.int fa), .val (.int fb), .val (.int fc), .val (.int fs), .val (.int u1), .val (.int u2), .val (.int u3), .val (.int md), .val (.int l0), .val (.int l1), .val (.int r0), .val (.int r1), .val (.int (0 : Int32)), .val (.int (0 : Int32)), .val (.int q0), .val (.int q1), .val (.int (1 : Int32)), .val (.ref x132), .val (.ref x133), .val .null, .val (.ref x134), .val (.ref b137), .val (.int (0 : Int32))] [(.ref b137)]))
        refine Go.st (fun _ kt => XS.aload X142.here hx rfl (hb hby at_260) rfl rfl kt) ?_
        show Go p e below _ (T142.setTop (mkF m 262 #[.val (.int fa), .val (.int fb), .val (.int fc), .val (.int fs), .val (.int u1), .val (.int u2), .val (.int u3), .val (.int md), .val (.int l0), .val (.int l1), .val (.int r0), .val (.int r1), .val (.int (0 : Int32)), .val (.int (0 : Int32)), .val (.int q0), .val (.int q1), .val (.int (1 : Int32)), .val (.ref x132), .val (.ref x133), .val .null, .val (.ref x134), .val (.ref b137), .val (.int (0 : Int32))] [.null, (.ref b137)]))
        have f143 := (A137.keep K142q)
        have f144 := ((f138.ext E137).keep K142q)
        have f145 := ((f140.ext E137).keep K142q)
        obtain ⟨cq146, kq146, q146a, q146b, q146c⟩ := isOf hZ rfl f143
        obtain ⟨_, _, ⟨T146, L146, k146, n146⟩, -, X146, ⟨Lc146, hQ146, l146, y146, z146⟩, st146⟩ := X142.virtualBack hx (y := (⟨"com/example/manyhands/manyhands/crowd/Ordering", "takes", "(Ljava/lang/String;)Z"⟩ : MethodName)) (z := (⟨"com/example/manyhands/manyhands/crowd/Ordering", "takes", "(Ljava/lang/String;)Z"⟩ : MethodName)) hown (mvT hZ (hw _ (List.mem_of_getElem? (i := 79) rfl))) (mvT hZ (hw _ (List.mem_of_getElem? (i := 80) rfl))) (notFace_of_selects (args := #[]) (mvT hZ (hw _ (List.mem_of_getElem? (i := 82) rfl)))) (mvT hZ (hw _ (List.mem_of_getElem? (i := 82) rfl))) (mvT hZ (hw _ (List.mem_of_getElem? (i := 81) rfl))) (by decide) (backOf (W := 0) (rm16n l Z a0 hw [] b137 x132 x133 T142.heap n0 Zs142 f143 Fle142 Fri142 f144 f145) hZ (hw _ (List.mem_of_getElem? (i := 83) rfl)) (hw _ (List.mem_of_getElem? (i := 53) rfl)) (by decide) (by decide)) q146a q146c (g := (mkF m 262 #[.val (.int fa), .val (.int fb), .val (.int fc), .val (.int fs), .val (.int u1), .val (.int u2), .val (.int u3), .val (.int md), .val (.int l0), .val (.int l1), .val (.int r0), .val (.int r1), .val (.int (0 : Int32)), .val (.int (0 : Int32)), .val (.int q0), .val (.int q1), .val (.int (1 : Int32)), .val (.ref x132), .val (.ref x133), .val .null, .val (.ref x134), .val (.ref b137), .val (.int (0 : Int32))] [.null, (.ref b137)])) rfl (by rw [hml]; rfl) (Steps.refl _) (argsL := [.null]) (rest := []) (lenOf own_pd18 rfl) rfl (by show 2 * 0 + _ ≤ _; exact Nat.le_of_eq rfl) (hb hby at_262) (fun _ _ => ⟨rfl, rfl, (by decide : 17 + 0 ≤ _), (by decide : 104 + 0 ≤ _)⟩)
        dsimp only [Pt.U, Pt.locs, Pt.cells, Pt.slots] at X146 l146 y146 z146 st146 hQ146
        subst l146 y146 z146
        obtain ⟨rfl, N146q, e146⟩ := hQ146
        have N146 := Fr.app N142 N146q
        refine Go.tr st146 ?_
        show Go p e below _ (T146.setTop (mkF m 265 #[.val (.int fa), .val (.int fb), .val (.int fc), .val (.int fs), .val (.int u1), .val (.int u2), .val (.int u3), .val (.int md), .val (.int l0), .val (.int l1), .val (.int r0), .val (.int r1), .val (.int (0 : Int32)), .val (.int (0 : Int32)), .val (.int q0), .val (.int q1), .val (.int (1 : Int32)), .val (.ref x132), .val (.ref x133), .val .null, .val (.ref x134), .val (.ref b137), .val (.int (0 : Int32))] [(.int (0 : Int32))]))
        refine Go.st (fun _ kt => XS.iload X146.here hx rfl (hb hby at_265) rfl kt) ?_
        show Go p e below _ (T146.setTop (mkF m 267 #[.val (.int fa), .val (.int fb), .val (.int fc), .val (.int fs), .val (.int u1), .val (.int u2), .val (.int u3), .val (.int md), .val (.int l0), .val (.int l1), .val (.int r0), .val (.int r1), .val (.int (0 : Int32)), .val (.int (0 : Int32)), .val (.int q0), .val (.int q1), .val (.int (1 : Int32)), .val (.ref x132), .val (.ref x133), .val .null, .val (.ref x134), .val (.ref b137), .val (.int (0 : Int32))] [(.int (0 : Int32)), (.int (0 : Int32))]))
        refine Go.st (fun _ kt => XS.icmpNo X146.here hx rfl (hb hby at_267) rfl (teq (by decide : (0 : Int32) = (0 : Int32))).2 kt) ?_
        show Go p e below _ (T146.setTop (mkF m 270 #[.val (.int fa), .val (.int fb), .val (.int fc), .val (.int fs), .val (.int u1), .val (.int u2), .val (.int u3), .val (.int md), .val (.int l0), .val (.int l1), .val (.int r0), .val (.int r1), .val (.int (0 : Int32)), .val (.int (0 : Int32)), .val (.int q0), .val (.int q1), .val (.int (1 : Int32)), .val (.ref x132), .val (.ref x133), .val .null, .val (.ref x134), .val (.ref b137), .val (.int (0 : Int32))] []))
        refine Go.st (fun _ kt => XS.iconst X146.here hx rfl (hb hby at_270) kt) ?_
        show Go p e below _ (T146.setTop (mkF m 271 #[.val (.int fa), .val (.int fb), .val (.int fc), .val (.int fs), .val (.int u1), .val (.int u2), .val (.int u3), .val (.int md), .val (.int l0), .val (.int l1), .val (.int r0), .val (.int r1), .val (.int (0 : Int32)), .val (.int (0 : Int32)), .val (.int q0), .val (.int q1), .val (.int (1 : Int32)), .val (.ref x132), .val (.ref x133), .val .null, .val (.ref x134), .val (.ref b137), .val (.int (0 : Int32))] [(.int (1 : Int32))]))
        refine Go.st (fun _ kt => XS.goto X146.here hx rfl (pc0 := 271) (pc' := 275) rfl (hb hby at_271) (by decide) (by decide) kt) ?_
        show Go p e below _ (T146.setTop (mkF m 275 #[.val (.int fa), .val (.int fb), .val (.int fc), .val (.int fs), .val (.int u1), .val (.int u2), .val (.int u3), .val (.int md), .val (.int l0), .val (.int l1), .val (.int r0), .val (.int r1), .val (.int (0 : Int32)), .val (.int (0 : Int32)), .val (.int q0), .val (.int q1), .val (.int (1 : Int32)), .val (.ref x132), .val (.ref x133), .val .null, .val (.ref x134), .val (.ref b137), .val (.int (0 : Int32))] [(.int (1 : Int32))]))
        refine Go.retNS X146 hx (t := .boolean) Bd.returns (by simp) (BodyLoose.notSynchronized Bd) hS142 (by rw [e146]; exact (Nat.le_refl _)) (hb hby at_275) (Q := (Q_rm0 Z fa fb fc fs G1 h0 n0)) (by decide) (by decide) ?_
        intro vm2 hW2
        show (Q_rm0 Z fa fb fc fs G1 h0 n0) _ vm2 T146.heap _
        rw [e146]
        exact ⟨rfl, N146⟩
      · refine Go.st (fun _ kt => XS.icmpYes X0.here hx rfl (pc0 := 129) (pc' := 136) rfl (hb hby at_129) rfl (feq hc129_131).2 (by decide) (by decide) kt) ?_
        show Go p e below _ (s₁.setTop (mkF m 136 #[.val (.int fa), .val (.int fb), .val (.int fc), .val (.int fs), .val (.int u1), .val (.int u2), .val (.int u3), .val (.int md), .val (.int l0), .val (.int l1), .val (.int r0), .val (.int r1), .val (.int (0 : Int32)), .val (.int (0 : Int32)), .val (.int q0), .val (.int q1), .unset, .unset, .unset, .unset, .unset, .unset, .unset] []))
        refine Go.st (fun _ kt => XS.iconst X0.here hx rfl (hb hby at_136) kt) ?_
        show Go p e below _ (s₁.setTop (mkF m 137 #[.val (.int fa), .val (.int fb), .val (.int fc), .val (.int fs), .val (.int u1), .val (.int u2), .val (.int u3), .val (.int md), .val (.int l0), .val (.int l1), .val (.int r0), .val (.int r1), .val (.int (0 : Int32)), .val (.int (0 : Int32)), .val (.int q0), .val (.int q1), .unset, .unset, .unset, .unset, .unset, .unset, .unset] [(.int (0 : Int32))]))
        refine Go.st (fun _ kt => XS.istore X0.here hx rfl (hb hby at_137) rfl (l' := #[.val (.int fa), .val (.int fb), .val (.int fc), .val (.int fs), .val (.int u1), .val (.int u2), .val (.int u3), .val (.int md), .val (.int l0), .val (.int l1), .val (.int r0), .val (.int r1), .val (.int (0 : Int32)), .val (.int (0 : Int32)), .val (.int q0), .val (.int q1), .val (.int (0 : Int32)), .unset, .unset, .unset, .unset, .unset, .unset]) rfl kt) ?_
        show Go p e below _ (s₁.setTop (mkF m 139 #[.val (.int fa), .val (.int fb), .val (.int fc), .val (.int fs), .val (.int u1), .val (.int u2), .val (.int u3), .val (.int md), .val (.int l0), .val (.int l1), .val (.int r0), .val (.int r1), .val (.int (0 : Int32)), .val (.int (0 : Int32)), .val (.int q0), .val (.int q1), .val (.int (0 : Int32)), .unset, .unset, .unset, .unset, .unset, .unset] []))
        refine Go.st (fun _ kt => XS.iload X0.here hx rfl (hb hby at_139) rfl kt) ?_
        show Go p e below _ (s₁.setTop (mkF m 141 #[.val (.int fa), .val (.int fb), .val (.int fc), .val (.int fs), .val (.int u1), .val (.int u2), .val (.int u3), .val (.int md), .val (.int l0), .val (.int l1), .val (.int r0), .val (.int r1), .val (.int (0 : Int32)), .val (.int (0 : Int32)), .val (.int q0), .val (.int q1), .val (.int (0 : Int32)), .unset, .unset, .unset, .unset, .unset, .unset] [(.int u1)]))
        refine Go.st (fun _ kt => XS.iload X0.here hx rfl (hb hby at_141) rfl kt) ?_
        show Go p e below _ (s₁.setTop (mkF m 143 #[.val (.int fa), .val (.int fb), .val (.int fc), .val (.int fs), .val (.int u1), .val (.int u2), .val (.int u3), .val (.int md), .val (.int l0), .val (.int l1), .val (.int r0), .val (.int r1), .val (.int (0 : Int32)), .val (.int (0 : Int32)), .val (.int q0), .val (.int q1), .val (.int (0 : Int32)), .unset, .unset, .unset, .unset, .unset, .unset] [(.int l0), (.int u1)]))
        refine Go.st (fun _ kt => XS.iload X0.here hx rfl (hb hby at_143) rfl kt) ?_
        show Go p e below _ (s₁.setTop (mkF m 145 #[.val (.int fa), .val (.int fb), .val (.int fc), .val (.int fs), .val (.int u1), .val (.int u2), .val (.int u3), .val (.int md), .val (.int l0), .val (.int l1), .val (.int r0), .val (.int r1), .val (.int (0 : Int32)), .val (.int (0 : Int32)), .val (.int q0), .val (.int q1), .val (.int (0 : Int32)), .unset, .unset, .unset, .unset, .unset, .unset] [(.int l1), (.int l0), (.int u1)]))
        obtain ⟨_, _, ⟨T147, L147, k147, n147⟩, -, Xb147, hSb147, gr147, ⟨Lc147, hQ147, l147, y147, z147⟩, st147⟩ := callSS X0 hx (y := (⟨"com/example/manyhands/manyhands/crowd/OrderingTakesPinLaw", "mk", "(III)Ljava/lang/String;"⟩ : MethodName)) hown (mvT hZ (hw _ (List.mem_of_getElem? (i := 0) rfl))) (mvT hZ (hw _ (List.mem_of_getElem? (i := 1) rfl))) (mvT hZ (hw _ (List.mem_of_getElem? (i := 2) rfl))) (mvT hZ (hw _ (List.mem_of_getElem? (i := 3) rfl))) (by decide) (own_backJ (PU := fun vm_ => JE Z vm_ h0 n0) (W := 0) (rm1 l Z a0 hw [] u1 l0 l1 G1 h0 n0 Z0 O2 P5 (own_EX X0 e0 N0 hz0 hh XE) hz0 hCH hCW bu1 bl0 bl1) hZ (hw _ (List.mem_of_getElem? (i := 3) rfl)) (hw _ (List.mem_of_getElem? (i := 2) rfl)) (by decide) (by decide)) (g := (mkF m 145 #[.val (.int fa), .val (.int fb), .val (.int fc), .val (.int fs), .val (.int u1), .val (.int u2), .val (.int u3), .val (.int md), .val (.int l0), .val (.int l1), .val (.int r0), .val (.int r1), .val (.int (0 : Int32)), .val (.int (0 : Int32)), .val (.int q0), .val (.int q1), .val (.int (0 : Int32)), .unset, .unset, .unset, .unset, .unset, .unset] [(.int l1), (.int l0), (.int u1)])) rfl (by rw [hml]; rfl) (argsL := [(.int u1), (.int l0), (.int l1)]) (rest := []) (lenOf own_pd14 rfl) rfl (by show 2 * 0 + _ ≤ _; exact Nat.le_of_eq rfl) (hb hby at_145) (fun _ hWm => ⟨rfl, e0, (by decide : 0 + 4 ≤ _), (by decide : 0 + 8 ≤ _), JE.warm (s := s) J0 hWm⟩)
        dsimp only [Pt.U, Pt.locs, Pt.cells, Pt.slots] at Xb147 hSb147 gr147 l147 y147 z147 st147 hQ147
        subst l147 y147 z147
        obtain ⟨X147, hS147, hZ, hown⟩ := rebS hS0 (by rw [e0]; exact (Nat.le_refl h0.size)) Xb147 hSb147 gr147 hZ hown
        obtain ⟨x147, t147, kb147, rfl, N147r, K147q, J147, gz147, E147s, C147s, V147s, A147s⟩ := hQ147
        have N147q : Fr n0 _ := Fr.le N147r (Nat.le_refl _)
        have gn_x147 : n0 ≤ x147 := Nat.le_trans Z0 gz147
        have Zs147 : n0 ≤ T147.heap.size := Nat.le_trans Z0 K147q.1
        have N147 := Fr.app N0 N147q
        refine Go.tr st147 ?_
        show Go p e below _ (T147.setTop (mkF m 148 #[.val (.int fa), .val (.int fb), .val (.int fc), .val (.int fs), .val (.int u1), .val (.int u2), .val (.int u3), .val (.int md), .val (.int l0), .val (.int l1), .val (.int r0), .val (.int r1), .val (.int (0 : Int32)), .val (.int (0 : Int32)), .val (.int q0), .val (.int q1), .val (.int (0 : Int32)), .unset, .unset, .unset, .unset, .unset, .unset] [(.ref x147)]))
        refine Go.st (fun _ kt => XS.astore X147.here hx rfl (hb hby at_148) rfl rfl (l' := #[.val (.int fa), .val (.int fb), .val (.int fc), .val (.int fs), .val (.int u1), .val (.int u2), .val (.int u3), .val (.int md), .val (.int l0), .val (.int l1), .val (.int r0), .val (.int r1), .val (.int (0 : Int32)), .val (.int (0 : Int32)), .val (.int q0), .val (.int q1), .val (.int (0 : Int32)), .val (.ref x147), .unset, .unset, .unset, .unset, .unset]) rfl kt) ?_
        show Go p e below _ (T147.setTop (mkF m 150 #[.val (.int fa), .val (.int fb), .val (.int fc), .val (.int fs), .val (.int u1), .val (.int u2), .val (.int u3), .val (.int md), .val (.int l0), .val (.int l1), .val (.int r0), .val (.int r1), .val (.int (0 : Int32)), .val (.int (0 : Int32)), .val (.int q0), .val (.int q1), .val (.int (0 : Int32)), .val (.ref x147), .unset, .unset, .unset, .unset, .unset] []))
        refine Go.st (fun _ kt => XS.iload X147.here hx rfl (hb hby at_150) rfl kt) ?_
        show Go p e below _ (T147.setTop (mkF m 152 #[.val (.int fa), .val (.int fb), .val (.int fc), .val (.int fs), .val (.int u1), .val (.int u2), .val (.int u3), .val (.int md), .val (.int l0), .val (.int l1), .val (.int r0), .val (.int r1), .val (.int (0 : Int32)), .val (.int (0 : Int32)), .val (.int q0), .val (.int q1), .val (.int (0 : Int32)), .val (.ref x147), .unset, .unset, .unset, .unset, .unset] [(.int u2)]))
        refine Go.st (fun _ kt => XS.iload X147.here hx rfl (hb hby at_152) rfl kt) ?_
        show Go p e below _ (T147.setTop (mkF m 154 #[.val (.int fa), .val (.int fb), .val (.int fc), .val (.int fs), .val (.int u1), .val (.int u2), .val (.int u3), .val (.int md), .val (.int l0), .val (.int l1), .val (.int r0), .val (.int r1), .val (.int (0 : Int32)), .val (.int (0 : Int32)), .val (.int q0), .val (.int q1), .val (.int (0 : Int32)), .val (.ref x147), .unset, .unset, .unset, .unset, .unset] [(.int r0), (.int u2)]))
        refine Go.st (fun _ kt => XS.iload X147.here hx rfl (hb hby at_154) rfl kt) ?_
        show Go p e below _ (T147.setTop (mkF m 156 #[.val (.int fa), .val (.int fb), .val (.int fc), .val (.int fs), .val (.int u1), .val (.int u2), .val (.int u3), .val (.int md), .val (.int l0), .val (.int l1), .val (.int r0), .val (.int r1), .val (.int (0 : Int32)), .val (.int (0 : Int32)), .val (.int q0), .val (.int q1), .val (.int (0 : Int32)), .val (.ref x147), .unset, .unset, .unset, .unset, .unset] [(.int r1), (.int r0), (.int u2)]))
        obtain ⟨_, _, ⟨T148, L148, k148, n148⟩, -, Xb148, hSb148, gr148, ⟨Lc148, hQ148, l148, y148, z148⟩, st148⟩ := callSS X147 hx (y := (⟨"com/example/manyhands/manyhands/crowd/OrderingTakesPinLaw", "mk", "(III)Ljava/lang/String;"⟩ : MethodName)) hown (mvT hZ (hw _ (List.mem_of_getElem? (i := 0) rfl))) (mvT hZ (hw _ (List.mem_of_getElem? (i := 1) rfl))) (mvT hZ (hw _ (List.mem_of_getElem? (i := 2) rfl))) (mvT hZ (hw _ (List.mem_of_getElem? (i := 3) rfl))) (by decide) (own_backJ (PU := fun vm_ => JE Z vm_ T147.heap T147.heap.size) (W := 0) (rm1 l Z a0 hw [] u2 r0 r1 G1 T147.heap T147.heap.size (Nat.le_refl _) O2 P5 (own_EX X147 rfl N147 hz0 hh XE) (Nat.le_trans hz0 Zs147) hCH hCW bu2 br0 br1) hZ (hw _ (List.mem_of_getElem? (i := 3) rfl)) (hw _ (List.mem_of_getElem? (i := 2) rfl)) (by decide) (by decide)) (g := (mkF m 156 #[.val (.int fa), .val (.int fb), .val (.int fc), .val (.int fs), .val (.int u1), .val (.int u2), .val (.int u3), .val (.int md), .val (.int l0), .val (.int l1), .val (.int r0), .val (.int r1), .val (.int (0 : Int32)), .val (.int (0 : Int32)), .val (.int q0), .val (.int q1), .val (.int (0 : Int32)), .val (.ref x147), .unset, .unset, .unset, .unset, .unset] [(.int r1), (.int r0), (.int u2)])) rfl (by rw [hml]; rfl) (argsL := [(.int u2), (.int r0), (.int r1)]) (rest := []) (lenOf own_pd14 rfl) rfl (by show 2 * 0 + _ ≤ _; exact Nat.le_of_eq rfl) (hb hby at_156) (fun _ hWm => ⟨rfl, rfl, (by decide : 4 + 4 ≤ _), (by decide : 8 + 8 ≤ _), JE.warm (s := s) J147 hWm⟩)
        dsimp only [Pt.U, Pt.locs, Pt.cells, Pt.slots] at Xb148 hSb148 gr148 l148 y148 z148 st148 hQ148
        subst l148 y148 z148
        obtain ⟨X148, hS148, hZ, hown⟩ := rebS hS147 (Nat.le_refl _) Xb148 hSb148 gr148 hZ hown
        obtain ⟨x148, t148, kb148, rfl, N148r, K148q, J148, gz148, E148s, C148s, V148s, A148s⟩ := hQ148
        have N148q : Fr n0 _ := Fr.le N148r Zs147
        have lt_x147_x148 : x147 < x148 := Nat.lt_of_lt_of_le E147s.lt gz148
        have lt_t147_x148 : t147 < x148 := Nat.lt_of_lt_of_le A147s.lt gz148
        have gn_x148 : n0 ≤ x148 := Nat.le_trans Zs147 gz148
        have Zs148 : n0 ≤ T148.heap.size := Nat.le_trans Zs147 K148q.1
        have N148 := Fr.app N147 N148q
        refine Go.tr st148 ?_
        show Go p e below _ (T148.setTop (mkF m 159 #[.val (.int fa), .val (.int fb), .val (.int fc), .val (.int fs), .val (.int u1), .val (.int u2), .val (.int u3), .val (.int md), .val (.int l0), .val (.int l1), .val (.int r0), .val (.int r1), .val (.int (0 : Int32)), .val (.int (0 : Int32)), .val (.int q0), .val (.int q1), .val (.int (0 : Int32)), .val (.ref x147), .unset, .unset, .unset, .unset, .unset] [(.ref x148)]))
        refine Go.st (fun _ kt => XS.astore X148.here hx rfl (hb hby at_159) rfl rfl (l' := #[.val (.int fa), .val (.int fb), .val (.int fc), .val (.int fs), .val (.int u1), .val (.int u2), .val (.int u3), .val (.int md), .val (.int l0), .val (.int l1), .val (.int r0), .val (.int r1), .val (.int (0 : Int32)), .val (.int (0 : Int32)), .val (.int q0), .val (.int q1), .val (.int (0 : Int32)), .val (.ref x147), .val (.ref x148), .unset, .unset, .unset, .unset]) rfl kt) ?_
        show Go p e below _ (T148.setTop (mkF m 161 #[.val (.int fa), .val (.int fb), .val (.int fc), .val (.int fs), .val (.int u1), .val (.int u2), .val (.int u3), .val (.int md), .val (.int l0), .val (.int l1), .val (.int r0), .val (.int r1), .val (.int (0 : Int32)), .val (.int (0 : Int32)), .val (.int q0), .val (.int q1), .val (.int (0 : Int32)), .val (.ref x147), .val (.ref x148), .unset, .unset, .unset, .unset] []))
        refine Go.st (fun _ kt => XS.iload X148.here hx rfl (hb hby at_161) rfl kt) ?_
        show Go p e below _ (T148.setTop (mkF m 163 #[.val (.int fa), .val (.int fb), .val (.int fc), .val (.int fs), .val (.int u1), .val (.int u2), .val (.int u3), .val (.int md), .val (.int l0), .val (.int l1), .val (.int r0), .val (.int r1), .val (.int (0 : Int32)), .val (.int (0 : Int32)), .val (.int q0), .val (.int q1), .val (.int (0 : Int32)), .val (.ref x147), .val (.ref x148), .unset, .unset, .unset, .unset] [(.int (0 : Int32))]))
        refine Go.st (fun _ kt => XS.ifYes X148.here hx rfl (pc0 := 163) (pc' := 170) rfl (hb hby at_163) rfl ((if0 _ _).trans (teq (by decide : (0 : Int32) = (0 : Int32))).1) (by decide) (by decide) kt) ?_
        show Go p e below _ (T148.setTop (mkF m 170 #[.val (.int fa), .val (.int fb), .val (.int fc), .val (.int fs), .val (.int u1), .val (.int u2), .val (.int u3), .val (.int md), .val (.int l0), .val (.int l1), .val (.int r0), .val (.int r1), .val (.int (0 : Int32)), .val (.int (0 : Int32)), .val (.int q0), .val (.int q1), .val (.int (0 : Int32)), .val (.ref x147), .val (.ref x148), .unset, .unset, .unset, .unset] []))
        refine Go.st (fun _ kt => XS.iload X148.here hx rfl (hb hby at_170) rfl kt) ?_
        show Go p e below _ (T148.setTop (mkF m 172 #[.val (.int fa), .val (.int fb), .val (.int fc), .val (.int fs), .val (.int u1), .val (.int u2), .val (.int u3), .val (.int md), .val (.int l0), .val (.int l1), .val (.int r0), .val (.int r1), .val (.int (0 : Int32)), .val (.int (0 : Int32)), .val (.int q0), .val (.int q1), .val (.int (0 : Int32)), .val (.ref x147), .val (.ref x148), .unset, .unset, .unset, .unset] [(.int u3)]))
        refine Go.st (fun _ kt => XS.iload X148.here hx rfl (hb hby at_172) rfl kt) ?_
        show Go p e below _ (T148.setTop (mkF m 174 #[.val (.int fa), .val (.int fb), .val (.int fc), .val (.int fs), .val (.int u1), .val (.int u2), .val (.int u3), .val (.int md), .val (.int l0), .val (.int l1), .val (.int r0), .val (.int r1), .val (.int (0 : Int32)), .val (.int (0 : Int32)), .val (.int q0), .val (.int q1), .val (.int (0 : Int32)), .val (.ref x147), .val (.ref x148), .unset, .unset, .unset, .unset] [(.int q0), (.int u3)]))
        refine Go.st (fun _ kt => XS.iload X148.here hx rfl (hb hby at_174) rfl kt) ?_
        show Go p e below _ (T148.setTop (mkF m 176 #[.val (.int fa), .val (.int fb), .val (.int fc), .val (.int fs), .val (.int u1), .val (.int u2), .val (.int u3), .val (.int md), .val (.int l0), .val (.int l1), .val (.int r0), .val (.int r1), .val (.int (0 : Int32)), .val (.int (0 : Int32)), .val (.int q0), .val (.int q1), .val (.int (0 : Int32)), .val (.ref x147), .val (.ref x148), .unset, .unset, .unset, .unset] [(.int q1), (.int q0), (.int u3)]))
        obtain ⟨_, _, ⟨T149, L149, k149, n149⟩, -, Xb149, hSb149, gr149, ⟨Lc149, hQ149, l149, y149, z149⟩, st149⟩ := callSS X148 hx (y := (⟨"com/example/manyhands/manyhands/crowd/OrderingTakesPinLaw", "mk", "(III)Ljava/lang/String;"⟩ : MethodName)) hown (mvT hZ (hw _ (List.mem_of_getElem? (i := 0) rfl))) (mvT hZ (hw _ (List.mem_of_getElem? (i := 1) rfl))) (mvT hZ (hw _ (List.mem_of_getElem? (i := 2) rfl))) (mvT hZ (hw _ (List.mem_of_getElem? (i := 3) rfl))) (by decide) (own_backJ (PU := fun vm_ => JE Z vm_ T148.heap T148.heap.size) (W := 0) (rm1 l Z a0 hw [] u3 q0 q1 G1 T148.heap T148.heap.size (Nat.le_refl _) O2 P5 (own_EX X148 rfl N148 hz0 hh XE) (Nat.le_trans hz0 Zs148) hCH hCW bu3 bq0 bq1) hZ (hw _ (List.mem_of_getElem? (i := 3) rfl)) (hw _ (List.mem_of_getElem? (i := 2) rfl)) (by decide) (by decide)) (g := (mkF m 176 #[.val (.int fa), .val (.int fb), .val (.int fc), .val (.int fs), .val (.int u1), .val (.int u2), .val (.int u3), .val (.int md), .val (.int l0), .val (.int l1), .val (.int r0), .val (.int r1), .val (.int (0 : Int32)), .val (.int (0 : Int32)), .val (.int q0), .val (.int q1), .val (.int (0 : Int32)), .val (.ref x147), .val (.ref x148), .unset, .unset, .unset, .unset] [(.int q1), (.int q0), (.int u3)])) rfl (by rw [hml]; rfl) (argsL := [(.int u3), (.int q0), (.int q1)]) (rest := []) (lenOf own_pd14 rfl) rfl (by show 2 * 0 + _ ≤ _; exact Nat.le_of_eq rfl) (hb hby at_176) (fun _ hWm => ⟨rfl, rfl, (by decide : 8 + 4 ≤ _), (by decide : 16 + 8 ≤ _), JE.warm (s := s) J148 hWm⟩)
        dsimp only [Pt.U, Pt.locs, Pt.cells, Pt.slots] at Xb149 hSb149 gr149 l149 y149 z149 st149 hQ149
        subst l149 y149 z149
        obtain ⟨X149, hS149, hZ, hown⟩ := rebS hS148 (Nat.le_refl _) Xb149 hSb149 gr149 hZ hown
        obtain ⟨x149, t149, kb149, rfl, N149r, K149q, J149, gz149, E149s, C149s, V149s, A149s⟩ := hQ149
        have N149q : Fr n0 _ := Fr.le N149r Zs148
        have f150 := (E147s.keep K148q)
        have lt_x147_x149 : x147 < x149 := Nat.lt_of_lt_of_le f150.lt gz149
        have f151 := (A147s.keep K148q nin0)
        have lt_t147_x149 : t147 < x149 := Nat.lt_of_lt_of_le f151.lt gz149
        have lt_x148_x149 : x148 < x149 := Nat.lt_of_lt_of_le E148s.lt gz149
        have lt_t148_x149 : t148 < x149 := Nat.lt_of_lt_of_le A148s.lt gz149
        have gn_x149 : n0 ≤ x149 := Nat.le_trans Zs148 gz149
        have Zs149 : n0 ≤ T149.heap.size := Nat.le_trans Zs148 K149q.1
        have N149 := Fr.app N148 N149q
        refine Go.tr st149 ?_
        show Go p e below _ (T149.setTop (mkF m 179 #[.val (.int fa), .val (.int fb), .val (.int fc), .val (.int fs), .val (.int u1), .val (.int u2), .val (.int u3), .val (.int md), .val (.int l0), .val (.int l1), .val (.int r0), .val (.int r1), .val (.int (0 : Int32)), .val (.int (0 : Int32)), .val (.int q0), .val (.int q1), .val (.int (0 : Int32)), .val (.ref x147), .val (.ref x148), .unset, .unset, .unset, .unset] [(.ref x149)]))
        refine Go.st (fun _ kt => XS.astore X149.here hx rfl (hb hby at_179) rfl rfl (l' := #[.val (.int fa), .val (.int fb), .val (.int fc), .val (.int fs), .val (.int u1), .val (.int u2), .val (.int u3), .val (.int md), .val (.int l0), .val (.int l1), .val (.int r0), .val (.int r1), .val (.int (0 : Int32)), .val (.int (0 : Int32)), .val (.int q0), .val (.int q1), .val (.int (0 : Int32)), .val (.ref x147), .val (.ref x148), .val (.ref x149), .unset, .unset, .unset]) rfl kt) ?_
        show Go p e below _ (T149.setTop (mkF m 181 #[.val (.int fa), .val (.int fb), .val (.int fc), .val (.int fs), .val (.int u1), .val (.int u2), .val (.int u3), .val (.int md), .val (.int l0), .val (.int l1), .val (.int r0), .val (.int r1), .val (.int (0 : Int32)), .val (.int (0 : Int32)), .val (.int q0), .val (.int q1), .val (.int (0 : Int32)), .val (.ref x147), .val (.ref x148), .val (.ref x149), .unset, .unset, .unset] []))
        refine Go.st (fun _ kt => XS.iloadN X149.here hx rfl (hb hby at_181) rfl kt) ?_
        show Go p e below _ (T149.setTop (mkF m 182 #[.val (.int fa), .val (.int fb), .val (.int fc), .val (.int fs), .val (.int u1), .val (.int u2), .val (.int u3), .val (.int md), .val (.int l0), .val (.int l1), .val (.int r0), .val (.int r1), .val (.int (0 : Int32)), .val (.int (0 : Int32)), .val (.int q0), .val (.int q1), .val (.int (0 : Int32)), .val (.ref x147), .val (.ref x148), .val (.ref x149), .unset, .unset, .unset] [(.int fs)]))
        refine Go.st (fun _ kt => XS.bipush X149.here hx rfl (hb hby at_182) kt) ?_
        show Go p e below _ (T149.setTop (mkF m 184 #[.val (.int fa), .val (.int fb), .val (.int fc), .val (.int fs), .val (.int u1), .val (.int u2), .val (.int u3), .val (.int md), .val (.int l0), .val (.int l1), .val (.int r0), .val (.int r1), .val (.int (0 : Int32)), .val (.int (0 : Int32)), .val (.int q0), .val (.int q1), .val (.int (0 : Int32)), .val (.ref x147), .val (.ref x148), .val (.ref x149), .unset, .unset, .unset] [(.int (8 : Int32)), (.int fs)]))
        refine Go.st (fun _ kt => XS.ishr X149.here hx rfl (hb hby at_184) rfl kt) ?_
        show Go p e below _ (T149.setTop (mkF m 185 #[.val (.int fa), .val (.int fb), .val (.int fc), .val (.int fs), .val (.int u1), .val (.int u2), .val (.int u3), .val (.int md), .val (.int l0), .val (.int l1), .val (.int r0), .val (.int r1), .val (.int (0 : Int32)), .val (.int (0 : Int32)), .val (.int q0), .val (.int q1), .val (.int (0 : Int32)), .val (.ref x147), .val (.ref x148), .val (.ref x149), .unset, .unset, .unset] [(.int (fs >>> ((8 : Int32) &&& 31)))]))
        refine Go.st (fun _ kt => XS.sipush X149.here hx rfl (hb hby at_185) kt) ?_
        show Go p e below _ (T149.setTop (mkF m 188 #[.val (.int fa), .val (.int fb), .val (.int fc), .val (.int fs), .val (.int u1), .val (.int u2), .val (.int u3), .val (.int md), .val (.int l0), .val (.int l1), .val (.int r0), .val (.int r1), .val (.int (0 : Int32)), .val (.int (0 : Int32)), .val (.int q0), .val (.int q1), .val (.int (0 : Int32)), .val (.ref x147), .val (.ref x148), .val (.ref x149), .unset, .unset, .unset] [(.int (255 : Int32)), (.int (fs >>> ((8 : Int32) &&& 31)))]))
        refine Go.st (fun _ kt => XS.iand X149.here hx rfl (hb hby at_188) rfl kt) ?_
        show Go p e below _ (T149.setTop (mkF m 189 #[.val (.int fa), .val (.int fb), .val (.int fc), .val (.int fs), .val (.int u1), .val (.int u2), .val (.int u3), .val (.int md), .val (.int l0), .val (.int l1), .val (.int r0), .val (.int r1), .val (.int (0 : Int32)), .val (.int (0 : Int32)), .val (.int q0), .val (.int q1), .val (.int (0 : Int32)), .val (.ref x147), .val (.ref x148), .val (.ref x149), .unset, .unset, .unset] [(.int ((fs >>> ((8 : Int32) &&& 31)) &&& (255 : Int32)))]))
        generalize hqc : (((fs >>> ((8 : Int32) &&& 31)) &&& (255 : Int32)) : Int32) = qc
        show Go p e below _ (T149.setTop (mkF m 189 #[.val (.int fa), .val (.int fb), .val (.int fc), .val (.int fs), .val (.int u1), .val (.int u2), .val (.int u3), .val (.int md), .val (.int l0), .val (.int l1), .val (.int r0), .val (.int r1), .val (.int (0 : Int32)), .val (.int (0 : Int32)), .val (.int q0), .val (.int q1), .val (.int (0 : Int32)), .val (.ref x147), .val (.ref x148), .val (.ref x149), .unset, .unset, .unset] [(.int qc)]))
        have bqc := hqc ▸ own_and255 _
        refine Go.st (fun _ kt => XS.i2c X149.here hx rfl (hb hby at_189) rfl kt) ?_
        show Go p e below _ (T149.setTop (mkF m 190 #[.val (.int fa), .val (.int fb), .val (.int fc), .val (.int fs), .val (.int u1), .val (.int u2), .val (.int u3), .val (.int md), .val (.int l0), .val (.int l1), .val (.int r0), .val (.int r1), .val (.int (0 : Int32)), .val (.int (0 : Int32)), .val (.int q0), .val (.int q1), .val (.int (0 : Int32)), .val (.ref x147), .val (.ref x148), .val (.ref x149), .unset, .unset, .unset] [(.int (qc.toUInt32.toUInt16.toUInt32.toInt32))]))
        rw [(own_chr bqc : (qc.toUInt32.toUInt16.toUInt32.toInt32) = qc)]
        show Go p e below _ (T149.setTop (mkF m 190 #[.val (.int fa), .val (.int fb), .val (.int fc), .val (.int fs), .val (.int u1), .val (.int u2), .val (.int u3), .val (.int md), .val (.int l0), .val (.int l1), .val (.int r0), .val (.int r1), .val (.int (0 : Int32)), .val (.int (0 : Int32)), .val (.int q0), .val (.int q1), .val (.int (0 : Int32)), .val (.ref x147), .val (.ref x148), .val (.ref x149), .unset, .unset, .unset] [(.int qc)]))
        obtain ⟨_, _, ⟨T152, L152, k152, n152⟩, -, X152, ⟨Lc152, hQ152, l152, y152, z152⟩, st152⟩ := Jvm.LawKit.callS X149 hx (y := (⟨"java/lang/String", "valueOf", "(C)Ljava/lang/String;"⟩ : MethodName)) hown (mvT hZ (hw _ (List.mem_of_getElem? (i := 37) rfl))) (mvT hZ (hw _ (List.mem_of_getElem? (i := 38) rfl))) (mvT hZ (hw _ (List.mem_of_getElem? (i := 6) rfl))) (mvT hZ (hw _ (List.mem_of_getElem? (i := 39) rfl))) (by decide) (backOf (W := 0) (rm8 l Z a0 hw [] qc G1 T149.heap n0 Zs149 O2 P5 (own_EX X149 rfl N149 hz0 hh XE) hz0 bqc.2) hZ (hw _ (List.mem_of_getElem? (i := 39) rfl)) (hw _ (List.mem_of_getElem? (i := 6) rfl)) (by decide) (by decide)) (g := (mkF m 190 #[.val (.int fa), .val (.int fb), .val (.int fc), .val (.int fs), .val (.int u1), .val (.int u2), .val (.int u3), .val (.int md), .val (.int l0), .val (.int l1), .val (.int r0), .val (.int r1), .val (.int (0 : Int32)), .val (.int (0 : Int32)), .val (.int q0), .val (.int q1), .val (.int (0 : Int32)), .val (.ref x147), .val (.ref x148), .val (.ref x149), .unset, .unset, .unset] [(.int qc)])) rfl (by rw [hml]; rfl) (argsL := [(.int qc)]) (rest := []) (lenOf own_pd15 rfl) rfl (by show 2 * 0 + _ ≤ _; exact Nat.le_of_eq rfl) (hb hby at_190) (fun _ _ => ⟨rfl, rfl, (by decide : 12 + 2 ≤ _), (by decide : 24 + 5 ≤ _)⟩)
        dsimp only [Pt.U, Pt.locs, Pt.cells, Pt.slots] at X152 l152 y152 z152 st152 hQ152
        subst l152 y152 z152
        obtain ⟨x152, rfl, N152q, K152q, gz152, E152s⟩ := hQ152
        have f153 := (f150.keep K149q)
        have lt_x147_x152 : x147 < x152 := Nat.lt_of_lt_of_le f153.lt gz152
        have f154 := (f151.keep K149q nin0)
        have lt_t147_x152 : t147 < x152 := Nat.lt_of_lt_of_le f154.lt gz152
        have f155 := (E148s.keep K149q)
        have lt_x148_x152 : x148 < x152 := Nat.lt_of_lt_of_le f155.lt gz152
        have f156 := (A148s.keep K149q nin0)
        have lt_t148_x152 : t148 < x152 := Nat.lt_of_lt_of_le f156.lt gz152
        have lt_x149_x152 : x149 < x152 := Nat.lt_of_lt_of_le E149s.lt gz152
        have lt_t149_x152 : t149 < x152 := Nat.lt_of_lt_of_le A149s.lt gz152
        have gn_x152 : n0 ≤ x152 := Nat.le_trans Zs149 gz152
        have Zs152 : n0 ≤ T152.heap.size := Nat.le_trans Zs149 K152q.1
        have Gk152 := Nat.le_trans (Nat.le_refl _) K152q.1
        have N152 := Fr.app N149 N152q
        refine Go.st st152 ?_
        show Go p e below _ (T152.setTop (mkF m 193 #[.val (.int fa), .val (.int fb), .val (.int fc), .val (.int fs), .val (.int u1), .val (.int u2), .val (.int u3), .val (.int md), .val (.int l0), .val (.int l1), .val (.int r0), .val (.int r1), .val (.int (0 : Int32)), .val (.int (0 : Int32)), .val (.int q0), .val (.int q1), .val (.int (0 : Int32)), .val (.ref x147), .val (.ref x148), .val (.ref x149), .unset, .unset, .unset] [(.ref x152)]))
        refine Go.st (fun _ kt => XS.astore X152.here hx rfl (hb hby at_193) rfl rfl (l' := #[.val (.int fa), .val (.int fb), .val (.int fc), .val (.int fs), .val (.int u1), .val (.int u2), .val (.int u3), .val (.int md), .val (.int l0), .val (.int l1), .val (.int r0), .val (.int r1), .val (.int (0 : Int32)), .val (.int (0 : Int32)), .val (.int q0), .val (.int q1), .val (.int (0 : Int32)), .val (.ref x147), .val (.ref x148), .val (.ref x149), .val (.ref x152), .unset, .unset]) rfl kt) ?_
        show Go p e below _ (T152.setTop (mkF m 195 #[.val (.int fa), .val (.int fb), .val (.int fc), .val (.int fs), .val (.int u1), .val (.int u2), .val (.int u3), .val (.int md), .val (.int l0), .val (.int l1), .val (.int r0), .val (.int r1), .val (.int (0 : Int32)), .val (.int (0 : Int32)), .val (.int q0), .val (.int q1), .val (.int (0 : Int32)), .val (.ref x147), .val (.ref x148), .val (.ref x149), .val (.ref x152), .unset, .unset] []))
        obtain ⟨T157, h157, X157, e157, E157, A157, D157, U157, st157⟩ := newO X152 hx hZ hown (hw _ (List.mem_of_getElem? (i := 51) rfl)) (hw _ (List.mem_of_getElem? (i := 52) rfl)) (hw _ (List.mem_of_getElem? (i := 53) rfl)) rfl (g := (mkF m 195 #[.val (.int fa), .val (.int fb), .val (.int fc), .val (.int fs), .val (.int u1), .val (.int u2), .val (.int u3), .val (.int md), .val (.int l0), .val (.int l1), .val (.int r0), .val (.int r1), .val (.int (0 : Int32)), .val (.int (0 : Int32)), .val (.int q0), .val (.int q1), .val (.int (0 : Int32)), .val (.ref x147), .val (.ref x148), .val (.ref x149), .val (.ref x152), .unset, .unset] [])) rfl (hb hby at_195) (by decide) (by decide)
        obtain ⟨b157, g157⟩ : ∃ z, z = T152.heap.size := ⟨_, rfl⟩
        rw [← g157] at A157 D157 U157 st157
        have f158 := (f153.keep K152q)
        have lt_x147_b157 : x147 < b157 := Nat.lt_of_lt_of_eq f158.lt g157.symm
        have f159 := (f154.keep K152q nin0)
        have lt_t147_b157 : t147 < b157 := Nat.lt_of_lt_of_eq f159.lt g157.symm
        have f160 := (f155.keep K152q)
        have lt_x148_b157 : x148 < b157 := Nat.lt_of_lt_of_eq f160.lt g157.symm
        have f161 := (f156.keep K152q nin0)
        have lt_t148_b157 : t148 < b157 := Nat.lt_of_lt_of_eq f161.lt g157.symm
        have f162 := (E149s.keep K152q)
        have lt_x149_b157 : x149 < b157 := Nat.lt_of_lt_of_eq f162.lt g157.symm
        have f163 := (A149s.keep K152q nin0)
        have lt_t149_b157 : t149 < b157 := Nat.lt_of_lt_of_eq f163.lt g157.symm
        have lt_x152_b157 : x152 < b157 := Nat.lt_of_lt_of_eq E152s.lt g157.symm
        have gn_b157 : n0 ≤ b157 := Nat.le_trans Zs152 (Nat.le_of_eq g157.symm)
        have Zs157 : n0 ≤ h157.size := Nat.le_trans Zs152 E157.1
        have Gk157 := Nat.le_trans Gk152 E157.1
        refine Go.st st157 ?_
        have F157_question : Fld Z h157 b157 "com/example/manyhands/manyhands/crowd/Ordering" "question" "Ljava/lang/String;" .null := D157 (Or.inr (hw _ (List.mem_of_getElem? (i := 71) rfl))) (ty := (.object "java/lang/String")) (by decide)
        have F157_left : Fld Z h157 b157 "com/example/manyhands/manyhands/crowd/Ordering" "left" "Ljava/lang/String;" .null := D157 (Or.inr (hw _ (List.mem_of_getElem? (i := 73) rfl))) (ty := (.object "java/lang/String")) (by decide)
        have F157_right : Fld Z h157 b157 "com/example/manyhands/manyhands/crowd/Ordering" "right" "Ljava/lang/String;" .null := D157 (Or.inr (hw _ (List.mem_of_getElem? (i := 75) rfl))) (ty := (.object "java/lang/String")) (by decide)
        show Go p e below _ (T157.setTop (mkF m 198 #[.val (.int fa), .val (.int fb), .val (.int fc), .val (.int fs), .val (.int u1), .val (.int u2), .val (.int u3), .val (.int md), .val (.int l0), .val (.int l1), .val (.int r0), .val (.int r1), .val (.int (0 : Int32)), .val (.int (0 : Int32)), .val (.int q0), .val (.int q1), .val (.int (0 : Int32)), .val (.ref x147), .val (.ref x148), .val (.ref x149), .val (.ref x152), .unset, .unset] [(.ref b157)]))
        refine Go.st (fun _ kt => XS.dup X157.here hx rfl (hb hby at_198) rfl rfl kt) ?_
        show Go p e below _ (T157.setTop (mkF m 199 #[.val (.int fa), .val (.int fb), .val (.int fc), .val (.int fs), .val (.int u1), .val (.int u2), .val (.int u3), .val (.int md), .val (.int l0), .val (.int l1), .val (.int r0), .val (.int r1), .val (.int (0 : Int32)), .val (.int (0 : Int32)), .val (.int q0), .val (.int q1), .val (.int (0 : Int32)), .val (.ref x147), .val (.ref x148), .val (.ref x149), .val (.ref x152), .unset, .unset] [(.ref b157), (.ref b157)]))
        refine Go.st (fun _ kt => XS.aload X157.here hx rfl (hb hby at_199) rfl rfl kt) ?_
        show Go p e below _ (T157.setTop (mkF m 201 #[.val (.int fa), .val (.int fb), .val (.int fc), .val (.int fs), .val (.int u1), .val (.int u2), .val (.int u3), .val (.int md), .val (.int l0), .val (.int l1), .val (.int r0), .val (.int r1), .val (.int (0 : Int32)), .val (.int (0 : Int32)), .val (.int q0), .val (.int q1), .val (.int (0 : Int32)), .val (.ref x147), .val (.ref x148), .val (.ref x149), .val (.ref x152), .unset, .unset] [(.ref x152), (.ref b157), (.ref b157)]))
        refine Go.st (fun _ kt => XS.aload X157.here hx rfl (hb hby at_201) rfl rfl kt) ?_
        show Go p e below _ (T157.setTop (mkF m 203 #[.val (.int fa), .val (.int fb), .val (.int fc), .val (.int fs), .val (.int u1), .val (.int u2), .val (.int u3), .val (.int md), .val (.int l0), .val (.int l1), .val (.int r0), .val (.int r1), .val (.int (0 : Int32)), .val (.int (0 : Int32)), .val (.int q0), .val (.int q1), .val (.int (0 : Int32)), .val (.ref x147), .val (.ref x148), .val (.ref x149), .val (.ref x152), .unset, .unset] [(.ref x147), (.ref x152), (.ref b157), (.ref b157)]))
        refine Go.st (fun _ kt => XS.aload X157.here hx rfl (hb hby at_203) rfl rfl kt) ?_
        show Go p e below _ (T157.setTop (mkF m 205 #[.val (.int fa), .val (.int fb), .val (.int fc), .val (.int fs), .val (.int u1), .val (.int u2), .val (.int u3), .val (.int md), .val (.int l0), .val (.int l1), .val (.int r0), .val (.int r1), .val (.int (0 : Int32)), .val (.int (0 : Int32)), .val (.int q0), .val (.int q1), .val (.int (0 : Int32)), .val (.ref x147), .val (.ref x148), .val (.ref x149), .val (.ref x152), .unset, .unset] [(.ref x148), (.ref x147), (.ref x152), (.ref b157), (.ref b157)]))
        obtain ⟨_, _, ⟨T164, L164, k164, n164⟩, -, Xb164, hSb164, gr164, ⟨Lc164, hQ164, l164, y164, z164⟩, st164⟩ := X157.specialBackS hx (y := (⟨"com/example/manyhands/manyhands/crowd/Ordering", "<init>", "(Ljava/lang/String;Ljava/lang/String;Ljava/lang/String;)V"⟩ : MethodName)) rfl hown (mvT hZ (hw _ (List.mem_of_getElem? (i := 54) rfl))) (mvT hZ (hw _ (List.mem_of_getElem? (i := 55) rfl))) (mvT hZ (hw _ (List.mem_of_getElem? (i := 56) rfl))) (by decide) (own_backJ (PU := fun _ => True) (W := 1) (rm12 l Z a0 hw [] b157 x152 x147 x148 h157 n0 Zs157 A157 F157_question F157_left F157_right gn_b157) hZ (hw _ (List.mem_of_getElem? (i := 56) rfl)) (hw _ (List.mem_of_getElem? (i := 53) rfl)) (by decide) (by decide)) (g := (mkF m 205 #[.val (.int fa), .val (.int fb), .val (.int fc), .val (.int fs), .val (.int u1), .val (.int u2), .val (.int u3), .val (.int md), .val (.int l0), .val (.int l1), .val (.int r0), .val (.int r1), .val (.int (0 : Int32)), .val (.int (0 : Int32)), .val (.int q0), .val (.int q1), .val (.int (0 : Int32)), .val (.ref x147), .val (.ref x148), .val (.ref x149), .val (.ref x152), .unset, .unset] [(.ref x148), (.ref x147), (.ref x152), (.ref b157), (.ref b157)])) rfl (by rw [hml]; rfl) (Steps.refl _) (a := b157) (argsL := [(.ref x152), (.ref x147), (.ref x148)]) (rest := [(.ref b157)]) (lenOf own_pd16 rfl) rfl (by show 2 * 0 + _ ≤ _; exact Nat.le_of_eq rfl) (hb hby at_205) (fun _ hWm => ⟨rfl, e157, (by decide : 15 + 6 ≤ _), (by decide : 32 + 80 ≤ _), trivial⟩)
        dsimp only [Pt.U, Pt.locs, Pt.cells, Pt.slots] at Xb164 hSb164 gr164 l164 y164 z164 st164 hQ164
        subst l164 y164 z164
        obtain ⟨X164, hS164, hZ, hown⟩ := rebS hS149 (by rw [e157]; exact Gk157) Xb164 hSb164 gr164 hZ hown
        obtain ⟨rfl, N164q, K164q, Fle164, Fri164⟩ := hQ164
        have Zs164 : n0 ≤ T164.heap.size := Nat.le_trans Zs157 K164q.1
        have N164 := Fr.app N152 N164q
        refine Go.tr st164 ?_
        show Go p e below _ (T164.setTop (mkF m 208 #[.val (.int fa), .val (.int fb), .val (.int fc), .val (.int fs), .val (.int u1), .val (.int u2), .val (.int u3), .val (.int md), .val (.int l0), .val (.int l1), .val (.int r0), .val (.int r1), .val (.int (0 : Int32)), .val (.int (0 : Int32)), .val (.int q0), .val (.int q1), .val (.int (0 : Int32)), .val (.ref x147), .val (.ref x148), .val (.ref x149), .val (.ref x152), .unset, .unset] [(.ref b157)]))
        refine Go.st (fun _ kt => XS.astore X164.here hx rfl (hb hby at_208) rfl rfl (l' := #[.val (.int fa), .val (.int fb), .val (.int fc), .val (.int fs), .val (.int u1), .val (.int u2), .val (.int u3), .val (.int md), .val (.int l0), .val (.int l1), .val (.int r0), .val (.int r1), .val (.int (0 : Int32)), .val (.int (0 : Int32)), .val (.int q0), .val (.int q1), .val (.int (0 : Int32)), .val (.ref x147), .val (.ref x148), .val (.ref x149), .val (.ref x152), .val (.ref b157), .unset]) rfl kt) ?_
        show Go p e below _ (T164.setTop (mkF m 210 #[.val (.int fa), .val (.int fb), .val (.int fc), .val (.int fs), .val (.int u1), .val (.int u2), .val (.int u3), .val (.int md), .val (.int l0), .val (.int l1), .val (.int r0), .val (.int r1), .val (.int (0 : Int32)), .val (.int (0 : Int32)), .val (.int q0), .val (.int q1), .val (.int (0 : Int32)), .val (.ref x147), .val (.ref x148), .val (.ref x149), .val (.ref x152), .val (.ref b157), .unset] []))
        refine Go.st (fun _ kt => XS.iload X164.here hx rfl (hb hby at_210) rfl kt) ?_
        show Go p e below _ (T164.setTop (mkF m 212 #[.val (.int fa), .val (.int fb), .val (.int fc), .val (.int fs), .val (.int u1), .val (.int u2), .val (.int u3), .val (.int md), .val (.int l0), .val (.int l1), .val (.int r0), .val (.int r1), .val (.int (0 : Int32)), .val (.int (0 : Int32)), .val (.int q0), .val (.int q1), .val (.int (0 : Int32)), .val (.ref x147), .val (.ref x148), .val (.ref x149), .val (.ref x152), .val (.ref b157), .unset] [(.int (0 : Int32))]))
        refine Go.st (fun _ kt => XS.ifNo X164.here hx rfl (hb hby at_212) rfl ((if0 _ _).trans (teq (by decide : (0 : Int32) = (0 : Int32))).2) kt) ?_
        show Go p e below _ (T164.setTop (mkF m 215 #[.val (.int fa), .val (.int fb), .val (.int fc), .val (.int fs), .val (.int u1), .val (.int u2), .val (.int u3), .val (.int md), .val (.int l0), .val (.int l1), .val (.int r0), .val (.int r1), .val (.int (0 : Int32)), .val (.int (0 : Int32)), .val (.int q0), .val (.int q1), .val (.int (0 : Int32)), .val (.ref x147), .val (.ref x148), .val (.ref x149), .val (.ref x152), .val (.ref b157), .unset] []))
        refine Go.st (fun _ kt => XS.iload X164.here hx rfl (hb hby at_215) rfl kt) ?_
        show Go p e below _ (T164.setTop (mkF m 217 #[.val (.int fa), .val (.int fb), .val (.int fc), .val (.int fs), .val (.int u1), .val (.int u2), .val (.int u3), .val (.int md), .val (.int l0), .val (.int l1), .val (.int r0), .val (.int r1), .val (.int (0 : Int32)), .val (.int (0 : Int32)), .val (.int q0), .val (.int q1), .val (.int (0 : Int32)), .val (.ref x147), .val (.ref x148), .val (.ref x149), .val (.ref x152), .val (.ref b157), .unset] [(.int u3)]))
        refine Go.st (fun _ kt => XS.iload X164.here hx rfl (hb hby at_217) rfl kt) ?_
        show Go p e below _ (T164.setTop (mkF m 219 #[.val (.int fa), .val (.int fb), .val (.int fc), .val (.int fs), .val (.int u1), .val (.int u2), .val (.int u3), .val (.int md), .val (.int l0), .val (.int l1), .val (.int r0), .val (.int r1), .val (.int (0 : Int32)), .val (.int (0 : Int32)), .val (.int q0), .val (.int q1), .val (.int (0 : Int32)), .val (.ref x147), .val (.ref x148), .val (.ref x149), .val (.ref x152), .val (.ref b157), .unset] [(.int q0), (.int u3)]))
        refine Go.st (fun _ kt => XS.iload X164.here hx rfl (hb hby at_219) rfl kt) ?_
        show Go p e below _ (T164.setTop (mkF m 221 #[.val (.int fa), .val (.int fb), .val (.int fc), .val (.int fs), .val (.int u1), .val (.int u2), .val (.int u3), .val (.int md), .val (.int l0), .val (.int l1), .val (.int r0), .val (.int r1), .val (.int (0 : Int32)), .val (.int (0 : Int32)), .val (.int q0), .val (.int q1), .val (.int (0 : Int32)), .val (.ref x147), .val (.ref x148), .val (.ref x149), .val (.ref x152), .val (.ref b157), .unset] [(.int q1), (.int q0), (.int u3)]))
        refine Go.st (fun _ kt => XS.iload X164.here hx rfl (hb hby at_221) rfl kt) ?_
        show Go p e below _ (T164.setTop (mkF m 223 #[.val (.int fa), .val (.int fb), .val (.int fc), .val (.int fs), .val (.int u1), .val (.int u2), .val (.int u3), .val (.int md), .val (.int l0), .val (.int l1), .val (.int r0), .val (.int r1), .val (.int (0 : Int32)), .val (.int (0 : Int32)), .val (.int q0), .val (.int q1), .val (.int (0 : Int32)), .val (.ref x147), .val (.ref x148), .val (.ref x149), .val (.ref x152), .val (.ref b157), .unset] [(.int u1), (.int q1), (.int q0), (.int u3)]))
        refine Go.st (fun _ kt => XS.iload X164.here hx rfl (hb hby at_223) rfl kt) ?_
        show Go p e below _ (T164.setTop (mkF m 225 #[.val (.int fa), .val (.int fb), .val (.int fc), .val (.int fs), .val (.int u1), .val (.int u2), .val (.int u3), .val (.int md), .val (.int l0), .val (.int l1), .val (.int r0), .val (.int r1), .val (.int (0 : Int32)), .val (.int (0 : Int32)), .val (.int q0), .val (.int q1), .val (.int (0 : Int32)), .val (.ref x147), .val (.ref x148), .val (.ref x149), .val (.ref x152), .val (.ref b157), .unset] [(.int l0), (.int u1), (.int q1), (.int q0), (.int u3)]))
        refine Go.st (fun _ kt => XS.iload X164.here hx rfl (hb hby at_225) rfl kt) ?_
        show Go p e below _ (T164.setTop (mkF m 227 #[.val (.int fa), .val (.int fb), .val (.int fc), .val (.int fs), .val (.int u1), .val (.int u2), .val (.int u3), .val (.int md), .val (.int l0), .val (.int l1), .val (.int r0), .val (.int r1), .val (.int (0 : Int32)), .val (.int (0 : Int32)), .val (.int q0), .val (.int q1), .val (.int (0 : Int32)), .val (.ref x147), .val (.ref x148), .val (.ref x149), .val (.ref x152), .val (.ref b157), .unset] [(.int l1), (.int l0), (.int u1), (.int q1), (.int q0), (.int u3)]))
        obtain ⟨_, _, ⟨T165, L165, k165, n165⟩, -, X165, ⟨Lc165, hQ165, l165, y165, z165⟩, st165⟩ := Jvm.LawKit.callS X164 hx (y := (⟨"com/example/manyhands/manyhands/crowd/OrderingTakesPinLaw", "same", "(IIIIII)Z"⟩ : MethodName)) hown (mvT hZ (hw _ (List.mem_of_getElem? (i := 76) rfl))) (mvT hZ (hw _ (List.mem_of_getElem? (i := 77) rfl))) (mvT hZ (hw _ (List.mem_of_getElem? (i := 2) rfl))) (mvT hZ (hw _ (List.mem_of_getElem? (i := 78) rfl))) (by decide) (backOf (W := 0) (rm15 l Z a0 hw [] u3 q0 q1 u1 l0 l1 T164.heap n0 Zs164) hZ (hw _ (List.mem_of_getElem? (i := 78) rfl)) (hw _ (List.mem_of_getElem? (i := 2) rfl)) (by decide) (by decide)) (g := (mkF m 227 #[.val (.int fa), .val (.int fb), .val (.int fc), .val (.int fs), .val (.int u1), .val (.int u2), .val (.int u3), .val (.int md), .val (.int l0), .val (.int l1), .val (.int r0), .val (.int r1), .val (.int (0 : Int32)), .val (.int (0 : Int32)), .val (.int q0), .val (.int q1), .val (.int (0 : Int32)), .val (.ref x147), .val (.ref x148), .val (.ref x149), .val (.ref x152), .val (.ref b157), .unset] [(.int l1), (.int l0), (.int u1), (.int q1), (.int q0), (.int u3)])) rfl (by rw [hml]; rfl) (argsL := [(.int u3), (.int q0), (.int q1), (.int u1), (.int l0), (.int l1)]) (rest := []) (lenOf own_pd17 rfl) rfl (by show 2 * 0 + _ ≤ _; exact Nat.le_of_eq rfl) (hb hby at_227) (fun _ _ => ⟨rfl, rfl, (by decide : 21 + 0 ≤ _), (by decide : 112 + 0 ≤ _)⟩)
        dsimp only [Pt.U, Pt.locs, Pt.cells, Pt.slots] at X165 l165 y165 z165 st165 hQ165
        subst l165 y165 z165
        obtain ⟨rfl, N165q, e165⟩ := hQ165
        have N165 := Fr.app N164 N165q
        refine Go.st st165 ?_
        show Go p e below _ (T165.setTop (mkF m 230 #[.val (.int fa), .val (.int fb), .val (.int fc), .val (.int fs), .val (.int u1), .val (.int u2), .val (.int u3), .val (.int md), .val (.int l0), .val (.int l1), .val (.int r0), .val (.int r1), .val (.int (0 : Int32)), .val (.int (0 : Int32)), .val (.int q0), .val (.int q1), .val (.int (0 : Int32)), .val (.ref x147), .val (.ref x148), .val (.ref x149), .val (.ref x152), .val (.ref b157), .unset] [(.int (own_same u3 q0 q1 u1 l0 l1))]))
        by_cases hc230_166 : (own_same u3 q0 q1 u1 l0 l1) = (0 : Int32)
        · refine Go.st (fun _ kt => XS.ifNo X165.here hx rfl (hb hby at_230) rfl ((if0 _ _).trans (teq hc230_166).2) kt) ?_
          show Go p e below _ (T165.setTop (mkF m 233 #[.val (.int fa), .val (.int fb), .val (.int fc), .val (.int fs), .val (.int u1), .val (.int u2), .val (.int u3), .val (.int md), .val (.int l0), .val (.int l1), .val (.int r0), .val (.int r1), .val (.int (0 : Int32)), .val (.int (0 : Int32)), .val (.int q0), .val (.int q1), .val (.int (0 : Int32)), .val (.ref x147), .val (.ref x148), .val (.ref x149), .val (.ref x152), .val (.ref b157), .unset] []))
          refine Go.st (fun _ kt => XS.iload X165.here hx rfl (hb hby at_233) rfl kt) ?_
          show Go p e below _ (T165.setTop (mkF m 235 #[.val (.int fa), .val (.int fb), .val (.int fc), .val (.int fs), .val (.int u1), .val (.int u2), .val (.int u3), .val (.int md), .val (.int l0), .val (.int l1), .val (.int r0), .val (.int r1), .val (.int (0 : Int32)), .val (.int (0 : Int32)), .val (.int q0), .val (.int q1), .val (.int (0 : Int32)), .val (.ref x147), .val (.ref x148), .val (.ref x149), .val (.ref x152), .val (.ref b157), .unset] [(.int u3)]))
          refine Go.st (fun _ kt => XS.iload X165.here hx rfl (hb hby at_235) rfl kt) ?_
          show Go p e below _ (T165.setTop (mkF m 237 #[.val (.int fa), .val (.int fb), .val (.int fc), .val (.int fs), .val (.int u1), .val (.int u2), .val (.int u3), .val (.int md), .val (.int l0), .val (.int l1), .val (.int r0), .val (.int r1), .val (.int (0 : Int32)), .val (.int (0 : Int32)), .val (.int q0), .val (.int q1), .val (.int (0 : Int32)), .val (.ref x147), .val (.ref x148), .val (.ref x149), .val (.ref x152), .val (.ref b157), .unset] [(.int q0), (.int u3)]))
          refine Go.st (fun _ kt => XS.iload X165.here hx rfl (hb hby at_237) rfl kt) ?_
          show Go p e below _ (T165.setTop (mkF m 239 #[.val (.int fa), .val (.int fb), .val (.int fc), .val (.int fs), .val (.int u1), .val (.int u2), .val (.int u3), .val (.int md), .val (.int l0), .val (.int l1), .val (.int r0), .val (.int r1), .val (.int (0 : Int32)), .val (.int (0 : Int32)), .val (.int q0), .val (.int q1), .val (.int (0 : Int32)), .val (.ref x147), .val (.ref x148), .val (.ref x149), .val (.ref x152), .val (.ref b157), .unset] [(.int q1), (.int q0), (.int u3)]))
          refine Go.st (fun _ kt => XS.iload X165.here hx rfl (hb hby at_239) rfl kt) ?_
          show Go p e below _ (T165.setTop (mkF m 241 #[.val (.int fa), .val (.int fb), .val (.int fc), .val (.int fs), .val (.int u1), .val (.int u2), .val (.int u3), .val (.int md), .val (.int l0), .val (.int l1), .val (.int r0), .val (.int r1), .val (.int (0 : Int32)), .val (.int (0 : Int32)), .val (.int q0), .val (.int q1), .val (.int (0 : Int32)), .val (.ref x147), .val (.ref x148), .val (.ref x149), .val (.ref x152), .val (.ref b157), .unset] [(.int u2), (.int q1), (.int q0), (.int u3)]))
          refine Go.st (fun _ kt => XS.iload X165.here hx rfl (hb hby at_241) rfl kt) ?_
          show Go p e below _ (T165.setTop (mkF m 243 #[.val (.int fa), .val (.int fb), .val (.int fc), .val (.int fs), .val (.int u1), .val (.int u2), .val (.int u3), .val (.int md), .val (.int l0), .val (.int l1), .val (.int r0), .val (.int r1), .val (.int (0 : Int32)), .val (.int (0 : Int32)), .val (.int q0), .val (.int q1), .val (.int (0 : Int32)), .val (.ref x147), .val (.ref x148), .val (.ref x149), .val (.ref x152), .val (.ref b157), .unset] [(.int r0), (.int u2), (.int q1), (.int q0), (.int u3)]))
          refine Go.st (fun _ kt => XS.iload X165.here hx rfl (hb hby at_243) rfl kt) ?_
          show Go p e below _ (T165.setTop (mkF m 245 #[.val (.int fa), .val (.int fb), .val (.int fc), .val (.int fs), .val (.int u1), .val (.int u2), .val (.int u3), .val (.int md), .val (.int l0), .val (.int l1), .val (.int r0), .val (.int r1), .val (.int (0 : Int32)), .val (.int (0 : Int32)), .val (.int q0), .val (.int q1), .val (.int (0 : Int32)), .val (.ref x147), .val (.ref x148), .val (.ref x149), .val (.ref x152), .val (.ref b157), .unset] [(.int r1), (.int r0), (.int u2), (.int q1), (.int q0), (.int u3)]))
          obtain ⟨_, _, ⟨T167, L167, k167, n167⟩, -, X167, ⟨Lc167, hQ167, l167, y167, z167⟩, st167⟩ := Jvm.LawKit.callS X165 hx (y := (⟨"com/example/manyhands/manyhands/crowd/OrderingTakesPinLaw", "same", "(IIIIII)Z"⟩ : MethodName)) hown (mvT hZ (hw _ (List.mem_of_getElem? (i := 76) rfl))) (mvT hZ (hw _ (List.mem_of_getElem? (i := 77) rfl))) (mvT hZ (hw _ (List.mem_of_getElem? (i := 2) rfl))) (mvT hZ (hw _ (List.mem_of_getElem? (i := 78) rfl))) (by decide) (backOf (W := 0) (rm15 l Z a0 hw [] u3 q0 q1 u2 r0 r1 T164.heap n0 Zs164) hZ (hw _ (List.mem_of_getElem? (i := 78) rfl)) (hw _ (List.mem_of_getElem? (i := 2) rfl)) (by decide) (by decide)) (g := (mkF m 245 #[.val (.int fa), .val (.int fb), .val (.int fc), .val (.int fs), .val (.int u1), .val (.int u2), .val (.int u3), .val (.int md), .val (.int l0), .val (.int l1), .val (.int r0), .val (.int r1), .val (.int (0 : Int32)), .val (.int (0 : Int32)), .val (.int q0), .val (.int q1), .val (.int (0 : Int32)), .val (.ref x147), .val (.ref x148), .val (.ref x149), .val (.ref x152), .val (.ref b157), .unset] [(.int r1), (.int r0), (.int u2), (.int q1), (.int q0), (.int u3)])) rfl (by rw [hml]; rfl) (argsL := [(.int u3), (.int q0), (.int q1), (.int u2), (.int r0), (.int r1)]) (rest := []) (lenOf own_pd17 rfl) rfl (by show 2 * 0 + _ ≤ _; exact Nat.le_of_eq rfl) (hb hby at_245) (fun _ _ => ⟨rfl, e165, (by decide : 21 + 0 ≤ _), (by decide : 112 + 0 ≤ _)⟩)
          dsimp only [Pt.U, Pt.locs, Pt.cells, Pt.slots] at X167 l167 y167 z167 st167 hQ167
          subst l167 y167 z167
          obtain ⟨rfl, N167q, e167⟩ := hQ167
          have N167 := Fr.app N165 N167q
          refine Go.st st167 ?_
          show Go p e below _ (T167.setTop (mkF m 248 #[.val (.int fa), .val (.int fb), .val (.int fc), .val (.int fs), .val (.int u1), .val (.int u2), .val (.int u3), .val (.int md), .val (.int l0), .val (.int l1), .val (.int r0), .val (.int r1), .val (.int (0 : Int32)), .val (.int (0 : Int32)), .val (.int q0), .val (.int q1), .val (.int (0 : Int32)), .val (.ref x147), .val (.ref x148), .val (.ref x149), .val (.ref x152), .val (.ref b157), .unset] [(.int (own_same u3 q0 q1 u2 r0 r1))]))
          by_cases hc248_168 : (own_same u3 q0 q1 u2 r0 r1) = (0 : Int32)
          · refine Go.st (fun _ kt => XS.ifYes X167.here hx rfl (pc0 := 248) (pc' := 255) rfl (hb hby at_248) rfl ((if0 _ _).trans (teq hc248_168).1) (by decide) (by decide) kt) ?_
            show Go p e below _ (T167.setTop (mkF m 255 #[.val (.int fa), .val (.int fb), .val (.int fc), .val (.int fs), .val (.int u1), .val (.int u2), .val (.int u3), .val (.int md), .val (.int l0), .val (.int l1), .val (.int r0), .val (.int r1), .val (.int (0 : Int32)), .val (.int (0 : Int32)), .val (.int q0), .val (.int q1), .val (.int (0 : Int32)), .val (.ref x147), .val (.ref x148), .val (.ref x149), .val (.ref x152), .val (.ref b157), .unset] []))
            refine Go.st (fun _ kt => XS.iconst X167.here hx rfl (hb hby at_255) kt) ?_
            show Go p e below _ (T167.setTop (mkF m 256 #[.val (.int fa), .val (.int fb), .val (.int fc), .val (.int fs), .val (.int u1), .val (.int u2), .val (.int u3), .val (.int md), .val (.int l0), .val (.int l1), .val (.int r0), .val (.int r1), .val (.int (0 : Int32)), .val (.int (0 : Int32)), .val (.int q0), .val (.int q1), .val (.int (0 : Int32)), .val (.ref x147), .val (.ref x148), .val (.ref x149), .val (.ref x152), .val (.ref b157), .unset] [(.int (0 : Int32))]))
            refine Go.st (fun _ kt => XS.istore X167.here hx rfl (hb hby at_256) rfl (l' := #[.val (.int fa), .val (.int fb), .val (.int fc), .val (.int fs), .val (.int u1), .val (.int u2), .val (.int u3), .val (.int md), .val (.int l0), .val (.int l1), .val (.int r0), .val (.int r1), .val (.int (0 : Int32)), .val (.int (0 : Int32)), .val (.int q0), .val (.int q1), .val (.int (0 : Int32)), .val (.ref x147), .val (.ref x148), .val (.ref x149), .val (.ref x152), .val (.ref b157), .val (.int (0 : Int32))]) rfl kt) ?_
            show Go p e below _ (T167.setTop (mkF m 258 #[.val (.int fa), .val (.int fb), .val (.int fc), .val (.int fs), .val (.int u1), .val (.int u2), .val (.int u3), .val (.int md), .val (.int l0), .val (.int l1), .val (.int r0), .val (.int r1), .val (.int (0 : Int32)), .val (.int (0 : Int32)), .val (.int q0), .val (.int q1), .val (.int (0 : Int32)), .val (.ref x147), .val (.ref x148), .val (.ref x149), .val (.ref x152), .val (.ref b157), .val (.int (0 : Int32))] []))
            refine Go.st (fun _ kt => XS.aload X167.here hx rfl (hb hby at_258) rfl rfl kt) ?_
            show Go p e below _ (T167.setTop (mkF m 260 #[.val (.int fa), .val (.int fb), .val (.int fc), .val (.int fs), .val (.int u1), .val (.int u2), .val (.int u3), .val (.int md), .val (.int l0), .val (.int l1), .val (.int r0), .val (.int r1), .val (.int (0 : Int32)), .val (.int (0 : Int32)), .val (.int q0), .val (.int q1), .val (.int (0 : Int32)), .val (.ref x147), .val (.ref x148), .val (.ref x149), .val (.ref x152), .val (.ref b157), .val (.int (0 : Int32))] [(.ref b157)]))
            refine Go.st (fun _ kt => XS.aload X167.here hx rfl (hb hby at_260) rfl rfl kt) ?_
            show Go p e below _ (T167.setTop (mkF m 262 #[.val (.int fa), .val (.int fb), .val (.int fc), .val (.int fs), .val (.int u1), .val (.int u2), .val (.int u3), .val (.int md), .val (.int l0), .val (.int l1), .val (.int r0), .val (.int r1), .val (.int (0 : Int32)), .val (.int (0 : Int32)), .val (.int q0), .val (.int q1), .val (.int (0 : Int32)), .val (.ref x147), .val (.ref x148), .val (.ref x149), .val (.ref x152), .val (.ref b157), .val (.int (0 : Int32))] [(.ref x149), (.ref b157)]))
            have f169 := (A157.keep K164q)
            have f170 := ((f158.ext E157).keep K164q)
            have f171 := (((((C147s.keep K148q nin0).keep K149q nin0).keep K152q nin0).ext E157).keep K164q (ninS (Nat.ne_of_lt lt_x147_b157) nin0))
            have f172 := (((((V147s.keep K148q nin0).keep K149q nin0).keep K152q nin0).ext E157).keep K164q (ninS (Nat.ne_of_lt lt_x147_b157) nin0))
            have f173 := ((f159.ext E157).keep K164q (ninS (Nat.ne_of_lt lt_t147_b157) nin0))
            have f174 := ((f160.ext E157).keep K164q)
            have f175 := ((((C148s.keep K149q nin0).keep K152q nin0).ext E157).keep K164q (ninS (Nat.ne_of_lt lt_x148_b157) nin0))
            have f176 := ((((V148s.keep K149q nin0).keep K152q nin0).ext E157).keep K164q (ninS (Nat.ne_of_lt lt_x148_b157) nin0))
            have f177 := ((f161.ext E157).keep K164q (ninS (Nat.ne_of_lt lt_t148_b157) nin0))
            have f178 := ((f162.ext E157).keep K164q)
            have f179 := (((C149s.keep K152q nin0).ext E157).keep K164q (ninS (Nat.ne_of_lt lt_x149_b157) nin0))
            have f180 := (((V149s.keep K152q nin0).ext E157).keep K164q (ninS (Nat.ne_of_lt lt_x149_b157) nin0))
            have f181 := ((f163.ext E157).keep K164q (ninS (Nat.ne_of_lt lt_t149_b157) nin0))
            obtain ⟨cq182, kq182, q182a, q182b, q182c⟩ := isOf hZ e167 f169
            obtain ⟨_, _, ⟨T182, L182, k182, n182⟩, -, X182, ⟨Lc182, hQ182, l182, y182, z182⟩, st182⟩ := X167.virtualBack hx (y := (⟨"com/example/manyhands/manyhands/crowd/Ordering", "takes", "(Ljava/lang/String;)Z"⟩ : MethodName)) (z := (⟨"com/example/manyhands/manyhands/crowd/Ordering", "takes", "(Ljava/lang/String;)Z"⟩ : MethodName)) hown (mvT hZ (hw _ (List.mem_of_getElem? (i := 79) rfl))) (mvT hZ (hw _ (List.mem_of_getElem? (i := 80) rfl))) (notFace_of_selects (args := #[]) (mvT hZ (hw _ (List.mem_of_getElem? (i := 82) rfl)))) (mvT hZ (hw _ (List.mem_of_getElem? (i := 82) rfl))) (mvT hZ (hw _ (List.mem_of_getElem? (i := 81) rfl))) (by decide) (backOf (W := 0) (rm16c l Z a0 hw [] b157 x149 x147 x148 t147 kb147 (own_cs u1 l0 l1) t148 kb148 (own_cs u2 r0 r1) t149 kb149 (own_cs u3 q0 q1) G1 T164.heap n0 Zs164 f169 Fle164 Fri164 ⟨f170, f171, f172, f173⟩ (own_csb bl0 bl1) (own_csl _ _ _) ⟨f174, f175, f176, f177⟩ (own_csb br0 br1) (own_csl _ _ _) ⟨f178, f179, f180, f181⟩ (own_csb bq0 bq1) (own_csl _ _ _) O2 P5 (own_EX X167 e167 N167 hz0 hh XE) hz0 ((own_sameZ bu3 bu1).mp hc230_166) ((own_sameZ bu3 bu2).mp hc248_168)) hZ (hw _ (List.mem_of_getElem? (i := 83) rfl)) (hw _ (List.mem_of_getElem? (i := 53) rfl)) (by decide) (by decide)) q182a q182c (g := (mkF m 262 #[.val (.int fa), .val (.int fb), .val (.int fc), .val (.int fs), .val (.int u1), .val (.int u2), .val (.int u3), .val (.int md), .val (.int l0), .val (.int l1), .val (.int r0), .val (.int r1), .val (.int (0 : Int32)), .val (.int (0 : Int32)), .val (.int q0), .val (.int q1), .val (.int (0 : Int32)), .val (.ref x147), .val (.ref x148), .val (.ref x149), .val (.ref x152), .val (.ref b157), .val (.int (0 : Int32))] [(.ref x149), (.ref b157)])) rfl (by rw [hml]; rfl) (Steps.refl _) (argsL := [(.ref x149)]) (rest := []) (lenOf own_pd18 rfl) rfl (by show 2 * 0 + _ ≤ _; exact Nat.le_of_eq rfl) (hb hby at_262) (fun _ _ => ⟨rfl, e167, (by decide : 21 + 0 ≤ _), (by decide : 112 + 0 ≤ _)⟩)
            dsimp only [Pt.U, Pt.locs, Pt.cells, Pt.slots] at X182 l182 y182 z182 st182 hQ182
            subst l182 y182 z182
            obtain ⟨rfl, N182q, e182⟩ := hQ182
            have N182 := Fr.app N167 N182q
            refine Go.tr st182 ?_
            show Go p e below _ (T182.setTop (mkF m 265 #[.val (.int fa), .val (.int fb), .val (.int fc), .val (.int fs), .val (.int u1), .val (.int u2), .val (.int u3), .val (.int md), .val (.int l0), .val (.int l1), .val (.int r0), .val (.int r1), .val (.int (0 : Int32)), .val (.int (0 : Int32)), .val (.int q0), .val (.int q1), .val (.int (0 : Int32)), .val (.ref x147), .val (.ref x148), .val (.ref x149), .val (.ref x152), .val (.ref b157), .val (.int (0 : Int32))] [(.int (0 : Int32))]))
            refine Go.st (fun _ kt => XS.iload X182.here hx rfl (hb hby at_265) rfl kt) ?_
            show Go p e below _ (T182.setTop (mkF m 267 #[.val (.int fa), .val (.int fb), .val (.int fc), .val (.int fs), .val (.int u1), .val (.int u2), .val (.int u3), .val (.int md), .val (.int l0), .val (.int l1), .val (.int r0), .val (.int r1), .val (.int (0 : Int32)), .val (.int (0 : Int32)), .val (.int q0), .val (.int q1), .val (.int (0 : Int32)), .val (.ref x147), .val (.ref x148), .val (.ref x149), .val (.ref x152), .val (.ref b157), .val (.int (0 : Int32))] [(.int (0 : Int32)), (.int (0 : Int32))]))
            refine Go.st (fun _ kt => XS.icmpNo X182.here hx rfl (hb hby at_267) rfl (teq (by decide : (0 : Int32) = (0 : Int32))).2 kt) ?_
            show Go p e below _ (T182.setTop (mkF m 270 #[.val (.int fa), .val (.int fb), .val (.int fc), .val (.int fs), .val (.int u1), .val (.int u2), .val (.int u3), .val (.int md), .val (.int l0), .val (.int l1), .val (.int r0), .val (.int r1), .val (.int (0 : Int32)), .val (.int (0 : Int32)), .val (.int q0), .val (.int q1), .val (.int (0 : Int32)), .val (.ref x147), .val (.ref x148), .val (.ref x149), .val (.ref x152), .val (.ref b157), .val (.int (0 : Int32))] []))
            refine Go.st (fun _ kt => XS.iconst X182.here hx rfl (hb hby at_270) kt) ?_
            show Go p e below _ (T182.setTop (mkF m 271 #[.val (.int fa), .val (.int fb), .val (.int fc), .val (.int fs), .val (.int u1), .val (.int u2), .val (.int u3), .val (.int md), .val (.int l0), .val (.int l1), .val (.int r0), .val (.int r1), .val (.int (0 : Int32)), .val (.int (0 : Int32)), .val (.int q0), .val (.int q1), .val (.int (0 : Int32)), .val (.ref x147), .val (.ref x148), .val (.ref x149), .val (.ref x152), .val (.ref b157), .val (.int (0 : Int32))] [(.int (1 : Int32))]))
            refine Go.st (fun _ kt => XS.goto X182.here hx rfl (pc0 := 271) (pc' := 275) rfl (hb hby at_271) (by decide) (by decide) kt) ?_
            show Go p e below _ (T182.setTop (mkF m 275 #[.val (.int fa), .val (.int fb), .val (.int fc), .val (.int fs), .val (.int u1), .val (.int u2), .val (.int u3), .val (.int md), .val (.int l0), .val (.int l1), .val (.int r0), .val (.int r1), .val (.int (0 : Int32)), .val (.int (0 : Int32)), .val (.int q0), .val (.int q1), .val (.int (0 : Int32)), .val (.ref x147), .val (.ref x148), .val (.ref x149), .val (.ref x152), .val (.ref b157), .val (.int (0 : Int32))] [(.int (1 : Int32))]))
            refine Go.retNS X182 hx (t := .boolean) Bd.returns (by simp) (BodyLoose.notSynchronized Bd) hS164 (by rw [e182]; exact (Nat.le_refl _)) (hb hby at_275) (Q := (Q_rm0 Z fa fb fc fs G1 h0 n0)) (by decide) (by decide) ?_
            intro vm2 hW2
            show (Q_rm0 Z fa fb fc fs G1 h0 n0) _ vm2 T182.heap _
            rw [e182]
            exact ⟨rfl, N182⟩
          · refine Go.st (fun _ kt => XS.ifNo X167.here hx rfl (hb hby at_248) rfl ((if0 _ _).trans (feq hc248_168).1) kt) ?_
            show Go p e below _ (T167.setTop (mkF m 251 #[.val (.int fa), .val (.int fb), .val (.int fc), .val (.int fs), .val (.int u1), .val (.int u2), .val (.int u3), .val (.int md), .val (.int l0), .val (.int l1), .val (.int r0), .val (.int r1), .val (.int (0 : Int32)), .val (.int (0 : Int32)), .val (.int q0), .val (.int q1), .val (.int (0 : Int32)), .val (.ref x147), .val (.ref x148), .val (.ref x149), .val (.ref x152), .val (.ref b157), .unset] []))
            refine Go.st (fun _ kt => XS.iconst X167.here hx rfl (hb hby at_251) kt) ?_
            show Go p e below _ (T167.setTop (mkF m 252 #[.val (.int fa), .val (.int fb), .val (.int fc), .val (.int fs), .val (.int u1), .val (.int u2), .val (.int u3), .val (.int md), .val (.int l0), .val (.int l1), .val (.int r0), .val (.int r1), .val (.int (0 : Int32)), .val (.int (0 : Int32)), .val (.int q0), .val (.int q1), .val (.int (0 : Int32)), .val (.ref x147), .val (.ref x148), .val (.ref x149), .val (.ref x152), .val (.ref b157), .unset] [(.int (1 : Int32))]))
            refine Go.st (fun _ kt => XS.goto X167.here hx rfl (pc0 := 252) (pc' := 256) rfl (hb hby at_252) (by decide) (by decide) kt) ?_
            show Go p e below _ (T167.setTop (mkF m 256 #[.val (.int fa), .val (.int fb), .val (.int fc), .val (.int fs), .val (.int u1), .val (.int u2), .val (.int u3), .val (.int md), .val (.int l0), .val (.int l1), .val (.int r0), .val (.int r1), .val (.int (0 : Int32)), .val (.int (0 : Int32)), .val (.int q0), .val (.int q1), .val (.int (0 : Int32)), .val (.ref x147), .val (.ref x148), .val (.ref x149), .val (.ref x152), .val (.ref b157), .unset] [(.int (1 : Int32))]))
            refine Go.st (fun _ kt => XS.istore X167.here hx rfl (hb hby at_256) rfl (l' := #[.val (.int fa), .val (.int fb), .val (.int fc), .val (.int fs), .val (.int u1), .val (.int u2), .val (.int u3), .val (.int md), .val (.int l0), .val (.int l1), .val (.int r0), .val (.int r1), .val (.int (0 : Int32)), .val (.int (0 : Int32)), .val (.int q0), .val (.int q1), .val (.int (0 : Int32)), .val (.ref x147), .val (.ref x148), .val (.ref x149), .val (.ref x152), .val (.ref b157), .val (.int (1 : Int32))]) rfl kt) ?_
            show Go p e below _ (T167.setTop (mkF m 258 #[.val (.int fa), .val (.int fb), .val (.int fc), .val (.int fs), .val (.int u1), .val (.int u2), .val (.int u3), .val (.int md), .val (.int l0), .val (.int l1), .val (.int r0), .val (.int r1), .val (.int (0 : Int32)), .val (.int (0 : Int32)), .val (.int q0), .val (.int q1), .val (.int (0 : Int32)), .val (.ref x147), .val (.ref x148), .val (.ref x149), .val (.ref x152), .val (.ref b157), .val (.int (1 : Int32))] []))
            refine Go.st (fun _ kt => XS.aload X167.here hx rfl (hb hby at_258) rfl rfl kt) ?_
            show Go p e below _ (T167.setTop (mkF m 260 #[.val (.int fa), .val (.int fb), .val (.int fc), .val (.int fs), .val (.int u1), .val (.int u2), .val (.int u3), .val (.int md), .val (.int l0), .val (.int l1), .val (.int r0), .val (.int r1), .val (.int (0 : Int32)), .val (.int (0 : Int32)), .val (.int q0), .val (.int q1), .val (.int (0 : Int32)), .val (.ref x147), .val (.ref x148), .val (.ref x149), .val (.ref x152), .val (.ref b157), .val (.int (1 : Int32))] [(.ref b157)]))
            refine Go.st (fun _ kt => XS.aload X167.here hx rfl (hb hby at_260) rfl rfl kt) ?_
            show Go p e below _ (T167.setTop (mkF m 262 #[.val (.int fa), .val (.int fb), .val (.int fc), .val (.int fs), .val (.int u1), .val (.int u2), .val (.int u3), .val (.int md), .val (.int l0), .val (.int l1), .val (.int r0), .val (.int r1), .val (.int (0 : Int32)), .val (.int (0 : Int32)), .val (.int q0), .val (.int q1), .val (.int (0 : Int32)), .val (.ref x147), .val (.ref x148), .val (.ref x149), .val (.ref x152), .val (.ref b157), .val (.int (1 : Int32))] [(.ref x149), (.ref b157)]))
            have f183 := (A157.keep K164q)
            have f184 := ((f158.ext E157).keep K164q)
            have f185 := (((((C147s.keep K148q nin0).keep K149q nin0).keep K152q nin0).ext E157).keep K164q (ninS (Nat.ne_of_lt lt_x147_b157) nin0))
            have f186 := (((((V147s.keep K148q nin0).keep K149q nin0).keep K152q nin0).ext E157).keep K164q (ninS (Nat.ne_of_lt lt_x147_b157) nin0))
            have f187 := ((f159.ext E157).keep K164q (ninS (Nat.ne_of_lt lt_t147_b157) nin0))
            have f188 := ((f160.ext E157).keep K164q)
            have f189 := ((((C148s.keep K149q nin0).keep K152q nin0).ext E157).keep K164q (ninS (Nat.ne_of_lt lt_x148_b157) nin0))
            have f190 := ((((V148s.keep K149q nin0).keep K152q nin0).ext E157).keep K164q (ninS (Nat.ne_of_lt lt_x148_b157) nin0))
            have f191 := ((f161.ext E157).keep K164q (ninS (Nat.ne_of_lt lt_t148_b157) nin0))
            have f192 := ((f162.ext E157).keep K164q)
            have f193 := (((C149s.keep K152q nin0).ext E157).keep K164q (ninS (Nat.ne_of_lt lt_x149_b157) nin0))
            have f194 := (((V149s.keep K152q nin0).ext E157).keep K164q (ninS (Nat.ne_of_lt lt_x149_b157) nin0))
            have f195 := ((f163.ext E157).keep K164q (ninS (Nat.ne_of_lt lt_t149_b157) nin0))
            obtain ⟨cq196, kq196, q196a, q196b, q196c⟩ := isOf hZ e167 f183
            obtain ⟨_, _, ⟨T196, L196, k196, n196⟩, -, X196, ⟨Lc196, hQ196, l196, y196, z196⟩, st196⟩ := X167.virtualBack hx (y := (⟨"com/example/manyhands/manyhands/crowd/Ordering", "takes", "(Ljava/lang/String;)Z"⟩ : MethodName)) (z := (⟨"com/example/manyhands/manyhands/crowd/Ordering", "takes", "(Ljava/lang/String;)Z"⟩ : MethodName)) hown (mvT hZ (hw _ (List.mem_of_getElem? (i := 79) rfl))) (mvT hZ (hw _ (List.mem_of_getElem? (i := 80) rfl))) (notFace_of_selects (args := #[]) (mvT hZ (hw _ (List.mem_of_getElem? (i := 82) rfl)))) (mvT hZ (hw _ (List.mem_of_getElem? (i := 82) rfl))) (mvT hZ (hw _ (List.mem_of_getElem? (i := 81) rfl))) (by decide) (backOf (W := 0) (rm16b l Z a0 hw [] b157 x149 x147 x148 t147 kb147 (own_cs u1 l0 l1) t148 kb148 (own_cs u2 r0 r1) t149 kb149 (own_cs u3 q0 q1) G1 T164.heap n0 Zs164 f183 Fle164 Fri164 ⟨f184, f185, f186, f187⟩ (own_csb bl0 bl1) (own_csl _ _ _) ⟨f188, f189, f190, f191⟩ (own_csb br0 br1) (own_csl _ _ _) ⟨f192, f193, f194, f195⟩ (own_csb bq0 bq1) (own_csl _ _ _) O2 P5 (own_EX X167 e167 N167 hz0 hh XE) hz0 ((own_sameZ bu3 bu1).mp hc230_166) (Classical.not_not.mp fun q => hc248_168 ((own_sameZ bu3 bu2).mpr q))) hZ (hw _ (List.mem_of_getElem? (i := 83) rfl)) (hw _ (List.mem_of_getElem? (i := 53) rfl)) (by decide) (by decide)) q196a q196c (g := (mkF m 262 #[.val (.int fa), .val (.int fb), .val (.int fc), .val (.int fs), .val (.int u1), .val (.int u2), .val (.int u3), .val (.int md), .val (.int l0), .val (.int l1), .val (.int r0), .val (.int r1), .val (.int (0 : Int32)), .val (.int (0 : Int32)), .val (.int q0), .val (.int q1), .val (.int (0 : Int32)), .val (.ref x147), .val (.ref x148), .val (.ref x149), .val (.ref x152), .val (.ref b157), .val (.int (1 : Int32))] [(.ref x149), (.ref b157)])) rfl (by rw [hml]; rfl) (Steps.refl _) (argsL := [(.ref x149)]) (rest := []) (lenOf own_pd18 rfl) rfl (by show 2 * 0 + _ ≤ _; exact Nat.le_of_eq rfl) (hb hby at_262) (fun _ _ => ⟨rfl, e167, (by decide : 21 + 0 ≤ _), (by decide : 112 + 0 ≤ _)⟩)
            dsimp only [Pt.U, Pt.locs, Pt.cells, Pt.slots] at X196 l196 y196 z196 st196 hQ196
            subst l196 y196 z196
            obtain ⟨rfl, N196q, e196⟩ := hQ196
            have N196 := Fr.app N167 N196q
            refine Go.tr st196 ?_
            show Go p e below _ (T196.setTop (mkF m 265 #[.val (.int fa), .val (.int fb), .val (.int fc), .val (.int fs), .val (.int u1), .val (.int u2), .val (.int u3), .val (.int md), .val (.int l0), .val (.int l1), .val (.int r0), .val (.int r1), .val (.int (0 : Int32)), .val (.int (0 : Int32)), .val (.int q0), .val (.int q1), .val (.int (0 : Int32)), .val (.ref x147), .val (.ref x148), .val (.ref x149), .val (.ref x152), .val (.ref b157), .val (.int (1 : Int32))] [(.int (1 : Int32))]))
            refine Go.st (fun _ kt => XS.iload X196.here hx rfl (hb hby at_265) rfl kt) ?_
            show Go p e below _ (T196.setTop (mkF m 267 #[.val (.int fa), .val (.int fb), .val (.int fc), .val (.int fs), .val (.int u1), .val (.int u2), .val (.int u3), .val (.int md), .val (.int l0), .val (.int l1), .val (.int r0), .val (.int r1), .val (.int (0 : Int32)), .val (.int (0 : Int32)), .val (.int q0), .val (.int q1), .val (.int (0 : Int32)), .val (.ref x147), .val (.ref x148), .val (.ref x149), .val (.ref x152), .val (.ref b157), .val (.int (1 : Int32))] [(.int (1 : Int32)), (.int (1 : Int32))]))
            refine Go.st (fun _ kt => XS.icmpNo X196.here hx rfl (hb hby at_267) rfl (teq (by decide : (1 : Int32) = (1 : Int32))).2 kt) ?_
            show Go p e below _ (T196.setTop (mkF m 270 #[.val (.int fa), .val (.int fb), .val (.int fc), .val (.int fs), .val (.int u1), .val (.int u2), .val (.int u3), .val (.int md), .val (.int l0), .val (.int l1), .val (.int r0), .val (.int r1), .val (.int (0 : Int32)), .val (.int (0 : Int32)), .val (.int q0), .val (.int q1), .val (.int (0 : Int32)), .val (.ref x147), .val (.ref x148), .val (.ref x149), .val (.ref x152), .val (.ref b157), .val (.int (1 : Int32))] []))
            refine Go.st (fun _ kt => XS.iconst X196.here hx rfl (hb hby at_270) kt) ?_
            show Go p e below _ (T196.setTop (mkF m 271 #[.val (.int fa), .val (.int fb), .val (.int fc), .val (.int fs), .val (.int u1), .val (.int u2), .val (.int u3), .val (.int md), .val (.int l0), .val (.int l1), .val (.int r0), .val (.int r1), .val (.int (0 : Int32)), .val (.int (0 : Int32)), .val (.int q0), .val (.int q1), .val (.int (0 : Int32)), .val (.ref x147), .val (.ref x148), .val (.ref x149), .val (.ref x152), .val (.ref b157), .val (.int (1 : Int32))] [(.int (1 : Int32))]))
            refine Go.st (fun _ kt => XS.goto X196.here hx rfl (pc0 := 271) (pc' := 275) rfl (hb hby at_271) (by decide) (by decide) kt) ?_
            show Go p e below _ (T196.setTop (mkF m 275 #[.val (.int fa), .val (.int fb), .val (.int fc), .val (.int fs), .val (.int u1), .val (.int u2), .val (.int u3), .val (.int md), .val (.int l0), .val (.int l1), .val (.int r0), .val (.int r1), .val (.int (0 : Int32)), .val (.int (0 : Int32)), .val (.int q0), .val (.int q1), .val (.int (0 : Int32)), .val (.ref x147), .val (.ref x148), .val (.ref x149), .val (.ref x152), .val (.ref b157), .val (.int (1 : Int32))] [(.int (1 : Int32))]))
            refine Go.retNS X196 hx (t := .boolean) Bd.returns (by simp) (BodyLoose.notSynchronized Bd) hS164 (by rw [e196]; exact (Nat.le_refl _)) (hb hby at_275) (Q := (Q_rm0 Z fa fb fc fs G1 h0 n0)) (by decide) (by decide) ?_
            intro vm2 hW2
            show (Q_rm0 Z fa fb fc fs G1 h0 n0) _ vm2 T196.heap _
            rw [e196]
            exact ⟨rfl, N196⟩
        · refine Go.st (fun _ kt => XS.ifYes X165.here hx rfl (pc0 := 230) (pc' := 251) rfl (hb hby at_230) rfl ((if0 _ _).trans (feq hc230_166).2) (by decide) (by decide) kt) ?_
          show Go p e below _ (T165.setTop (mkF m 251 #[.val (.int fa), .val (.int fb), .val (.int fc), .val (.int fs), .val (.int u1), .val (.int u2), .val (.int u3), .val (.int md), .val (.int l0), .val (.int l1), .val (.int r0), .val (.int r1), .val (.int (0 : Int32)), .val (.int (0 : Int32)), .val (.int q0), .val (.int q1), .val (.int (0 : Int32)), .val (.ref x147), .val (.ref x148), .val (.ref x149), .val (.ref x152), .val (.ref b157), .unset] []))
          refine Go.st (fun _ kt => XS.iconst X165.here hx rfl (hb hby at_251) kt) ?_
          show Go p e below _ (T165.setTop (mkF m 252 #[.val (.int fa), .val (.int fb), .val (.int fc), .val (.int fs), .val (.int u1), .val (.int u2), .val (.int u3), .val (.int md), .val (.int l0), .val (.int l1), .val (.int r0), .val (.int r1), .val (.int (0 : Int32)), .val (.int (0 : Int32)), .val (.int q0), .val (.int q1), .val (.int (0 : Int32)), .val (.ref x147), .val (.ref x148), .val (.ref x149), .val (.ref x152), .val (.ref b157), .unset] [(.int (1 : Int32))]))
          refine Go.st (fun _ kt => XS.goto X165.here hx rfl (pc0 := 252) (pc' := 256) rfl (hb hby at_252) (by decide) (by decide) kt) ?_
          show Go p e below _ (T165.setTop (mkF m 256 #[.val (.int fa), .val (.int fb), .val (.int fc), .val (.int fs), .val (.int u1), .val (.int u2), .val (.int u3), .val (.int md), .val (.int l0), .val (.int l1), .val (.int r0), .val (.int r1), .val (.int (0 : Int32)), .val (.int (0 : Int32)), .val (.int q0), .val (.int q1), .val (.int (0 : Int32)), .val (.ref x147), .val (.ref x148), .val (.ref x149), .val (.ref x152), .val (.ref b157), .unset] [(.int (1 : Int32))]))
          refine Go.st (fun _ kt => XS.istore X165.here hx rfl (hb hby at_256) rfl (l' := #[.val (.int fa), .val (.int fb), .val (.int fc), .val (.int fs), .val (.int u1), .val (.int u2), .val (.int u3), .val (.int md), .val (.int l0), .val (.int l1), .val (.int r0), .val (.int r1), .val (.int (0 : Int32)), .val (.int (0 : Int32)), .val (.int q0), .val (.int q1), .val (.int (0 : Int32)), .val (.ref x147), .val (.ref x148), .val (.ref x149), .val (.ref x152), .val (.ref b157), .val (.int (1 : Int32))]) rfl kt) ?_
          show Go p e below _ (T165.setTop (mkF m 258 #[.val (.int fa), .val (.int fb), .val (.int fc), .val (.int fs), .val (.int u1), .val (.int u2), .val (.int u3), .val (.int md), .val (.int l0), .val (.int l1), .val (.int r0), .val (.int r1), .val (.int (0 : Int32)), .val (.int (0 : Int32)), .val (.int q0), .val (.int q1), .val (.int (0 : Int32)), .val (.ref x147), .val (.ref x148), .val (.ref x149), .val (.ref x152), .val (.ref b157), .val (.int (1 : Int32))] []))
          refine Go.st (fun _ kt => XS.aload X165.here hx rfl (hb hby at_258) rfl rfl kt) ?_
          show Go p e below _ (T165.setTop (mkF m 260 #[.val (.int fa), .val (.int fb), .val (.int fc), .val (.int fs), .val (.int u1), .val (.int u2), .val (.int u3), .val (.int md), .val (.int l0), .val (.int l1), .val (.int r0), .val (.int r1), .val (.int (0 : Int32)), .val (.int (0 : Int32)), .val (.int q0), .val (.int q1), .val (.int (0 : Int32)), .val (.ref x147), .val (.ref x148), .val (.ref x149), .val (.ref x152), .val (.ref b157), .val (.int (1 : Int32))] [(.ref b157)]))
          refine Go.st (fun _ kt => XS.aload X165.here hx rfl (hb hby at_260) rfl rfl kt) ?_
          show Go p e below _ (T165.setTop (mkF m 262 #[.val (.int fa), .val (.int fb), .val (.int fc), .val (.int fs), .val (.int u1), .val (.int u2), .val (.int u3), .val (.int md), .val (.int l0), .val (.int l1), .val (.int r0), .val (.int r1), .val (.int (0 : Int32)), .val (.int (0 : Int32)), .val (.int q0), .val (.int q1), .val (.int (0 : Int32)), .val (.ref x147), .val (.ref x148), .val (.ref x149), .val (.ref x152), .val (.ref b157), .val (.int (1 : Int32))] [(.ref x149), (.ref b157)]))
          have f197 := (A157.keep K164q)
          have f198 := ((f158.ext E157).keep K164q)
          have f199 := (((((C147s.keep K148q nin0).keep K149q nin0).keep K152q nin0).ext E157).keep K164q (ninS (Nat.ne_of_lt lt_x147_b157) nin0))
          have f200 := (((((V147s.keep K148q nin0).keep K149q nin0).keep K152q nin0).ext E157).keep K164q (ninS (Nat.ne_of_lt lt_x147_b157) nin0))
          have f201 := ((f159.ext E157).keep K164q (ninS (Nat.ne_of_lt lt_t147_b157) nin0))
          have f202 := ((f160.ext E157).keep K164q)
          have f203 := ((((C148s.keep K149q nin0).keep K152q nin0).ext E157).keep K164q (ninS (Nat.ne_of_lt lt_x148_b157) nin0))
          have f204 := ((((V148s.keep K149q nin0).keep K152q nin0).ext E157).keep K164q (ninS (Nat.ne_of_lt lt_x148_b157) nin0))
          have f205 := ((f161.ext E157).keep K164q (ninS (Nat.ne_of_lt lt_t148_b157) nin0))
          have f206 := ((f162.ext E157).keep K164q)
          have f207 := (((C149s.keep K152q nin0).ext E157).keep K164q (ninS (Nat.ne_of_lt lt_x149_b157) nin0))
          have f208 := (((V149s.keep K152q nin0).ext E157).keep K164q (ninS (Nat.ne_of_lt lt_x149_b157) nin0))
          have f209 := ((f163.ext E157).keep K164q (ninS (Nat.ne_of_lt lt_t149_b157) nin0))
          obtain ⟨cq210, kq210, q210a, q210b, q210c⟩ := isOf hZ e165 f197
          obtain ⟨_, _, ⟨T210, L210, k210, n210⟩, -, X210, ⟨Lc210, hQ210, l210, y210, z210⟩, st210⟩ := X165.virtualBack hx (y := (⟨"com/example/manyhands/manyhands/crowd/Ordering", "takes", "(Ljava/lang/String;)Z"⟩ : MethodName)) (z := (⟨"com/example/manyhands/manyhands/crowd/Ordering", "takes", "(Ljava/lang/String;)Z"⟩ : MethodName)) hown (mvT hZ (hw _ (List.mem_of_getElem? (i := 79) rfl))) (mvT hZ (hw _ (List.mem_of_getElem? (i := 80) rfl))) (notFace_of_selects (args := #[]) (mvT hZ (hw _ (List.mem_of_getElem? (i := 82) rfl)))) (mvT hZ (hw _ (List.mem_of_getElem? (i := 82) rfl))) (mvT hZ (hw _ (List.mem_of_getElem? (i := 81) rfl))) (by decide) (backOf (W := 0) (rm16a l Z a0 hw [] b157 x149 x147 x148 t147 kb147 (own_cs u1 l0 l1) t148 kb148 (own_cs u2 r0 r1) t149 kb149 (own_cs u3 q0 q1) G1 T164.heap n0 Zs164 f197 Fle164 Fri164 ⟨f198, f199, f200, f201⟩ (own_csb bl0 bl1) (own_csl _ _ _) ⟨f202, f203, f204, f205⟩ (own_csb br0 br1) (own_csl _ _ _) ⟨f206, f207, f208, f209⟩ (own_csb bq0 bq1) (own_csl _ _ _) O2 P5 (own_EX X165 e165 N165 hz0 hh XE) hz0 (Classical.not_not.mp fun q => hc230_166 ((own_sameZ bu3 bu1).mpr q))) hZ (hw _ (List.mem_of_getElem? (i := 83) rfl)) (hw _ (List.mem_of_getElem? (i := 53) rfl)) (by decide) (by decide)) q210a q210c (g := (mkF m 262 #[.val (.int fa), .val (.int fb), .val (.int fc), .val (.int fs), .val (.int u1), .val (.int u2), .val (.int u3), .val (.int md), .val (.int l0), .val (.int l1), .val (.int r0), .val (.int r1), .val (.int (0 : Int32)), .val (.int (0 : Int32)), .val (.int q0), .val (.int q1), .val (.int (0 : Int32)), .val (.ref x147), .val (.ref x148), .val (.ref x149), .val (.ref x152), .val (.ref b157), .val (.int (1 : Int32))] [(.ref x149), (.ref b157)])) rfl (by rw [hml]; rfl) (Steps.refl _) (argsL := [(.ref x149)]) (rest := []) (lenOf own_pd18 rfl) rfl (by show 2 * 0 + _ ≤ _; exact Nat.le_of_eq rfl) (hb hby at_262) (fun _ _ => ⟨rfl, e165, (by decide : 21 + 0 ≤ _), (by decide : 112 + 0 ≤ _)⟩)
          dsimp only [Pt.U, Pt.locs, Pt.cells, Pt.slots] at X210 l210 y210 z210 st210 hQ210
          subst l210 y210 z210
          obtain ⟨rfl, N210q, e210⟩ := hQ210
          have N210 := Fr.app N165 N210q
          refine Go.tr st210 ?_
          show Go p e below _ (T210.setTop (mkF m 265 #[.val (.int fa), .val (.int fb), .val (.int fc), .val (.int fs), .val (.int u1), .val (.int u2), .val (.int u3), .val (.int md), .val (.int l0), .val (.int l1), .val (.int r0), .val (.int r1), .val (.int (0 : Int32)), .val (.int (0 : Int32)), .val (.int q0), .val (.int q1), .val (.int (0 : Int32)), .val (.ref x147), .val (.ref x148), .val (.ref x149), .val (.ref x152), .val (.ref b157), .val (.int (1 : Int32))] [(.int (1 : Int32))]))
          refine Go.st (fun _ kt => XS.iload X210.here hx rfl (hb hby at_265) rfl kt) ?_
          show Go p e below _ (T210.setTop (mkF m 267 #[.val (.int fa), .val (.int fb), .val (.int fc), .val (.int fs), .val (.int u1), .val (.int u2), .val (.int u3), .val (.int md), .val (.int l0), .val (.int l1), .val (.int r0), .val (.int r1), .val (.int (0 : Int32)), .val (.int (0 : Int32)), .val (.int q0), .val (.int q1), .val (.int (0 : Int32)), .val (.ref x147), .val (.ref x148), .val (.ref x149), .val (.ref x152), .val (.ref b157), .val (.int (1 : Int32))] [(.int (1 : Int32)), (.int (1 : Int32))]))
          refine Go.st (fun _ kt => XS.icmpNo X210.here hx rfl (hb hby at_267) rfl (teq (by decide : (1 : Int32) = (1 : Int32))).2 kt) ?_
          show Go p e below _ (T210.setTop (mkF m 270 #[.val (.int fa), .val (.int fb), .val (.int fc), .val (.int fs), .val (.int u1), .val (.int u2), .val (.int u3), .val (.int md), .val (.int l0), .val (.int l1), .val (.int r0), .val (.int r1), .val (.int (0 : Int32)), .val (.int (0 : Int32)), .val (.int q0), .val (.int q1), .val (.int (0 : Int32)), .val (.ref x147), .val (.ref x148), .val (.ref x149), .val (.ref x152), .val (.ref b157), .val (.int (1 : Int32))] []))
          refine Go.st (fun _ kt => XS.iconst X210.here hx rfl (hb hby at_270) kt) ?_
          show Go p e below _ (T210.setTop (mkF m 271 #[.val (.int fa), .val (.int fb), .val (.int fc), .val (.int fs), .val (.int u1), .val (.int u2), .val (.int u3), .val (.int md), .val (.int l0), .val (.int l1), .val (.int r0), .val (.int r1), .val (.int (0 : Int32)), .val (.int (0 : Int32)), .val (.int q0), .val (.int q1), .val (.int (0 : Int32)), .val (.ref x147), .val (.ref x148), .val (.ref x149), .val (.ref x152), .val (.ref b157), .val (.int (1 : Int32))] [(.int (1 : Int32))]))
          refine Go.st (fun _ kt => XS.goto X210.here hx rfl (pc0 := 271) (pc' := 275) rfl (hb hby at_271) (by decide) (by decide) kt) ?_
          show Go p e below _ (T210.setTop (mkF m 275 #[.val (.int fa), .val (.int fb), .val (.int fc), .val (.int fs), .val (.int u1), .val (.int u2), .val (.int u3), .val (.int md), .val (.int l0), .val (.int l1), .val (.int r0), .val (.int r1), .val (.int (0 : Int32)), .val (.int (0 : Int32)), .val (.int q0), .val (.int q1), .val (.int (0 : Int32)), .val (.ref x147), .val (.ref x148), .val (.ref x149), .val (.ref x152), .val (.ref b157), .val (.int (1 : Int32))] [(.int (1 : Int32))]))
          refine Go.retNS X210 hx (t := .boolean) Bd.returns (by simp) (BodyLoose.notSynchronized Bd) hS164 (by rw [e210]; exact (Nat.le_refl _)) (hb hby at_275) (Q := (Q_rm0 Z fa fb fc fs G1 h0 n0)) (by decide) (by decide) ?_
          intro vm2 hW2
          show (Q_rm0 Z fa fb fc fs G1 h0 n0) _ vm2 T210.heap _
          rw [e210]
          exact ⟨rfl, N210⟩
set_option maxRecDepth 65536 in
set_option maxHeartbeats 40000000 in
theorem comes_1 {Post : Tables → Env → Array Value → State → Outcome → State → Prop} (hpost : ∀ tb e args s v u, (limb_1_1.after args s (.returned v) u = true ∧ limb_1_2.after args s (.returned v) u = true ∧ True) → ReturnedEndW s (.returned v) u (Jvm.fieldLocs frame_1_writes args s ++ Jvm.arrayLocs frame_1_arrays args s ++ Jvm.staticLocs frame_1_statics s) 40 4288 → Post tb e args s (.returned v) u) :
    ArmFor flags0 classFile x code maxLocals ret World_1 tables_1 room_1 Calls_1 rest_1 Pre_1 Post := by
  intro l hfl _ _ p e ha hc hk s m args below hf hA hF happ hP
  obtain ⟨hcalls, hrest, hpre⟩ := hP
  obtain ⟨-, -, -, hnamed, -, -, -, hat⟩ := (Spec.applies_iff hf).mp happ
  obtain ⟨hg, hn⟩ := and_e (Cond.before_iff.mp (show (Jvm.Cond.and given_1 narrow_1).before args s = true from hpre))
  obtain ⟨g1, g2⟩ := and_e hg
  obtain ⟨g3, g4⟩ := and_e g2
  obtain ⟨g5, g6⟩ := and_e g4
  obtain ⟨g7, g8⟩ := and_e g6
  obtain ⟨w0, w1, w2, w3, rfl⟩ : ∃ w0 w1 w2 w3 : Value, args = #[w0, w1, w2, w3] := by
    have hs : args.size = 4 := by simpa [Cond.value, given_1] using g1
    obtain ⟨L⟩ := args
    match L, hs with
    | [w0, w1, w2, w3], _ => exact ⟨w0, w1, w2, w3, rfl⟩
  have hw := fun d (hd : d ∈ tables_1) => atoms_spec (ws := Jvm.Cond.code x code maxLocals ret :: tables_1) hat d (List.mem_cons_of_mem _ hd)
  have hfit : Fit s := fun {y c} hc i hi => by
    obtain ⟨ha, rfl⟩ := Array.getElem?_eq_some_iff.mp hc
    have q := List.all_eq_true.mp ((Array.all_eq_true_iff_forall_mem.mp hF) _ (Array.getElem_mem ha)) i (List.mem_range.mpr hi)
    simpa [Array.getElem?_eq_getElem hi] using q
  obtain ⟨hsets, hown0⟩ := atoms_of _ (rest_1_c_eq ▸ (show rest_1_c.before _ s = true from hrest))
  have hr0 := Cond.before_iff.mp hown0
  obtain ⟨i0, ei0⟩ := is_v g3
  obtain rfl : w0 = (.int i0) := Option.some.inj ei0
  obtain ⟨i1, ei1⟩ := is_v g5
  obtain rfl : w1 = (.int i1) := Option.some.inj ei1
  obtain ⟨i2, ei2⟩ := is_v g7
  obtain rfl : w2 = (.int i2) := Option.some.inj ei2
  obtain ⟨i3, ei3⟩ := is_v g8
  obtain rfl : w3 = (.int i3) := Option.some.inj ei3
  have n3 := not_v (Cond.before_iff.mp (hsets _ (List.mem_of_getElem? (i := 2) rfl)))
  obtain ⟨G1, e6⟩ := is_v (Cond.before_iff.mp (hsets _ (List.mem_of_getElem? (i := 1) rfl)))
  have O2 : Sta s s.heap "java/lang/String" "COMPACT_STRINGS" "Z" (.int G1) := Sta.start e6 (Or.inl (hsets _ (List.mem_of_getElem? (i := 0) rfl)))
  have P5 : ¬ (G1 = (0 : Int32)) := gotF (Cond.eq_ints e6 (Term.int_eval (0))) n3
  have hCH : Jvm.Lit.constHeld s "java/lang/String" 7 := hcalls.1 ("java/lang/String", 7) (by simp [consts_1])
  obtain ⟨n, o, h1, h2, h3, _, L, rfl, ⟨rfl, N⟩, hq⟩ := rm0 l s _ hw tables_1 i0 i1 i2 i3 G1 s.heap s.heap.size (Nat.le_refl _) O2 P5 ⟨Nat.le_refl _, fun _ _ q => q⟩ (Nat.le_refl _) hCH (hsets _ (List.mem_of_getElem? (i := 2) rfl)) p e ha hc hk s m _ below hf ((Spec.applies_iff_loose hf).mp happ).1 ⟨rfl, State.Warmed39.refl s, rfl, Or.inl IB.start⟩ trivial
  refine ⟨n, _, h1, h2, h3, hpost _ _ _ _ _ _ ⟨Cond.after_iff.mpr rfl, Cond.after_iff.mpr (eq_i res_at (Term.int_eval (1)) rfl), trivial⟩ ⟨hq.1, hq.2.1, hq.2.2.1, (hq.2.2.2.sift fun y hy => Or.inr (N y hy)).mono (by decide) (by decide)⟩⟩
theorem main_1_1 : Claimed_1_1 := comes_1 fun _ _ _ _ _ _ h hF => ⟨h.1, hF⟩
theorem main_1_2 : Claimed_1_2 := comes_1 fun _ _ _ _ _ _ h hF => ⟨h.2.1, hF⟩
end Jvm.Pilot.@@N@@
namespace Jvm.Pilot.@@N@@
open Jvm Jvm.ClassFile Sem Op Lib Jvm.Free Jvm.Stand Jvm.Pilot.@@N@@.Jvm.D
/-! MADE BY PROGRAM (witnessworld.py) out of the Statement's table words and the real class files: 22 classes; the members and pool entries that the words name. The judged class is class 1, her method 3. -/
namespace start1
open Jvm.ClassFile
def u (s : String) : CpInfo := .utf8 (stringToUtf16 s)
/-- a pool by its gaps: so many unusable entries, then the entry; so many at the end -/
def gap : Nat → List CpInfo → List CpInfo
  | 0, r => r
  | n + 1, r => .unusable :: gap n r
def poolList (es : List (Nat × CpInfo)) (last : Nat) : List CpInfo := es.foldr (fun e r => gap e.1 (e.2 :: r)) (gap last [])
def pool (es : List (Nat × CpInfo)) (last : Nat) : Array CpInfo := ⟨poolList es last⟩
def fileOf (pool : Array CpInfo) (this : Nat) (attrs : Array Attribute := #[]) (ms : Array MethodInfo := #[]) (fl : Nat := 33) (sup : Nat := 0) (ifs : Array Nat := #[]) (fds : Array FieldInfo := #[]) : ClassFile where
  minorVersion := 0
  majorVersion := 65
  constantPool := pool
  accessFlags := fl
  thisClass := this
  superClass := sup
  interfaces := ifs
  fields := fds
  methods := ms
  attributes := attrs
def plain (name : String) (sup : Option ClassId) : Class where
  name := name
  kind := .ordinary
  loader := none
  accessFlags := 33
  super := sup
  interfaces := #[]
  cf := none
  fields := #[]
  methods := #[]
  instanceTypes := #[]
  staticTypes := #[]
  resolved := #[]
  callSites := []
  init := .initialized
  statics := none
  mirror := none

def pool0 : Array CpInfo := pool [(5, u "<init>"), (0, u "()V"), (1, .class_ 10), (1, u "java/lang/Object")] 113

def k0c0 : Code := { maxStack := 0, maxLocals := 1, code := object_method_1_code, exceptionTable := #[], attributes := #[] }
def k0m0 : Method := { name := "<init>", desc := "()V", sig := { parameters := [], returnType := none }, accessFlags := 1, code := some k0c0 }
/-- java/lang/Object -/
def k0 : Class := { plain "java/lang/Object" none with
  accessFlags := 33
  interfaces := #[]
  cf := some (fileOf pool0 8 #[] #[{ accessFlags := 1, nameIndex := 5, descriptorIndex := 6, attributes := #[] }] 33 0 #[] #[])
  fields := #[]
  methods := #[k0m0]
  instanceTypes := #[]
  staticTypes := #[]
  resolved := Array.replicate 124 none
  statics := none }

def pool1 : Array CpInfo := pool [(2, .class_ 4), (1, u "java/lang/Object"), (0, u "<init>"), (0, u "()V"), (0, .class_ 8), (0, u "java/lang/String"), (0, .methodref 7 10), (0, .nameAndType 5 11), (0, u "([C)V"), (0, .methodref 13 14), (0, .class_ 15), (0, .nameAndType 16 17), (0, u "com/example/manyhands/manyhands/crowd/OrderingTakesPinLaw"), (0, u "mk"), (0, u "(III)Ljava/lang/String;"), (0, .methodref 7 19), (0, .nameAndType 20 21), (0, u "valueOf"), (0, u "(C)Ljava/lang/String;"), (0, .class_ 23), (0, u "com/example/manyhands/manyhands/crowd/Ordering"), (0, .methodref 22 25), (0, .nameAndType 5 26), (0, u "(Ljava/lang/String;Ljava/lang/String;Ljava/lang/String;)V"), (0, .methodref 13 28), (0, .nameAndType 29 30), (0, u "same"), (0, u "(IIIIII)Z"), (0, .methodref 22 32), (0, .nameAndType 33 34), (0, u "takes"), (0, u "(Ljava/lang/String;)Z"), (3, u "law"), (0, u "(IIII)Z")] 2

def k1m0 : Method := { name := "<init>", desc := "()V", sig := { parameters := [], returnType := none }, accessFlags := 1, code := none }
def k1c1 : Code := { maxStack := 6, maxLocals := 3, code := method_2_code, exceptionTable := #[], attributes := #[] }
def k1m1 : Method := { name := "mk", desc := "(III)Ljava/lang/String;", sig := { parameters := [.int, .int, .int], returnType := some (.object "java/lang/String") }, accessFlags := 10, code := some k1c1 }
def k1c2 : Code := { maxStack := 2, maxLocals := 6, code := method_3_code, exceptionTable := #[], attributes := #[] }
def k1m2 : Method := { name := "same", desc := "(IIIIII)Z", sig := { parameters := [.int, .int, .int, .int, .int, .int], returnType := some .boolean }, accessFlags := 10, code := some k1c2 }
def k1c3 : Code := { maxStack := 6, maxLocals := 23, code := code, exceptionTable := #[], attributes := #[] }
def k1m3 : Method := { name := "law", desc := "(IIII)Z", sig := { parameters := [.int, .int, .int, .int], returnType := some .boolean }, accessFlags := 9, code := some k1c3 }
/-- com/example/manyhands/manyhands/crowd/OrderingTakesPinLaw -/
def k1 : Class := { plain "com/example/manyhands/manyhands/crowd/OrderingTakesPinLaw" (some 0) with
  accessFlags := 49
  interfaces := #[]
  cf := some (fileOf pool1 13 #[] #[{ accessFlags := 1, nameIndex := 5, descriptorIndex := 6, attributes := #[] }, { accessFlags := 10, nameIndex := 16, descriptorIndex := 17, attributes := #[] }, { accessFlags := 10, nameIndex := 29, descriptorIndex := 30, attributes := #[] }, { accessFlags := 9, nameIndex := 38, descriptorIndex := 39, attributes := #[] }] 49 2 #[] #[])
  fields := #[]
  methods := #[k1m0, k1m1, k1m2, k1m3]
  instanceTypes := #[]
  staticTypes := #[]
  resolved := Array.replicate 42 none
  statics := none }

def pool2 : Array CpInfo := pool [(1, .class_ 2), (0, u "java/io/Serializable"), (0, .class_ 4), (0, u "java/lang/Object")] 2

/-- java/io/Serializable -/
def k2 : Class := { plain "java/io/Serializable" (some 0) with
  accessFlags := 1537
  interfaces := #[]
  cf := some (fileOf pool2 1 #[] #[] 1537 3 #[] #[])
  fields := #[]
  methods := #[]
  instanceTypes := #[]
  staticTypes := #[]
  resolved := Array.replicate 7 none
  statics := none }

def pool3 : Array CpInfo := pool [(1, .class_ 2), (0, u "java/lang/Comparable"), (0, .class_ 4), (0, u "java/lang/Object")] 7

/-- java/lang/Comparable -/
def k3 : Class := { plain "java/lang/Comparable" (some 0) with
  accessFlags := 1537
  interfaces := #[]
  cf := some (fileOf pool3 1 #[] #[] 1537 3 #[] #[])
  fields := #[]
  methods := #[]
  instanceTypes := #[]
  staticTypes := #[]
  resolved := Array.replicate 12 none
  statics := none }

def pool4 : Array CpInfo := pool [(2, .class_ 4), (1, u "java/lang/CharSequence"), (42, .class_ 48), (0, u "java/lang/CharSequence$1CodePointIterator"), (10, .class_ 60), (0, u "java/lang/CharSequence$1CharIterator"), (5, .class_ 67), (0, u "java/lang/Object")] 63

/-- java/lang/CharSequence -/
def k4 : Class := { plain "java/lang/CharSequence" (some 0) with
  accessFlags := 1537
  interfaces := #[]
  cf := some (fileOf pool4 2 #[.nestMembers #[47, 59]] #[] 1537 66 #[] #[])
  fields := #[]
  methods := #[]
  instanceTypes := #[]
  staticTypes := #[]
  resolved := Array.replicate 131 none
  statics := none }

def pool5 : Array CpInfo := pool [(1, .class_ 2), (0, u "java/lang/constant/Constable"), (0, .class_ 4), (0, u "java/lang/Object")] 6

/-- java/lang/constant/Constable -/
def k5 : Class := { plain "java/lang/constant/Constable" (some 0) with
  accessFlags := 1537
  interfaces := #[]
  cf := some (fileOf pool5 1 #[] #[] 1537 3 #[] #[])
  fields := #[]
  methods := #[]
  instanceTypes := #[]
  staticTypes := #[]
  resolved := Array.replicate 11 none
  statics := none }

def pool6 : Array CpInfo := pool [(1, .class_ 2), (0, u "java/lang/constant/ConstantDesc"), (0, .class_ 4), (0, u "java/lang/Object")] 32

/-- java/lang/constant/ConstantDesc -/
def k6 : Class := { plain "java/lang/constant/ConstantDesc" (some 0) with
  accessFlags := 1537
  interfaces := #[]
  cf := some (fileOf pool6 1 #[] #[] 1537 3 #[] #[])
  fields := #[]
  methods := #[]
  instanceTypes := #[]
  staticTypes := #[]
  resolved := Array.replicate 37 none
  statics := none }

def pool7 : Array CpInfo := pool [(1, .methodref 2 3), (0, .class_ 4), (0, .nameAndType 5 6), (0, u "java/lang/Object"), (0, u "<init>"), (0, u "()V"), (0, .string 8), (0, u ""), (0, .fieldref 10 11), (0, .class_ 12), (0, .nameAndType 13 14), (0, u "java/lang/String"), (0, u "value"), (0, u "[B"), (0, .fieldref 10 16), (0, .nameAndType 17 18), (0, u "coder"), (0, u "B"), (2, u "hash"), (0, u "I"), (2, u "hashIsZero"), (0, u "Z"), (0, .methodref 10 28), (0, .nameAndType 5 29), (0, u "([CIILjava/lang/Void;)V"), (8, .fieldref 10 39), (0, .nameAndType 40 26), (0, u "COMPACT_STRINGS"), (1, .class_ 44), (1, u "java/lang/StringUTF16"), (0, u "compress"), (1, .methodref 42 48), (0, .nameAndType 49 50), (0, u "coderFromArrayLen"), (0, u "([BI)B"), (2, u "toBytes"), (53, .class_ 109), (1, u "java/lang/StringLatin1"), (67, .methodref 42 178), (0, .nameAndType 45 179), (0, u "([CII)[B"), (29, .methodref 10 210), (0, .nameAndType 5 211), (0, u "([BB)V"), (157, u "(C)Z"), (171, .methodref 107 542), (0, .nameAndType 543 544), (0, u "equals"), (0, u "([B[B)Z"), (28, u "(Ljava/lang/Object;)Z"), (1, .class_ 576), (0, u "java/lang/CharSequence"), (22, u "CASE_INSENSITIVE_ORDER"), (0, u "Ljava/util/Comparator;"), (181, u "valueOf"), (0, u "(C)Ljava/lang/String;"), (226, u "([C)V"), (4, .methodref 107 1016), (0, .nameAndType 1017 369), (0, u "canEncode"), (0, .methodref 107 1019), (0, .nameAndType 53 1020), (0, u "(C)[B"), (80, u "serialPersistentFields"), (0, u "[Ljava/io/ObjectStreamField;"), (0, .class_ 1104), (0, u "java/lang/String$CaseInsensitiveComparator"), (1, .class_ 1107), (0, u "java/io/Serializable"), (0, .class_ 1109), (0, u "java/lang/Comparable"), (0, .class_ 1111), (0, u "java/lang/constant/Constable"), (0, .class_ 1113), (0, u "java/lang/constant/ConstantDesc"), (2, u "serialVersionUID"), (0, u "J"), (3, u "REPL"), (0, u "C"), (2, u "LATIN1"), (1, u "UTF16")] 323

def k7m0 : Method := { name := "<init>", desc := "()V", sig := { parameters := [], returnType := none }, accessFlags := 1, code := none }
def k7c1 : Code := { maxStack := 5, maxLocals := 2, code := jdk_42_method_3_code, exceptionTable := #[], attributes := #[] }
def k7m1 : Method := { name := "<init>", desc := "([C)V", sig := { parameters := [(.array .char)], returnType := none }, accessFlags := 1, code := some k7c1 }
def k7c2 : Code := { maxStack := 2, maxLocals := 3, code := jdk_42_method_66_code, exceptionTable := #[], attributes := #[] }
def k7m2 : Method := { name := "equals", desc := "(Ljava/lang/Object;)Z", sig := { parameters := [(.object "java/lang/Object")], returnType := some .boolean }, accessFlags := 1, code := some k7c2 }
def k7c3 : Code := { maxStack := 4, maxLocals := 1, code := jdk_42_method_139_code, exceptionTable := #[], attributes := #[] }
def k7m3 : Method := { name := "valueOf", desc := "(C)Ljava/lang/String;", sig := { parameters := [.char], returnType := some (.object "java/lang/String") }, accessFlags := 9, code := some k7c3 }
def k7c4 : Code := { maxStack := 4, maxLocals := 6, code := jdk_42_method_149_code, exceptionTable := #[], attributes := #[] }
def k7m4 : Method := { name := "<init>", desc := "([CIILjava/lang/Void;)V", sig := { parameters := [(.array .char), .int, .int, (.object "java/lang/Void")], returnType := none }, accessFlags := 2, code := some k7c4 }
def k7c5 : Code := { maxStack := 2, maxLocals := 3, code := jdk_42_method_151_code, exceptionTable := #[], attributes := #[] }
def k7m5 : Method := { name := "<init>", desc := "([BB)V", sig := { parameters := [(.array .byte), .byte], returnType := none }, accessFlags := 0, code := some k7c5 }
/-- java/lang/String -/
def k7 : Class := { plain "java/lang/String" (some 0) with
  accessFlags := 49
  interfaces := #[2, 3, 4, 5, 6]
  cf := some (fileOf pool7 10 #[.nestMembers #[1103]] #[{ accessFlags := 1, nameIndex := 5, descriptorIndex := 6, attributes := #[] }, { accessFlags := 1, nameIndex := 5, descriptorIndex := 1010, attributes := #[] }, { accessFlags := 1, nameIndex := 543, descriptorIndex := 573, attributes := #[] }, { accessFlags := 9, nameIndex := 782, descriptorIndex := 783, attributes := #[] }, { accessFlags := 2, nameIndex := 5, descriptorIndex := 29, attributes := #[] }, { accessFlags := 0, nameIndex := 5, descriptorIndex := 211, attributes := #[] }] 49 2 #[1106, 1108, 575, 1110, 1112] #[{ accessFlags := 18, nameIndex := 13, descriptorIndex := 14, attributes := #[] }, { accessFlags := 18, nameIndex := 17, descriptorIndex := 18, attributes := #[] }, { accessFlags := 2, nameIndex := 21, descriptorIndex := 22, attributes := #[] }, { accessFlags := 2, nameIndex := 25, descriptorIndex := 26, attributes := #[] }, { accessFlags := 26, nameIndex := 1116, descriptorIndex := 1117, attributes := #[] }, { accessFlags := 24, nameIndex := 40, descriptorIndex := 26, attributes := #[] }, { accessFlags := 26, nameIndex := 1101, descriptorIndex := 1102, attributes := #[] }, { accessFlags := 26, nameIndex := 1121, descriptorIndex := 1122, attributes := #[] }, { accessFlags := 25, nameIndex := 599, descriptorIndex := 600, attributes := #[] }, { accessFlags := 24, nameIndex := 1125, descriptorIndex := 18, attributes := #[] }, { accessFlags := 24, nameIndex := 1127, descriptorIndex := 18, attributes := #[] }])
  fields := #[{ name := "value", type := (.array .byte), accessFlags := 18, slot := 0, constantValue := 0 }, { name := "coder", type := .byte, accessFlags := 18, slot := 1, constantValue := 0 }, { name := "hash", type := .int, accessFlags := 2, slot := 2, constantValue := 0 }, { name := "hashIsZero", type := .boolean, accessFlags := 2, slot := 3, constantValue := 0 }, { name := "serialVersionUID", type := .long, accessFlags := 26, slot := 0, constantValue := 0 }, { name := "COMPACT_STRINGS", type := .boolean, accessFlags := 24, slot := 1, constantValue := 0 }, { name := "serialPersistentFields", type := (.array (.object "java/io/ObjectStreamField")), accessFlags := 26, slot := 2, constantValue := 0 }, { name := "REPL", type := .char, accessFlags := 26, slot := 3, constantValue := 0 }, { name := "CASE_INSENSITIVE_ORDER", type := (.object "java/util/Comparator"), accessFlags := 25, slot := 4, constantValue := 0 }, { name := "LATIN1", type := .byte, accessFlags := 24, slot := 5, constantValue := 0 }, { name := "UTF16", type := .byte, accessFlags := 24, slot := 6, constantValue := 0 }]
  methods := #[k7m0, k7m1, k7m2, k7m3, k7m4, k7m5]
  instanceTypes := #[(.array .byte), .byte, .int, .boolean]
  staticTypes := #[.long, .boolean, (.array (.object "java/io/ObjectStreamField")), .char, (.object "java/util/Comparator"), .byte, .byte]
  resolved := Array.replicate 1451 none
  statics := some 0 }

def pool8 : Array CpInfo := pool [(6, .class_ 8), (1, u "java/lang/Object"), (0, u "<init>"), (0, u "()V"), (1, .class_ 14), (1, u "java/lang/StringUTF16"), (31, u "$assertionsDisabled"), (0, u "Z"), (13, u "HI_BYTE_SHIFT"), (0, u "I"), (2, u "LO_BYTE_SHIFT"), (49, .methodref 12 116), (0, .nameAndType 117 118), (0, u "compress"), (0, u "([CI[BII)I"), (3, u "([CII)[B"), (138, u "coderFromArrayLen"), (0, u "([BI)B"), (106, .class_ 371), (1, u "java/lang/StringUTF16$LinesSpliterator"), (58, u "MAX_LENGTH"), (196, .class_ 628), (0, u "java/lang/StringUTF16$CodePointsSpliterator"), (0, .class_ 630), (0, u "java/lang/StringUTF16$CharsSpliterator")] 4

def k8m0 : Method := { name := "<init>", desc := "()V", sig := { parameters := [], returnType := none }, accessFlags := 0, code := none }
def k8c1 : Code := { maxStack := 2, maxLocals := 2, code := jdk_52_method_15_code, exceptionTable := #[], attributes := #[] }
def k8m1 : Method := { name := "coderFromArrayLen", desc := "([BI)B", sig := { parameters := [(.array .byte), .int], returnType := some .byte }, accessFlags := 8, code := some k8c1 }
def k8c2 : Code := { maxStack := 5, maxLocals := 6, code := jdk_52_method_16_code, exceptionTable := #[], attributes := #[] }
def k8m2 : Method := { name := "compress", desc := "([CII)[B", sig := { parameters := [(.array .char), .int, .int], returnType := some (.array .byte) }, accessFlags := 9, code := some k8c2 }
def k8c3 : Code := { maxStack := 3, maxLocals := 7, code := jdk_52_method_21_code, exceptionTable := #[], attributes := #[] }
def k8m3 : Method := { name := "compress", desc := "([CI[BII)I", sig := { parameters := [(.array .char), .int, (.array .byte), .int, .int], returnType := some .int }, accessFlags := 9, code := some k8c3 }
/-- java/lang/StringUTF16 -/
def k8 : Class := { plain "java/lang/StringUTF16" (some 0) with
  accessFlags := 48
  interfaces := #[]
  cf := some (fileOf pool8 12 #[.nestMembers #[627, 629, 369]] #[{ accessFlags := 0, nameIndex := 9, descriptorIndex := 10, attributes := #[] }, { accessFlags := 8, nameIndex := 261, descriptorIndex := 262, attributes := #[] }, { accessFlags := 9, nameIndex := 117, descriptorIndex := 122, attributes := #[] }, { accessFlags := 9, nameIndex := 117, descriptorIndex := 118, attributes := #[] }] 48 6 #[] #[{ accessFlags := 26, nameIndex := 61, descriptorIndex := 62, attributes := #[] }, { accessFlags := 26, nameIndex := 65, descriptorIndex := 62, attributes := #[] }, { accessFlags := 24, nameIndex := 430, descriptorIndex := 62, attributes := #[] }, { accessFlags := 4120, nameIndex := 46, descriptorIndex := 47, attributes := #[] }])
  fields := #[{ name := "HI_BYTE_SHIFT", type := .int, accessFlags := 26, slot := 0, constantValue := 0 }, { name := "LO_BYTE_SHIFT", type := .int, accessFlags := 26, slot := 1, constantValue := 0 }, { name := "MAX_LENGTH", type := .int, accessFlags := 24, slot := 2, constantValue := 0 }, { name := "$assertionsDisabled", type := .boolean, accessFlags := 4120, slot := 3, constantValue := 0 }]
  methods := #[k8m0, k8m1, k8m2, k8m3]
  instanceTypes := #[]
  staticTypes := #[.int, .int, .int, .boolean]
  resolved := Array.replicate 635 none
  statics := none }

def pool9 : Array CpInfo := pool [(4, .class_ 6), (1, u "java/lang/Object"), (0, u "<init>"), (0, u "()V"), (5, .class_ 16), (1, u "java/lang/StringLatin1"), (73, u "canEncode"), (14, u "(C)Z"), (15, u "$assertionsDisabled"), (0, u "Z"), (98, .class_ 223), (1, u "java/lang/StringLatin1$LinesSpliterator"), (57, u "equals"), (0, u "([B[B)Z"), (97, u "toBytes"), (1, u "(C)[B"), (7, .class_ 391), (0, u "java/lang/StringLatin1$CharsSpliterator")] 3

def k9m0 : Method := { name := "<init>", desc := "()V", sig := { parameters := [], returnType := none }, accessFlags := 0, code := none }
def k9c1 : Code := { maxStack := 2, maxLocals := 1, code := jdk_43_method_3_code, exceptionTable := #[], attributes := #[] }
def k9m1 : Method := { name := "canEncode", desc := "(C)Z", sig := { parameters := [.char], returnType := some .boolean }, accessFlags := 9, code := some k9c1 }
def k9c2 : Code := { maxStack := 3, maxLocals := 3, code := jdk_43_method_13_code, exceptionTable := #[], attributes := #[] }
def k9m2 : Method := { name := "equals", desc := "([B[B)Z", sig := { parameters := [(.array .byte), (.array .byte)], returnType := some .boolean }, accessFlags := 9, code := some k9c2 }
def k9c3 : Code := { maxStack := 4, maxLocals := 1, code := jdk_43_method_46_code, exceptionTable := #[], attributes := #[] }
def k9m3 : Method := { name := "toBytes", desc := "(C)[B", sig := { parameters := [.char], returnType := some (.array .byte) }, accessFlags := 9, code := some k9c3 }
/-- java/lang/StringLatin1 -/
def k9 : Class := { plain "java/lang/StringLatin1" (some 0) with
  accessFlags := 48
  interfaces := #[]
  cf := some (fileOf pool9 14 #[.nestMembers #[390, 221]] #[{ accessFlags := 0, nameIndex := 7, descriptorIndex := 8, attributes := #[] }, { accessFlags := 9, nameIndex := 90, descriptorIndex := 105, attributes := #[] }, { accessFlags := 9, nameIndex := 281, descriptorIndex := 282, attributes := #[] }, { accessFlags := 9, nameIndex := 380, descriptorIndex := 382, attributes := #[] }] 48 4 #[] #[{ accessFlags := 4120, nameIndex := 121, descriptorIndex := 122, attributes := #[] }])
  fields := #[{ name := "$assertionsDisabled", type := .boolean, accessFlags := 4120, slot := 0, constantValue := 0 }]
  methods := #[k9m0, k9m1, k9m2, k9m3]
  instanceTypes := #[]
  staticTypes := #[.boolean]
  resolved := Array.replicate 395 none
  statics := none }

def pool10 : Array CpInfo := pool [(1, .methodref 2 3), (0, .class_ 4), (0, .nameAndType 5 6), (0, u "java/lang/Object"), (0, u "<init>"), (0, u "()V"), (0, .class_ 8), (0, u "java/lang/Record")] 13

def k10c0 : Code := { maxStack := 1, maxLocals := 1, code := jdk_30_method_1_code, exceptionTable := #[], attributes := #[] }
def k10m0 : Method := { name := "<init>", desc := "()V", sig := { parameters := [], returnType := none }, accessFlags := 4, code := some k10c0 }
/-- java/lang/Record -/
def k10 : Class := { plain "java/lang/Record" (some 0) with
  accessFlags := 1057
  interfaces := #[]
  cf := some (fileOf pool10 7 #[] #[{ accessFlags := 4, nameIndex := 5, descriptorIndex := 6, attributes := #[] }] 1057 2 #[] #[])
  fields := #[]
  methods := #[k10m0]
  instanceTypes := #[]
  staticTypes := #[]
  resolved := Array.replicate 22 none
  statics := none }

def pool11 : Array CpInfo := pool [(1, .methodref 2 3), (0, .class_ 4), (0, .nameAndType 5 6), (0, u "java/lang/Record"), (0, u "<init>"), (0, u "()V"), (0, .string 8), (0, u "question"), (0, .methodref 10 11), (0, .class_ 12), (0, .nameAndType 13 14), (0, u "java/util/Objects"), (0, u "requireNonNull"), (0, u "(Ljava/lang/Object;Ljava/lang/String;)Ljava/lang/Object;"), (0, .string 16), (0, u "left"), (0, .string 18), (0, u "right"), (0, .fieldref 20 21), (0, .class_ 22), (0, .nameAndType 8 23), (0, u "com/example/manyhands/manyhands/crowd/Ordering"), (0, u "Ljava/lang/String;"), (0, .fieldref 20 25), (0, .nameAndType 16 23), (0, .fieldref 20 27), (0, .nameAndType 18 23), (0, .methodref 29 30), (0, .class_ 31), (0, .nameAndType 32 33), (0, u "java/lang/String"), (0, u "equals"), (0, u "(Ljava/lang/Object;)Z"), (21, u "ANSWER"), (3, u "(Ljava/lang/String;Ljava/lang/String;Ljava/lang/String;)V"), (3, u "takes"), (0, u "(Ljava/lang/String;)Z")] 34

def k11c0 : Code := { maxStack := 2, maxLocals := 4, code := prog_26_method_1_code, exceptionTable := #[], attributes := #[] }
def k11m0 : Method := { name := "<init>", desc := "(Ljava/lang/String;Ljava/lang/String;Ljava/lang/String;)V", sig := { parameters := [(.object "java/lang/String"), (.object "java/lang/String"), (.object "java/lang/String")], returnType := none }, accessFlags := 1, code := some k11c0 }
def k11c1 : Code := { maxStack := 2, maxLocals := 2, code := prog_26_method_2_code, exceptionTable := #[], attributes := #[] }
def k11m1 : Method := { name := "takes", desc := "(Ljava/lang/String;)Z", sig := { parameters := [(.object "java/lang/String")], returnType := some .boolean }, accessFlags := 1, code := some k11c1 }
/-- com/example/manyhands/manyhands/crowd/Ordering -/
def k11 : Class := { plain "com/example/manyhands/manyhands/crowd/Ordering" (some 10) with
  accessFlags := 49
  interfaces := #[]
  cf := some (fileOf pool11 20 #[] #[{ accessFlags := 1, nameIndex := 5, descriptorIndex := 59, attributes := #[] }, { accessFlags := 1, nameIndex := 63, descriptorIndex := 64, attributes := #[] }] 49 2 #[] #[{ accessFlags := 18, nameIndex := 8, descriptorIndex := 23, attributes := #[] }, { accessFlags := 18, nameIndex := 16, descriptorIndex := 23, attributes := #[] }, { accessFlags := 18, nameIndex := 18, descriptorIndex := 23, attributes := #[] }, { accessFlags := 25, nameIndex := 55, descriptorIndex := 23, attributes := #[] }])
  fields := #[{ name := "question", type := (.object "java/lang/String"), accessFlags := 18, slot := 0, constantValue := 0 }, { name := "left", type := (.object "java/lang/String"), accessFlags := 18, slot := 1, constantValue := 0 }, { name := "right", type := (.object "java/lang/String"), accessFlags := 18, slot := 2, constantValue := 0 }, { name := "ANSWER", type := (.object "java/lang/String"), accessFlags := 25, slot := 0, constantValue := 0 }]
  methods := #[k11m0, k11m1]
  instanceTypes := #[(.object "java/lang/String"), (.object "java/lang/String"), (.object "java/lang/String")]
  staticTypes := #[(.object "java/lang/String")]
  resolved := Array.replicate 99 none
  statics := none }

def pool12 : Array CpInfo := pool [(2, .class_ 4), (1, u "java/lang/Object"), (0, u "<init>"), (0, u "()V"), (35, .class_ 44), (1, u "java/util/Objects"), (0, u "requireNonNull"), (48, u "(Ljava/lang/Object;Ljava/lang/String;)Ljava/lang/Object;")] 89

def k12m0 : Method := { name := "<init>", desc := "()V", sig := { parameters := [], returnType := none }, accessFlags := 2, code := none }
def k12c1 : Code := { maxStack := 3, maxLocals := 2, code := jdk_31_method_11_code, exceptionTable := #[], attributes := #[] }
def k12m1 : Method := { name := "requireNonNull", desc := "(Ljava/lang/Object;Ljava/lang/String;)Ljava/lang/Object;", sig := { parameters := [(.object "java/lang/Object"), (.object "java/lang/String")], returnType := some (.object "java/lang/Object") }, accessFlags := 9, code := some k12c1 }
/-- java/util/Objects -/
def k12 : Class := { plain "java/util/Objects" (some 0) with
  accessFlags := 49
  interfaces := #[]
  cf := some (fileOf pool12 42 #[] #[{ accessFlags := 2, nameIndex := 5, descriptorIndex := 6, attributes := #[] }, { accessFlags := 9, nameIndex := 45, descriptorIndex := 94, attributes := #[] }] 49 2 #[] #[])
  fields := #[]
  methods := #[k12m0, k12m1]
  instanceTypes := #[]
  staticTypes := #[]
  resolved := Array.replicate 184 none
  statics := none }

def pool13 : Array CpInfo := pool [(2, .class_ 4), (1, u "java/lang/Object"), (0, u "<init>"), (0, u "()V"), (17, .class_ 26), (1, u "jdk/internal/util/Preconditions"), (28, .class_ 56), (0, u "jdk/internal/util/Preconditions$4"), (57, .class_ 115), (0, u "jdk/internal/util/Preconditions$1"), (7, u "SIOOBE_FORMATTER"), (0, u "Ljava/util/function/BiFunction;"), (0, .class_ 126), (0, u "jdk/internal/util/Preconditions$2"), (3, u "AIOOBE_FORMATTER"), (0, .class_ 132), (0, u "jdk/internal/util/Preconditions$3"), (3, u "IOOBE_FORMATTER")] 57

def k13m0 : Method := { name := "<init>", desc := "()V", sig := { parameters := [], returnType := none }, accessFlags := 1, code := none }
/-- jdk/internal/util/Preconditions -/
def k13 : Class := { plain "jdk/internal/util/Preconditions" (some 0) with
  accessFlags := 33
  interfaces := #[]
  cf := some (fileOf pool13 24 #[.nestMembers #[55, 131, 125, 114]] #[{ accessFlags := 1, nameIndex := 5, descriptorIndex := 6, attributes := #[] }] 33 2 #[] #[{ accessFlags := 25, nameIndex := 123, descriptorIndex := 124, attributes := #[] }, { accessFlags := 25, nameIndex := 130, descriptorIndex := 124, attributes := #[] }, { accessFlags := 25, nameIndex := 136, descriptorIndex := 124, attributes := #[] }])
  fields := #[{ name := "SIOOBE_FORMATTER", type := (.object "java/util/function/BiFunction"), accessFlags := 25, slot := 0, constantValue := 0 }, { name := "AIOOBE_FORMATTER", type := (.object "java/util/function/BiFunction"), accessFlags := 25, slot := 1, constantValue := 0 }, { name := "IOOBE_FORMATTER", type := (.object "java/util/function/BiFunction"), accessFlags := 25, slot := 2, constantValue := 0 }]
  methods := #[k13m0]
  instanceTypes := #[]
  staticTypes := #[(.object "java/util/function/BiFunction"), (.object "java/util/function/BiFunction"), (.object "java/util/function/BiFunction")]
  resolved := Array.replicate 194 none
  statics := some 1 }

def pool14 : Array CpInfo := pool [(9, u "<init>"), (6, .class_ 18), (1, u "java/lang/Object"), (0, u "()V"), (1, .class_ 23), (1, u "jdk/internal/util/ArraysSupport"), (0, u "LOG2_ARRAY_LONG_INDEX_SCALE"), (0, u "I"), (2, u "U"), (0, u "Ljdk/internal/misc/Unsafe;"), (8, u "BIG_ENDIAN"), (0, u "Z"), (8, u "LOG2_BYTE_BIT_SIZE"), (4, u "LOG2_ARRAY_INT_INDEX_SCALE"), (54, u "JLA"), (0, u "Ljdk/internal/access/JavaLangAccess;"), (11, u "LOG2_ARRAY_BOOLEAN_INDEX_SCALE"), (9, u "LOG2_ARRAY_BYTE_INDEX_SCALE"), (5, u "LOG2_ARRAY_CHAR_INDEX_SCALE"), (5, u "LOG2_ARRAY_SHORT_INDEX_SCALE"), (18, u "LOG2_ARRAY_FLOAT_INDEX_SCALE"), (24, u "LOG2_ARRAY_DOUBLE_INDEX_SCALE"), (89, u "T_BOOLEAN"), (2, u "T_CHAR"), (1, u "T_FLOAT"), (1, u "T_DOUBLE"), (1, u "T_BYTE"), (1, u "T_SHORT"), (1, u "T_INT"), (1, u "T_LONG"), (1, u "SOFT_MAX_ARRAY_LENGTH")] 83

def k14m0 : Method := { name := "<init>", desc := "()V", sig := { parameters := [], returnType := none }, accessFlags := 2, code := none }
/-- jdk/internal/util/ArraysSupport -/
def k14 : Class := { plain "jdk/internal/util/ArraysSupport" (some 0) with
  accessFlags := 33
  interfaces := #[]
  cf := some (fileOf pool14 21 #[] #[{ accessFlags := 2, nameIndex := 9, descriptorIndex := 19, attributes := #[] }] 33 16 #[] #[{ accessFlags := 24, nameIndex := 28, descriptorIndex := 29, attributes := #[] }, { accessFlags := 26, nameIndex := 38, descriptorIndex := 39, attributes := #[] }, { accessFlags := 25, nameIndex := 121, descriptorIndex := 25, attributes := #[] }, { accessFlags := 25, nameIndex := 131, descriptorIndex := 25, attributes := #[] }, { accessFlags := 25, nameIndex := 137, descriptorIndex := 25, attributes := #[] }, { accessFlags := 25, nameIndex := 143, descriptorIndex := 25, attributes := #[] }, { accessFlags := 25, nameIndex := 53, descriptorIndex := 25, attributes := #[] }, { accessFlags := 25, nameIndex := 24, descriptorIndex := 25, attributes := #[] }, { accessFlags := 25, nameIndex := 162, descriptorIndex := 25, attributes := #[] }, { accessFlags := 25, nameIndex := 187, descriptorIndex := 25, attributes := #[] }, { accessFlags := 26, nameIndex := 48, descriptorIndex := 25, attributes := #[] }, { accessFlags := 25, nameIndex := 277, descriptorIndex := 25, attributes := #[] }, { accessFlags := 25, nameIndex := 280, descriptorIndex := 25, attributes := #[] }, { accessFlags := 25, nameIndex := 282, descriptorIndex := 25, attributes := #[] }, { accessFlags := 25, nameIndex := 284, descriptorIndex := 25, attributes := #[] }, { accessFlags := 25, nameIndex := 286, descriptorIndex := 25, attributes := #[] }, { accessFlags := 25, nameIndex := 288, descriptorIndex := 25, attributes := #[] }, { accessFlags := 25, nameIndex := 290, descriptorIndex := 25, attributes := #[] }, { accessFlags := 25, nameIndex := 292, descriptorIndex := 25, attributes := #[] }, { accessFlags := 26, nameIndex := 108, descriptorIndex := 109, attributes := #[] }, { accessFlags := 25, nameIndex := 294, descriptorIndex := 25, attributes := #[] }])
  fields := #[{ name := "U", type := (.object "jdk/internal/misc/Unsafe"), accessFlags := 24, slot := 0, constantValue := 0 }, { name := "BIG_ENDIAN", type := .boolean, accessFlags := 26, slot := 1, constantValue := 0 }, { name := "LOG2_ARRAY_BOOLEAN_INDEX_SCALE", type := .int, accessFlags := 25, slot := 2, constantValue := 0 }, { name := "LOG2_ARRAY_BYTE_INDEX_SCALE", type := .int, accessFlags := 25, slot := 3, constantValue := 0 }, { name := "LOG2_ARRAY_CHAR_INDEX_SCALE", type := .int, accessFlags := 25, slot := 4, constantValue := 0 }, { name := "LOG2_ARRAY_SHORT_INDEX_SCALE", type := .int, accessFlags := 25, slot := 5, constantValue := 0 }, { name := "LOG2_ARRAY_INT_INDEX_SCALE", type := .int, accessFlags := 25, slot := 6, constantValue := 0 }, { name := "LOG2_ARRAY_LONG_INDEX_SCALE", type := .int, accessFlags := 25, slot := 7, constantValue := 0 }, { name := "LOG2_ARRAY_FLOAT_INDEX_SCALE", type := .int, accessFlags := 25, slot := 8, constantValue := 0 }, { name := "LOG2_ARRAY_DOUBLE_INDEX_SCALE", type := .int, accessFlags := 25, slot := 9, constantValue := 0 }, { name := "LOG2_BYTE_BIT_SIZE", type := .int, accessFlags := 26, slot := 10, constantValue := 0 }, { name := "T_BOOLEAN", type := .int, accessFlags := 25, slot := 11, constantValue := 0 }, { name := "T_CHAR", type := .int, accessFlags := 25, slot := 12, constantValue := 0 }, { name := "T_FLOAT", type := .int, accessFlags := 25, slot := 13, constantValue := 0 }, { name := "T_DOUBLE", type := .int, accessFlags := 25, slot := 14, constantValue := 0 }, { name := "T_BYTE", type := .int, accessFlags := 25, slot := 15, constantValue := 0 }, { name := "T_SHORT", type := .int, accessFlags := 25, slot := 16, constantValue := 0 }, { name := "T_INT", type := .int, accessFlags := 25, slot := 17, constantValue := 0 }, { name := "T_LONG", type := .int, accessFlags := 25, slot := 18, constantValue := 0 }, { name := "JLA", type := (.object "jdk/internal/access/JavaLangAccess"), accessFlags := 26, slot := 19, constantValue := 0 }, { name := "SOFT_MAX_ARRAY_LENGTH", type := .int, accessFlags := 25, slot := 20, constantValue := 0 }]
  methods := #[k14m0]
  instanceTypes := #[]
  staticTypes := #[(.object "jdk/internal/misc/Unsafe"), .boolean, .int, .int, .int, .int, .int, .int, .int, .int, .int, .int, .int, .int, .int, .int, .int, .int, .int, (.object "jdk/internal/access/JavaLangAccess"), .int]
  resolved := Array.replicate 378 none
  statics := none }

def pool15 : Array CpInfo := pool [(1, u "java/lang/Cloneable"), (0, .class_ 1), (0, u "java/lang/Object"), (0, .class_ 3)] 3

/-- java/lang/Cloneable -/
def k15 : Class := { plain "java/lang/Cloneable" (some 0) with
  accessFlags := 1537
  interfaces := #[]
  cf := some (fileOf pool15 2 #[] #[] 1537 4 #[] #[])
  fields := #[]
  methods := #[]
  instanceTypes := #[]
  staticTypes := #[]
  resolved := Array.replicate 8 none
  statics := none }

/-- the primitive byte -/
def k16 : Class := { plain "byte" none with kind := .primitive 'B', accessFlags := 0x411 }
/-- [B -/
def k17 : Class := { plain "[B" (some 0) with kind := .array 16 .byte, interfaces := #[15, 2], accessFlags := 1041 }

/-- the primitive char -/
def k18 : Class := { plain "char" none with kind := .primitive 'C', accessFlags := 0x411 }
/-- [C -/
def k19 : Class := { plain "[C" (some 0) with kind := .array 18 .char, interfaces := #[15, 2], accessFlags := 1041 }

/-- the primitive int -/
def k20 : Class := { plain "int" none with kind := .primitive 'I', accessFlags := 0x411 }
/-- [I -/
def k21 : Class := { plain "[I" (some 0) with kind := .array 20 .int, interfaces := #[15, 2], accessFlags := 1041 }

def heap : Heap := #[{ cls := 7, slots := #[.long 0, .int 1, .null, .int 0, .null, .int 0, .int 0], vm := .statics 7 },
  { cls := 13, slots := #[.null, .null, .null], vm := .statics 13 }]
def classes : Array Class := #[k0, k1, k2, k3, k4, k5, k6, k7, k8, k9, k10, k11, k12, k13, k14, k15, k16, k17, k18, k19, k20, k21]
def interned : List (Array UInt16 × Addr) := []
def slotsUsed : Nat := 10
def theMethod : MethodId := ⟨1, 3⟩
def args0 : Array Value := #[.int 5, .int 6, .int 7, .int 8]
def aboutOver (below : List Frame) : State where
  vm := { classes := classes, interned := interned.toArray }
  heap := heap
  slotsUsed := slotsUsed
  threads := #[{ frames := .invoking theMethod args0 :: below }]
def below0 : List Frame := [.native { method := ⟨0, 0⟩, args := #[] }]
def about1 : State := aboutOver below0
def p0 : Program := .bare "" "" ""
def e0 : Env := launch0.env 0 0 0
theorem w_frames : about1.frames = Frame.invoking theMethod args0 :: below0 := rfl
set_option maxRecDepth 65536 in
theorem w_args : argsFit about1.vm theMethod args0 = true := by decide +kernel
set_option maxRecDepth 65536 in
theorem w_heap : heapFits about1 = true := by decide +kernel
set_option maxRecDepth 65536 in
theorem w_runnable : about1.curStatus? = some .runnable := by decide +kernel
set_option maxRecDepth 65536 in
theorem w_alone : about1.alone = true := by decide +kernel
set_option maxRecDepth 65536 in
theorem w_named : about1.methodNamed? x = some theMethod := by decide +kernel
set_option maxRecDepth 65536 in
theorem w_hears : about1.hears theMethod below0 = true := by decide +kernel
set_option maxRecDepth 65536 in
theorem w_ripe : about1.ripe theMethod args0 below0 = true := by decide +kernel
theorem w_running : about1.status = .running := rfl
set_option maxRecDepth 65536 in
theorem w_room : about1.hasRoom e0.platform room_1 = true :=
  launch0.hasRoom_least _ room_1 (by decide +kernel) (by decide +kernel) (by decide +kernel) (by decide +kernel) (by decide +kernel) (by decide +kernel)
theorem allAtoms_all (ts : List Jvm.Cond) (a : Array Jvm.Value) (st : Jvm.State) : (allAtoms ts).before a st = ts.all (fun c => c.before a st) := by
  induction ts with
  | nil => rfl
  | cons c t ih =>
    show (Jvm.Cond.and c (allAtoms t)).before a st = _
    rw [Jvm.Cond.before_and, ih, List.all_cons]
def words1 : List Jvm.Cond := Jvm.Cond.code x code maxLocals ret :: tables_1
/-- a 'code' word, met by the world's own term for the bytes: nothing is compared byte by byte -/
theorem code_word {y : MethodName} {bytes : ByteArray} {mx : Nat} {rt : Option FieldType} {a : Array Value} {s : State} {m : MethodId} {meth : Method} {c : Code} (h1 : s.methodNamed? y = some m) (h2 : s.vm.method? m = some meth) (h3 : meth.code = some c) (h4 : c.code = bytes)
    (h5 : (c.maxLocals == mx && c.exceptionTable.isEmpty && decide (c.maxStack ≤ mostOperands) && decide (meth.sig.returnType = rt) && !meth.locks && decide (parseMethodDescriptor y.desc = some meth.sig)) = true) : (Jvm.Cond.code y bytes mx rt).before a s = true := by
  simp only [Bool.and_eq_true, beq_iff_eq, Bool.not_eq_true', decide_eq_true_eq] at h5
  obtain ⟨⟨⟨⟨⟨g1, g2⟩, g3⟩, g4⟩, g5⟩, g6⟩ := h5
  simp [Cond.before, Cond.holds, Cond.value, h1, h2, h3, h4, g1, g2, g3, g4, g5, g6]
def isCode : Jvm.Cond → Bool
  | .code _ _ _ _ => true
  | _ => false
theorem all_split {L : List Jvm.Cond} {P : Jvm.Cond → Bool} (h1 : L.all (fun c => isCode c || P c) = true) (h2 : ∀ c ∈ L.filter isCode, P c = true) : L.all P = true := by
  refine List.all_eq_true.mpr fun c hc => ?_
  have h := List.all_eq_true.mp h1 c hc
  rcases Bool.eq_false_or_eq_true (isCode c) with hi | hi
  · exact h2 c (List.mem_filter.mpr ⟨hc, hi⟩)
  · simpa [hi] using h
set_option maxRecDepth 65536 in
theorem w_c0 : (Jvm.Cond.code x code maxLocals ret).before args0 about1 = true := code_word (m := ⟨1, 3⟩) (meth := k1m3) (c := k1c3) (by decide +kernel) rfl rfl rfl (by decide +kernel)
set_option maxRecDepth 65536 in
theorem w_c1 : (Jvm.Cond.code ({ cls := "com/example/manyhands/manyhands/crowd/OrderingTakesPinLaw", name := "mk", desc := "(III)Ljava/lang/String;" } : Jvm.MethodName) method_2_code (3 : Nat) (Option.some (Jvm.ClassFile.FieldType.object "java/lang/String"))).before args0 about1 = true := code_word (m := ⟨1, 1⟩) (meth := k1m1) (c := k1c1) (by decide +kernel) rfl rfl rfl (by decide +kernel)
set_option maxRecDepth 65536 in
theorem w_c2 : (Jvm.Cond.code ({ cls := "java/lang/String", name := "<init>", desc := "([C)V" } : Jvm.MethodName) jdk_42_method_3_code (2 : Nat) (Option.none : Option Jvm.ClassFile.FieldType)).before args0 about1 = true := code_word (m := ⟨7, 1⟩) (meth := k7m1) (c := k7c1) (by decide +kernel) rfl rfl rfl (by decide +kernel)
set_option maxRecDepth 65536 in
theorem w_c3 : (Jvm.Cond.code ({ cls := "java/lang/String", name := "<init>", desc := "([CIILjava/lang/Void;)V" } : Jvm.MethodName) jdk_42_method_149_code (6 : Nat) (Option.none : Option Jvm.ClassFile.FieldType)).before args0 about1 = true := code_word (m := ⟨7, 4⟩) (meth := k7m4) (c := k7c4) (by decide +kernel) rfl rfl rfl (by decide +kernel)
set_option maxRecDepth 65536 in
theorem w_c4 : (Jvm.Cond.code ({ cls := "java/lang/Object", name := "<init>", desc := "()V" } : Jvm.MethodName) object_method_1_code (1 : Nat) (Option.none : Option Jvm.ClassFile.FieldType)).before args0 about1 = true := code_word (m := ⟨0, 0⟩) (meth := k0m0) (c := k0c0) (by decide +kernel) rfl rfl rfl (by decide +kernel)
set_option maxRecDepth 65536 in
theorem w_c5 : (Jvm.Cond.code ({ cls := "java/lang/StringUTF16", name := "compress", desc := "([CII)[B" } : Jvm.MethodName) jdk_52_method_16_code (6 : Nat) (Option.some (Jvm.ClassFile.FieldType.array Jvm.ClassFile.FieldType.byte))).before args0 about1 = true := code_word (m := ⟨8, 2⟩) (meth := k8m2) (c := k8c2) (by decide +kernel) rfl rfl rfl (by decide +kernel)
set_option maxRecDepth 65536 in
theorem w_c6 : (Jvm.Cond.code ({ cls := "java/lang/StringUTF16", name := "compress", desc := "([CI[BII)I" } : Jvm.MethodName) jdk_52_method_21_code (7 : Nat) (Option.some Jvm.ClassFile.FieldType.int)).before args0 about1 = true := code_word (m := ⟨8, 3⟩) (meth := k8m3) (c := k8c3) (by decide +kernel) rfl rfl rfl (by decide +kernel)
set_option maxRecDepth 65536 in
theorem w_c7 : (Jvm.Cond.code ({ cls := "java/lang/StringUTF16", name := "coderFromArrayLen", desc := "([BI)B" } : Jvm.MethodName) jdk_52_method_15_code (2 : Nat) (Option.some Jvm.ClassFile.FieldType.byte)).before args0 about1 = true := code_word (m := ⟨8, 1⟩) (meth := k8m1) (c := k8c1) (by decide +kernel) rfl rfl rfl (by decide +kernel)
set_option maxRecDepth 65536 in
theorem w_c8 : (Jvm.Cond.code ({ cls := "java/lang/String", name := "valueOf", desc := "(C)Ljava/lang/String;" } : Jvm.MethodName) jdk_42_method_139_code (1 : Nat) (Option.some (Jvm.ClassFile.FieldType.object "java/lang/String"))).before args0 about1 = true := code_word (m := ⟨7, 3⟩) (meth := k7m3) (c := k7c3) (by decide +kernel) rfl rfl rfl (by decide +kernel)
set_option maxRecDepth 65536 in
theorem w_c9 : (Jvm.Cond.code ({ cls := "java/lang/StringLatin1", name := "canEncode", desc := "(C)Z" } : Jvm.MethodName) jdk_43_method_3_code (1 : Nat) (Option.some Jvm.ClassFile.FieldType.boolean)).before args0 about1 = true := code_word (m := ⟨9, 1⟩) (meth := k9m1) (c := k9c1) (by decide +kernel) rfl rfl rfl (by decide +kernel)
set_option maxRecDepth 65536 in
theorem w_c10 : (Jvm.Cond.code ({ cls := "java/lang/StringLatin1", name := "toBytes", desc := "(C)[B" } : Jvm.MethodName) jdk_43_method_46_code (1 : Nat) (Option.some (Jvm.ClassFile.FieldType.array Jvm.ClassFile.FieldType.byte))).before args0 about1 = true := code_word (m := ⟨9, 3⟩) (meth := k9m3) (c := k9c3) (by decide +kernel) rfl rfl rfl (by decide +kernel)
set_option maxRecDepth 65536 in
theorem w_c11 : (Jvm.Cond.code ({ cls := "java/lang/String", name := "<init>", desc := "([BB)V" } : Jvm.MethodName) jdk_42_method_151_code (3 : Nat) (Option.none : Option Jvm.ClassFile.FieldType)).before args0 about1 = true := code_word (m := ⟨7, 5⟩) (meth := k7m5) (c := k7c5) (by decide +kernel) rfl rfl rfl (by decide +kernel)
set_option maxRecDepth 65536 in
theorem w_c12 : (Jvm.Cond.code ({ cls := "com/example/manyhands/manyhands/crowd/Ordering", name := "<init>", desc := "(Ljava/lang/String;Ljava/lang/String;Ljava/lang/String;)V" } : Jvm.MethodName) prog_26_method_1_code (4 : Nat) (Option.none : Option Jvm.ClassFile.FieldType)).before args0 about1 = true := code_word (m := ⟨11, 0⟩) (meth := k11m0) (c := k11c0) (by decide +kernel) rfl rfl rfl (by decide +kernel)
set_option maxRecDepth 65536 in
theorem w_c13 : (Jvm.Cond.code ({ cls := "java/lang/Record", name := "<init>", desc := "()V" } : Jvm.MethodName) jdk_30_method_1_code (1 : Nat) (Option.none : Option Jvm.ClassFile.FieldType)).before args0 about1 = true := code_word (m := ⟨10, 0⟩) (meth := k10m0) (c := k10c0) (by decide +kernel) rfl rfl rfl (by decide +kernel)
set_option maxRecDepth 65536 in
theorem w_c14 : (Jvm.Cond.code ({ cls := "java/util/Objects", name := "requireNonNull", desc := "(Ljava/lang/Object;Ljava/lang/String;)Ljava/lang/Object;" } : Jvm.MethodName) jdk_31_method_11_code (2 : Nat) (Option.some (Jvm.ClassFile.FieldType.object "java/lang/Object"))).before args0 about1 = true := code_word (m := ⟨12, 1⟩) (meth := k12m1) (c := k12c1) (by decide +kernel) rfl rfl rfl (by decide +kernel)
set_option maxRecDepth 65536 in
theorem w_c15 : (Jvm.Cond.code ({ cls := "com/example/manyhands/manyhands/crowd/OrderingTakesPinLaw", name := "same", desc := "(IIIIII)Z" } : Jvm.MethodName) method_3_code (6 : Nat) (Option.some Jvm.ClassFile.FieldType.boolean)).before args0 about1 = true := code_word (m := ⟨1, 2⟩) (meth := k1m2) (c := k1c2) (by decide +kernel) rfl rfl rfl (by decide +kernel)
set_option maxRecDepth 65536 in
theorem w_c16 : (Jvm.Cond.code ({ cls := "com/example/manyhands/manyhands/crowd/Ordering", name := "takes", desc := "(Ljava/lang/String;)Z" } : Jvm.MethodName) prog_26_method_2_code (2 : Nat) (Option.some Jvm.ClassFile.FieldType.boolean)).before args0 about1 = true := code_word (m := ⟨11, 1⟩) (meth := k11m1) (c := k11c1) (by decide +kernel) rfl rfl rfl (by decide +kernel)
set_option maxRecDepth 65536 in
theorem w_c17 : (Jvm.Cond.code ({ cls := "java/lang/String", name := "equals", desc := "(Ljava/lang/Object;)Z" } : Jvm.MethodName) jdk_42_method_66_code (3 : Nat) (Option.some Jvm.ClassFile.FieldType.boolean)).before args0 about1 = true := code_word (m := ⟨7, 2⟩) (meth := k7m2) (c := k7c2) (by decide +kernel) rfl rfl rfl (by decide +kernel)
set_option maxRecDepth 65536 in
theorem w_c18 : (Jvm.Cond.code ({ cls := "java/lang/StringLatin1", name := "equals", desc := "([B[B)Z" } : Jvm.MethodName) jdk_43_method_13_code (3 : Nat) (Option.some Jvm.ClassFile.FieldType.boolean)).before args0 about1 = true := code_word (m := ⟨9, 2⟩) (meth := k9m2) (c := k9c2) (by decide +kernel) rfl rfl rfl (by decide +kernel)
def codes1 : List Jvm.Cond := [Jvm.Cond.code x code maxLocals ret, Jvm.Cond.code ({ cls := "com/example/manyhands/manyhands/crowd/OrderingTakesPinLaw", name := "mk", desc := "(III)Ljava/lang/String;" } : Jvm.MethodName) method_2_code (3 : Nat) (Option.some (Jvm.ClassFile.FieldType.object "java/lang/String")), Jvm.Cond.code ({ cls := "java/lang/String", name := "<init>", desc := "([C)V" } : Jvm.MethodName) jdk_42_method_3_code (2 : Nat) (Option.none : Option Jvm.ClassFile.FieldType), Jvm.Cond.code ({ cls := "java/lang/String", name := "<init>", desc := "([CIILjava/lang/Void;)V" } : Jvm.MethodName) jdk_42_method_149_code (6 : Nat) (Option.none : Option Jvm.ClassFile.FieldType), Jvm.Cond.code ({ cls := "java/lang/Object", name := "<init>", desc := "()V" } : Jvm.MethodName) object_method_1_code (1 : Nat) (Option.none : Option Jvm.ClassFile.FieldType), Jvm.Cond.code ({ cls := "java/lang/StringUTF16", name := "compress", desc := "([CII)[B" } : Jvm.MethodName) jdk_52_method_16_code (6 : Nat) (Option.some (Jvm.ClassFile.FieldType.array Jvm.ClassFile.FieldType.byte)), Jvm.Cond.code ({ cls := "java/lang/StringUTF16", name := "compress", desc := "([CI[BII)I" } : Jvm.MethodName) jdk_52_method_21_code (7 : Nat) (Option.some Jvm.ClassFile.FieldType.int), Jvm.Cond.code ({ cls := "java/lang/StringUTF16", name := "coderFromArrayLen", desc := "([BI)B" } : Jvm.MethodName) jdk_52_method_15_code (2 : Nat) (Option.some Jvm.ClassFile.FieldType.byte), Jvm.Cond.code ({ cls := "java/lang/String", name := "valueOf", desc := "(C)Ljava/lang/String;" } : Jvm.MethodName) jdk_42_method_139_code (1 : Nat) (Option.some (Jvm.ClassFile.FieldType.object "java/lang/String")), Jvm.Cond.code ({ cls := "java/lang/StringLatin1", name := "canEncode", desc := "(C)Z" } : Jvm.MethodName) jdk_43_method_3_code (1 : Nat) (Option.some Jvm.ClassFile.FieldType.boolean), Jvm.Cond.code ({ cls := "java/lang/StringLatin1", name := "toBytes", desc := "(C)[B" } : Jvm.MethodName) jdk_43_method_46_code (1 : Nat) (Option.some (Jvm.ClassFile.FieldType.array Jvm.ClassFile.FieldType.byte)), Jvm.Cond.code ({ cls := "java/lang/String", name := "<init>", desc := "([BB)V" } : Jvm.MethodName) jdk_42_method_151_code (3 : Nat) (Option.none : Option Jvm.ClassFile.FieldType), Jvm.Cond.code ({ cls := "com/example/manyhands/manyhands/crowd/Ordering", name := "<init>", desc := "(Ljava/lang/String;Ljava/lang/String;Ljava/lang/String;)V" } : Jvm.MethodName) prog_26_method_1_code (4 : Nat) (Option.none : Option Jvm.ClassFile.FieldType), Jvm.Cond.code ({ cls := "java/lang/Record", name := "<init>", desc := "()V" } : Jvm.MethodName) jdk_30_method_1_code (1 : Nat) (Option.none : Option Jvm.ClassFile.FieldType), Jvm.Cond.code ({ cls := "java/util/Objects", name := "requireNonNull", desc := "(Ljava/lang/Object;Ljava/lang/String;)Ljava/lang/Object;" } : Jvm.MethodName) jdk_31_method_11_code (2 : Nat) (Option.some (Jvm.ClassFile.FieldType.object "java/lang/Object")), Jvm.Cond.code ({ cls := "com/example/manyhands/manyhands/crowd/OrderingTakesPinLaw", name := "same", desc := "(IIIIII)Z" } : Jvm.MethodName) method_3_code (6 : Nat) (Option.some Jvm.ClassFile.FieldType.boolean), Jvm.Cond.code ({ cls := "com/example/manyhands/manyhands/crowd/Ordering", name := "takes", desc := "(Ljava/lang/String;)Z" } : Jvm.MethodName) prog_26_method_2_code (2 : Nat) (Option.some Jvm.ClassFile.FieldType.boolean), Jvm.Cond.code ({ cls := "java/lang/String", name := "equals", desc := "(Ljava/lang/Object;)Z" } : Jvm.MethodName) jdk_42_method_66_code (3 : Nat) (Option.some Jvm.ClassFile.FieldType.boolean), Jvm.Cond.code ({ cls := "java/lang/StringLatin1", name := "equals", desc := "([B[B)Z" } : Jvm.MethodName) jdk_43_method_13_code (3 : Nat) (Option.some Jvm.ClassFile.FieldType.boolean)]
set_option maxRecDepth 65536 in
theorem codes_eq : words1.filter isCode = codes1 := rfl
theorem w_codes : ∀ c ∈ words1.filter isCode, c.before args0 about1 = true := by
  rw [codes_eq]
  intro c hc
  simp only [codes1, List.mem_cons, List.not_mem_nil, or_false] at hc
  rcases hc with rfl | rfl | rfl | rfl | rfl | rfl | rfl | rfl | rfl | rfl | rfl | rfl | rfl | rfl | rfl | rfl | rfl | rfl | rfl
  · exact w_c0
  · exact w_c1
  · exact w_c2
  · exact w_c3
  · exact w_c4
  · exact w_c5
  · exact w_c6
  · exact w_c7
  · exact w_c8
  · exact w_c9
  · exact w_c10
  · exact w_c11
  · exact w_c12
  · exact w_c13
  · exact w_c14
  · exact w_c15
  · exact w_c16
  · exact w_c17
  · exact w_c18
set_option maxRecDepth 65536 in
theorem w_t1 : (words1.take 24).all (fun c => isCode c || c.before args0 about1) = true := by decide +kernel
set_option maxRecDepth 65536 in
theorem w_t2 : ((words1.drop 24).take 24).all (fun c => isCode c || c.before args0 about1) = true := by decide +kernel
set_option maxRecDepth 65536 in
theorem w_t3 : (((words1.drop 24).drop 24).take 24).all (fun c => isCode c || c.before args0 about1) = true := by decide +kernel
set_option maxRecDepth 65536 in
theorem w_t4 : (((words1.drop 24).drop 24).drop 24).all (fun c => isCode c || c.before args0 about1) = true := by decide +kernel
theorem w_tables : (allAtoms (Jvm.Cond.code x code maxLocals ret :: tables_1)).before args0 about1 = true := by
  rw [allAtoms_all]
  show words1.all (fun c => c.before args0 about1) = true
  refine all_split ?_ w_codes
  rw [← List.take_append_drop 24 words1, List.all_append, w_t1, ← List.take_append_drop 24 (words1.drop 24), List.all_append, w_t2, ← List.take_append_drop 24 ((words1.drop 24).drop 24), List.all_append, w_t3, w_t4]
  rfl
set_option maxRecDepth 65536 in
theorem w_rest : rest_1_c.before args0 about1 = true := by decide +kernel
set_option maxRecDepth 65536 in
theorem w_case : (Jvm.Cond.and given_1 narrow_1).before args0 about1 = true := by decide +kernel
set_option maxRecDepth 65536 in
theorem w_consts : constsHeld consts_1 about1 := Jvm.Lit.constsHeldB_iff.mp (by decide +kernel)
theorem w_applies : (headSpec (Jvm.Cond.code x code maxLocals ret :: tables_1) room_1).applies x e0.platform about1 = true :=
  (Spec.applies_iff w_frames).mpr ⟨w_running, w_runnable, w_alone, w_named, w_hears, w_ripe, w_room, w_tables⟩
theorem atStart : AtStart classFile x code maxLocals ret World_1 tables_1 room_1 Calls_1 rest_1 Pre_1 launch0 p0 e0 about1 theMethod args0 below0 :=
  ⟨lists_1, trivial, launch0.admits_env _ _ _, launch0.least_env, fairChoices_fair.cas, fairChoices_fair.clock, w_frames, w_args, w_heap, w_applies, ⟨w_consts, trivial⟩, w_rest, w_case⟩
end start1
theorem witness_1 : WitnessClaimed_1 := ⟨start1.p0, start1.e0, start1.about1, start1.theMethod, start1.args0, start1.below0, start1.atStart⟩
end Jvm.Pilot.@@N@@
