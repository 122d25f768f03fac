import JvmDerived
import JvmDerived.Pilot.@@N@@Statement
import JvmDerived.Pilot.@@N@@Code
set_option linter.unusedVariables false
set_option linter.unusedSimpArgs false
/- laws to paste: Road.backV, Road.eqW (cut by pick.py; bodies as the Statement names them) -/
namespace Jvm.Pilot.@@N@@
namespace StrChars
open Jvm Sem ClassFile Op Lib Jvm.Stand Jvm.Free.XT Jvm.Free.ALB Jvm.Free.JM Jvm.Free
open Jvm.Lib.Cold (StaticIs)
/-- a char array whose places are chars -/
def Ch (a : Addr) (A : Cell) (U : State) : Prop := Arr .char a A U ∧ Typed .char A
theorem Ch.mv {a : Addr} {A : Cell} {U U' : State} (h : Ch a A U) (hal : U.vm.Alike U'.vm) (hh : U'.heap = U.heap) : Ch a A U' := ⟨h.1.mv hal hh, h.2⟩
theorem Ch.keep {a : Addr} {A : Cell} {U U' : State} (h : Ch a A U) (hal : U.vm.Alike U'.vm) (hk : U'.heap[a]? = some A) : Ch a A U' := ⟨h.1.keep hal hk, h.2⟩
/-- what place i of a char[]'s cell holds -/
def cv (A : Cell) (i : Nat) : Int32 := match A.slots[i]? with | some (.int x) => x | _ => 0
theorem Ch.get {a : Addr} {A : Cell} {U : State} (h : Ch a A U) {i : Nat} (hi : i < A.slots.size) : A.slots[i]? = some (.int (cv A i)) := by
  have e := Array.getElem?_eq_getElem hi
  have f := h.2 i _ e
  unfold cv; rw [e]
  generalize A.slots[i] = v at f
  cases v <;> simp [fits] at f ⊢
/-- the byte that i2b leaves of a char -/
def lo8 (x : Int32) : Int32 := x.toInt8.toInt32
theorem fits_lo8 (y : Int32) : fits .byte (.int (lo8 y)) = true := by
  have h1 := y.toInt8.le_toInt
  have h2 := y.toInt8.toInt_lt
  simp only [lo8, fits, Bool.and_eq_true, decide_eq_true_eq, Int32.le_iff_toInt_le, Int8.toInt_toInt32, show (-128 : Int32).toInt = -128 from by decide, show (127 : Int32).toInt = 127 from by decide]
  omega
/-- A' is A but that each place j of lo .. hi - 1 holds f j -/
def Laid (A A' : Cell) (lo hi : Nat) (f : Nat → Value) : Prop := A'.cls = A.cls ∧ A'.vm = A.vm ∧ A'.slots.size = A.slots.size ∧ ∀ i, A'.slots[i]? = if lo ≤ i ∧ i < hi then some (f i) else A.slots[i]?
theorem Laid.zero (A : Cell) (lo : Nat) (f : Nat → Value) : Laid A A lo (lo + 0) f := ⟨rfl, rfl, rfl, fun i => by rw [if_neg (by omega)]⟩
theorem Laid.step {A Ak : Cell} {lo k : Nat} {f : Nat → Value} {v : Value} (h : Laid A Ak lo k f) (hlo : lo ≤ k) (hk : k < Ak.slots.size) (hv : v = f k) : Laid A (Ak.setSlot k v) lo (k + 1) f := by
  refine ⟨h.1, h.2.1, by simpa [Cell.setSlot] using h.2.2.1, fun i => ?_⟩
  by_cases e : k = i
  · subst e; rw [Cell.slots_setSlot_self v hk, if_pos (by omega), hv]
  · rw [Cell.slots_setSlot_ne v e, h.2.2.2 i]
    by_cases q : lo ≤ i ∧ i < k
    · rw [if_pos q, if_pos (by omega)]
    · rw [if_neg q, if_neg (by omega)]
def U16 : String := "java/lang/StringUTF16"
namespace Cmp5
def yN : MethodName := ⟨"java/lang/StringUTF16", "compress", "([CI[BII)I"⟩
abbrev yB : ByteArray := jdk_52_method_21_code
theorem d0 : decode yB 0 = .ok (.iconst 0, 1) := by decide +kernel
theorem d1 : decode yB 1 = .ok (.istore 5, 2) := by decide +kernel
theorem d3 : decode yB 3 = .ok (.iload 5, 2) := by decide +kernel
theorem d5 : decode yB 5 = .ok (.iload 4, 2) := by decide +kernel
theorem d7 : decode yB 7 = .ok (.if_icmp (.ge) 37, 3) := by decide +kernel
theorem d10 : decode yB 10 = .ok (.aload_n 0, 1) := by decide +kernel
theorem d11 : decode yB 11 = .ok (.iload_n 1, 1) := by decide +kernel
theorem d12 : decode yB 12 = .ok (.caload, 1) := by decide +kernel
theorem d13 : decode yB 13 = .ok (.istore 6, 2) := by decide +kernel
theorem d15 : decode yB 15 = .ok (.iload 6, 2) := by decide +kernel
theorem d17 : decode yB 17 = .ok (.sipush 255, 3) := by decide +kernel
theorem d20 : decode yB 20 = .ok (.if_icmp (.le) 6, 3) := by decide +kernel
theorem d26 : decode yB 26 = .ok (.aload_n 2, 1) := by decide +kernel
theorem d27 : decode yB 27 = .ok (.iload_n 3, 1) := by decide +kernel
theorem d28 : decode yB 28 = .ok (.iload 6, 2) := by decide +kernel
theorem d30 : decode yB 30 = .ok (.i2b, 1) := by decide +kernel
theorem d31 : decode yB 31 = .ok (.bastore, 1) := by decide +kernel
theorem d32 : decode yB 32 = .ok (.iinc 1 1, 3) := by decide +kernel
theorem d35 : decode yB 35 = .ok (.iinc 3 1, 3) := by decide +kernel
theorem d38 : decode yB 38 = .ok (.iinc 5 1, 3) := by decide +kernel
theorem d41 : decode yB 41 = .ok (.goto (-38), 3) := by decide +kernel
theorem d44 : decode yB 44 = .ok (.iload 4, 2) := by decide +kernel
theorem d46 : decode yB 46 = .ok (.ireturn, 1) := by decide +kernel
def site : List Cond := []
def tab : Cond := tabOf yN yB 7 (some .int) site
def P (b : Addr) (A : Cell) (d : Addr) (B : Cell) (o q len : Nat) (args : Array Value) (s : State) : Prop := args = #[.ref b, .int (Int32.ofNat o), .ref d, .int (Int32.ofNat q), .int (Int32.ofNat len)] ∧ Ch b A s ∧ Arr .byte d B s ∧ b ≠ d ∧ o + len ≤ A.slots.size ∧ q + len ≤ B.slots.size ∧ ∀ i, i < len → ¬ 255 < cv A (o + i)
def E (b : Addr) (A : Cell) (d : Addr) (B : Cell) (o q len : Nat) (r : Option Value) (s u : State) : Prop := r = some (.int (Int32.ofNat len)) ∧ ∃ B', Put d B' s u ∧ Laid B B' q (q + len) (fun j => Value.int (lo8 (cv A (o + (j - q)))))
/-- no char of the range above 255: len; the places written hold each char's low byte -/
theorem law (l : Launch) (b : Addr) (A : Cell) (d : Addr) (B : Cell) (o q len : Nat) : Law l yN 5 5 0 0 yB 7 (some .int) site (P b A d B o q len) (E b A d B o q len) (copyLocs d q len) 0 0 := by
  refine Law.of_walk (plainFor_of_name (by decide +kernel)) (by decide +kernel) (by decide +kernel) (by decide) (fun _ _ h => by rw [h.1]; rfl) (fun _ U U' hal hh h => ⟨h.1, h.2.1.mv hal hh, h.2.2.1.mv hal hh, h.2.2.2⟩) (fun r U U' V V' h1 hal h2 h => ⟨h.1, h.2.elim fun B' q => ⟨B', q.1.mv h1 h2, q.2⟩⟩) ?_
  intro p e s m args below meth c s₁ X0 hexec hbytes hml hret hlk hnm hown hh0 W hP
  obtain ⟨rfl, hA, hB, hne, l1, l2, hp⟩ := hP
  have c1 : Steps p.tables e below (s₁.setTop (entryFrame m #[.ref b, .int (Int32.ofNat o), .ref d, .int (Int32.ofNat q), .int (Int32.ofNat len)] 7)) (s₁.setTop (mkF m 0 #[.val (.ref b), .val (.int (Int32.ofNat o)), .val (.ref d), .val (.int (Int32.ofNat q)), .val (.int (Int32.ofNat len)), .unset, .unset] [])) := entry rfl
  have hA0 := hA.1.mv X0.warmed.alike hh0
  have hB0 := hB.mv X0.warmed.alike hh0
  have a31 := hA.1.2.2.2
  have c2 : Steps p.tables e below (s₁.setTop (entryFrame m #[.ref b, .int (Int32.ofNat o), .ref d, .int (Int32.ofNat q), .int (Int32.ofNat len)] 7)) (s₁.setTop (mkF m 3 #[.val (.ref b), .val (.int (Int32.ofNat o)), .val (.ref d), .val (.int (Int32.ofNat q)), .val (.int (Int32.ofNat len)), .val (.int 0), .unset] [])) := c1.trans (by
    refine iconstV X0.here hexec rfl 0 (hb hbytes d0) (by decide) ?_
    refine XS.istore X0.here hexec rfl (hb hbytes d1) rfl rfl ?_
    exact Steps.refl _)
  have loop : ∀ (r i : Nat), i + r = len → ∀ (z : Slot), (z = .unset ∨ ∃ w, z = .val w ∧ w.category = 1) → ∀ (Tl : State) (Bk : Cell), Stand p l e { frames := 0, locals := 0, cells := 0, slots := 0 } s m #[.ref b, .int (Int32.ofNat o), .ref d, .int (Int32.ofNat q), .int (Int32.ofNat len)] below meth c Tl ([] ++ copyLocs d q i) 0 0 → Put d Bk s₁ Tl → Laid B Bk q (q + i) (fun j => Value.int (lo8 (cv A (o + (j - q))))) →
      Steps p.tables e below (s₁.setTop (entryFrame m #[.ref b, .int (Int32.ofNat o), .ref d, .int (Int32.ofNat q), .int (Int32.ofNat len)] 7)) (Tl.setTop (mkF m 3 #[.val (.ref b), .val (.int (Int32.ofNat (o + i))), .val (.ref d), .val (.int (Int32.ofNat (q + i))), .val (.int (Int32.ofNat len)), .val (.int (Int32.ofNat i)), z] [])) → ∃ (T' : State) (B' : Cell) (z' : Slot), Stand p l e { frames := 0, locals := 0, cells := 0, slots := 0 } s m #[.ref b, .int (Int32.ofNat o), .ref d, .int (Int32.ofNat q), .int (Int32.ofNat len)] below meth c T' ([] ++ copyLocs d q len) 0 0 ∧ Put d B' s₁ T' ∧ Laid B B' q (q + len) (fun j => Value.int (lo8 (cv A (o + (j - q))))) ∧
      Steps p.tables e below (s₁.setTop (entryFrame m #[.ref b, .int (Int32.ofNat o), .ref d, .int (Int32.ofNat q), .int (Int32.ofNat len)] 7)) (T'.setTop (mkF m 3 #[.val (.ref b), .val (.int (Int32.ofNat (o + len))), .val (.ref d), .val (.int (Int32.ofNat (q + len))), .val (.int (Int32.ofNat len)), .val (.int (Int32.ofNat len)), z'] [])) := by
    intro r
    induction r with
    | zero =>
      intro i hi z hz Tl Bk Xl pl fl cl
      have hil : i = len := by omega
      rw [hil] at Xl fl cl
      exact ⟨Tl, Bk, z, Xl, pl, fl, cl⟩
    | succ r ih =>
      intro i hi z hz Tl Bk Xl pl fl cl
      have all := X0.warmed.alike.symm.trans Xl.warmed.alike
      have hAl := hA0.keep all (pl.other hne hA0.1)
      have hBk := hB0.like all pl.1 fl.1 fl.2.1 fl.2.2.1
      have hlt : q + i < Bk.slots.size := by rw [fl.2.2.1]; omega
      have c3 : Steps p.tables e below (s₁.setTop (entryFrame m #[.ref b, .int (Int32.ofNat o), .ref d, .int (Int32.ofNat q), .int (Int32.ofNat len)] 7)) (Tl.setTop (mkF m 12 #[.val (.ref b), .val (.int (Int32.ofNat (o + i))), .val (.ref d), .val (.int (Int32.ofNat (q + i))), .val (.int (Int32.ofNat len)), .val (.int (Int32.ofNat i)), z] [.int (Int32.ofNat (o + i)), .ref b])) := cl.trans (by
        refine XS.iload Xl.here hexec rfl (hb hbytes d3) rfl ?_
        refine XS.iload Xl.here hexec rfl (hb hbytes d5) rfl ?_
        refine XS.icmpNo Xl.here hexec rfl (hb hbytes d7) rfl (ii_ge_f (lt32 (by omega) (by omega))) ?_
        refine XS.aloadN Xl.here hexec rfl (hb hbytes d10) rfl rfl ?_
        refine XS.iloadN Xl.here hexec rfl (hb hbytes d11) rfl ?_
        exact Steps.refl _)
      have c4 : Steps p.tables e below (s₁.setTop (entryFrame m #[.ref b, .int (Int32.ofNat o), .ref d, .int (Int32.ofNat q), .int (Int32.ofNat len)] 7)) (Tl.setTop (mkF m 13 #[.val (.ref b), .val (.int (Int32.ofNat (o + i))), .val (.ref d), .val (.int (Int32.ofNat (q + i))), .val (.int (Int32.ofNat len)), .val (.int (Int32.ofNat i)), z] [.int (cv A (o + i))])) := c3.trans (by
        refine Xl.aget hexec hAl rfl (hA.get (i := o + i) (by omega)) rfl rfl (hb hbytes d12) ?_
        exact Steps.refl _)
      have c5 : Steps p.tables e below (s₁.setTop (entryFrame m #[.ref b, .int (Int32.ofNat o), .ref d, .int (Int32.ofNat q), .int (Int32.ofNat len)] 7)) (Tl.setTop (mkF m 15 #[.val (.ref b), .val (.int (Int32.ofNat (o + i))), .val (.ref d), .val (.int (Int32.ofNat (q + i))), .val (.int (Int32.ofNat len)), .val (.int (Int32.ofNat i)), .val (.int (cv A (o + i)))] [])) := c4.trans (by
        refine XS.istoreS Xl.here hexec rfl (hb hbytes d13) rfl rfl hz ?_
        exact Steps.refl _)
      have c6 : Steps p.tables e below (s₁.setTop (entryFrame m #[.ref b, .int (Int32.ofNat o), .ref d, .int (Int32.ofNat q), .int (Int32.ofNat len)] 7)) (Tl.setTop (mkF m 31 #[.val (.ref b), .val (.int (Int32.ofNat (o + i))), .val (.ref d), .val (.int (Int32.ofNat (q + i))), .val (.int (Int32.ofNat len)), .val (.int (Int32.ofNat i)), .val (.int (cv A (o + i)))] [.int (lo8 (cv A (o + i))), .int (Int32.ofNat (q + i)), .ref d])) := c5.trans (by
        refine XS.iload Xl.here hexec rfl (hb hbytes d15) rfl ?_
        refine sipushV Xl.here hexec rfl 255 (hb hbytes d17) (by decide) ?_
        refine XS.icmpYes Xl.here hexec rfl (pc0 := 20) rfl (hb hbytes d20) rfl (ii_le_t (hp i (by omega))) (by decide) rfl ?_
        refine XS.aloadN Xl.here hexec rfl (hb hbytes d26) rfl rfl ?_
        refine XS.iloadN Xl.here hexec rfl (hb hbytes d27) rfl ?_
        refine XS.iload Xl.here hexec rfl (hb hbytes d28) rfl ?_
        refine i2b Xl.here hexec rfl (hb hbytes d30) rfl ?_
        exact Steps.refl _)
      obtain ⟨T7, X7, p7, st7⟩ := Xl.aput hexec hBk rfl hlt rfl (fits_lo8 (cv A (o + i))) (g := (mkF m 31 #[.val (.ref b), .val (.int (Int32.ofNat (o + i))), .val (.ref d), .val (.int (Int32.ofNat (q + i))), .val (.int (Int32.ofNat len)), .val (.int (Int32.ofNat i)), .val (.int (cv A (o + i)))] [.int (lo8 (cv A (o + i))), .int (Int32.ofNat (q + i)), .ref d])) rfl (rest := []) rfl (hb hbytes d31)
      have c8 : Steps p.tables e below (s₁.setTop (entryFrame m #[.ref b, .int (Int32.ofNat o), .ref d, .int (Int32.ofNat q), .int (Int32.ofNat len)] 7)) (T7.setTop (mkF m 32 #[.val (.ref b), .val (.int (Int32.ofNat (o + i))), .val (.ref d), .val (.int (Int32.ofNat (q + i))), .val (.int (Int32.ofNat len)), .val (.int (Int32.ofNat i)), .val (.int (cv A (o + i)))] [])) := c6.trans (st7 _ (Steps.refl _))
      have c9 : Steps p.tables e below (s₁.setTop (entryFrame m #[.ref b, .int (Int32.ofNat o), .ref d, .int (Int32.ofNat q), .int (Int32.ofNat len)] 7)) (T7.setTop (mkF m 3 #[.val (.ref b), .val (.int (Int32.ofNat (o + i) + 1)), .val (.ref d), .val (.int (Int32.ofNat (q + i) + 1)), .val (.int (Int32.ofNat len)), .val (.int (Int32.ofNat i + 1)), .val (.int (cv A (o + i)))] [])) := c8.trans (by
        refine iincV X7.here hexec rfl 1 (hb hbytes d32) (by decide) rfl rfl ?_
        refine iincV X7.here hexec rfl 1 (hb hbytes d35) (by decide) rfl rfl ?_
        refine iincV X7.here hexec rfl 1 (hb hbytes d38) (by decide) rfl rfl ?_
        refine XS.goto X7.here hexec rfl (pc0 := 41) rfl (hb hbytes d41) (by decide) rfl ?_
        exact Steps.refl _)
      have c10 : Steps p.tables e below (s₁.setTop (entryFrame m #[.ref b, .int (Int32.ofNat o), .ref d, .int (Int32.ofNat q), .int (Int32.ofNat len)] 7)) (T7.setTop (mkF m 3 #[.val (.ref b), .val (.int (Int32.ofNat (o + (i + 1)))), .val (.ref d), .val (.int (Int32.ofNat (q + (i + 1)))), .val (.int (Int32.ofNat len)), .val (.int (Int32.ofNat (i + 1))), .val (.int (cv A (o + i)))] [])) := by
        have := c9
        rw [succ32, succ32, succ32] at this
        exact this
      exact ih (i + 1) (by omega) _ (Or.inr ⟨_, rfl, rfl⟩) T7 _ (by rw [copyLocs_step, ← List.append_assoc]; exact X7) (pl.trans p7) (fl.step (by omega) hlt (by simp)) c10
  obtain ⟨T9, B9, z9, X9, p9, f9, g9⟩ := loop len 0 (by omega) .unset (Or.inl rfl) s₁ B (by simpa [copyLocs] using X0) ⟨hB0.1, fun _ _ => rfl, rfl⟩ (Laid.zero _ _ _) c2
  have c11 : Steps p.tables e below (s₁.setTop (entryFrame m #[.ref b, .int (Int32.ofNat o), .ref d, .int (Int32.ofNat q), .int (Int32.ofNat len)] 7)) (T9.setTop (mkF m 46 #[.val (.ref b), .val (.int (Int32.ofNat (o + len))), .val (.ref d), .val (.int (Int32.ofNat (q + len))), .val (.int (Int32.ofNat len)), .val (.int (Int32.ofNat len)), z9] [.int (Int32.ofNat len)])) := g9.trans (by
    refine XS.iload X9.here hexec rfl (hb hbytes d3) rfl ?_
    refine XS.iload X9.here hexec rfl (hb hbytes d5) rfl ?_
    refine XS.icmpYes X9.here hexec rfl (pc0 := 7) rfl (hb hbytes d7) rfl (ii_ge_t (nlt32 (by omega) (Nat.le_refl _))) (by decide) rfl ?_
    refine XS.iload X9.here hexec rfl (hb hbytes d44) rfl ?_
    exact Steps.refl _)
  exact ⟨T9, some (.int (Int32.ofNat len)), _, _, _, X9, by simp, rfl, rfl, (fun h => by cases h), ⟨rfl, B9, p9.from hh0, f9⟩, fun fs hl => c11.trans (X9.ireturnOut hexec hret rfl (Or.inl rfl) (hb hbytes d46) hl)⟩
end Cmp5
namespace Cmp3
def yN : MethodName := ⟨"java/lang/StringUTF16", "compress", "([CII)[B"⟩
abbrev yB : ByteArray := jdk_52_method_16_code
theorem d0 : decode yB 0 = .ok (.iload_n 2, 1) := by decide +kernel
theorem d1 : decode yB 1 = .ok (.newarray .byte, 2) := by decide +kernel
theorem d3 : decode yB 3 = .ok (.astore_n 3, 1) := by decide +kernel
theorem d4 : decode yB 4 = .ok (.aload_n 0, 1) := by decide +kernel
theorem d5 : decode yB 5 = .ok (.iload_n 1, 1) := by decide +kernel
theorem d6 : decode yB 6 = .ok (.aload_n 3, 1) := by decide +kernel
theorem d7 : decode yB 7 = .ok (.iconst 0, 1) := by decide +kernel
theorem d8 : decode yB 8 = .ok (.iload_n 2, 1) := by decide +kernel
theorem d9 : decode yB 9 = .ok (.invokestatic 115, 3) := by decide +kernel
theorem d12 : decode yB 12 = .ok (.istore 4, 2) := by decide +kernel
theorem d14 : decode yB 14 = .ok (.iload 4, 2) := by decide +kernel
theorem d16 : decode yB 16 = .ok (.iload_n 2, 1) := by decide +kernel
theorem d17 : decode yB 17 = .ok (.if_icmp (.eq) 40, 3) := by decide +kernel
theorem d57 : decode yB 57 = .ok (.aload_n 3, 1) := by decide +kernel
theorem d58 : decode yB 58 = .ok (.areturn, 1) := by decide +kernel
def site : List Cond := [.arrayClass .byte, Cmp5.tab] ++ staticW U16 115 Cmp5.yN
def tab : Cond := tabOf yN yB 6 (some (.array .byte)) site
def P (b : Addr) (A : Cell) (o len : Nat) (args : Array Value) (s : State) : Prop := args = #[.ref b, .int (Int32.ofNat o), .int (Int32.ofNat len)] ∧ Ch b A s ∧ o + len ≤ A.slots.size ∧ len ≤ 536870912 ∧ ∀ i, i < len → ¬ 255 < cv A (o + i)
def E (b : Addr) (A : Cell) (o len : Nat) (r : Option Value) (s u : State) : Prop := NewArr .byte "[B" len (fun j => .int (lo8 (cv A (o + j)))) r s u ∧ u.heap.size = s.heap.size + 1
/-- no char of the range above 255: a new byte[] of their low bytes -/
theorem law (l : Launch) (b : Addr) (A : Cell) (o len : Nat) : Law l yN 3 3 1 18 yB 6 (some (.array .byte)) site (P b A o len) (E b A o len) [] 1 len := by
  refine Law.of_walk (plainFor_of_name (by decide +kernel)) (by decide +kernel) (by decide +kernel) (by decide) (fun _ _ h => by rw [h.1]; rfl) (fun _ U U' hal hh h => ⟨h.1, h.2.1.mv hal hh, h.2.2⟩) (fun r U U' V V' h1 hal h2 h => ⟨NewArr.mv r U U' V V' h1 hal h2 h.1, by rw [h1, h2]; exact h.2⟩) ?_
  intro p e s m args below meth c s₁ X0 hexec hbytes hml hret hlk hnm hown hh0 W hP
  obtain ⟨rfl, hA, l1, l2, hp⟩ := hP
  have a31 := hA.1.2.2.2
  have c1 : Steps p.tables e below (s₁.setTop (entryFrame m #[.ref b, .int (Int32.ofNat o), .int (Int32.ofNat len)] 6)) (s₁.setTop (mkF m 0 #[.val (.ref b), .val (.int (Int32.ofNat o)), .val (.int (Int32.ofNat len)), .unset, .unset, .unset] [])) := entry rfl
  have c2 : Steps p.tables e below (s₁.setTop (entryFrame m #[.ref b, .int (Int32.ofNat o), .int (Int32.ofNat len)] 6)) (s₁.setTop (mkF m 1 #[.val (.ref b), .val (.int (Int32.ofNat o)), .val (.int (Int32.ofNat len)), .unset, .unset, .unset] [.int (Int32.ofNat len)])) := c1.trans (by
    refine XS.iloadN X0.here hexec rfl (hb hbytes d0) rfl ?_
    exact Steps.refl _)
  obtain ⟨T3, B3, X3, ba3, bs3, bv3, bh3, bf3, st3⟩ := X0.anew hexec (atype := .byte) (wk W (.arrayClass .byte)) rfl (by show len * 1 ≤ _; omega) (by omega) (g := (mkF m 1 #[.val (.ref b), .val (.int (Int32.ofNat o)), .val (.int (Int32.ofNat len)), .unset, .unset, .unset] [.int (Int32.ofNat len)])) rfl (hb hbytes d1) (rest := []) rfl (Nat.le_refl _) (by show 0 + len ≤ len; omega)
  rw [hh0] at ba3 st3
  have kp3 : XT.Kept s T3 := (XT.Kept.of_eq hh0).push bh3
  have hA3 := hA.keep X3.warmed.alike (kp3 _ _ hA.1.1)
  have hne : b ≠ s.heap.size := hA.1.ne
  have c4 : Steps p.tables e below (s₁.setTop (entryFrame m #[.ref b, .int (Int32.ofNat o), .int (Int32.ofNat len)] 6)) (T3.setTop (mkF m 3 #[.val (.ref b), .val (.int (Int32.ofNat o)), .val (.int (Int32.ofNat len)), .unset, .unset, .unset] [.ref s.heap.size])) := c2.trans (st3 _ (Steps.refl _))
  have c5 : Steps p.tables e below (s₁.setTop (entryFrame m #[.ref b, .int (Int32.ofNat o), .int (Int32.ofNat len)] 6)) (T3.setTop (mkF m 9 #[.val (.ref b), .val (.int (Int32.ofNat o)), .val (.int (Int32.ofNat len)), .val (.ref s.heap.size), .unset, .unset] [.int (Int32.ofNat len), .int 0, .ref s.heap.size, .int (Int32.ofNat o), .ref b])) := c4.trans (by
    refine XS.astoreN X3.here hexec rfl (hb hbytes d3) rfl rfl rfl ?_
    refine XS.aloadN X3.here hexec rfl (hb hbytes d4) rfl rfl ?_
    refine XS.iloadN X3.here hexec rfl (hb hbytes d5) rfl ?_
    refine XS.aloadN X3.here hexec rfl (hb hbytes d6) rfl rfl ?_
    refine iconstV X3.here hexec rfl 0 (hb hbytes d7) (by decide) ?_
    refine XS.iloadN X3.here hexec rfl (hb hbytes d8) rfl ?_
    exact Steps.refl _)
  obtain ⟨v6, T6, X6, E6, g6⟩ := X3.callS hexec (Cmp5.law l b A s.heap.size B3 o 0 len) hown (wks W (staticW U16 115 Cmp5.yN)) (wk W Cmp5.tab) (W := 0) (Nat.le_of_ble_eq_true rfl) (Nat.le_of_ble_eq_true rfl) (Nat.le_refl _) (by show 0 + len + 0 ≤ len; omega) (g := (mkF m 9 #[.val (.ref b), .val (.int (Int32.ofNat o)), .val (.int (Int32.ofNat len)), .val (.ref s.heap.size), .unset, .unset] [.int (Int32.ofNat len), .int (Int32.ofNat 0), .ref s.heap.size, .int (Int32.ofNat o), .ref b])) rfl (by rw [hml]; rfl) c5 (argsL := [.ref b, .int (Int32.ofNat o), .ref s.heap.size, .int (Int32.ofNat 0), .int (Int32.ofNat len)]) (rest := []) rfl rfl (by show 2 * 0 + 0 ≤ _; decide) (hb hbytes d9) (⟨rfl, hA3, ba3, hne, l1, by rw [bs3]; simp, hp⟩)
  obtain ⟨rfl, B6, p6, f6⟩ := E6
  have c7 : Steps p.tables e below (s₁.setTop (entryFrame m #[.ref b, .int (Int32.ofNat o), .int (Int32.ofNat len)] 6)) (T6.setTop (mkF m 12 #[.val (.ref b), .val (.int (Int32.ofNat o)), .val (.int (Int32.ofNat len)), .val (.ref s.heap.size), .unset, .unset] [.int (Int32.ofNat len)])) := g6
  have c8 : Steps p.tables e below (s₁.setTop (entryFrame m #[.ref b, .int (Int32.ofNat o), .int (Int32.ofNat len)] 6)) (T6.setTop (mkF m 58 #[.val (.ref b), .val (.int (Int32.ofNat o)), .val (.int (Int32.ofNat len)), .val (.ref s.heap.size), .val (.int (Int32.ofNat len)), .unset] [.ref s.heap.size])) := c7.trans (by
    refine XS.istore X6.here hexec rfl (hb hbytes d12) rfl rfl ?_
    refine XS.iload X6.here hexec rfl (hb hbytes d14) rfl ?_
    refine XS.iloadN X6.here hexec rfl (hb hbytes d16) rfl ?_
    refine XS.icmpYes X6.here hexec rfl (pc0 := 17) rfl (hb hbytes d17) rfl (ii_eq_t rfl) (by decide) rfl ?_
    refine XS.aloadN X6.here hexec rfl (hb hbytes d57) rfl rfl ?_
    exact Steps.refl _)
  have X8 := X6.wide (L' := []) (cells' := 1) (slots' := len) (fun x hx hlt => by
    simp only [List.nil_append, copyLocs, List.mem_map, List.mem_range] at hx
    obtain ⟨i, -, rfl⟩ := hx
    exact absurd hlt (Nat.lt_irrefl _)) (Nat.le_refl _) (by omega)
  exact ⟨T6, some (.ref s.heap.size), _, _, _, X8, rfl, rfl, rfl, (fun h => by cases h), ⟨⟨rfl, B6, ba3.like (X3.warmed.alike.symm.trans X6.warmed.alike) p6.1 f6.1 f6.2.1 f6.2.2.1, f6.2.1.trans bv3, by rw [X6.warmed.alike.findClass, f6.1]; exact bf3, by rw [f6.2.2.1, bs3]; simp, fun j hj => by rw [f6.2.2.2 j, if_pos (by omega)]; rfl, kp3.put p6 (Nat.le_refl _)⟩, by rw [p6.2.2, bh3, hh0]; simp⟩, fun fs hl => c8.trans (X8.areturnOut hexec rfl hret rfl (hb hbytes d58) hl)⟩
end Cmp3
namespace CodL
def yN : MethodName := ⟨"java/lang/StringUTF16", "coderFromArrayLen", "([BI)B"⟩
abbrev yB : ByteArray := jdk_52_method_15_code
theorem d0 : decode yB 0 = .ok (.iload_n 1, 1) := by decide +kernel
theorem d1 : decode yB 1 = .ok (.aload_n 0, 1) := by decide +kernel
theorem d2 : decode yB 2 = .ok (.arraylength, 1) := by decide +kernel
theorem d3 : decode yB 3 = .ok (.isub, 1) := by decide +kernel
theorem d4 : decode yB 4 = .ok (.bipush 31, 2) := by decide +kernel
theorem d6 : decode yB 6 = .ok (.iushr, 1) := by decide +kernel
theorem d7 : decode yB 7 = .ok (.i2b, 1) := by decide +kernel
theorem d8 : decode yB 8 = .ok (.ireturn, 1) := by decide +kernel
def site : List Cond := []
def tab : Cond := tabOf yN yB 2 (some .byte) site
def P (d : Addr) (B : Cell) (args : Array Value) (s : State) : Prop := args = #[.ref d, .int (Int32.ofNat B.slots.size)] ∧ Arr .byte d B s
def E (r : Option Value) (s u : State) : Prop := XT.PureE (some (.int 0)) r s u
/-- an array as long as the number of chars: LATIN1 -/
theorem law (l : Launch) (d : Addr) (B : Cell) : Law l yN 2 2 0 0 yB 2 (some .byte) site (P d B) E [] 0 0 := by
  refine Law.of_walk (plainFor_of_name (by decide +kernel)) (by decide +kernel) (by decide +kernel) (by decide) (fun _ _ h => by rw [h.1]; rfl) (fun _ U U' hal hh h => ⟨h.1, h.2.mv hal hh⟩) (fun r U U' V V' h1 hal h2 h => XT.PureE.mv r U U' V V' h1 hal h2 h) ?_
  intro p e s m args below meth c s₁ X0 hexec hbytes hml hret hlk hnm hown hh0 W hP
  obtain ⟨rfl, hB⟩ := hP
  have hB0 := hB.mv X0.warmed.alike hh0
  have c1 : Steps p.tables e below (s₁.setTop (entryFrame m #[.ref d, .int (Int32.ofNat B.slots.size)] 2)) (s₁.setTop (mkF m 0 #[.val (.ref d), .val (.int (Int32.ofNat B.slots.size))] [])) := entry rfl
  have c2 : Steps p.tables e below (s₁.setTop (entryFrame m #[.ref d, .int (Int32.ofNat B.slots.size)] 2)) (s₁.setTop (mkF m 2 #[.val (.ref d), .val (.int (Int32.ofNat B.slots.size))] [.ref d, .int (Int32.ofNat B.slots.size)])) := c1.trans (by
    refine XS.iloadN X0.here hexec rfl (hb hbytes d0) rfl ?_
    refine XS.aloadN X0.here hexec rfl (hb hbytes d1) rfl rfl ?_
    exact Steps.refl _)
  have c3 : Steps p.tables e below (s₁.setTop (entryFrame m #[.ref d, .int (Int32.ofNat B.slots.size)] 2)) (s₁.setTop (mkF m 8 #[.val (.ref d), .val (.int (Int32.ofNat B.slots.size))] [.int (lo8 (ushr (Int32.ofNat B.slots.size - Int32.ofNat B.slots.size) 31))])) := c2.trans (by
    refine X0.alen hexec hB0 rfl rfl (hb hbytes d2) ?_
    refine XS.isub X0.here hexec rfl (hb hbytes d3) rfl ?_
    refine bipushV X0.here hexec rfl 31 (hb hbytes d4) (by decide) ?_
    refine iushr X0.here hexec rfl (hb hbytes d6) rfl ?_
    refine i2b X0.here hexec rfl (hb hbytes d7) rfl ?_
    exact Steps.refl _)
  have e0 : lo8 (ushr (Int32.ofNat B.slots.size - Int32.ofNat B.slots.size) 31) = 0 := by rw [Int32.sub_self]; decide
  rw [e0] at c3
  exact ⟨s₁, some (.int 0), _, _, _, X0, rfl, rfl, rfl, (fun h => by cases h), ⟨rfl, hh0⟩, fun fs hl => c3.trans (X0.ireturnOut hexec hret rfl (Or.inr (Or.inr (Or.inl rfl))) (hb hbytes d8) hl)⟩
end CodL
/-- the String at a is Latin-1 over a new byte[] (the heap's one new cell): the low bytes of the len chars of A from o on; every cell but a is kept -/
def Got (a : Addr) (D : Cell) (fV fC : Field) (A : Cell) (o len : Nat) (r : Option Value) (s u : State) : Prop := r = none ∧ ∃ D' V : Cell, Blank "java/lang/String" a D' u ∧ Same D D' [fV.slot, fC.slot] ∧ D'.slots[fV.slot]? = some (.ref s.heap.size) ∧ D'.slots[fC.slot]? = some (.int 0) ∧ Arr .byte s.heap.size V u ∧ V.vm = .none ∧ u.vm.findClass "[B" = some V.cls ∧ V.slots.size = len ∧ (∀ j, j < len → V.slots[j]? = some (.int (lo8 (cv A (o + j))))) ∧ (∀ (y : Addr) (c : Cell), y ≠ a → s.heap[y]? = some c → u.heap[y]? = some c) ∧ u.heap.size = s.heap.size + 1
theorem Got.mv {a : Addr} {D A : Cell} {fV fC : Field} {o len : Nat} : ∀ r (U U' V V' : State), U'.heap = U.heap → V.vm.Alike V'.vm → V'.heap = V.heap → Got a D fV fC A o len r U V → Got a D fV fC A o len r U' V' :=
  fun r U U' V V' h1 hal h2 ⟨e0, D', X, a1, a2, a3, a4, a5, a6, a7, a8, a9, a10, a11⟩ => ⟨e0, D', X, a1.mv hal h2, a2, by rw [h1]; exact a3, a4, by rw [h1]; exact a5.mv hal h2, a6, by rw [hal.findClass]; exact a7, a8, a9, by rw [h1, h2]; exact a10, by rw [h1, h2]; exact a11⟩
namespace New4
def yN : MethodName := ⟨"java/lang/String", "<init>", "([CIILjava/lang/Void;)V"⟩
abbrev yB : ByteArray := jdk_42_method_149_code
theorem d0 : decode yB 0 = .ok (.aload_n 0, 1) := by decide +kernel
theorem d1 : decode yB 1 = .ok (.invokespecial 1, 3) := by decide +kernel
theorem d4 : decode yB 4 = .ok (.iload_n 3, 1) := by decide +kernel
theorem d5 : decode yB 5 = .ok (.ifCond (.ne) 22, 3) := by decide +kernel
theorem d27 : decode yB 27 = .ok (.getstatic 38, 3) := by decide +kernel
theorem d30 : decode yB 30 = .ok (.ifCond (.eq) 28, 3) := by decide +kernel
theorem d33 : decode yB 33 = .ok (.aload_n 1, 1) := by decide +kernel
theorem d34 : decode yB 34 = .ok (.iload_n 2, 1) := by decide +kernel
theorem d35 : decode yB 35 = .ok (.iload_n 3, 1) := by decide +kernel
theorem d36 : decode yB 36 = .ok (.invokestatic 177, 3) := by decide +kernel
theorem d39 : decode yB 39 = .ok (.astore 5, 2) := by decide +kernel
theorem d41 : decode yB 41 = .ok (.aload_n 0, 1) := by decide +kernel
theorem d42 : decode yB 42 = .ok (.aload 5, 2) := by decide +kernel
theorem d44 : decode yB 44 = .ok (.iload_n 3, 1) := by decide +kernel
theorem d45 : decode yB 45 = .ok (.invokestatic 47, 3) := by decide +kernel
theorem d48 : decode yB 48 = .ok (.putfield 15, 3) := by decide +kernel
theorem d51 : decode yB 51 = .ok (.aload_n 0, 1) := by decide +kernel
theorem d52 : decode yB 52 = .ok (.aload 5, 2) := by decide +kernel
theorem d54 : decode yB 54 = .ok (.putfield 9, 3) := by decide +kernel
theorem d57 : decode yB 57 = .ok (.return_, 1) := by decide +kernel
def site : List Cond := [.fieldLink "java/lang/String" 38 "java/lang/String" "COMPACT_STRINGS" "Z", Cmp3.tab, CodL.tab, .laysFinal "java/lang/String" "java/lang/String" "value" "[B", .fieldLink "java/lang/String" 9 "java/lang/String" "value" "[B", .laysFinal "java/lang/String" "java/lang/String" "coder" "B", .fieldLink "java/lang/String" 15 "java/lang/String" "coder" "B"] ++ objW "java/lang/String" 1 ++ staticW "java/lang/String" 177 Cmp3.yN ++ staticW "java/lang/String" 47 CodL.yN
def tab : Cond := tabOf yN yB 6 none site
def P (a : Addr) (D : Cell) (fV fC : Field) (b : Addr) (A : Cell) (z : Int32) (o len : Nat) (args : Array Value) (s : State) : Prop := args = #[.ref a, .ref b, .int (Int32.ofNat o), .int (Int32.ofNat len), .null] ∧ Blank "java/lang/String" a D s ∧ Found "java/lang/String" "value" "[B" fV s ∧ Found "java/lang/String" "coder" "B" fC s ∧ Ch b A s ∧ StaticIs s "java/lang/String" "COMPACT_STRINGS" "Z" (.int z) ∧ ¬ z = 0 ∧ 0 < len ∧ o + len ≤ A.slots.size ∧ len ≤ 536870912 ∧ ∀ i, i < len → ¬ 255 < cv A (o + i)
def E (a : Addr) (D : Cell) (fV fC : Field) (A : Cell) (o len : Nat) (r : Option Value) (s u : State) : Prop := Got a D fV fC A o len r s u
/-- len > 0, no char of the range above 255: a Latin-1 String of their low bytes -/
theorem law (l : Launch) (a : Addr) (D : Cell) (fV fC : Field) (b : Addr) (A : Cell) (z : Int32) (o len : Nat) : Law l yN 5 4 2 35 yB 6 none site (P a D fV fC b A z o len) (E a D fV fC A o len) [⟨a, fC.slot⟩, ⟨a, fV.slot⟩] 1 len := by
  refine Law.of_walk (plainFor_of_name (by decide +kernel)) (by decide +kernel) (by decide +kernel) (by decide) (fun _ _ h => by rw [h.1]; rfl) (fun _ U U' hal hh h => ⟨h.1, h.2.1.mv hal hh, h.2.2.1.al hal, h.2.2.2.1.al hal, h.2.2.2.2.1.mv hal hh, h.2.2.2.2.2.1.there hal hh, h.2.2.2.2.2.2⟩) (fun r U U' V V' h1 hal h2 h => Got.mv r U U' V V' h1 hal h2 h) ?_
  intro p e s m args below meth c s₁ X0 hexec hbytes hml hret hlk hnm hown hh0 W hP
  obtain ⟨rfl, hB, f1, f2, hA, s1, hz, l0, l1, l2, hp⟩ := hP
  have a31 := hA.1.2.2.2
  have c1 : Steps p.tables e below (s₁.setTop (entryFrame m #[.ref a, .ref b, .int (Int32.ofNat o), .int (Int32.ofNat len), .null] 6)) (s₁.setTop (mkF m 0 #[.val (.ref a), .val (.ref b), .val (.int (Int32.ofNat o)), .val (.int (Int32.ofNat len)), .val .null, .unset] [])) := entry rfl
  have c2 : Steps p.tables e below (s₁.setTop (entryFrame m #[.ref a, .ref b, .int (Int32.ofNat o), .int (Int32.ofNat len), .null] 6)) (s₁.setTop (mkF m 1 #[.val (.ref a), .val (.ref b), .val (.int (Int32.ofNat o)), .val (.int (Int32.ofNat len)), .val .null, .unset] [.ref a])) := c1.trans (by
    refine XS.aloadN X0.here hexec rfl (hb hbytes d0) rfl rfl ?_
    exact Steps.refl _)
  obtain ⟨T3, X3, q3, st3⟩ := X0.oinit hexec hown (wks W (objW "java/lang/String" 1)) (g := (mkF m 1 #[.val (.ref a), .val (.ref b), .val (.int (Int32.ofNat o)), .val (.int (Int32.ofNat len)), .val .null, .unset] [.ref a])) rfl (by rw [hml]; rfl) (rest := []) rfl (hb hbytes d1) (W := 0) (by show 2 * 0 + 0 ≤ _; decide) (Nat.le_of_ble_eq_true rfl) (Nat.le_of_ble_eq_true rfl)
  have hh3 := q3.trans hh0
  have c4 : Steps p.tables e below (s₁.setTop (entryFrame m #[.ref a, .ref b, .int (Int32.ofNat o), .int (Int32.ofNat len), .null] 6)) (T3.setTop (mkF m 27 #[.val (.ref a), .val (.ref b), .val (.int (Int32.ofNat o)), .val (.int (Int32.ofNat len)), .val .null, .unset] [])) := (c2.trans (st3 _ (Steps.refl _))).trans (by
    refine XS.iloadN X3.here hexec rfl (hb hbytes d4) rfl ?_
    refine XS.ifYes X3.here hexec rfl (pc0 := 5) rfl (hb hbytes d5) rfl (i0_ne_t (nz32 (by omega) l0)) (by decide) rfl ?_
    exact Steps.refl _)
  obtain ⟨T5, X5, q5, st5⟩ := X3.sget hexec hown (wk W (.fieldLink "java/lang/String" 38 "java/lang/String" "COMPACT_STRINGS" "Z")) s1 (fun _ _ h => by rw [hh3]; exact h) (g := (mkF m 27 #[.val (.ref a), .val (.ref b), .val (.int (Int32.ofNat o)), .val (.int (Int32.ofNat len)), .val .null, .unset] [])) rfl (hb hbytes d27)
  have hh5 := q5.trans hh3
  have c6 : Steps p.tables e below (s₁.setTop (entryFrame m #[.ref a, .ref b, .int (Int32.ofNat o), .int (Int32.ofNat len), .null] 6)) (T5.setTop (mkF m 30 #[.val (.ref a), .val (.ref b), .val (.int (Int32.ofNat o)), .val (.int (Int32.ofNat len)), .val .null, .unset] [.int z])) := c4.trans (st5 _ (Steps.refl _))
  have c7 : Steps p.tables e below (s₁.setTop (entryFrame m #[.ref a, .ref b, .int (Int32.ofNat o), .int (Int32.ofNat len), .null] 6)) (T5.setTop (mkF m 36 #[.val (.ref a), .val (.ref b), .val (.int (Int32.ofNat o)), .val (.int (Int32.ofNat len)), .val .null, .unset] [.int (Int32.ofNat len), .int (Int32.ofNat o), .ref b])) := c6.trans (by
    refine XS.ifNo X5.here hexec rfl (hb hbytes d30) rfl (i0_eq_f hz) ?_
    refine XS.aloadN X5.here hexec rfl (hb hbytes d33) rfl rfl ?_
    refine XS.iloadN X5.here hexec rfl (hb hbytes d34) rfl ?_
    refine XS.iloadN X5.here hexec rfl (hb hbytes d35) rfl ?_
    exact Steps.refl _)
  obtain ⟨v8, T8, X8, E8, g8⟩ := X5.callS hexec (Cmp3.law l b A o len) hown (wks W (staticW "java/lang/String" 177 Cmp3.yN)) (wk W Cmp3.tab) (W := 0) (Nat.le_of_ble_eq_true rfl) (Nat.le_of_ble_eq_true rfl) (Nat.le_refl _) (by show 0 + len ≤ len; omega) (g := (mkF m 36 #[.val (.ref a), .val (.ref b), .val (.int (Int32.ofNat o)), .val (.int (Int32.ofNat len)), .val .null, .unset] [.int (Int32.ofNat len), .int (Int32.ofNat o), .ref b])) rfl (by rw [hml]; rfl) c7 (argsL := [.ref b, .int (Int32.ofNat o), .int (Int32.ofNat len)]) (rest := []) rfl rfl (by show 2 * 0 + 0 ≤ _; decide) (hb hbytes d36) (⟨rfl, hA.mv X5.warmed.alike hh5, l1, l2, hp⟩)
  obtain ⟨e8, z8⟩ := E8
  obtain ⟨rfl, N, n1, n2, n3, n4, n5, n6⟩ := NewArr.mv _ T5 s _ _ hh5.symm (Vm.Alike.refl _) rfl e8
  rw [hh5] at z8
  have hB1 := hB.keep X8.warmed.alike (n6 _ _ hB.1)
  have hne : s.heap.size ≠ a := (Nat.ne_of_lt (Array.getElem?_eq_some_iff.mp hB.1).1).symm
  have c9 : Steps p.tables e below (s₁.setTop (entryFrame m #[.ref a, .ref b, .int (Int32.ofNat o), .int (Int32.ofNat len), .null] 6)) (T8.setTop (mkF m 39 #[.val (.ref a), .val (.ref b), .val (.int (Int32.ofNat o)), .val (.int (Int32.ofNat len)), .val .null, .unset] [.ref s.heap.size])) := g8
  have c10 : Steps p.tables e below (s₁.setTop (entryFrame m #[.ref a, .ref b, .int (Int32.ofNat o), .int (Int32.ofNat len), .null] 6)) (T8.setTop (mkF m 45 #[.val (.ref a), .val (.ref b), .val (.int (Int32.ofNat o)), .val (.int (Int32.ofNat len)), .val .null, .val (.ref s.heap.size)] [.int (Int32.ofNat N.slots.size), .ref s.heap.size, .ref a])) := by
    have hc : Steps p.tables e below (s₁.setTop (entryFrame m #[.ref a, .ref b, .int (Int32.ofNat o), .int (Int32.ofNat len), .null] 6)) (T8.setTop (mkF m 45 #[.val (.ref a), .val (.ref b), .val (.int (Int32.ofNat o)), .val (.int (Int32.ofNat len)), .val .null, .val (.ref s.heap.size)] [.int (Int32.ofNat len), .ref s.heap.size, .ref a])) := c9.trans (by
      refine XS.astore X8.here hexec rfl (hb hbytes d39) rfl rfl rfl ?_
      refine XS.aloadN X8.here hexec rfl (hb hbytes d41) rfl rfl ?_
      refine XS.aload X8.here hexec rfl (hb hbytes d42) rfl rfl ?_
      refine XS.iloadN X8.here hexec rfl (hb hbytes d44) rfl ?_
      exact Steps.refl _)
    rw [n4]; exact hc
  obtain ⟨v11, T11, X11, E11, g11⟩ := X8.callS hexec (CodL.law l s.heap.size N) hown (wks W (staticW "java/lang/String" 47 CodL.yN)) (wk W CodL.tab) (W := 1) (Nat.le_of_ble_eq_true rfl) (Nat.le_of_ble_eq_true rfl) (Nat.le_refl _) (by show 0 + len + 0 ≤ len; omega) (g := (mkF m 45 #[.val (.ref a), .val (.ref b), .val (.int (Int32.ofNat o)), .val (.int (Int32.ofNat len)), .val .null, .val (.ref s.heap.size)] [.int (Int32.ofNat N.slots.size), .ref s.heap.size, .ref a])) rfl (by rw [hml]; rfl) c10 (argsL := [.ref s.heap.size, .int (Int32.ofNat N.slots.size)]) (rest := [.ref a]) rfl rfl (by show 2 * 0 + (1 + 0) ≤ _; decide) (hb hbytes d45) (⟨rfl, n1⟩)
  obtain ⟨rfl, q11⟩ := E11
  have hB11 := hB1.mv (X8.warmed.alike.symm.trans X11.warmed.alike) q11
  have c12 : Steps p.tables e below (s₁.setTop (entryFrame m #[.ref a, .ref b, .int (Int32.ofNat o), .int (Int32.ofNat len), .null] 6)) (T11.setTop (mkF m 48 #[.val (.ref a), .val (.ref b), .val (.int (Int32.ofNat o)), .val (.int (Int32.ofNat len)), .val .null, .val (.ref s.heap.size)] [.int 0, .ref a])) := g11
  obtain ⟨T13, X13, p13, bl13, sl13, st13⟩ := X11.finit hexec hown (wk W (.fieldLink "java/lang/String" 15 "java/lang/String" "coder" "B")) (Or.inr ⟨_, (wk W (.laysFinal "java/lang/String" "java/lang/String" "coder" "B"))⟩) (Or.inl ⟨rfl, hnm⟩) f2 (Or.inl rfl) hB11 (t := .byte) (by decide +kernel) rfl (g := (mkF m 48 #[.val (.ref a), .val (.ref b), .val (.int (Int32.ofNat o)), .val (.int (Int32.ofNat len)), .val .null, .val (.ref s.heap.size)] [.int 0, .ref a])) rfl (rest := []) rfl (hb hbytes d48)
  have c14 : Steps p.tables e below (s₁.setTop (entryFrame m #[.ref a, .ref b, .int (Int32.ofNat o), .int (Int32.ofNat len), .null] 6)) (T13.setTop (mkF m 54 #[.val (.ref a), .val (.ref b), .val (.int (Int32.ofNat o)), .val (.int (Int32.ofNat len)), .val .null, .val (.ref s.heap.size)] [.ref s.heap.size, .ref a])) := (c12.trans (st13 _ (Steps.refl _))).trans (by
    refine XS.aloadN X13.here hexec rfl (hb hbytes d51) rfl rfl ?_
    refine XS.aload X13.here hexec rfl (hb hbytes d52) rfl rfl ?_
    exact Steps.refl _)
  obtain ⟨T15, X15, p15, bl15, sl15, st15⟩ := X13.finit hexec hown (wk W (.fieldLink "java/lang/String" 9 "java/lang/String" "value" "[B")) (Or.inr ⟨_, (wk W (.laysFinal "java/lang/String" "java/lang/String" "value" "[B"))⟩) (Or.inl ⟨rfl, hnm⟩) f1 (Or.inl rfl) bl13 (t := (.array .byte)) (by decide +kernel) rfl (g := (mkF m 54 #[.val (.ref a), .val (.ref b), .val (.int (Int32.ofNat o)), .val (.int (Int32.ofNat len)), .val .null, .val (.ref s.heap.size)] [.ref s.heap.size, .ref a])) rfl (rest := []) rfl (hb hbytes d54)
  have c16 : Steps p.tables e below (s₁.setTop (entryFrame m #[.ref a, .ref b, .int (Int32.ofNat o), .int (Int32.ofNat len), .null] 6)) (T15.setTop (mkF m 57 #[.val (.ref a), .val (.ref b), .val (.int (Int32.ofNat o)), .val (.int (Int32.ofNat len)), .val .null, .val (.ref s.heap.size)] [])) := c14.trans (st15 _ (Steps.refl _))
  have ap := apart (Or.inr ⟨_, (wk W (.laysFinal "java/lang/String" "java/lang/String" "value" "[B"))⟩) (Or.inr ⟨_, (wk W (.laysFinal "java/lang/String" "java/lang/String" "coder" "B"))⟩) f1 f2 (t₁ := .array .byte) (t₂ := .byte) (by decide +kernel) (by decide +kernel) (by decide)
  have al := X8.warmed.alike.symm.trans X15.warmed.alike
  have n7 : T11.heap[s.heap.size]? = some N := by rw [q11]; exact n1.1
  exact ⟨T15, none, _, _, _, X15, by simp, rfl, by omega, (fun _ => rfl), ⟨rfl, _, N, bl15, ((Same.refl D _).set _ (by simp)).set _ (by simp), sl15, (Cell.slots_setSlot_ne _ ap).trans sl13, n1.keep al (p15.other hne (p13.other hne n7)), n2, by rw [al.findClass]; exact n3, n4, n5, fun y c h1 h2 => p15.other h1 (p13.other h1 (by rw [q11]; exact n6 y c h2)), by rw [p15.2.2, p13.2.2, q11]; exact z8⟩, fun fs hl => c16.trans (X15.returnOut hexec hret (hb hbytes d57) hl)⟩
end New4
namespace New1
def yN : MethodName := ⟨"java/lang/String", "<init>", "([C)V"⟩
abbrev yB : ByteArray := jdk_42_method_3_code
theorem d0 : decode yB 0 = .ok (.aload_n 0, 1) := by decide +kernel
theorem d1 : decode yB 1 = .ok (.aload_n 1, 1) := by decide +kernel
theorem d2 : decode yB 2 = .ok (.iconst 0, 1) := by decide +kernel
theorem d3 : decode yB 3 = .ok (.aload_n 1, 1) := by decide +kernel
theorem d4 : decode yB 4 = .ok (.arraylength, 1) := by decide +kernel
theorem d5 : decode yB 5 = .ok (.aconst_null, 1) := by decide +kernel
theorem d6 : decode yB 6 = .ok (.invokespecial 27, 3) := by decide +kernel
theorem d9 : decode yB 9 = .ok (.return_, 1) := by decide +kernel
def site : List Cond := [New4.tab] ++ initW "java/lang/String" 27 New4.yN
def tab : Cond := tabOf yN yB 2 none site
def P (a : Addr) (D : Cell) (fV fC : Field) (b : Addr) (A : Cell) (z : Int32) (args : Array Value) (s : State) : Prop := args = #[.ref a, .ref b] ∧ Blank "java/lang/String" a D s ∧ Found "java/lang/String" "value" "[B" fV s ∧ Found "java/lang/String" "coder" "B" fC s ∧ Ch b A s ∧ StaticIs s "java/lang/String" "COMPACT_STRINGS" "Z" (.int z) ∧ ¬ z = 0 ∧ 0 < A.slots.size ∧ A.slots.size ≤ 536870912 ∧ ∀ i, i < A.slots.size → ¬ 255 < cv A i
def E (a : Addr) (D : Cell) (fV fC : Field) (A : Cell) (r : Option Value) (s u : State) : Prop := Got a D fV fC A 0 A.slots.size r s u
/-- new String(chars), not empty, no char above 255: a Latin-1 String of their low bytes -/
theorem law (l : Launch) (a : Addr) (D : Cell) (fV fC : Field) (b : Addr) (A : Cell) (z : Int32) : Law l yN 2 1 3 52 yB 2 none site (P a D fV fC b A z) (E a D fV fC A) [⟨a, fC.slot⟩, ⟨a, fV.slot⟩] 1 A.slots.size := by
  refine Law.of_walk (plainFor_of_name (by decide +kernel)) (by decide +kernel) (by decide +kernel) (by decide) (fun _ _ h => by rw [h.1]; rfl) (fun _ U U' hal hh h => ⟨h.1, h.2.1.mv hal hh, h.2.2.1.al hal, h.2.2.2.1.al hal, h.2.2.2.2.1.mv hal hh, h.2.2.2.2.2.1.there hal hh, h.2.2.2.2.2.2⟩) (fun r U U' V V' h1 hal h2 h => Got.mv r U U' V V' h1 hal h2 h) ?_
  intro p e s m args below meth c s₁ X0 hexec hbytes hml hret hlk hnm hown hh0 W hP
  obtain ⟨rfl, hB, f1, f2, hA, s1, hz, l0, l2, hp⟩ := hP
  have c1 : Steps p.tables e below (s₁.setTop (entryFrame m #[.ref a, .ref b] 2)) (s₁.setTop (mkF m 0 #[.val (.ref a), .val (.ref b)] [])) := entry rfl
  have c2 : Steps p.tables e below (s₁.setTop (entryFrame m #[.ref a, .ref b] 2)) (s₁.setTop (mkF m 6 #[.val (.ref a), .val (.ref b)] [.null, .int (Int32.ofNat A.slots.size), .int 0, .ref b, .ref a])) := c1.trans (by
    refine XS.aloadN X0.here hexec rfl (hb hbytes d0) rfl rfl ?_
    refine XS.aloadN X0.here hexec rfl (hb hbytes d1) rfl rfl ?_
    refine iconstV X0.here hexec rfl 0 (hb hbytes d2) (by decide) ?_
    refine XS.aloadN X0.here hexec rfl (hb hbytes d3) rfl rfl ?_
    refine X0.alen hexec (hA.1.mv X0.warmed.alike hh0) rfl rfl (hb hbytes d4) ?_
    refine XS.aconstNull X0.here hexec rfl (hb hbytes d5) ?_
    exact Steps.refl _)
  obtain ⟨v3, T3, X3, E3, g3⟩ := X0.callN hexec (New4.law l a D fV fC b A z 0 A.slots.size) rfl hown (wks W (initW "java/lang/String" 27 New4.yN)) (W New4.tab (by simp only [site, List.mem_cons, List.mem_append, true_or, or_true])) (W := 0) (Nat.le_of_ble_eq_true rfl) (Nat.le_of_ble_eq_true rfl) (Nat.le_refl _) (by show 0 + A.slots.size ≤ A.slots.size; omega) (g := (mkF m 6 #[.val (.ref a), .val (.ref b)] [.null, .int (Int32.ofNat A.slots.size), .int (Int32.ofNat 0), .ref b, .ref a])) rfl (by rw [hml]; rfl) c2 (argsL := [.ref b, .int (Int32.ofNat 0), .int (Int32.ofNat A.slots.size), .null]) (rest := []) rfl rfl (by show 2 * 0 + 0 ≤ _; decide) (hb hbytes d6) (⟨rfl, hB.mv X0.warmed.alike hh0, f1.al X0.warmed.alike, f2.al X0.warmed.alike, hA.mv X0.warmed.alike hh0, s1.there X0.warmed.alike hh0, hz, l0, by omega, l2, fun i hi => by rw [Nat.zero_add]; exact hp i hi⟩)
  have e0 := Got.mv _ s₁ s _ _ hh0.symm (Vm.Alike.refl _) rfl E3
  obtain rfl := e0.1
  have c4 : Steps p.tables e below (s₁.setTop (entryFrame m #[.ref a, .ref b] 2)) (T3.setTop (mkF m 9 #[.val (.ref a), .val (.ref b)] [])) := g3
  exact ⟨T3, none, _, _, _, X3, by simp, rfl, by omega, (fun _ => rfl), e0, fun fs hl => c4.trans (X3.returnOut hexec hret (hb hbytes d9) hl)⟩
theorem pays {l : Launch} {R : Room} {p : Program} {e : Env} {below : List Frame} {s : State} {sargs : Array Value} {len W : Nat} (a : Addr) (D : Cell) (fV fC : Field) (b : Addr) (A : Cell) (z : Int32) (htab : tab.before sargs s = true) (hfr : 4 ≤ R.frames) (hlo : W + 65 ≤ R.locals) :
    Back l R p e below s sargs yN len W (fun A₁ a₁ => A₁.cells + 1 ≤ R.cells ∧ A₁.slots + A.slots.size ≤ R.slots ∧ P a D fV fC b A z a₁ A₁.U) (fun A₁ _ v₁ B₁ => E a D fV fC A v₁ A₁.U B₁.U ∧ B₁.locs = A₁.locs ++ [⟨a, fC.slot⟩, ⟨a, fV.slot⟩] ∧ B₁.cells = A₁.cells + 1 ∧ B₁.slots = A₁.slots + A.slots.size) :=
  (law l a D fV fC b A z).pays htab hfr (by omega)
end New1
/-- the byte, read back as charAt reads it, is the char -/
theorem lo8_mask {x : Int32} (h0 : ¬ x < 0) (h1 : ¬ 255 < x) : lo8 x &&& 255 = x := by
  have t : ∀ k : Fin 256, lo8 (Int32.ofNat k.val) &&& 255 = Int32.ofNat k.val := by decide +kernel
  rw [Int32.lt_iff_toInt_lt] at h0 h1
  have e0 : (0 : Int32).toInt = 0 := rfl
  have e1 : (255 : Int32).toInt = 255 := rfl
  obtain ⟨k, hk⟩ : ∃ k : Nat, x.toInt = k := ⟨x.toInt.toNat, by omega⟩
  have hx : x = Int32.ofNat k := Int32.toInt_inj.mp (by rw [hk, Int32.toInt_ofNat_small (by omega)])
  rw [hx]
  exact t ⟨k, by omega⟩
end StrChars
namespace StrChars.Road
open Jvm Sem ClassFile Op Lib Jvm.Stand Jvm.Free Jvm.Free.XT
open Jvm.Lib.Cold (StaticIs)
abbrev ST : String := "java/lang/String"
/-- every table word that New1's law asks, flat -/
abbrev words : List Jvm.Cond := [.code New1.yN New1.yB 2 none, .initialized ST, .methodLink ST 27 New4.yN, .instanceMethod New4.yN,
  .code New4.yN New4.yB 6 none, .fieldLink ST 38 ST "COMPACT_STRINGS" "Z", .laysFinal ST ST "value" "[B", .fieldLink ST 9 ST "value" "[B", .laysFinal ST ST "coder" "B", .fieldLink ST 15 ST "coder" "B",
  .methodLink ST 1 Lib.objectInit, .instanceMethod Lib.objectInit, .code Lib.objectInit ⟨#[0xb1]⟩ 1 none, .methodLink ST 177 Cmp3.yN, .static Cmp3.yN, .methodLink ST 47 CodL.yN, .static CodL.yN,
  .code Cmp3.yN Cmp3.yB 6 (some (.array .byte)), .initialized U16, .arrayClass .byte, .methodLink U16 115 Cmp5.yN, .static Cmp5.yN, .code Cmp5.yN Cmp5.yB 7 (some .int), .code CodL.yN CodL.yB 2 (some .byte)]
theorem tab_of {a : Array Value} {s : State} (h : ∀ w ∈ words, w.before a s = true) : New1.tab.before a s = true := by
  have h5 : Cmp5.tab.before a s = true := unparts (wk h (.code Cmp5.yN Cmp5.yB 7 (some .int))) (wks h (.initialized Cmp5.yN.cls :: Cmp5.site))
  have hc : CodL.tab.before a s = true := unparts (wk h (.code CodL.yN CodL.yB 2 (some .byte))) (wks h (.initialized CodL.yN.cls :: CodL.site))
  have q5 : ∀ w ∈ Cmp5.tab :: words, w.before a s = true := fun w hw => (List.mem_cons.mp hw).elim (fun e => e ▸ h5) (h w)
  have h3 : Cmp3.tab.before a s = true := unparts (wk q5 (.code Cmp3.yN Cmp3.yB 6 (some (.array .byte)))) (wks q5 (.initialized Cmp3.yN.cls :: Cmp3.site))
  have q3 : ∀ w ∈ Cmp3.tab :: CodL.tab :: words, w.before a s = true := fun w hw => (List.mem_cons.mp hw).elim (fun e => e ▸ h3) fun hw => (List.mem_cons.mp hw).elim (fun e => e ▸ hc) (h w)
  have h4 : New4.tab.before a s = true := unparts (wk q3 (.code New4.yN New4.yB 6 none)) (wks q3 (.initialized New4.yN.cls :: New4.site))
  have q4 : ∀ w ∈ New4.tab :: words, w.before a s = true := fun w hw => (List.mem_cons.mp hw).elim (fun e => e ▸ h4) (h w)
  exact unparts (wk q4 (.code New1.yN New1.yB 2 none)) (wks q4 (.initialized New1.yN.cls :: New1.site))
/-- the words ride from the start Z to the walk's own state -/
theorem moved {Z s : State} {a0 args : Array Value} (hZ : Z.Warmed39 s.vm) (hw : ∀ d ∈ words, d.before a0 Z = true) : ∀ d ∈ words, d.before args s = true := fun d hd => by
  have q := hw d hd
  have t : ∀ d ∈ words, d = .arrayClass .byte ∨ (d.onTables && d.keepsFace) = true := by decide +kernel
  rcases t d hd with rfl | t
  · exact RoadKit.mvA hZ q
  · exact RoadKit.mv hZ q t
/-- WHAT COMES BACK, over the tables of the start Z: h the heap at the call, h' behind it -/
def Q (Z : State) (x : Addr) (A : Cell) (h : Heap) (v : Option Value) (h' : Heap) (L : List Loc) : Prop := v = none ∧ (∀ y ∈ L, y.base = x) ∧ RoadKit.Keep h h' [x] ∧ h'.size = h.size + 1 ∧ RoadKit.Exa Z h' x ST ∧ RoadKit.Fld Z h' x ST "value" "[B" (.ref h.size) ∧ RoadKit.Fld Z h' x ST "coder" "B" (.int 0) ∧
  (∃ V : Cell, RoadKit.Arr Z h' h.size V .byte ∧ V.vm = .none ∧ Z.vm.findClass "[B" = some V.cls ∧ V.slots.size = A.slots.size ∧ ∀ j, j < A.slots.size → V.slots[j]? = some (.int (lo8 (cv A j)))) ∧
  ∀ (O n d : String) (w : Value), RoadKit.Fld Z h x O n d w → RoadKit.slotOf Z O n d ≠ RoadKit.slotOf Z ST "value" "[B" → RoadKit.slotOf Z O n d ≠ RoadKit.slotOf Z ST "coder" "B" → RoadKit.Fld Z h' x O n d w
/-- **new String(chars) AT A CALL, IN THE ROAD'S FORM**: for specialBack behind newO: x the fresh String, b the char[] with the cell A -/
theorem back {p : Program} {l : Launch} {e : Env} {R : Room} {s : State} {args : Array Value} {below : List Frame} {len W : Nat} {Z : State} {a0 : Array Value} {h : Heap} (hZ : Z.Warmed39 s.vm) (hw : ∀ d ∈ words, d.before a0 Z = true) {kI : Nat} (wi : (Jvm.Cond.instantiable ST kI).before a0 Z = true)
    {x b : Addr} {A : Cell} {z : Int32} {v0 c0 : Value} (E : RoadKit.Exa Z h x ST) (V : RoadKit.Fld Z h x ST "value" "[B" v0) (C : RoadKit.Fld Z h x ST "coder" "B" c0) (K : RoadKit.Arr Z h b A .char) (hty : Typed .char A) (S : RoadKit.Sta Z h ST "COMPACT_STRINGS" "Z" (.int z)) (hz : ¬ z = 0)
    (l0 : 0 < A.slots.size) (l2 : A.slots.size ≤ 536870912) (hp : ∀ i, i < A.slots.size → ¬ 255 < cv A i) (hfr : 4 ≤ R.frames) (hlo : W + 65 ≤ R.locals) :
    Back l R p e below s args New1.yN len W (fun P a => a = #[.ref x, .ref b] ∧ P.U.heap = h ∧ P.cells + 1 ≤ R.cells ∧ P.slots + A.slots.size ≤ R.slots)
      (fun P _ v B => ∃ L, Q Z x A h v B.U.heap L ∧ B.locs = P.locs ++ L ∧ B.cells = P.cells + 1 ∧ B.slots = P.slots + A.slots.size) := by
  intro m meth c P g ig mk a X hg hsize hdg hW hn hp'
  obtain ⟨rfl, rfl, r1, r2⟩ := hp'
  have al : Z.vm.Alike P.U.vm := hZ.alike.trans X.warmed.alike
  obtain ⟨D, cfV, kV, iV, fV, hD, gV, stV, knV, obV, asV, slV⟩ := id V
  obtain ⟨D', cfC, kC, iC, fC, hD', gC, stC, -, -, asC, slC⟩ := id C
  cases hD.symm.trans hD'
  obtain ⟨D2, kD, e1, e2, e3, e4, e5⟩ := id E
  cases hD.symm.trans e1
  obtain ⟨c2, k2, i1, i2, i3, -⟩ := Cond.instantiable_spec wi
  cases e2.symm.trans i1
  cases e3.symm.trans i2
  obtain ⟨kU, u1, u2⟩ := al.2.2 _ _ e3
  have hB : Blank ST x D P.U := ⟨hD, ⟨knV, fun q hq => by rw [hq] at obV; cases obV⟩, by rw [al.findClass]; exact e2, kU, u1, by rw [u2]; exact i3, by rw [u2]; exact e5 i3⟩
  have F1 : Found ST "value" "[B" fV P.U := ⟨SBG.found_only al ⟨cfV, kV, iV, gV⟩, stV⟩
  have F2 : Found ST "coder" "B" fC P.U := ⟨SBG.found_only al ⟨cfC, kC, iC, gC⟩, stC⟩
  have hA : Ch b A P.U := ⟨⟨K.1, State.isArrayOf_alike al K.2.1, K.2.2, by omega⟩, hty⟩
  have hS : StaticIs P.U ST "COMPACT_STRINGS" "Z" (.int z) := by
    obtain ⟨cfS, iS, kS, fS, st, cS, t1, t2, t3, t4, t5, t6, t7⟩ := S
    exact StaticIs.there (s := { Z with heap := P.U.heap }) ⟨cfS, iS, kS, fS, st, cS, t1, t2, t3, t4, t5, (fun q => by rw [q] at t6; cases t6), t7⟩ al rfl
  obtain ⟨v, B, X', ⟨⟨hv, E', V', q1, q2, q3, q4, q5, q6, q7, q8, q9, q10, q11⟩, hl, hc, hs⟩, st⟩ := New1.pays x D fV fC b A z (tab_of (moved hZ hw)) hfr hlo m meth c P g ig mk _ X hg hsize hdg hW hn ⟨r1, r2, rfl, hB, F1, F2, hA, hS, hz, l0, l2, hp⟩
  have al' : Z.vm.Alike B.U.vm := hZ.alike.trans X'.warmed.alike
  have hsz : E'.slots.size = D.slots.size := by
    obtain ⟨-, -, -, kB, w1, w2, w3⟩ := q1
    obtain ⟨kB', y1, y2⟩ := al'.2.2 _ _ e3
    rw [q2.2.1] at w1
    cases w1.symm.trans y1
    rw [w3, e5 i3, y2]
  refine ⟨v, B, X', ⟨_, ⟨hv, ?_, ⟨by omega, fun y cy hy hn' => q10 y cy (by simpa using hn') hy, fun y cy hy => ?_⟩, q11, ⟨E', _, q1.1, by rw [q2.2.1]; exact e2, by rw [q2.2.1]; exact e3, by rw [q2.1]; exact obV, fun _ => by rw [hsz]; exact e5 i3⟩,
    ⟨E', cfV, kV, iV, fV, q1.1, gV, stV, by rw [q2.1]; exact knV, by rw [q2.1]; exact obV, by rw [q2.2.1]; exact asV, q3⟩, ⟨E', cfC, kC, iC, fC, q1.1, gC, stC, by rw [q2.1]; exact knV, by rw [q2.1]; exact obV, by rw [q2.2.1]; exact asC, q4⟩,
    ⟨V', ⟨q5.1, State.isArrayOf_alike al'.symm q5.2.1, q5.2.2.1⟩, q6, by rw [← al'.findClass]; exact q7, q8, fun j hj => by have := q9 j hj; rwa [Nat.zero_add] at this⟩, fun O n d w F n1 n2 => ?_⟩, hl, hc, hs⟩, st⟩
  · intro y hy
    simp only [List.mem_cons, List.not_mem_nil, or_false] at hy
    rcases hy with rfl | rfl <;> rfl
  · by_cases q : y = x
    · subst q
      cases hD.symm.trans hy
      exact ⟨E', q1.1, q2.2.1, q2.1, hsz⟩
    · exact ⟨cy, q10 y cy q hy, rfl, rfl, rfl⟩
  · obtain ⟨D3, cf, k, i, f, g1, g2, g3, g4, g5, g6, g7⟩ := F
    cases hD.symm.trans g1
    simp only [RoadKit.slotOf, g2, gV, gC, Option.map_some, Option.getD_some] at n1 n2
    exact ⟨E', cf, k, i, f, q1.1, g2, g3, by rw [q2.1]; exact g4, by rw [q2.1]; exact g5, by rw [q2.2.1]; exact g6, by rw [q2.2.2 f.slot (by simp [n1, n2])]; exact g7⟩
end StrChars.Road
namespace StrChars.Road
open Jvm Sem ClassFile Op Lib Jvm.Stand Jvm.Free Jvm.Free.XT
/-- WHAT COMES BACK, the byte[] as a list of values -/
def QA (Z : State) (x : Addr) (zn : Int32) (cs : List Int32) (h : Heap) (v : Option Value) (h' : Heap) (L : List Loc) : Prop := v = none ∧ (∀ y ∈ L, y.base = x) ∧ RoadKit.Keep h h' [x] ∧ h'.size = h.size + 1 ∧ RoadKit.Exa Z h' x ST ∧ RoadKit.Fld Z h' x ST "value" "[B" (.ref h.size) ∧ RoadKit.Fld Z h' x ST "coder" "B" (.int 0) ∧
  (∃ kb, Z.vm.findClass "[B" = some kb ∧ RoadKit.Arv Z h' h.size kb .byte zn (cs.map fun c => .int (lo8 c)) (.int 0)) ∧
  ∀ (O n d : String) (w : Value), RoadKit.Fld Z h x O n d w → RoadKit.slotOf Z O n d ≠ RoadKit.slotOf Z ST "value" "[B" → RoadKit.slotOf Z O n d ≠ RoadKit.slotOf Z ST "coder" "B" → RoadKit.Fld Z h' x O n d w
/-- **new String(chars) AT A CALL, THE ARRAYS AS LISTS**: the char[] at b holds cs, not empty, no char above 255 -/
theorem backArv {p : Program} {l : Launch} {e : Env} {R : Room} {s : State} {args : Array Value} {below : List Frame} {len W : Nat} {Z : State} {a0 : Array Value} {h : Heap} (hZ : Z.Warmed39 s.vm) (hw : ∀ d ∈ words, d.before a0 Z = true) {kI : Nat} (wi : (Jvm.Cond.instantiable ST kI).before a0 Z = true)
    {x b : Addr} {k : ClassId} {zn z : Int32} {cs : List Int32} {dv v0 c0 : Value} (E : RoadKit.Exa Z h x ST) (V : RoadKit.Fld Z h x ST "value" "[B" v0) (C : RoadKit.Fld Z h x ST "coder" "B" c0) (K : RoadKit.Arv Z h b k .char zn (cs.map Value.int) dv) (S : RoadKit.Sta Z h ST "COMPACT_STRINGS" "Z" (.int z)) (hz : ¬ z = 0)
    (hlen : zn.toNatClampNeg = cs.length) (h0 : 0 < cs.length) (hbig : cs.length ≤ 536870912) (hall : ∀ c ∈ cs, ¬ 255 < c) (hfr : 4 ≤ R.frames) (hlo : W + 65 ≤ R.locals) :
    Back l R p e below s args New1.yN len W (fun P a => a = #[.ref x, .ref b] ∧ P.U.heap = h ∧ P.cells + 1 ≤ R.cells ∧ P.slots + cs.length ≤ R.slots)
      (fun P _ v B => ∃ L, QA Z x zn cs h v B.U.heap L ∧ B.locs = P.locs ++ L ∧ B.cells = P.cells + 1 ∧ B.slots = P.slots + cs.length) := by
  obtain ⟨A, K1, K2, K3, K4, K5, K6⟩ := K
  have e : A.slots.size = cs.length := K3.trans hlen
  have hat : ∀ (i : Nat) (hi : i < cs.length), A.slots[i]? = some (.int cs[i]) := fun i hi => by rw [K5 i (by omega)]; simp [List.getD_eq_getElem?_getD, hi]
  have hcv : ∀ (i : Nat) (hi : i < cs.length), cv A i = cs[i] := fun i hi => by unfold cv; rw [hat i hi]
  have hty : Typed .char A := fun i v hv => by
    have hi : i < A.slots.size := (Array.getElem?_eq_some_iff.mp hv).1
    have q := K5 i hi
    rw [hv] at q
    rw [Option.some.inj q]
    exact K6 i hi
  refine Back.mono (back hZ hw wi E V C K1 hty S hz (by omega) (by omega) (fun i hi => by rw [hcv i (by omega)]; exact hall _ (List.getElem_mem _)) hfr hlo) (fun P a hp => ⟨hp.1, hp.2.1, hp.2.2.1, by rw [e]; exact hp.2.2.2⟩) (fun P a v B hp hq => ?_)
  obtain ⟨L, ⟨q1, q2, q3, q4, q5, q6, q7, ⟨V', v1, v2, v3, v4, v5⟩, q9⟩, hl, hc, hs⟩ := hq
  refine ⟨L, ⟨q1, q2, q3, q4, q5, q6, q7, ⟨V'.cls, v3, V', v1, rfl, by rw [v4, e, hlen], K4, fun i hi => ?_, fun i hi => ?_⟩, q9⟩, hl, hc, by rw [hs, e]⟩
  · have hi' : i < cs.length := by omega
    rw [v5 i (by omega), hcv i hi']; simp [List.getD_eq_getElem?_getD, hi']
  · have hi' : i < cs.length := by omega
    simp only [List.getD_eq_getElem?_getD, List.getElem?_map, List.getElem?_eq_getElem hi', Option.map_some, Option.getD_some]
    exact fits_lo8 _
end StrChars.Road
namespace StrChars.Road
open Jvm Sem ClassFile Op Lib Jvm.Stand Jvm.Free Jvm.Free.XT
/-- WHAT COMES BACK, in the writer's own shape -/
def QV (Z : State) (x : Addr) (N : Int32) (bs : List Int32) (h : Heap) (n0 : Nat) (v : Option Value) (h' : Heap) (L : List Loc) : Prop := v = none ∧ RoadKit.Fr n0 L ∧ RoadKit.Keep h h' [x] ∧ RoadKit.Exa Z h' x ST ∧ RoadKit.Fld Z h' x ST "coder" "B" (.int 0) ∧
  ∃ (t : Addr) (kb : ClassId), n0 ≤ t ∧ h.size ≤ t ∧ ¬ t = x ∧ RoadKit.Fld Z h' x ST "value" "[B" (.ref t) ∧ RoadKit.Arv Z h' t kb .byte N (bs.map Value.int) (.int 0)
/-- **new String(chars) AT A CALL, FOR THE WRITER**: a char[] of n known ints, each 0 to 255 -/
theorem backV {p : Program} {l : Launch} {e : Env} {R : Room} {s : State} {args : Array Value} {below : List Frame} {len W : Nat} {Z : State} {a0 : Array Value} {h : Heap} (hZ : Z.Warmed39 s.vm) (hw : ∀ d ∈ words, d.before a0 Z = true) {kI : Nat} (wi : (Jvm.Cond.instantiable ST kI).before a0 Z = true)
    {x b : Addr} {kC : ClassId} {cs bs : List Int32} {d v0 c0 : Value} {z N : Int32} {n n0 : Nat} (hx0 : n0 ≤ x) (hh0 : n0 ≤ h.size) (E : RoadKit.Exa Z h x ST) (V : RoadKit.Fld Z h x ST "value" "[B" v0) (C : RoadKit.Fld Z h x ST "coder" "B" c0) (K : RoadKit.Arv Z h b kC .char N (cs.map Value.int) d) (S : RoadKit.Sta Z h ST "COMPACT_STRINGS" "Z" (.int z)) (hz : ¬ z = 0)
    (hn : cs.length = n) (hN : N = Int32.ofNat n) (l0 : 0 < n) (l2 : n ≤ 4000) (hp : ∀ c ∈ cs, ¬ c < 0 ∧ ¬ (255 : Int32) < c) (hb : bs = cs.map (fun c => c.toInt8.toInt32)) (hfr : 4 ≤ R.frames) (hlo : W + 65 ≤ R.locals) :
    Back l R p e below s args (⟨"java/lang/String", "<init>", "([C)V"⟩ : MethodName) len W (fun P a => a = #[.ref x, .ref b] ∧ P.U.heap = h ∧ P.cells + 1 ≤ R.cells ∧ P.slots + n ≤ R.slots)
      (fun P _ v B => ∃ L, QV Z x N bs h n0 v B.U.heap L ∧ B.locs = P.locs ++ L ∧ B.cells = P.cells + 1 ∧ B.slots = P.slots + n) := by
  subst hn hN hb
  refine Back.mono (backArv hZ hw wi E V C K S hz (n32 (by omega)) l0 (by omega) (fun c hc => (hp c hc).2) hfr hlo) (fun P a hp => hp) (fun P a v B hp hq => ?_)
  obtain ⟨L, ⟨q1, q2, q3, q4, q5, q6, q7, ⟨kb, v1, v2⟩, q9⟩, hl, hc, hs⟩ := hq
  exact ⟨L, ⟨q1, fun y hy => by rw [q2 y hy]; exact hx0, q3, q5, q7, h.size, kb, hh0, Nat.le_refl _, Nat.ne_of_gt E.lt, q6, by rw [List.map_map]; exact v2⟩, hl, hc, hs⟩
end StrChars.Road
namespace StrChars
open Jvm Sem ClassFile Op Lib Jvm.Stand Jvm.Free.XT Jvm.Free.ALB Jvm.Free.JM Jvm.Free
open Jvm.Lib.Cold (StaticIs)
def hi8 (x : Int32) : Int32 := lo8 (x >>> ((8 : Int32) &&& 31))
/-- what StringUTF16.getChar makes of two bytes -/
def pairCh (u v : Int32) : Int32 := (((u &&& 255) <<< ((0 : Int32) &&& 31)) ||| ((v &&& 255) <<< ((8 : Int32) &&& 31))).toUInt32.toUInt16.toUInt32.toInt32
theorem lo8_and (x : Int32) : (lo8 x &&& 255).toBitVec.toNat = x.toBitVec.toNat % 256 := by
  have h : (lo8 x).toBitVec = (x.toBitVec.signExtend 8).signExtend 32 := by rw [lo8, Int8.toBitVec_toInt32, Int32.toBitVec_toInt8]
  rw [Int32.toBitVec_and, BitVec.toNat_and, h]
  have e : ((x.toBitVec.signExtend 8).signExtend 32).toNat % 256 = x.toBitVec.toNat % 256 := by
    rw [BitVec.toNat_signExtend]
    have hlt := x.toBitVec.isLt
    simp only [BitVec.toNat_setWidth, BitVec.toNat_signExtend]
    split <;> split <;> omega
  rw [← e]
  exact Nat.and_two_pow_sub_one_eq_mod _ 8
theorem pair_says {c : Int32} (h0 : ¬ c < 0) (h1 : ¬ 65535 < c) : pairCh (lo8 c) (hi8 c) = c := by
  rw [Int32.lt_iff_toInt_lt] at h0 h1
  have e0 : (0 : Int32).toInt = 0 := rfl
  have e1 : (65535 : Int32).toInt = 65535 := rfl
  have hc : c.toInt = c.toBitVec.toNat := by
    have := c.toBitVec.isLt
    have e : c.toInt = c.toBitVec.toInt := rfl
    rw [e] at h0 h1
    rw [e]
    rw [BitVec.toInt_eq_toNat_cond] at h0 h1 ⊢
    split at h0 <;> split <;> omega
  have hn : c.toBitVec.toNat < 65536 := by omega
  have a1 := lo8_and c
  have a2 : (hi8 c &&& 255).toBitVec.toNat = c.toBitVec.toNat / 256 := by
    rw [hi8, lo8_and]
    have e : ((8 : Int32) &&& 31) = 8 := by decide
    rw [e, Int32.toBitVec_shiftRight]
    have e2 : ((8 : Int32).toBitVec.smod 32) = 8#32 := by decide
    rw [e2, BitVec.sshiftRight_eq', BitVec.toNat_sshiftRight_of_msb_false (by rw [BitVec.msb_eq_false_iff_two_mul_lt]; omega)]
    show c.toBitVec.toNat >>> 8 % 256 = _
    rw [Nat.shiftRight_eq_div_pow]
    omega
  unfold pairCh
  apply Int32.toBitVec_inj.mp
  apply BitVec.eq_of_toNat_eq
  have f0 : ((0 : Int32) &&& 31) = 0 := by decide
  have f8 : ((8 : Int32) &&& 31) = 8 := by decide
  rw [f0, f8]
  have g : (((lo8 c &&& 255) <<< (0 : Int32)) ||| ((hi8 c &&& 255) <<< (8 : Int32))).toBitVec.toNat = c.toBitVec.toNat := by
    rw [Int32.toBitVec_or, Int32.toBitVec_shiftLeft, Int32.toBitVec_shiftLeft]
    have s0 : ((0 : Int32).toBitVec.smod 32) = 0#32 := by decide
    have s8 : ((8 : Int32).toBitVec.smod 32) = 8#32 := by decide
    rw [s0, s8, BitVec.toNat_or]
    simp only [BitVec.shiftLeft_eq', BitVec.toNat_shiftLeft, a1, a2]
    show (c.toBitVec.toNat % 256) <<< 0 % 2 ^ 32 ||| (c.toBitVec.toNat / 256) <<< 8 % 2 ^ 32 = _
    rw [Nat.shiftLeft_zero, Nat.mod_eq_of_lt (show c.toBitVec.toNat % 256 < 2 ^ 32 by omega), Nat.mod_eq_of_lt (show (c.toBitVec.toNat / 256) <<< 8 < 2 ^ 32 by rw [Nat.shiftLeft_eq]; omega), Nat.or_comm, ← Nat.shiftLeft_add_eq_or_of_lt (by omega), Nat.shiftLeft_eq]
    omega
  show BitVec.toNat (((((lo8 c &&& 255) <<< (0 : Int32)) ||| ((hi8 c &&& 255) <<< (8 : Int32))).toBitVec.setWidth 16).setWidth 32) = _
  rw [BitVec.toNat_setWidth, BitVec.toNat_setWidth, g]
  omega
end StrChars
namespace StrChars
open Jvm Sem ClassFile Op Lib Jvm.Stand Jvm.Free.XT Jvm.Free.ALB Jvm.Free.JM Jvm.Free
open Jvm.Lib.Cold (StaticIs)
/-- the array's cell V codes the n chars f 0 .. f (n - 1) by the coder cd, as the JDK does: coder 1 just where some char is above 255 -/
def Cod (cd : Int32) (n : Nat) (f : Nat → Int32) (V : Cell) : Prop := (cd = 0 ∧ V.slots.size = n ∧ ∀ j, j < n → V.slots[j]? = some (.int (lo8 (f j))) ∧ ¬ 255 < f j) ∨ (cd = 1 ∧ V.slots.size = 2 * n ∧ (∀ j, j < n → V.slots[2 * j]? = some (.int (lo8 (f j))) ∧ V.slots[2 * j + 1]? = some (.int (hi8 (f j)))) ∧ ∃ j, j < n ∧ 255 < f j)
/-- **x is a String of the n chars f 0 .. f (n - 1)**, Latin-1 or UTF-16; its array at t has the cell V -/
def Txt (x t : Addr) (V : Cell) (cd : Int32) (n : Nat) (f : Nat → Int32) (U : State) : Prop := Exact "java/lang/String" x U ∧ Has x "java/lang/String" "value" "[B" (.ref t) U ∧ Has x "java/lang/String" "coder" "B" (.int cd) U ∧ XT.Arr .byte t V U ∧ Cod cd n f V ∧ ∀ j, j < n → ¬ f j < 0 ∧ ¬ 65535 < f j
theorem Txt.mv {x t : Addr} {V : Cell} {cd : Int32} {n : Nat} {f : Nat → Int32} {U U' : State} (h : Txt x t V cd n f U) (hal : U.vm.Alike U'.vm) (hh : U'.heap = U.heap) : Txt x t V cd n f U' := ⟨h.1.mv hal hh, h.2.1.mv hal hh, h.2.2.1.mv hal hh, h.2.2.2.1.mv hal hh, h.2.2.2.2⟩
end StrChars
namespace StrChars.Road
open Jvm Sem ClassFile Op Lib Jvm.Stand Jvm.Free Jvm.Free.XT
open Jvm.Lib.Cold (StaticIs)
theorem consq {a : Array Value} {s : State} {c : Jvm.Cond} {L : List Jvm.Cond} (h0 : c.before a s = true) (h : ∀ w ∈ L, w.before a s = true) : ∀ w ∈ c :: L, w.before a s = true := fun w hw => (List.mem_cons.mp hw).elim (fun e => e ▸ h0) (h w)
/-- the bytes of the chars cs, low before high -/
def wideBytes : List Int32 → List Value
  | [] => []
  | c :: cs => .int (lo8 c) :: .int (hi8 c) :: wideBytes cs
theorem wide_lo (d : Value) : ∀ (cs : List Int32) (j : Nat), j < cs.length → (wideBytes cs).getD (2 * j) d = .int (lo8 (cs.getD j 0))
  | [], j, h => absurd h (Nat.not_lt_zero j)
  | c :: cs, 0, _ => rfl
  | c :: cs, j + 1, h => by
    have q := wide_lo d cs j (by simpa using h)
    rw [show 2 * (j + 1) = 2 * j + 1 + 1 from by omega]
    simpa [wideBytes] using q
theorem wide_hi (d : Value) : ∀ (cs : List Int32) (j : Nat), j < cs.length → (wideBytes cs).getD (2 * j + 1) d = .int (hi8 (cs.getD j 0))
  | [], j, h => absurd h (Nat.not_lt_zero j)
  | c :: cs, 0, _ => rfl
  | c :: cs, j + 1, h => by
    have q := wide_hi d cs j (by simpa using h)
    rw [show 2 * (j + 1) + 1 = 2 * j + 1 + 1 + 1 from by omega]
    simpa [wideBytes] using q
theorem low_at (d : Value) (cs : List Int32) (j : Nat) (h : j < cs.length) : (cs.map fun c => Value.int (lo8 c)).getD j d = .int (lo8 (cs.getD j 0)) := by
  simp [List.getD_eq_getElem?_getD, h]
/-- an array of N2 bytes vs codes the chars cs by the coder cd -/
def CodA (cs : List Int32) (cd N2 : Int32) (vs : List Value) : Prop := (cd = 0 ∧ N2 = Int32.ofNat cs.length ∧ vs = (cs.map fun c => Value.int (lo8 c)) ∧ ∀ c ∈ cs, ¬ 255 < c) ∨ (cd = 1 ∧ N2 = Int32.ofNat (2 * cs.length) ∧ vs = wideBytes cs ∧ ∃ c ∈ cs, 255 < c)
theorem CodA.cod {cs : List Int32} {cd N2 : Int32} {vs : List Value} {V : Cell} (h : CodA cs cd N2 vs) (hn : 2 * cs.length < 2 ^ 31) (hs : V.slots.size = N2.toNatClampNeg) (hv : RoadKit.Has V vs (.int 0)) : Cod cd cs.length (fun j => cs.getD j 0) V := by
  rcases h with ⟨rfl, rfl, rfl, h⟩ | ⟨rfl, rfl, rfl, c, hc, hw⟩
  · rw [n32 (by omega)] at hs
    exact Or.inl ⟨rfl, hs, fun j hj => ⟨by rw [hv j (by omega), low_at _ _ _ hj], by
      have e : cs.getD j 0 = cs[j] := by simp [List.getD_eq_getElem?_getD, hj]
      show ¬ 255 < cs.getD j 0
      rw [e]; exact h _ (List.getElem_mem _)⟩⟩
  · rw [n32 (by omega)] at hs
    obtain ⟨j, hj, rfl⟩ := List.getElem_of_mem hc
    exact Or.inr ⟨rfl, hs, fun j hj => ⟨by rw [hv _ (by omega), wide_lo _ _ _ hj], by rw [hv _ (by omega), wide_hi _ _ _ hj]⟩, j, hj, by
      have e : cs.getD j 0 = cs[j] := by simp [List.getD_eq_getElem?_getD, hj]
      show 255 < cs.getD j 0
      rw [e]; exact hw⟩
/-- an object of exactly java/lang/String, its two fields found: as the laws ask it -/
theorem strObj {Z U : State} {a0 : Array Value} {kI : Nat} (wi : (Jvm.Cond.instantiable ST kI).before a0 Z = true) (al : Z.vm.Alike U.vm) {x : Addr} {v0 c0 : Value} (E : RoadKit.Exa Z U.heap x ST) (V : RoadKit.Fld Z U.heap x ST "value" "[B" v0) (C : RoadKit.Fld Z U.heap x ST "coder" "B" c0) :
    ∃ (D : Cell) (fV fC : Field), Blank ST x D U ∧ Found ST "value" "[B" fV U ∧ Found ST "coder" "B" fC U ∧ D.slots[fV.slot]? = some v0 ∧ D.slots[fC.slot]? = some c0 ∧ RoadKit.slotOf Z ST "value" "[B" = fV.slot ∧ RoadKit.slotOf Z ST "coder" "B" = fC.slot := by
  obtain ⟨D, cfV, kV, iV, fV, hD, gV, stV, knV, obV, asV, slV⟩ := V
  obtain ⟨D', cfC, kC, iC, fC, hD', gC, stC, -, -, asC, slC⟩ := C
  cases hD.symm.trans hD'
  obtain ⟨D2, kD, e1, e2, e3, e4, e5⟩ := E
  cases hD.symm.trans e1
  obtain ⟨c2, k2, i1, i2, i3, -⟩ := Cond.instantiable_spec wi
  cases e2.symm.trans i1
  cases e3.symm.trans i2
  obtain ⟨kU, u1, u2⟩ := al.2.2 _ _ e3
  exact ⟨D, fV, fC, ⟨hD, ⟨knV, fun q hq => by rw [hq] at obV; cases obV⟩, by rw [al.findClass]; exact e2, kU, u1, by rw [u2]; exact i3, by rw [u2]; exact e5 i3⟩, ⟨SBG.found_only al ⟨cfV, kV, iV, gV⟩, stV⟩, ⟨SBG.found_only al ⟨cfC, kC, iC, gC⟩, stC⟩, slV, slC, by simp [RoadKit.slotOf, gV], by simp [RoadKit.slotOf, gC]⟩
theorem sta_is {Z U : State} (al : Z.vm.Alike U.vm) {C n d : String} {v : Value} (S : RoadKit.Sta Z U.heap C n d v) : StaticIs U C n d v := by
  obtain ⟨cfS, iS, kS, fS, st, cS, t1, t2, t3, t4, t5, t6, t7⟩ := S
  exact StaticIs.there (s := { Z with heap := U.heap }) ⟨cfS, iS, kS, fS, st, cS, t1, t2, t3, t4, t5, (fun q => by rw [q] at t6; cases t6), t7⟩ al rfl
end StrChars.Road
namespace StrChars
open Jvm Sem ClassFile Op Lib Jvm.Stand Jvm.Free.XT Jvm.Free.ALB Jvm.Free.JM Jvm.Free
open Jvm.Lib.Cold (StaticIs)
/-- what place i of a byte[]'s cell holds -/
def yv (A : Cell) (i : Nat) : Int32 := match A.slots[i]? with | some (.int x) => x | _ => 0
theorem yv_get {a : Addr} {A : Cell} {U : State} (h : XT.Arr .byte a A U) (ht : Typed .byte A) {i : Nat} (hi : i < A.slots.size) : A.slots[i]? = some (.int (yv A i)) := by
  have e := Array.getElem?_eq_getElem hi
  have f := ht i _ e
  unfold yv; rw [e]
  generalize A.slots[i] = v at f
  cases v <;> simp [fits] at f ⊢
/-- the two arrays are equal, place for place -/
def EqC (A B : Cell) : Prop := A.slots.size = B.slots.size ∧ ∀ i, i < A.slots.size → yv A i = yv B i
/-- a boolean that says whether p -/
def Says01 (q : Prop) (r : Option Value) (s u : State) : Prop := ∃ v : Int32, r = some (.int v) ∧ u.heap = s.heap ∧ ((v = 1 ∧ q) ∨ (v = 0 ∧ ¬ q))
theorem Says01.mv {q : Prop} : ∀ r (U U' V V' : State), U'.heap = U.heap → V.vm.Alike V'.vm → V'.heap = V.heap → Says01 q r U V → Says01 q r U' V' :=
  fun r U U' V V' h1 _ h2 ⟨v, a, b, c⟩ => ⟨v, a, by rw [h1, h2]; exact b, c⟩
namespace LEq
def yN : MethodName := ⟨"java/lang/StringLatin1", "equals", "([B[B)Z"⟩
abbrev yB : ByteArray := jdk_43_method_13_code
theorem d0 : decode yB 0 = .ok (.aload_n 0, 1) := by decide +kernel
theorem d1 : decode yB 1 = .ok (.arraylength, 1) := by decide +kernel
theorem d2 : decode yB 2 = .ok (.aload_n 1, 1) := by decide +kernel
theorem d3 : decode yB 3 = .ok (.arraylength, 1) := by decide +kernel
theorem d4 : decode yB 4 = .ok (.if_icmp (.ne) 30, 3) := by decide +kernel
theorem d7 : decode yB 7 = .ok (.iconst 0, 1) := by decide +kernel
theorem d8 : decode yB 8 = .ok (.istore_n 2, 1) := by decide +kernel
theorem d9 : decode yB 9 = .ok (.iload_n 2, 1) := by decide +kernel
theorem d10 : decode yB 10 = .ok (.aload_n 0, 1) := by decide +kernel
theorem d11 : decode yB 11 = .ok (.arraylength, 1) := by decide +kernel
theorem d12 : decode yB 12 = .ok (.if_icmp (.ge) 20, 3) := by decide +kernel
theorem d15 : decode yB 15 = .ok (.aload_n 0, 1) := by decide +kernel
theorem d16 : decode yB 16 = .ok (.iload_n 2, 1) := by decide +kernel
theorem d17 : decode yB 17 = .ok (.baload, 1) := by decide +kernel
theorem d18 : decode yB 18 = .ok (.aload_n 1, 1) := by decide +kernel
theorem d19 : decode yB 19 = .ok (.iload_n 2, 1) := by decide +kernel
theorem d20 : decode yB 20 = .ok (.baload, 1) := by decide +kernel
theorem d21 : decode yB 21 = .ok (.if_icmp (.eq) 5, 3) := by decide +kernel
theorem d24 : decode yB 24 = .ok (.iconst 0, 1) := by decide +kernel
theorem d25 : decode yB 25 = .ok (.ireturn, 1) := by decide +kernel
theorem d26 : decode yB 26 = .ok (.iinc 2 1, 3) := by decide +kernel
theorem d29 : decode yB 29 = .ok (.goto (-20), 3) := by decide +kernel
theorem d32 : decode yB 32 = .ok (.iconst 1, 1) := by decide +kernel
theorem d33 : decode yB 33 = .ok (.ireturn, 1) := by decide +kernel
theorem d34 : decode yB 34 = .ok (.iconst 0, 1) := by decide +kernel
theorem d35 : decode yB 35 = .ok (.ireturn, 1) := by decide +kernel
def site : List Cond := []
def tab : Cond := tabOf yN yB 3 (some .boolean) site
def P (a : Addr) (A : Cell) (b : Addr) (B : Cell) (args : Array Value) (s : State) : Prop := args = #[.ref a, .ref b] ∧ XT.Arr .byte a A s ∧ Typed .byte A ∧ XT.Arr .byte b B s ∧ Typed .byte B
/-- whether two byte[] are equal, place for place -/
theorem law (l : Launch) (a : Addr) (A : Cell) (b : Addr) (B : Cell) : Law l yN 2 2 0 0 yB 3 (some .boolean) site (P a A b B) (Says01 (EqC A B)) [] 0 0 := by
  refine Law.of_walk (plainFor_of_name (by decide +kernel)) (by decide +kernel) (by decide +kernel) (by decide) (fun _ _ h => by rw [h.1]; rfl) (fun _ U U' hal hh h => ⟨h.1, h.2.1.mv hal hh, h.2.2.1, h.2.2.2.1.mv hal hh, h.2.2.2.2⟩) (fun r U U' V V' h1 hal h2 h => Says01.mv r U U' V V' h1 hal h2 h) ?_
  intro p e s m args below meth c s₁ X0 hexec hbytes hml hret hlk hnm hown hh0 W hP
  obtain ⟨rfl, hA, tA, hB, tB⟩ := hP
  have a31 := hA.2.2.2
  have b31 := hB.2.2.2
  have hA0 := hA.mv X0.warmed.alike hh0
  have hB0 := hB.mv X0.warmed.alike hh0
  have c1 : Steps p.tables e below (s₁.setTop (entryFrame m #[.ref a, .ref b] 3)) (s₁.setTop (mkF m 0 #[.val (.ref a), .val (.ref b), .unset] [])) := entry rfl
  have c2 : Steps p.tables e below (s₁.setTop (entryFrame m #[.ref a, .ref b] 3)) (s₁.setTop (mkF m 4 #[.val (.ref a), .val (.ref b), .unset] [.int (Int32.ofNat B.slots.size), .int (Int32.ofNat A.slots.size)])) := c1.trans (by
    refine XS.aloadN X0.here hexec rfl (hb hbytes d0) rfl rfl ?_
    refine X0.alen hexec hA0 rfl rfl (hb hbytes d1) ?_
    refine XS.aloadN X0.here hexec rfl (hb hbytes d2) rfl rfl ?_
    refine X0.alen hexec hB0 rfl rfl (hb hbytes d3) ?_
    exact Steps.refl _)
  by_cases hs : A.slots.size = B.slots.size
  · have c3 : Steps p.tables e below (s₁.setTop (entryFrame m #[.ref a, .ref b] 3)) (s₁.setTop (mkF m 9 #[.val (.ref a), .val (.ref b), .val (.int 0)] [])) := c2.trans (by
      refine XS.icmpNo X0.here hexec rfl (hb hbytes d4) rfl (ii_ne_f (by rw [hs])) ?_
      refine iconstV X0.here hexec rfl 0 (hb hbytes d7) (by decide) ?_
      refine XS.istoreN X0.here hexec rfl (hb hbytes d8) rfl rfl ?_
      exact Steps.refl _)
    have loop : ∀ (r i : Nat), i + r = A.slots.size → (∀ j, j < i → yv A j = yv B j) → Steps p.tables e below (s₁.setTop (entryFrame m #[.ref a, .ref b] 3)) (s₁.setTop (mkF m 9 #[.val (.ref a), .val (.ref b), .val (.int (Int32.ofNat i))] [])) → ∃ (pc : Nat) (Ls : Array Slot) (v : Int32), (pc = 25 ∨ pc = 33) ∧ ((v = 1 ∧ EqC A B) ∨ (v = 0 ∧ ¬ EqC A B)) ∧ Steps p.tables e below (s₁.setTop (entryFrame m #[.ref a, .ref b] 3)) (s₁.setTop (mkF m pc Ls [.int v])) := by
      intro r
      induction r with
      | zero =>
        intro i hi he cl
        exact ⟨33, _, 1, Or.inr rfl, Or.inl ⟨rfl, hs, fun j hj => he j (by omega)⟩, cl.trans (by
          refine XS.iloadN X0.here hexec rfl (hb hbytes d9) rfl ?_
          refine XS.aloadN X0.here hexec rfl (hb hbytes d10) rfl rfl ?_
          refine X0.alen hexec hA0 rfl rfl (hb hbytes d11) ?_
          refine XS.icmpYes X0.here hexec rfl (pc0 := 12) rfl (hb hbytes d12) rfl (ii_ge_t (nlt32 (by omega) (by omega))) (by decide) rfl ?_
          refine iconstV X0.here hexec rfl 1 (hb hbytes d32) (by decide) ?_
          exact Steps.refl _)⟩
      | succ r ih =>
        intro i hi he cl
        have c4 : Steps p.tables e below (s₁.setTop (entryFrame m #[.ref a, .ref b] 3)) (s₁.setTop (mkF m 21 #[.val (.ref a), .val (.ref b), .val (.int (Int32.ofNat i))] [.int (yv B i), .int (yv A i)])) := cl.trans (by
          refine XS.iloadN X0.here hexec rfl (hb hbytes d9) rfl ?_
          refine XS.aloadN X0.here hexec rfl (hb hbytes d10) rfl rfl ?_
          refine X0.alen hexec hA0 rfl rfl (hb hbytes d11) ?_
          refine XS.icmpNo X0.here hexec rfl (hb hbytes d12) rfl (ii_ge_f (lt32 (by omega) (by omega))) ?_
          refine XS.aloadN X0.here hexec rfl (hb hbytes d15) rfl rfl ?_
          refine XS.iloadN X0.here hexec rfl (hb hbytes d16) rfl ?_
          refine X0.aget hexec hA0 rfl (yv_get hA tA (i := i) (by omega)) rfl rfl (hb hbytes d17) ?_
          refine XS.aloadN X0.here hexec rfl (hb hbytes d18) rfl rfl ?_
          refine XS.iloadN X0.here hexec rfl (hb hbytes d19) rfl ?_
          refine X0.aget hexec hB0 rfl (yv_get hB tB (i := i) (by omega)) rfl rfl (hb hbytes d20) ?_
          exact Steps.refl _)
        by_cases hv : yv A i = yv B i
        · have c5 : Steps p.tables e below (s₁.setTop (entryFrame m #[.ref a, .ref b] 3)) (s₁.setTop (mkF m 9 #[.val (.ref a), .val (.ref b), .val (.int (Int32.ofNat i + 1))] [])) := c4.trans (by
            refine XS.icmpYes X0.here hexec rfl (pc0 := 21) rfl (hb hbytes d21) rfl (ii_eq_t hv) (by decide) rfl ?_
            refine iincV X0.here hexec rfl 1 (hb hbytes d26) (by decide) rfl rfl ?_
            refine XS.goto X0.here hexec rfl (pc0 := 29) rfl (hb hbytes d29) (by decide) rfl ?_
            exact Steps.refl _)
          rw [succ32] at c5
          exact ih (i + 1) (by omega) (fun j hj => by
            by_cases e : j = i
            · rw [e]; exact hv
            · exact he j (by omega)) c5
        · exact ⟨25, _, 0, Or.inl rfl, Or.inr ⟨rfl, fun q => hv (q.2 i (by omega))⟩, c4.trans (by
            refine XS.icmpNo X0.here hexec rfl (hb hbytes d21) rfl (ii_eq_f hv) ?_
            refine iconstV X0.here hexec rfl 0 (hb hbytes d24) (by decide) ?_
            exact Steps.refl _)⟩
    obtain ⟨pc, Ls, v, hpc, hv, cz⟩ := loop A.slots.size 0 (by omega) (fun j hj => absurd hj (Nat.not_lt_zero j)) c3
    have nv : narrow .boolean (.int v) = .int v := by rcases hv with ⟨rfl, -⟩ | ⟨rfl, -⟩ <;> rfl
    rcases hpc with rfl | rfl
    · exact ⟨s₁, some (.int v), _, _, _, X0, rfl, rfl, rfl, (fun h => by cases h), ⟨v, rfl, hh0, hv⟩, fun fs hl => cz.trans (X0.ireturnOut hexec hret nv (Or.inr (Or.inl rfl)) (hb hbytes d25) hl)⟩
    · exact ⟨s₁, some (.int v), _, _, _, X0, rfl, rfl, rfl, (fun h => by cases h), ⟨v, rfl, hh0, hv⟩, fun fs hl => cz.trans (X0.ireturnOut hexec hret nv (Or.inr (Or.inl rfl)) (hb hbytes d33) hl)⟩
  · have c3 : Steps p.tables e below (s₁.setTop (entryFrame m #[.ref a, .ref b] 3)) (s₁.setTop (mkF m 35 #[.val (.ref a), .val (.ref b), .unset] [.int 0])) := c2.trans (by
      refine XS.icmpYes X0.here hexec rfl (pc0 := 4) rfl (hb hbytes d4) rfl (ii_ne_t (ne32 a31 b31 hs)) (by decide) rfl ?_
      refine iconstV X0.here hexec rfl 0 (hb hbytes d34) (by decide) ?_
      exact Steps.refl _)
    exact ⟨s₁, some (.int 0), _, _, _, X0, rfl, rfl, rfl, (fun h => by cases h), ⟨0, rfl, hh0, Or.inr ⟨rfl, fun q => hs q.1⟩⟩, fun fs hl => c3.trans (X0.ireturnOut hexec hret rfl (Or.inr (Or.inl rfl)) (hb hbytes d35) hl)⟩
end LEq
theorem Cod.ty {cd : Int32} {n : Nat} {f : Nat → Int32} {V : Cell} (h : Cod cd n f V) : Typed .byte V := fun i v hv => by
  have hi : i < V.slots.size := (Array.getElem?_eq_some_iff.mp hv).1
  rcases h with ⟨-, k1, k2⟩ | ⟨-, k1, k2, -⟩
  · rw [(k2 i (by omega)).1] at hv; cases hv; exact fits_lo8 _
  · rcases Nat.mod_two_eq_zero_or_one i with e | e
    · obtain ⟨j, rfl⟩ : ∃ j, i = 2 * j := ⟨i / 2, by omega⟩
      rw [(k2 j (by omega)).1] at hv; cases hv; exact fits_lo8 _
    · obtain ⟨j, rfl⟩ : ∃ j, i = 2 * j + 1 := ⟨i / 2, by omega⟩
      rw [(k2 j (by omega)).2] at hv; cases hv; exact fits_lo8 _
/-- the same text -/
def SameT (n : Nat) (f : Nat → Int32) (k : Nat) (g : Nat → Int32) : Prop := n = k ∧ ∀ j, j < n → f j = g j
theorem lo8_inj {x y : Int32} (h0 : ¬ x < 0) (h1 : ¬ 255 < x) (k0 : ¬ y < 0) (k1 : ¬ 255 < y) (h : lo8 x = lo8 y) : x = y := by
  rw [← lo8_mask h0 h1, ← lo8_mask k0 k1, h]
/-- arrays coded by one coder are equal just where the texts are -/
theorem Cod.eqv {cd : Int32} {n k : Nat} {f g : Nat → Int32} {V V' : Cell} (h : Cod cd n f V) (h' : Cod cd k g V') (hf : ∀ j, j < n → ¬ f j < 0 ∧ ¬ 65535 < f j) (hg : ∀ j, j < k → ¬ g j < 0 ∧ ¬ 65535 < g j) : EqC V V' ↔ SameT n f k g := by
  have yvv : ∀ {W : Cell} {i : Nat} {x : Int32}, W.slots[i]? = some (.int x) → yv W i = x := fun q => by unfold yv; rw [q]
  rcases h with ⟨rfl, k1, k2⟩ | ⟨rfl, k1, k2, -⟩
  · rcases h' with ⟨-, m1, m2⟩ | ⟨e, -⟩
    · constructor
      · rintro ⟨e1, e2⟩
        refine ⟨by omega, fun j hj => ?_⟩
        have q := e2 j (by omega)
        rw [yvv (k2 j hj).1, yvv (m2 j (by omega)).1] at q
        exact lo8_inj (hf j hj).1 (k2 j hj).2 (hg j (by omega)).1 (m2 j (by omega)).2 q
      · rintro ⟨rfl, e2⟩
        refine ⟨by omega, fun j hj => ?_⟩
        rw [yvv (k2 j (by omega)).1, yvv (m2 j (by omega)).1, e2 j (by omega)]
    · exact absurd e (by decide)
  · rcases h' with ⟨e, -⟩ | ⟨-, m1, m2, -⟩
    · exact absurd e (by decide)
    · constructor
      · rintro ⟨e1, e2⟩
        refine ⟨by omega, fun j hj => ?_⟩
        have q1 := e2 (2 * j) (by omega)
        have q2 := e2 (2 * j + 1) (by omega)
        rw [yvv (k2 j hj).1, yvv (m2 j (by omega)).1] at q1
        rw [yvv (k2 j hj).2, yvv (m2 j (by omega)).2] at q2
        rw [← pair_says (hf j hj).1 (hf j hj).2, ← pair_says (hg j (by omega)).1 (hg j (by omega)).2, q1, q2]
      · rintro ⟨rfl, e2⟩
        refine ⟨by omega, fun i hi => ?_⟩
        rcases Nat.mod_two_eq_zero_or_one i with e | e
        · obtain ⟨j, rfl⟩ : ∃ j, i = 2 * j := ⟨i / 2, by omega⟩
          rw [yvv (k2 j (by omega)).1, yvv (m2 j (by omega)).1, e2 j (by omega)]
        · obtain ⟨j, rfl⟩ : ∃ j, i = 2 * j + 1 := ⟨i / 2, by omega⟩
          rw [yvv (k2 j (by omega)).2, yvv (m2 j (by omega)).2, e2 j (by omega)]
/-- two codings differ: so do the texts -/
theorem Cod.dif {cd cd' : Int32} {n k : Nat} {f g : Nat → Int32} {V V' : Cell} (h : Cod cd n f V) (h' : Cod cd' k g V') (hne : ¬ cd = cd') : ¬ SameT n f k g := by
  rintro ⟨rfl, e⟩
  rcases h with ⟨rfl, -, k2⟩ | ⟨rfl, -, -, j, hj, hw⟩
  · rcases h' with ⟨rfl, -⟩ | ⟨-, -, -, j, hj, hw⟩
    · exact hne rfl
    · exact (k2 j hj).2 (by rw [e j hj]; exact hw)
  · rcases h' with ⟨-, -, m2⟩ | ⟨rfl, -⟩
    · exact (m2 j hj).2 (by rw [← e j hj]; exact hw)
    · exact hne rfl
/-- an object of exactly C is an instance of C -/
theorem cinst {p : Program} {l : Launch} {e : Env} {R : Room} {s : State} {m : MethodId} {args : Array Value} {below : List Frame} {meth : Method} {c : Code} {T : State} {locs : List Loc} {cells slots : Nat} (X : Stand p l e R s m args below meth c T locs cells slots) (hexec : p.tables.exec = Jvm.exec) {own C : String} {index : Nat} (hown : s.vm.findClass own = some m.cls) (hlink : (Cond.classLink own index C).before args s = true) {a : Addr} (hE : Exact C a T)
    {g : JFrame} (hg : g.method = m) {rest : List Value} (hstack : g.stack = .ref a :: rest) (hdg : decode c.code g.pc = .ok (.instanceof index, 3)) :
    ∃ T', Stand p l e R s m args below meth c T' locs cells slots ∧ T'.heap = T.heap ∧ ∀ target, Steps p.tables e below (T'.setTop { g with pc := g.pc + 3, stack := .int 1 :: rest }) target → Steps p.tables e below (T.setTop g) target := by
  obtain ⟨cB, h1, D, h2, h3, h4⟩ := hE
  have h1' : s.vm.findClass C = some cB := by rw [← X.warmed.alike.findClass]; exact h1
  obtain ⟨vm', X', st⟩ := X.instanceofYes hexec hown hlink h2 h4 h1' (by rw [h3]; exact Jvm.Free.SB.assignable_self _ _) hg hstack hdg
  exact ⟨_, X', rfl, st⟩
theorem cself {p : Program} {l : Launch} {e : Env} {R : Room} {s : State} {m : MethodId} {args : Array Value} {below : List Frame} {meth : Method} {c : Code} {T : State} {locs : List Loc} {cells slots : Nat} (X : Stand p l e R s m args below meth c T locs cells slots) (hexec : p.tables.exec = Jvm.exec) {own C : String} {index : Nat} (hown : s.vm.findClass own = some m.cls) (hlink : (Cond.classLink own index C).before args s = true) {a : Addr} (hE : Exact C a T)
    {g : JFrame} (hg : g.method = m) {rest : List Value} (hstack : g.stack = .ref a :: rest) (hdg : decode c.code g.pc = .ok (.checkcast index, 3)) :
    ∃ T', Stand p l e R s m args below meth c T' locs cells slots ∧ T'.heap = T.heap ∧ ∀ target, Steps p.tables e below (T'.setTop { g with pc := g.pc + 3, stack := .ref a :: rest }) target → Steps p.tables e below (T.setTop g) target := by
  obtain ⟨cB, h1, D, h2, h3, h4⟩ := hE
  have h1' : s.vm.findClass C = some cB := by rw [← X.warmed.alike.findClass]; exact h1
  obtain ⟨vm', X', st⟩ := X.checkcastYes hexec hown hlink h2 h4 h1' (by rw [h3]; exact Jvm.Free.SB.assignable_self _ _) hg hstack hdg
  exact ⟨_, X', rfl, fun t h => st t (by rw [← hstack] at h; exact h)⟩
namespace SEq
def yN : MethodName := ⟨"java/lang/String", "equals", "(Ljava/lang/Object;)Z"⟩
abbrev yB : ByteArray := jdk_42_method_66_code
theorem d0 : decode yB 0 = .ok (.aload_n 0, 1) := by decide +kernel
theorem d1 : decode yB 1 = .ok (.aload_n 1, 1) := by decide +kernel
theorem d2 : decode yB 2 = .ok (.if_acmp (.ne) 5, 3) := by decide +kernel
theorem d5 : decode yB 5 = .ok (.iconst 1, 1) := by decide +kernel
theorem d6 : decode yB 6 = .ok (.ireturn, 1) := by decide +kernel
theorem d7 : decode yB 7 = .ok (.aload_n 1, 1) := by decide +kernel
theorem d8 : decode yB 8 = .ok (.instanceof 10, 3) := by decide +kernel
theorem d11 : decode yB 11 = .ok (.ifCond (.eq) 43, 3) := by decide +kernel
theorem d14 : decode yB 14 = .ok (.aload_n 1, 1) := by decide +kernel
theorem d15 : decode yB 15 = .ok (.checkcast 10, 3) := by decide +kernel
theorem d18 : decode yB 18 = .ok (.astore_n 2, 1) := by decide +kernel
theorem d19 : decode yB 19 = .ok (.getstatic 38, 3) := by decide +kernel
theorem d22 : decode yB 22 = .ok (.ifCond (.eq) 14, 3) := by decide +kernel
theorem d25 : decode yB 25 = .ok (.aload_n 0, 1) := by decide +kernel
theorem d26 : decode yB 26 = .ok (.getfield 15, 3) := by decide +kernel
theorem d29 : decode yB 29 = .ok (.aload_n 2, 1) := by decide +kernel
theorem d30 : decode yB 30 = .ok (.getfield 15, 3) := by decide +kernel
theorem d33 : decode yB 33 = .ok (.if_icmp (.ne) 21, 3) := by decide +kernel
theorem d36 : decode yB 36 = .ok (.aload_n 0, 1) := by decide +kernel
theorem d37 : decode yB 37 = .ok (.getfield 9, 3) := by decide +kernel
theorem d40 : decode yB 40 = .ok (.aload_n 2, 1) := by decide +kernel
theorem d41 : decode yB 41 = .ok (.getfield 9, 3) := by decide +kernel
theorem d44 : decode yB 44 = .ok (.invokestatic 541, 3) := by decide +kernel
theorem d47 : decode yB 47 = .ok (.ifCond (.eq) 7, 3) := by decide +kernel
theorem d50 : decode yB 50 = .ok (.iconst 1, 1) := by decide +kernel
theorem d51 : decode yB 51 = .ok (.goto 4, 3) := by decide +kernel
theorem d54 : decode yB 54 = .ok (.iconst 0, 1) := by decide +kernel
theorem d55 : decode yB 55 = .ok (.ireturn, 1) := by decide +kernel
def site : List Cond := [.classLink "java/lang/String" 10 "java/lang/String", .fieldLink "java/lang/String" 38 "java/lang/String" "COMPACT_STRINGS" "Z", .fieldLink "java/lang/String" 15 "java/lang/String" "coder" "B", .fieldLink "java/lang/String" 9 "java/lang/String" "value" "[B", LEq.tab] ++ staticW "java/lang/String" 541 LEq.yN
def tab : Cond := tabOf yN yB 3 (some .boolean) site
def P (x t : Addr) (V : Cell) (cd : Int32) (n : Nat) (f : Nat → Int32) (y t' : Addr) (V' : Cell) (cd' : Int32) (k : Nat) (g : Nat → Int32) (z : Int32) (args : Array Value) (s : State) : Prop := args = #[.ref x, .ref y] ∧ Txt x t V cd n f s ∧ Txt y t' V' cd' k g s ∧ StaticIs s "java/lang/String" "COMPACT_STRINGS" "Z" (.int z) ∧ ¬ z = 0
/-- equals(Object) of two Strings: whether the texts are the same -/
theorem law (l : Launch) (x t : Addr) (V : Cell) (cd : Int32) (n : Nat) (f : Nat → Int32) (y t' : Addr) (V' : Cell) (cd' : Int32) (k : Nat) (g : Nat → Int32) (z : Int32) : Law l yN 2 1 1 14 yB 3 (some .boolean) site (P x t V cd n f y t' V' cd' k g z) (Says01 (SameT n f k g)) [] 0 0 := by
  refine Law.of_walk (plainFor_of_name (by decide +kernel)) (by decide +kernel) (by decide +kernel) (by decide) (fun _ _ h => by rw [h.1]; rfl) (fun _ U U' hal hh h => ⟨h.1, h.2.1.mv hal hh, h.2.2.1.mv hal hh, h.2.2.2.1.there hal hh, h.2.2.2.2⟩) (fun r U U' V V' h1 hal h2 h => Says01.mv r U U' V V' h1 hal h2 h) ?_
  intro p e s m args below meth c s₁ X0 hexec hbytes hml hret hlk hnm hown hh0 W hP
  obtain ⟨rfl, hx, hy, s1, hz⟩ := hP
  have c1 : Steps p.tables e below (s₁.setTop (entryFrame m #[.ref x, .ref y] 3)) (s₁.setTop (mkF m 2 #[.val (.ref x), .val (.ref y), .unset] [.ref y, .ref x])) := Steps.trans (entry rfl) (by
    show Steps p.tables e below (s₁.setTop (mkF m 0 #[.val (.ref x), .val (.ref y), .unset] [])) _
    refine XS.aloadN X0.here hexec rfl (hb hbytes d0) rfl rfl ?_
    refine XS.aloadN X0.here hexec rfl (hb hbytes d1) rfl rfl ?_
    exact Steps.refl _)
  by_cases hxy : x = y
  · have c2 : Steps p.tables e below (s₁.setTop (entryFrame m #[.ref x, .ref y] 3)) (s₁.setTop (mkF m 6 #[.val (.ref x), .val (.ref y), .unset] [.int 1])) := c1.trans (by
      refine acmpNo X0.here hexec rfl (hb hbytes d2) rfl rfl rfl (by simp [acmp, hxy]) ?_
      refine iconstV X0.here hexec rfl 1 (hb hbytes d5) (by decide) ?_
      exact Steps.refl _)
    subst hxy
    have ec : cd = cd' := by
      obtain ⟨D, fd, a1, a2, a3⟩ := hx.2.2.1
      obtain ⟨D', fd', b1, b2, b3⟩ := hy.2.2.1
      cases a1.symm.trans b1
      obtain ⟨q1, q2, q3, q4⟩ := a2.1
      obtain ⟨r1, r2, r3, r4⟩ := b2.1
      cases q4.symm.trans r4
      cases a3.symm.trans b3; rfl
    have et : t = t' := by
      obtain ⟨D, fd, a1, a2, a3⟩ := hx.2.1
      obtain ⟨D', fd', b1, b2, b3⟩ := hy.2.1
      cases a1.symm.trans b1
      obtain ⟨q1, q2, q3, q4⟩ := a2.1
      obtain ⟨r1, r2, r3, r4⟩ := b2.1
      cases q4.symm.trans r4
      cases a3.symm.trans b3; rfl
    subst ec et
    have ev : V = V' := by cases hx.2.2.2.1.1.symm.trans hy.2.2.2.1.1; rfl
    subst ev
    have hs : SameT n f k g := (Cod.eqv hx.2.2.2.2.1 hy.2.2.2.2.1 hx.2.2.2.2.2 hy.2.2.2.2.2).mp ⟨rfl, fun _ _ => rfl⟩
    exact ⟨s₁, some (.int 1), _, _, _, X0, rfl, rfl, rfl, (fun h => by cases h), ⟨1, rfl, hh0, Or.inl ⟨rfl, hs⟩⟩, fun fs hl => c2.trans (X0.ireturnOut hexec hret rfl (Or.inr (Or.inl rfl)) (hb hbytes d6) hl)⟩
  · have c2 : Steps p.tables e below (s₁.setTop (entryFrame m #[.ref x, .ref y] 3)) (s₁.setTop (mkF m 8 #[.val (.ref x), .val (.ref y), .unset] [.ref y])) := c1.trans (by
      refine acmpYes X0.here hexec rfl (pc0 := 2) rfl (hb hbytes d2) rfl rfl rfl (by simp [acmp, hxy]) (by decide) rfl ?_
      refine XS.aloadN X0.here hexec rfl (hb hbytes d7) rfl rfl ?_
      exact Steps.refl _)
    obtain ⟨T3, X3, q3, st3⟩ := cinst X0 hexec hown (wk W (.classLink "java/lang/String" 10 "java/lang/String")) (hy.mv X0.warmed.alike hh0).1 (g := (mkF m 8 #[.val (.ref x), .val (.ref y), .unset] [.ref y])) rfl (rest := []) rfl (hb hbytes d8)
    have hh3 := q3.trans hh0
    have c4 : Steps p.tables e below (s₁.setTop (entryFrame m #[.ref x, .ref y] 3)) (T3.setTop (mkF m 15 #[.val (.ref x), .val (.ref y), .unset] [.ref y])) := (c2.trans (st3 _ (Steps.refl _))).trans (by
      refine XS.ifNo X3.here hexec rfl (hb hbytes d11) rfl (i0_eq_f (by decide)) ?_
      refine XS.aloadN X3.here hexec rfl (hb hbytes d14) rfl rfl ?_
      exact Steps.refl _)
    obtain ⟨T5, X5, q5, st5⟩ := cself X3 hexec hown (wk W (.classLink "java/lang/String" 10 "java/lang/String")) (hy.mv X3.warmed.alike hh3).1 (g := (mkF m 15 #[.val (.ref x), .val (.ref y), .unset] [.ref y])) rfl (rest := []) rfl (hb hbytes d15)
    have hh5 := q5.trans hh3
    have c6 : Steps p.tables e below (s₁.setTop (entryFrame m #[.ref x, .ref y] 3)) (T5.setTop (mkF m 19 #[.val (.ref x), .val (.ref y), .val (.ref y)] [])) := (c4.trans (st5 _ (Steps.refl _))).trans (by
      refine XS.astoreN X5.here hexec rfl (hb hbytes d18) rfl rfl rfl ?_
      exact Steps.refl _)
    obtain ⟨T7, X7, q7, st7⟩ := X5.sget hexec hown (wk W (.fieldLink "java/lang/String" 38 "java/lang/String" "COMPACT_STRINGS" "Z")) s1 (fun _ _ h => by rw [hh5]; exact h) (g := (mkF m 19 #[.val (.ref x), .val (.ref y), .val (.ref y)] [])) rfl (hb hbytes d19)
    have hh7 := q7.trans hh5
    have c8 : Steps p.tables e below (s₁.setTop (entryFrame m #[.ref x, .ref y] 3)) (T7.setTop (mkF m 26 #[.val (.ref x), .val (.ref y), .val (.ref y)] [.ref x])) := (c6.trans (st7 _ (Steps.refl _))).trans (by
      refine XS.ifNo X7.here hexec rfl (hb hbytes d22) rfl (i0_eq_f hz) ?_
      refine XS.aloadN X7.here hexec rfl (hb hbytes d25) rfl rfl ?_
      exact Steps.refl _)
    obtain ⟨T9, X9, q9, st9⟩ := X7.hget hexec hown (wk W (.fieldLink "java/lang/String" 15 "java/lang/String" "coder" "B")) (hx.mv X7.warmed.alike hh7).2.2.1 (g := (mkF m 26 #[.val (.ref x), .val (.ref y), .val (.ref y)] [.ref x])) rfl (rest := []) rfl (hb hbytes d26)
    have hh9 := q9.trans hh7
    have c10 : Steps p.tables e below (s₁.setTop (entryFrame m #[.ref x, .ref y] 3)) (T9.setTop (mkF m 30 #[.val (.ref x), .val (.ref y), .val (.ref y)] [.ref y, .int cd])) := (c8.trans (st9 _ (Steps.refl _))).trans (by
      refine XS.aloadN X9.here hexec rfl (hb hbytes d29) rfl rfl ?_
      exact Steps.refl _)
    obtain ⟨T11, X11, q11, st11⟩ := X9.hget hexec hown (wk W (.fieldLink "java/lang/String" 15 "java/lang/String" "coder" "B")) (hy.mv X9.warmed.alike hh9).2.2.1 (g := (mkF m 30 #[.val (.ref x), .val (.ref y), .val (.ref y)] [.ref y, .int cd])) rfl (rest := [.int cd]) rfl (hb hbytes d30)
    have hh11 := q11.trans hh9
    have c12 : Steps p.tables e below (s₁.setTop (entryFrame m #[.ref x, .ref y] 3)) (T11.setTop (mkF m 33 #[.val (.ref x), .val (.ref y), .val (.ref y)] [.int cd', .int cd])) := c10.trans (st11 _ (Steps.refl _))
    by_cases hcd : cd = cd'
    · subst hcd
      have c13 : Steps p.tables e below (s₁.setTop (entryFrame m #[.ref x, .ref y] 3)) (T11.setTop (mkF m 37 #[.val (.ref x), .val (.ref y), .val (.ref y)] [.ref x])) := c12.trans (by
        refine XS.icmpNo X11.here hexec rfl (hb hbytes d33) rfl (ii_ne_f rfl) ?_
        refine XS.aloadN X11.here hexec rfl (hb hbytes d36) rfl rfl ?_
        exact Steps.refl _)
      obtain ⟨T14, X14, q14, st14⟩ := X11.hget hexec hown (wk W (.fieldLink "java/lang/String" 9 "java/lang/String" "value" "[B")) (hx.mv X11.warmed.alike hh11).2.1 (g := (mkF m 37 #[.val (.ref x), .val (.ref y), .val (.ref y)] [.ref x])) rfl (rest := []) rfl (hb hbytes d37)
      have hh14 := q14.trans hh11
      have c15 : Steps p.tables e below (s₁.setTop (entryFrame m #[.ref x, .ref y] 3)) (T14.setTop (mkF m 41 #[.val (.ref x), .val (.ref y), .val (.ref y)] [.ref y, .ref t])) := (c13.trans (st14 _ (Steps.refl _))).trans (by
        refine XS.aloadN X14.here hexec rfl (hb hbytes d40) rfl rfl ?_
        exact Steps.refl _)
      obtain ⟨T16, X16, q16, st16⟩ := X14.hget hexec hown (wk W (.fieldLink "java/lang/String" 9 "java/lang/String" "value" "[B")) (hy.mv X14.warmed.alike hh14).2.1 (g := (mkF m 41 #[.val (.ref x), .val (.ref y), .val (.ref y)] [.ref y, .ref t])) rfl (rest := [.ref t]) rfl (hb hbytes d41)
      have hh16 := q16.trans hh14
      have c17 : Steps p.tables e below (s₁.setTop (entryFrame m #[.ref x, .ref y] 3)) (T16.setTop (mkF m 44 #[.val (.ref x), .val (.ref y), .val (.ref y)] [.ref t', .ref t])) := c15.trans (st16 _ (Steps.refl _))
      obtain ⟨v18, T18, X18, E18, g18⟩ := X16.callS hexec (LEq.law l t V t' V') hown (wks W (staticW "java/lang/String" 541 LEq.yN)) (wk W LEq.tab) (W := 0) (Nat.le_of_ble_eq_true rfl) (Nat.le_of_ble_eq_true rfl) (Nat.le_refl _) (Nat.le_refl _) (g := (mkF m 44 #[.val (.ref x), .val (.ref y), .val (.ref y)] [.ref t', .ref t])) rfl (by rw [hml]; rfl) c17 (argsL := [.ref t, .ref t']) (rest := []) rfl rfl (by show 2 * 0 + 0 ≤ _; decide) (hb hbytes d44) (⟨rfl, hx.2.2.2.1.mv X16.warmed.alike hh16, hx.2.2.2.2.1.ty, hy.2.2.2.1.mv X16.warmed.alike hh16, hy.2.2.2.2.1.ty⟩)
      obtain ⟨v, rfl, q18, hv⟩ := E18
      have iff := Cod.eqv hx.2.2.2.2.1 hy.2.2.2.2.1 hx.2.2.2.2.2 hy.2.2.2.2.2
      rcases hv with ⟨rfl, he⟩ | ⟨rfl, he⟩
      · have c19 : Steps p.tables e below (s₁.setTop (entryFrame m #[.ref x, .ref y] 3)) (T18.setTop (mkF m 55 #[.val (.ref x), .val (.ref y), .val (.ref y)] [.int 1])) := Steps.trans g18 (by
          refine XS.ifNo X18.here hexec rfl (hb hbytes d47) rfl (i0_eq_f (by decide)) ?_
          refine iconstV X18.here hexec rfl 1 (hb hbytes d50) (by decide) ?_
          refine XS.goto X18.here hexec rfl (pc0 := 51) rfl (hb hbytes d51) (by decide) rfl ?_
          exact Steps.refl _)
        exact ⟨T18, some (.int 1), _, _, _, X18, rfl, rfl, rfl, (fun h => by cases h), ⟨1, rfl, q18.trans hh16, Or.inl ⟨rfl, iff.mp he⟩⟩, fun fs hl => c19.trans (X18.ireturnOut hexec hret rfl (Or.inr (Or.inl rfl)) (hb hbytes d55) hl)⟩
      · have c19 : Steps p.tables e below (s₁.setTop (entryFrame m #[.ref x, .ref y] 3)) (T18.setTop (mkF m 55 #[.val (.ref x), .val (.ref y), .val (.ref y)] [.int 0])) := Steps.trans g18 (by
          refine XS.ifYes X18.here hexec rfl (pc0 := 47) rfl (hb hbytes d47) rfl (i0_eq_t rfl) (by decide) rfl ?_
          refine iconstV X18.here hexec rfl 0 (hb hbytes d54) (by decide) ?_
          exact Steps.refl _)
        exact ⟨T18, some (.int 0), _, _, _, X18, rfl, rfl, rfl, (fun h => by cases h), ⟨0, rfl, q18.trans hh16, Or.inr ⟨rfl, fun q => he (iff.mpr q)⟩⟩, fun fs hl => c19.trans (X18.ireturnOut hexec hret rfl (Or.inr (Or.inl rfl)) (hb hbytes d55) hl)⟩
    · have c13 : Steps p.tables e below (s₁.setTop (entryFrame m #[.ref x, .ref y] 3)) (T11.setTop (mkF m 55 #[.val (.ref x), .val (.ref y), .val (.ref y)] [.int 0])) := c12.trans (by
        refine XS.icmpYes X11.here hexec rfl (pc0 := 33) rfl (hb hbytes d33) rfl (ii_ne_t hcd) (by decide) rfl ?_
        refine iconstV X11.here hexec rfl 0 (hb hbytes d54) (by decide) ?_
        exact Steps.refl _)
      exact ⟨T11, some (.int 0), _, _, _, X11, rfl, rfl, rfl, (fun h => by cases h), ⟨0, rfl, hh11, Or.inr ⟨rfl, Cod.dif hx.2.2.2.2.1 hy.2.2.2.2.1 hcd⟩⟩, fun fs hl => c13.trans (X11.ireturnOut hexec hret rfl (Or.inr (Or.inl rfl)) (hb hbytes d55) hl)⟩
theorem pays {l : Launch} {R : Room} {p : Program} {e : Env} {below : List Frame} {s : State} {sargs : Array Value} {len W : Nat} (x t : Addr) (V : Cell) (cd : Int32) (n : Nat) (f : Nat → Int32) (y t' : Addr) (V' : Cell) (cd' : Int32) (k : Nat) (g : Nat → Int32) (z : Int32) (htab : tab.before sargs s = true) (hfr : 2 ≤ R.frames) (hlo : W + 28 ≤ R.locals) :
    Back l R p e below s sargs yN len W (fun A₁ a₁ => A₁.cells + 0 ≤ R.cells ∧ A₁.slots + 0 ≤ R.slots ∧ P x t V cd n f y t' V' cd' k g z a₁ A₁.U) (fun A₁ _ v₁ B₁ => Says01 (SameT n f k g) v₁ A₁.U B₁.U ∧ B₁.locs = A₁.locs ++ [] ∧ B₁.cells = A₁.cells + 0 ∧ B₁.slots = A₁.slots + 0) :=
  (law l x t V cd n f y t' V' cd' k g z).pays htab hfr (by omega)
end SEq
end StrChars
namespace StrChars.Road
open Jvm Sem ClassFile Op Lib Jvm.Stand Jvm.Free Jvm.Free.XT
open Jvm.Lib.Cold (StaticIs)
/-- the words of String.equals(Object) -/
abbrev wordsEq : List Jvm.Cond := [.code SEq.yN SEq.yB 3 (some .boolean), .initialized ST, .classLink ST 10 ST, .fieldLink ST 38 ST "COMPACT_STRINGS" "Z", .fieldLink ST 15 ST "coder" "B", .fieldLink ST 9 ST "value" "[B", .methodLink ST 541 LEq.yN, .static LEq.yN, .code LEq.yN LEq.yB 3 (some .boolean), .initialized "java/lang/StringLatin1"]
theorem tabEq_of {a : Array Value} {s : State} (h : ∀ w ∈ wordsEq, w.before a s = true) : SEq.tab.before a s = true := by
  have hl : LEq.tab.before a s = true := unparts (wk h (.code LEq.yN LEq.yB 3 (some .boolean))) (wks h (.initialized LEq.yN.cls :: LEq.site))
  have q := consq hl h
  exact unparts (wk q (.code SEq.yN SEq.yB 3 (some .boolean))) (wks q (.initialized SEq.yN.cls :: SEq.site))
theorem movedEq {Z s : State} {a0 args : Array Value} (hZ : Z.Warmed39 s.vm) (hw : ∀ d ∈ wordsEq, d.before a0 Z = true) : ∀ d ∈ wordsEq, d.before args s = true := fun d hd => by
  have t : ∀ d ∈ wordsEq, (d.onTables && d.keepsFace) = true := by decide +kernel
  exact RoadKit.mv hZ (hw d hd) (t d hd)
/-- the road's facts of a String, as the laws ask it -/
theorem txt_of {Z U : State} {a0 : Array Value} {kI : Nat} (wi : (Jvm.Cond.instantiable ST kI).before a0 Z = true) (al : Z.vm.Alike U.vm) {x t : Addr} {kb : ClassId} {cs : List Int32} {cd N2 : Int32} {vs : List Value} (E : RoadKit.Exa Z U.heap x ST) (V : RoadKit.Fld Z U.heap x ST "value" "[B" (.ref t)) (C : RoadKit.Fld Z U.heap x ST "coder" "B" (.int cd)) (K : RoadKit.Arv Z U.heap t kb .byte N2 vs (.int 0)) (hc : CodA cs cd N2 vs) (hb : ∀ c ∈ cs, ¬ c < 0 ∧ ¬ (65535 : Int32) < c) (l2 : cs.length ≤ 4000) :
    ∃ A, Txt x t A cd cs.length (fun j => cs.getD j 0) U := by
  obtain ⟨A, K1, K2, K3, K4, K5, K6⟩ := K
  have hcod := hc.cod (by omega) K3 K5
  obtain ⟨D, fV, fC, hB, F1, F2, g1, g2, -, -⟩ := strObj wi al E V C
  exact ⟨A, ⟨_, hB.2.2.1, D, hB.1, rfl, by cases q : D.vm <;> first | rfl | exact absurd q (hB.2.1.2 _)⟩, Has.of hB F1 g1, Has.of hB F2 g2, ⟨K1.1, State.isArrayOf_alike al K1.2.1, K1.2.2, by rcases hcod with ⟨-, q, -⟩ | ⟨-, q, -⟩ <;> omega⟩, hcod, fun j hj => by
    have e : cs.getD j 0 = cs[j] := by simp [List.getD_eq_getElem?_getD, hj]
    show ¬ cs.getD j 0 < 0 ∧ ¬ 65535 < cs.getD j 0
    rw [e]; exact hb _ (List.getElem_mem _)⟩
theorem same_list (cs ds : List Int32) : SameT cs.length (fun j => cs.getD j 0) ds.length (fun j => ds.getD j 0) ↔ cs = ds := by
  constructor
  · rintro ⟨e, q⟩
    refine List.ext_getElem e fun j h1 h2 => ?_
    have := q j h1
    simpa [List.getD_eq_getElem?_getD, h1, h2] using this
  · rintro rfl
    exact ⟨rfl, fun _ _ => rfl⟩
/-- **equals(Object) OF TWO SUCH STRINGS**: 1 just where the chars are the same -/
theorem eqW {p : Program} {l : Launch} {e : Env} {R : Room} {s : State} {args : Array Value} {below : List Frame} {len W : Nat} {Z : State} {a0 : Array Value} {h : Heap} (hZ : Z.Warmed39 s.vm) (hw : ∀ d ∈ wordsEq, d.before a0 Z = true) {kI : Nat} (wi : (Jvm.Cond.instantiable ST kI).before a0 Z = true)
    {x t : Addr} {kb : ClassId} {cs : List Int32} {cd N2 : Int32} {vs : List Value} (E : RoadKit.Exa Z h x ST) (V : RoadKit.Fld Z h x ST "value" "[B" (.ref t)) (C : RoadKit.Fld Z h x ST "coder" "B" (.int cd)) (K : RoadKit.Arv Z h t kb .byte N2 vs (.int 0)) (hc : CodA cs cd N2 vs) (hb : ∀ c ∈ cs, ¬ c < 0 ∧ ¬ (65535 : Int32) < c) (l2 : cs.length ≤ 4000)
    {y t' : Addr} {kb' : ClassId} {ds : List Int32} {cd' N2' : Int32} {vs' : List Value} (E' : RoadKit.Exa Z h y ST) (V' : RoadKit.Fld Z h y ST "value" "[B" (.ref t')) (C' : RoadKit.Fld Z h y ST "coder" "B" (.int cd')) (K' : RoadKit.Arv Z h t' kb' .byte N2' vs' (.int 0)) (hc' : CodA ds cd' N2' vs') (hb' : ∀ c ∈ ds, ¬ c < 0 ∧ ¬ (65535 : Int32) < c) (l2' : ds.length ≤ 4000)
    {z : Int32} (S : RoadKit.Sta Z h ST "COMPACT_STRINGS" "Z" (.int z)) (hz : ¬ z = 0) (hfr : 2 ≤ R.frames) (hlo : W + 28 ≤ R.locals) :
    Back l R p e below s args (⟨"java/lang/String", "equals", "(Ljava/lang/Object;)Z"⟩ : MethodName) len W (fun P a => a = #[.ref x, .ref y] ∧ P.U.heap = h ∧ P.cells + 0 ≤ R.cells ∧ P.slots + 0 ≤ R.slots)
      (fun P _ v B => ∃ L, (((v = some (.int 1) ∧ cs = ds) ∨ (v = some (.int 0) ∧ ¬ cs = ds)) ∧ L = [] ∧ B.U.heap = h) ∧ B.locs = P.locs ++ L ∧ B.cells = P.cells + 0 ∧ B.slots = P.slots + 0) := by
  intro m meth c P g ig mk a X hg hsize hdg hW hn hp'
  obtain ⟨rfl, rfl, r1, r2⟩ := hp'
  have al : Z.vm.Alike P.U.vm := hZ.alike.trans X.warmed.alike
  obtain ⟨A, hx⟩ := txt_of wi al E V C K hc hb l2
  obtain ⟨A', hy⟩ := txt_of wi al E' V' C' K' hc' hb' l2'
  obtain ⟨v, B, X', ⟨⟨w, hv, hh, hq⟩, hl, hk, hs⟩, st⟩ := SEq.pays x t A cd cs.length (fun j => cs.getD j 0) y t' A' cd' ds.length (fun j => ds.getD j 0) z (tabEq_of (movedEq hZ hw)) hfr hlo m meth c P g ig mk _ X hg hsize hdg hW hn ⟨r1, r2, rfl, hx, hy, sta_is al S, hz⟩
  refine ⟨v, B, X', ⟨[], ⟨?_, rfl, hh⟩, hl, hk, hs⟩, st⟩
  rcases hq with ⟨rfl, q⟩ | ⟨rfl, q⟩
  · exact Or.inl ⟨hv, (same_list cs ds).mp q⟩
  · exact Or.inr ⟨hv, fun e => q ((same_list cs ds).mpr e)⟩
end StrChars.Road
end Jvm.Pilot.@@N@@
namespace Jvm.Pilot.@@N@@
open Jvm Jvm.ClassFile Sem Op Lib Jvm.Free Jvm.Stand Jvm.LawKit Jvm.RoadKit Bundle Jvm.Pilot.@@N@@.Jvm.D
abbrev jv (x : Int64) : Slot := .val (.long x)
section OwnKit
variable {p : Program} {l : Launch} {e : Env} {R : Room} {s : State} {m : MethodId} {args : Array Value} {below : List Frame} {meth : Method} {c : Code} {T T' : State} {locs : List Loc} {cells slots kc ks : Nat} {Q : Option Value → Heap → List Loc → Prop} {g g' : JFrame}
/-- from the state T, its top frame g, the invocation comes to its end with Q -/
def own_WP (p : Program) (e : Env) (below : List Frame) (s : State) (Q : Option Value → Heap → List Loc → Prop) (kc ks : Nat) (T : State) (g : JFrame) : Prop :=
  ∃ s₂ o, Steps p.tables e below (T.setTop g) s₂ ∧ s₂.status = .running ∧ Ended s₂ below o ∧ ∃ v L, o = .returned v ∧ Q v s₂.heap L ∧ FrameEnd s o s₂ L kc ks
theorem own_step (h : ∀ t, Steps p.tables e below (T'.setTop g') t → Steps p.tables e below (T.setTop g) t) (hr : own_WP p e below s Q kc ks T' g') : own_WP p e below s Q kc ks T g := by
  obtain ⟨s₂, o, h1, h2⟩ := hr
  exact ⟨s₂, o, h _ h1, h2⟩
theorem own_st (g' : JFrame) (h : ∀ t, Steps p.tables e below (T.setTop g') t → Steps p.tables e below (T.setTop g) t) (hr : own_WP p e below s Q kc ks T g') : own_WP p e below s Q kc ks T g := own_step h hr
theorem own_jump (h : Steps p.tables e below (T.setTop g) (T'.setTop g')) (hr : own_WP p e below s Q kc ks T' g') : own_WP p e below s Q kc ks T g := by
  obtain ⟨s₂, o, h1, h2⟩ := hr
  exact ⟨s₂, o, h.trans h1, h2⟩
theorem own_ret (X : Stand p l e R s m args below meth c T locs cells slots) (hlk : meth.locks = false) {v : Option Value} (hv : meth.sig.returnType = none → v = none)
    (hst : ∀ fs, (∀ (f : JFrame) (acts : List Action), f.method = m → f.locked = none → f.entered = [] → (doReturn e (T.setTop f) acts v).1 = T.setFrames fs) → Steps p.tables e below (T.setTop g) (T.setFrames fs))
    (hq : Q v T.heap locs) (h1 : cells ≤ kc) (h2 : slots ≤ ks) : own_WP p e below s Q kc ks T g := by
  obtain ⟨fs, hr, hrun, hended, hW, hsame⟩ := X.leave (v := v) hv hlk
  exact ⟨_, _, hst fs hr, hrun, hended, v, locs, rfl, hq, ⟨v, rfl⟩, hW, hsame.mono h1 h2⟩
theorem own_wide (X : Stand p l e R s m args below meth c T locs cells slots) {cells' slots' : Nat} (h1 : cells ≤ cells') (h2 : slots ≤ slots') : Stand p l e R s m args below meth c T locs cells' slots' :=
  ⟨X.admits, X.cas, X.clock, X.frames, X.room, X.hears, X.method, X.code, X.here, X.tail, X.warmed, X.limits, X.bytes, X.same.mono h1 h2⟩
end OwnKit
theorem own_body {l : Launch} {y : MethodName} {bytes : ByteArray} {maxL : Nat} {ret : Option FieldType} {ws : List Jvm.Cond} {rm : Room} {A : Array Value} {Z : State} {h0 : Heap} {Q : Option Value → Heap → List Loc → Prop} {ls : Array Slot} {kc ks : Nat}
    (hpl : plainFor y = true) (ef : ∀ m, entryFrame m A maxL = mkF m 0 ls [])
    (body : ∀ (p : Program) (e : Env) (s : State) (m : MethodId) (below : List Frame) (meth : Method) (c : Code) (T : State), Stand p l e rm s m A below meth c T [] 0 0 → p.tables.exec = Jvm.exec → c.code = bytes → c.maxLocals = maxL → Z.Warmed39 s.vm → s.vm.findClass y.cls = some m.cls → meth.name = y.name → meth.sig.returnType = ret → meth.locks = false → T.heap = h0 →
      own_WP p e below s Q kc ks T (mkF m 0 ls [])) :
    MetFree l y (head1 (Jvm.Cond.code y bytes maxL ret :: ws) rm) (fun a U => a = A ∧ Z.Warmed39 U.vm ∧ U.heap = h0) (fun _ _ _ _ _ => True) (fun _ U o U' => ∃ v L, o = .returned v ∧ Q v U'.heap L ∧ FrameEnd U o U' L kc ks) := by
  refine MetFree.of_bodySF hpl hisR ?_
  intro p e s m args below meth c s₁ Bd hml0 hP hK
  obtain ⟨rfl, hZ, hh⟩ := hP
  obtain ⟨s₂, o, h1, h2⟩ := body p e s m below meth c s₁ (Stand.of_body Bd) Bd.exec Bd.bytes hml0 hZ (findClass_of_methodNamed Bd.named) (name_of_methodNamed Bd.named Bd.method).1 Bd.returns Bd.notSynchronized (by rw [← hh, Bd.state]; rfl)
  exact ⟨s₂, o, castTop (ef m) h1, h2⟩
theorem own_llt1 {x y : Int64} (h : x < y) : ifCond.holds .lt (lcmpW x y) = true := (if0 _ _).trans (tlt ((lw_lt x y).mpr h)).1
theorem own_llt0 {x y : Int64} (h : ¬ x < y) : ifCond.holds .lt (lcmpW x y) = false := (if0 _ _).trans (flt (mt (lw_lt x y).mp h)).1
theorem own_lge1 {x y : Int64} (h : ¬ x < y) : ifCond.holds .ge (lcmpW x y) = true := (if0 _ _).trans (flt (mt (lw_lt x y).mp h)).2.1
theorem own_lge0 {x y : Int64} (h : x < y) : ifCond.holds .ge (lcmpW x y) = false := (if0 _ _).trans (tlt ((lw_lt x y).mpr h)).2.1
theorem own_lgt1 {x y : Int64} (h : y < x) : ifCond.holds .gt (lcmpW x y) = true := (if0 _ _).trans (tlt ((lw_gt x y).mpr h)).2.2.1
theorem own_lgt0 {x y : Int64} (h : ¬ y < x) : ifCond.holds .gt (lcmpW x y) = false := (if0 _ _).trans (flt (mt (lw_gt x y).mp h)).2.2.1
theorem own_lle1 {x y : Int64} (h : ¬ y < x) : ifCond.holds .le (lcmpW x y) = true := (if0 _ _).trans (flt (mt (lw_gt x y).mp h)).2.2.2
theorem own_lle0 {x y : Int64} (h : y < x) : ifCond.holds .le (lcmpW x y) = false := (if0 _ _).trans (tlt ((lw_gt x y).mpr h)).2.2.2
theorem own_leq1 {x y : Int64} (h : x = y) : ifCond.holds .eq (lcmpW x y) = true := (if0 _ _).trans (teq ((lw_eq x y).mpr h)).1
theorem own_leq0 {x y : Int64} (h : ¬ x = y) : ifCond.holds .eq (lcmpW x y) = false := (if0 _ _).trans (feq (mt (lw_eq x y).mp h)).1
theorem own_lne1 {x y : Int64} (h : ¬ x = y) : ifCond.holds .ne (lcmpW x y) = true := (if0 _ _).trans (feq (mt (lw_eq x y).mp h)).2
theorem own_lne0 {x y : Int64} (h : x = y) : ifCond.holds .ne (lcmpW x y) = false := (if0 _ _).trans (teq ((lw_eq x y).mpr h)).2
abbrev own_W (a0 : Array Value) (Z : State) : Prop := ∀ d ∈ tables_1, d.before a0 Z = true
abbrev own_u (p k m : Int32) : Int32 := ((p.toUInt32 >>> (k &&& 31).toUInt32).toInt32) &&& m
abbrev rm_0 : Room := { frames := 0, cells := 0, slots := 0, locals := 0 }
abbrev rm_1 : Room := { frames := 0, cells := 1, slots := 1, locals := 0 }
abbrev rm_2 : Room := { frames := 1, cells := 0, slots := 0, locals := 12 }
abbrev rm_3 : Room := { frames := 2, cells := 2, slots := 5, locals := 27 }
abbrev rm_4 : Room := { frames := 1, cells := 1, slots := 16, locals := 12 }
abbrev rm_5 : Room := { frames := 2, cells := 1, slots := 16, locals := 25 }
abbrev rm_6 : Room := { frames := 1, cells := 0, slots := 0, locals := 13 }
abbrev rm_7 : Room := { frames := 1, cells := 0, slots := 0, locals := 18 }
abbrev rm_8 : Room := { frames := 2, cells := 0, slots := 0, locals := 33 }
abbrev rm_9 : Room := { frames := 3, cells := 0, slots := 0, locals := 47 }
abbrev rm_10 : Room := { frames := 4, cells := 0, slots := 0, locals := 61 }
abbrev rm_11 : Room := { frames := 1, cells := 0, slots := 0, locals := 14 }
abbrev rm_12 : Room := { frames := 2, cells := 0, slots := 0, locals := 29 }
abbrev rm_13 : Room := { frames := 1, cells := 1, slots := 34, locals := 18 }
abbrev rm_14 : Room := { frames := 3, cells := 1, slots := 34, locals := 48 }
abbrev rm_15 : Room := { frames := 4, cells := 1, slots := 34, locals := 62 }
abbrev rm_16 : Room := { frames := 5, cells := 1, slots := 34, locals := 76 }
abbrev rm_17 : Room := { frames := 1, cells := 1, slots := 4, locals := 18 }
abbrev rm_18 : Room := { frames := 2, cells := 1, slots := 4, locals := 34 }
abbrev rm_19 : Room := { frames := 3, cells := 1, slots := 4, locals := 49 }
abbrev rm_20 : Room := { frames := 4, cells := 1, slots := 4, locals := 65 }
abbrev rm_21 : Room := { frames := 5, cells := 2, slots := 8, locals := 79 }
abbrev rm_22 : Room := { frames := 1, cells := 1, slots := 20, locals := 18 }
abbrev rm_23 : Room := { frames := 2, cells := 1, slots := 20, locals := 34 }
abbrev rm_24 : Room := { frames := 3, cells := 1, slots := 20, locals := 49 }
abbrev rm_25 : Room := { frames := 4, cells := 1, slots := 20, locals := 65 }
abbrev rm_26 : Room := { frames := 5, cells := 2, slots := 24, locals := 79 }
abbrev rm_27 : Room := { frames := 2, cells := 0, slots := 0, locals := 24 }
abbrev rm_28 : Room := { frames := 3, cells := 0, slots := 0, locals := 36 }
abbrev rm_29 : Room := { frames := 4, cells := 2, slots := 6, locals := 50 }
abbrev rm_30 : Room := { frames := 1, cells := 1, slots := 10, locals := 14 }
abbrev rm_31 : Room := { frames := 2, cells := 1, slots := 10, locals := 29 }
abbrev rm_32 : Room := { frames := 3, cells := 1, slots := 10, locals := 41 }
abbrev rm_33 : Room := { frames := 4, cells := 1, slots := 10, locals := 56 }
abbrev rm_34 : Room := { frames := 6, cells := 7, slots := 50, locals := 92 }
abbrev rm_35 : Room := { frames := 6, cells := 8, slots := 100, locals := 92 }
abbrev rm_36 : Room := { frames := 7, cells := 10, slots := 172, locals := 106 }
abbrev rm_37 : Room := { frames := 7, cells := 22, slots := 120, locals := 106 }
abbrev rm_38 : Room := { frames := 8, cells := 23, slots := 237, locals := 119 }
abbrev rm_39 : Room := { frames := 2, cells := 0, slots := 0, locals := 27 }
abbrev rm_40 : Room := { frames := 3, cells := 0, slots := 0, locals := 40 }
abbrev rm_41 : Room := { frames := 4, cells := 3, slots := 12, locals := 66 }
abbrev rm_42 : Room := { frames := 4, cells := 3, slots := 44, locals := 66 }
theorem own_ne {a b n : Nat} (h : a < n) (g : b = n) : a ≠ b := Nat.ne_of_lt (Nat.lt_of_lt_of_le h (Nat.le_of_eq g.symm))
theorem own_z0 {n : Nat} : 2 * 0 + n ≤ n := Nat.le_of_eq (Nat.zero_add n)
abbrev own_D (c : ByteArray) (n : Nat) (i : Instr × Nat) : Prop := decode c n = .ok i
abbrev c_0 : ByteArray := jdk_29_method_65_code
abbrev c_1 : ByteArray := jdk_29_method_69_code
abbrev c_2 : ByteArray := jdk_43_method_3_code
abbrev c_3 : ByteArray := jdk_43_method_46_code
abbrev c_4 : ByteArray := jdk_42_method_151_code
abbrev c_5 : ByteArray := jdk_42_method_139_code
abbrev c_6 : ByteArray := jdk_42_method_152_code
abbrev c_7 : ByteArray := jdk_68_method_2_code
abbrev c_8 : ByteArray := jdk_67_method_1_code
abbrev c_9 : ByteArray := jdk_68_method_68_code
abbrev c_10 : ByteArray := jdk_68_method_71_code
abbrev c_11 : ByteArray := jdk_68_method_64_code
abbrev c_12 : ByteArray := jdk_68_method_6_code
abbrev c_13 : ByteArray := jdk_67_method_93_code
abbrev c_14 : ByteArray := jdk_42_method_54_code
abbrev c_15 : ByteArray := jdk_68_method_9_code
abbrev c_16 : ByteArray := jdk_42_method_147_code
abbrev c_17 : ByteArray := jdk_68_method_73_code
abbrev c_18 : ByteArray := jdk_68_method_22_code
abbrev c_19 : ByteArray := jdk_67_method_7_code
abbrev c_20 : ByteArray := jdk_48_method_27_code
abbrev c_21 : ByteArray := jdk_68_method_10_code
abbrev c_22 : ByteArray := jdk_65_method_121_code
abbrev c_23 : ByteArray := jdk_65_method_131_code
abbrev c_24 : ByteArray := jdk_65_method_133_code
abbrev c_25 : ByteArray := jdk_65_method_132_code
abbrev c_26 : ByteArray := jdk_42_method_150_code
abbrev c_27 : ByteArray := jdk_42_method_53_code
abbrev c_28 : ByteArray := jdk_67_method_42_code
abbrev c_29 : ByteArray := jdk_22_method_1_code
abbrev c_30 : ByteArray := jdk_39_method_1_code
abbrev c_31 : ByteArray := jdk_38_method_2_code
abbrev c_32 : ByteArray := prog_4_method_1_code
abbrev c_33 : ByteArray := jdk_38_method_6_code
abbrev c_34 : ByteArray := jdk_38_method_7_code
abbrev c_35 : ByteArray := jdk_38_method_24_code
abbrev c_36 : ByteArray := jdk_38_method_25_code
abbrev c_37 : ByteArray := prog_4_method_2_code
abbrev c_38 : ByteArray := prog_4_method_4_code
abbrev c_39 : ByteArray := prog_4_method_3_code
abbrev c_40 : ByteArray := jdk_38_method_9_code
abbrev c_41 : ByteArray := jdk_41_method_11_code
abbrev c_42 : ByteArray := jdk_31_method_17_code
abbrev c_43 : ByteArray := jdk_38_method_18_code
abbrev c_44 : ByteArray := jdk_38_method_20_code
abbrev c_45 : ByteArray := prog_4_method_16_code
abbrev c_46 : ByteArray := prog_4_method_14_code
abbrev own_M (l : Launch) (Z : State) (ws : List Jvm.Cond) (y : MethodName) (c : ByteArray) (n : Nat) (r : Option FieldType) (R : Room) (A : Array Value) (h0 : Heap) (Q : Option Value → Heap → List Loc → Prop) : Prop := MetFree l y (head1 (Jvm.Cond.code y c n r :: ws) R) (fun a U => a = A ∧ Z.Warmed39 U.vm ∧ U.heap = h0) (fun _ _ _ _ _ => True) (fun _ U o U' => ∃ v L, o = .returned v ∧ Q v U'.heap L ∧ FrameEnd U o U' L R.cells R.slots)
abbrev own_H (c : Jvm.Cond) : Prop := ∀ {a0 : Array Value} {Z : State}, own_W a0 Z → c.before a0 Z = true
theorem own_h (i : Nat) {c : Jvm.Cond} (h : tables_1[i]? = some c) : own_H c := fun hw => hw _ (List.mem_of_getElem? h)
abbrev mn_0 : MethodName := ⟨"java/lang/Math", "max", "(II)I"⟩
abbrev mn_1 : MethodName := ⟨"java/lang/Math", "min", "(II)I"⟩
abbrev mn_2 : MethodName := ⟨"java/lang/StringLatin1", "canEncode", "(C)Z"⟩
abbrev mn_3 : MethodName := ⟨"java/lang/StringLatin1", "toBytes", "(C)[B"⟩
abbrev mn_4 : MethodName := ⟨"java/lang/String", "<init>", "([BB)V"⟩
abbrev mn_5 : MethodName := ⟨"java/lang/String", "valueOf", "(C)Ljava/lang/String;"⟩
abbrev mn_6 : MethodName := ⟨"java/lang/String", "coder", "()B"⟩
abbrev mn_7 : MethodName := ⟨"java/lang/AbstractStringBuilder", "<init>", "(I)V"⟩
abbrev mn_8 : MethodName := ⟨"java/lang/StringBuilder", "<init>", "()V"⟩
abbrev mn_9 : MethodName := ⟨"java/lang/AbstractStringBuilder", "isLatin1", "()Z"⟩
abbrev mn_10 : MethodName := ⟨"java/lang/AbstractStringBuilder", "inflateIfNeededFor", "(Ljava/lang/String;)V"⟩
abbrev mn_11 : MethodName := ⟨"java/lang/AbstractStringBuilder", "getValue", "()[B"⟩
abbrev mn_12 : MethodName := ⟨"java/lang/AbstractStringBuilder", "length", "()I"⟩
abbrev mn_13 : MethodName := ⟨"java/lang/StringBuilder", "length", "()I"⟩
abbrev mn_14 : MethodName := ⟨"java/lang/String", "length", "()I"⟩
abbrev mn_15 : MethodName := ⟨"java/lang/AbstractStringBuilder", "ensureCapacityInternal", "(I)V"⟩
abbrev mn_16 : MethodName := ⟨"java/lang/String", "getBytes", "([BIB)V"⟩
abbrev mn_17 : MethodName := ⟨"java/lang/AbstractStringBuilder", "putStringAt", "(ILjava/lang/String;)V"⟩
abbrev mn_18 : MethodName := ⟨"java/lang/AbstractStringBuilder", "append", "(Ljava/lang/String;)Ljava/lang/AbstractStringBuilder;"⟩
abbrev mn_19 : MethodName := ⟨"java/lang/StringBuilder", "append", "(Ljava/lang/String;)Ljava/lang/StringBuilder;"⟩
abbrev mn_20 : MethodName := ⟨"jdk/internal/util/ArraysSupport", "newLength", "(III)I"⟩
abbrev mn_21 : MethodName := ⟨"java/lang/AbstractStringBuilder", "newCapacity", "(I)I"⟩
abbrev mn_22 : MethodName := ⟨"java/util/Arrays", "copyOf", "([BI)[B"⟩
abbrev mn_23 : MethodName := ⟨"java/util/Arrays", "checkLength", "(II)V"⟩
abbrev mn_24 : MethodName := ⟨"java/util/Arrays", "copyOfRangeByte", "([BII)[B"⟩
abbrev mn_25 : MethodName := ⟨"java/util/Arrays", "copyOfRange", "([BII)[B"⟩
abbrev mn_26 : MethodName := ⟨"java/lang/String", "<init>", "(Ljava/lang/AbstractStringBuilder;Ljava/lang/Void;)V"⟩
abbrev mn_27 : MethodName := ⟨"java/lang/String", "<init>", "(Ljava/lang/StringBuilder;)V"⟩
abbrev mn_28 : MethodName := ⟨"java/lang/StringBuilder", "toString", "()Ljava/lang/String;"⟩
abbrev mn_29 : MethodName := ⟨"java/util/AbstractCollection", "<init>", "()V"⟩
abbrev mn_30 : MethodName := ⟨"java/util/AbstractList", "<init>", "()V"⟩
abbrev mn_31 : MethodName := ⟨"java/util/ArrayList", "<init>", "()V"⟩
abbrev mn_32 : MethodName := ⟨"com/example/shaper/shaper/core/ConfigProblems", "<init>", "()V"⟩
abbrev mn_33 : MethodName := ⟨"java/util/ArrayList", "grow", "(I)[Ljava/lang/Object;"⟩
abbrev mn_34 : MethodName := ⟨"java/util/ArrayList", "grow", "()[Ljava/lang/Object;"⟩
abbrev mn_35 : MethodName := ⟨"java/util/ArrayList", "add", "(Ljava/lang/Object;[Ljava/lang/Object;I)V"⟩
abbrev mn_36 : MethodName := ⟨"java/util/ArrayList", "add", "(Ljava/lang/Object;)Z"⟩
abbrev mn_37 : MethodName := ⟨"com/example/shaper/shaper/core/ConfigProblems", "invalid", "(Ljava/lang/String;Ljava/lang/String;)V"⟩
abbrev mn_38 : MethodName := ⟨"java/util/List", "add", "(Ljava/lang/Object;)Z"⟩
abbrev mn_39 : MethodName := ⟨"com/example/shaper/shaper/core/ConfigProblems", "unsupported", "(Ljava/lang/String;Ljava/lang/String;)V"⟩
abbrev mn_40 : MethodName := ⟨"com/example/shaper/shaper/core/ConfigProblems", "unsupported", "(Ljava/lang/String;)V"⟩
abbrev mn_41 : MethodName := ⟨"com/example/shaper/shaper/core/ConfigProblemsFirstPinLaw", "addViolations", "(Lcom/example/shaper/shaper/core/ConfigProblems;II)V"⟩
abbrev mn_42 : MethodName := ⟨"com/example/shaper/shaper/core/ConfigProblemsFirstPinLaw", "addUnsupported", "(Lcom/example/shaper/shaper/core/ConfigProblems;IZI)V"⟩
abbrev mn_43 : MethodName := ⟨"java/util/ArrayList", "isEmpty", "()Z"⟩
abbrev mn_44 : MethodName := ⟨"jdk/internal/util/Preconditions", "checkIndex", "(IILjava/util/function/BiFunction;)I"⟩
abbrev mn_45 : MethodName := ⟨"java/util/Objects", "checkIndex", "(II)I"⟩
abbrev mn_46 : MethodName := ⟨"java/util/ArrayList", "elementData", "(I)Ljava/lang/Object;"⟩
abbrev mn_47 : MethodName := ⟨"java/util/ArrayList", "get", "(I)Ljava/lang/Object;"⟩
abbrev mn_48 : MethodName := ⟨"com/example/shaper/shaper/core/ConfigProblems", "refusing", "()Ljava/util/List;"⟩
abbrev mn_49 : MethodName := ⟨"java/util/List", "isEmpty", "()Z"⟩
abbrev mn_50 : MethodName := ⟨"com/example/shaper/shaper/core/ConfigProblems", "first", "()Ljava/lang/String;"⟩
abbrev mn_51 : MethodName := ⟨"java/util/List", "get", "(I)Ljava/lang/Object;"⟩
abbrev mn_52 : MethodName := ⟨"com/example/shaper/shaper/core/ConfigProblemsFirstPinLaw", "cat", "(CC)Ljava/lang/String;"⟩
abbrev mn_53 : MethodName := ⟨"java/lang/String", "<init>", "([C)V"⟩
abbrev mn_54 : MethodName := ⟨"com/example/shaper/shaper/core/ConfigProblemsFirstPinLaw", "catDefault", "(C)Ljava/lang/String;"⟩
abbrev mn_55 : MethodName := ⟨"java/lang/String", "equals", "(Ljava/lang/Object;)Z"⟩
abbrev mn_56 : MethodName := ⟨"java/lang/Object", "<init>", "()V"⟩
abbrev mn_57 : MethodName := ⟨"java/lang/System", "arraycopy", "(Ljava/lang/Object;ILjava/lang/Object;II)V"⟩
set_option maxRecDepth 65536
set_option maxHeartbeats 40000000
section OwnRows
variable {p : Program} {l : Launch} {e : Env} {R : Room} {s : State} {m : MethodId} {args : Array Value} {below : List Frame} {meth : Method} {c : Code} {T : State} {locs : List Loc} {cells slots : Nat} {bytes : ByteArray} {ls : Array Slot} {st : List Value} {pc : Nat}
theorem own_iloadN (q : Nat) (X : Stand p l e R s m args below meth c T locs cells slots) (hx : p.tables.exec = Jvm.exec) (hby : c.code = bytes) {k : Fin 4} {v : Int32} (hd : decode bytes pc = .ok (.iload_n k, 1)) (hl : ls[k.val]? = some (.val (.int v)) := by exact rfl) (hq : pc + 1 = q := by exact rfl) : ∀ t, Steps p.tables e below (T.setTop (mkF m q ls (.int v :: st))) t → Steps p.tables e below (T.setTop (mkF m pc ls (st))) t := by
  subst hq; exact fun t k => XS.iloadN X.here hx rfl (hb hby hd) hl k
theorem own_iload (q : Nat) (X : Stand p l e R s m args below meth c T locs cells slots) (hx : p.tables.exec = Jvm.exec) (hby : c.code = bytes) {k : Nat} {v : Int32} (hd : decode bytes pc = .ok (.iload k, 2)) (hl : ls[k]? = some (.val (.int v)) := by exact rfl) (hq : pc + 2 = q := by exact rfl) : ∀ t, Steps p.tables e below (T.setTop (mkF m q ls (.int v :: st))) t → Steps p.tables e below (T.setTop (mkF m pc ls (st))) t := by
  subst hq; exact fun t k => XS.iload X.here hx rfl (hb hby hd) hl k
theorem own_aloadN (q : Nat) (X : Stand p l e R s m args below meth c T locs cells slots) (hx : p.tables.exec = Jvm.exec) (hby : c.code = bytes) {k : Fin 4} {v : Value} (hd : decode bytes pc = .ok (.aload_n k, 1)) (hl : ls[k.val]? = some (.val v) := by exact rfl) (hv : v.isRef = true := by exact rfl) (hq : pc + 1 = q := by exact rfl) : ∀ t, Steps p.tables e below (T.setTop (mkF m q ls (v :: st))) t → Steps p.tables e below (T.setTop (mkF m pc ls (st))) t := by
  subst hq; exact fun t k => XS.aloadN X.here hx rfl (hb hby hd) hl hv k
theorem own_aload (q : Nat) (X : Stand p l e R s m args below meth c T locs cells slots) (hx : p.tables.exec = Jvm.exec) (hby : c.code = bytes) {k : Nat} {v : Value} (hd : decode bytes pc = .ok (.aload k, 2)) (hl : ls[k]? = some (.val v) := by exact rfl) (hv : v.isRef = true := by exact rfl) (hq : pc + 2 = q := by exact rfl) : ∀ t, Steps p.tables e below (T.setTop (mkF m q ls (v :: st))) t → Steps p.tables e below (T.setTop (mkF m pc ls (st))) t := by
  subst hq; exact fun t k => XS.aload X.here hx rfl (hb hby hd) hl hv k
theorem own_lloadN (q : Nat) (X : Stand p l e R s m args below meth c T locs cells slots) (hx : p.tables.exec = Jvm.exec) (hby : c.code = bytes) {k : Fin 4} {v : Int64} (hd : decode bytes pc = .ok (.lload_n k, 1)) (hl : ls[k.val]? = some (.val (.long v)) := by exact rfl) (hq : pc + 1 = q := by exact rfl) : ∀ t, Steps p.tables e below (T.setTop (mkF m q ls (.long v :: st))) t → Steps p.tables e below (T.setTop (mkF m pc ls (st))) t := by
  subst hq; exact fun t k => XS.lloadN X.here hx rfl (hb hby hd) hl k
theorem own_lload (q : Nat) (X : Stand p l e R s m args below meth c T locs cells slots) (hx : p.tables.exec = Jvm.exec) (hby : c.code = bytes) {k : Nat} {v : Int64} (hd : decode bytes pc = .ok (.lload k, 2)) (hl : ls[k]? = some (.val (.long v)) := by exact rfl) (hq : pc + 2 = q := by exact rfl) : ∀ t, Steps p.tables e below (T.setTop (mkF m q ls (.long v :: st))) t → Steps p.tables e below (T.setTop (mkF m pc ls (st))) t := by
  subst hq; exact fun t k => XS.lload X.here hx rfl (hb hby hd) hl k
theorem own_iconst (q : Nat) (v : Int32) (X : Stand p l e R s m args below meth c T locs cells slots) (hx : p.tables.exec = Jvm.exec) (hby : c.code = bytes) {i : Int} (hd : decode bytes pc = .ok (.iconst i, 1)) (hv : Int32.ofInt i = v := by exact rfl) (hq : pc + 1 = q := by exact rfl) : ∀ t, Steps p.tables e below (T.setTop (mkF m q ls (.int v :: st))) t → Steps p.tables e below (T.setTop (mkF m pc ls st)) t := by
  subst hq hv; exact fun t k => XS.iconst X.here hx rfl (hb hby hd) k
theorem own_bipush (q : Nat) (v : Int32) (X : Stand p l e R s m args below meth c T locs cells slots) (hx : p.tables.exec = Jvm.exec) (hby : c.code = bytes) {i : Int} (hd : decode bytes pc = .ok (.bipush i, 2)) (hv : (Int8.ofInt i).toInt32 = v := by exact rfl) (hq : pc + 2 = q := by exact rfl) : ∀ t, Steps p.tables e below (T.setTop (mkF m q ls (.int v :: st))) t → Steps p.tables e below (T.setTop (mkF m pc ls st)) t := by
  subst hq hv; exact fun t k => XS.bipush X.here hx rfl (hb hby hd) k
theorem own_sipush (q : Nat) (v : Int32) (X : Stand p l e R s m args below meth c T locs cells slots) (hx : p.tables.exec = Jvm.exec) (hby : c.code = bytes) {i : Int} (hd : decode bytes pc = .ok (.sipush i, 3)) (hv : (Int16.ofInt i).toInt32 = v := by exact rfl) (hq : pc + 3 = q := by exact rfl) : ∀ t, Steps p.tables e below (T.setTop (mkF m q ls (.int v :: st))) t → Steps p.tables e below (T.setTop (mkF m pc ls st)) t := by
  subst hq hv; exact fun t k => XS.sipush X.here hx rfl (hb hby hd) k
theorem own_aconstNull (q : Nat) (X : Stand p l e R s m args below meth c T locs cells slots) (hx : p.tables.exec = Jvm.exec) (hby : c.code = bytes)  (hd : decode bytes pc = .ok (.aconst_null, 1)) (hq : pc + 1 = q := by exact rfl) : ∀ t, Steps p.tables e below (T.setTop (mkF m q ls (.null :: st))) t → Steps p.tables e below (T.setTop (mkF m pc ls (st))) t := by
  subst hq; exact fun t k => XS.aconstNull X.here hx rfl (hb hby hd) k
theorem own_iadd (q : Nat) (X : Stand p l e R s m args below meth c T locs cells slots) (hx : p.tables.exec = Jvm.exec) (hby : c.code = bytes) {x y : Int32} (hd : decode bytes pc = .ok (.iadd, 1)) (hq : pc + 1 = q := by exact rfl) : ∀ t, Steps p.tables e below (T.setTop (mkF m q ls (.int (x + y) :: st))) t → Steps p.tables e below (T.setTop (mkF m pc ls (.int y :: .int x :: st))) t := by
  subst hq; exact fun t k => XS.iadd X.here hx rfl (hb hby hd) rfl k
theorem own_isub (q : Nat) (X : Stand p l e R s m args below meth c T locs cells slots) (hx : p.tables.exec = Jvm.exec) (hby : c.code = bytes) {x y : Int32} (hd : decode bytes pc = .ok (.isub, 1)) (hq : pc + 1 = q := by exact rfl) : ∀ t, Steps p.tables e below (T.setTop (mkF m q ls (.int (x - y) :: st))) t → Steps p.tables e below (T.setTop (mkF m pc ls (.int y :: .int x :: st))) t := by
  subst hq; exact fun t k => XS.isub X.here hx rfl (hb hby hd) rfl k
theorem own_imul (q : Nat) (X : Stand p l e R s m args below meth c T locs cells slots) (hx : p.tables.exec = Jvm.exec) (hby : c.code = bytes) {x y : Int32} (hd : decode bytes pc = .ok (.imul, 1)) (hq : pc + 1 = q := by exact rfl) : ∀ t, Steps p.tables e below (T.setTop (mkF m q ls (.int (x * y) :: st))) t → Steps p.tables e below (T.setTop (mkF m pc ls (.int y :: .int x :: st))) t := by
  subst hq; exact fun t k => XS.imul X.here hx rfl (hb hby hd) rfl k
theorem own_iand (q : Nat) (X : Stand p l e R s m args below meth c T locs cells slots) (hx : p.tables.exec = Jvm.exec) (hby : c.code = bytes) {x y : Int32} (hd : decode bytes pc = .ok (.iand, 1)) (hq : pc + 1 = q := by exact rfl) : ∀ t, Steps p.tables e below (T.setTop (mkF m q ls (.int (x &&& y) :: st))) t → Steps p.tables e below (T.setTop (mkF m pc ls (.int y :: .int x :: st))) t := by
  subst hq; exact fun t k => XS.iand X.here hx rfl (hb hby hd) rfl k
theorem own_ishl (q : Nat) (X : Stand p l e R s m args below meth c T locs cells slots) (hx : p.tables.exec = Jvm.exec) (hby : c.code = bytes) {x y : Int32} (hd : decode bytes pc = .ok (.ishl, 1)) (hq : pc + 1 = q := by exact rfl) : ∀ t, Steps p.tables e below (T.setTop (mkF m q ls (.int (x <<< (y &&& 31)) :: st))) t → Steps p.tables e below (T.setTop (mkF m pc ls (.int y :: .int x :: st))) t := by
  subst hq; exact fun t k => XS.ishl X.here hx rfl (hb hby hd) rfl k
theorem own_ishr (q : Nat) (X : Stand p l e R s m args below meth c T locs cells slots) (hx : p.tables.exec = Jvm.exec) (hby : c.code = bytes) {x y : Int32} (hd : decode bytes pc = .ok (.ishr, 1)) (hq : pc + 1 = q := by exact rfl) : ∀ t, Steps p.tables e below (T.setTop (mkF m q ls (.int (x >>> (y &&& 31)) :: st))) t → Steps p.tables e below (T.setTop (mkF m pc ls (.int y :: .int x :: st))) t := by
  subst hq; exact fun t k => XS.ishr X.here hx rfl (hb hby hd) rfl k
theorem own_iushr (q : Nat) (X : Stand p l e R s m args below meth c T locs cells slots) (hx : p.tables.exec = Jvm.exec) (hby : c.code = bytes) {x y : Int32} (hd : decode bytes pc = .ok (.iushr, 1)) (hq : pc + 1 = q := by exact rfl) : ∀ t, Steps p.tables e below (T.setTop (mkF m q ls (.int ((x.toUInt32 >>> (y &&& 31).toUInt32).toInt32) :: st))) t → Steps p.tables e below (T.setTop (mkF m pc ls (.int y :: .int x :: st))) t := by
  subst hq; exact fun t k => XS.iushr X.here hx rfl (hb hby hd) rfl k
theorem own_i2c (q : Nat) (X : Stand p l e R s m args below meth c T locs cells slots) (hx : p.tables.exec = Jvm.exec) (hby : c.code = bytes) {v : Int32} (hd : decode bytes pc = .ok (.i2c, 1)) (hq : pc + 1 = q := by exact rfl) : ∀ t, Steps p.tables e below (T.setTop (mkF m q ls (.int (v.toUInt32.toUInt16.toUInt32.toInt32) :: st))) t → Steps p.tables e below (T.setTop (mkF m pc ls (.int v :: st))) t := by
  subst hq; exact fun t k => XS.i2c X.here hx rfl (hb hby hd) rfl k
theorem own_i2b (q : Nat) (X : Stand p l e R s m args below meth c T locs cells slots) (hx : p.tables.exec = Jvm.exec) (hby : c.code = bytes) {v : Int32} (hd : decode bytes pc = .ok (.i2b, 1)) (hq : pc + 1 = q := by exact rfl) : ∀ t, Steps p.tables e below (T.setTop (mkF m q ls (.int (v.toInt8.toInt32) :: st))) t → Steps p.tables e below (T.setTop (mkF m pc ls (.int v :: st))) t := by
  subst hq; exact fun t k => XS.i2b X.here hx rfl (hb hby hd) rfl k
theorem own_ineg (q : Nat) (X : Stand p l e R s m args below meth c T locs cells slots) (hx : p.tables.exec = Jvm.exec) (hby : c.code = bytes) {v : Int32} (hd : decode bytes pc = .ok (.ineg, 1)) (hq : pc + 1 = q := by exact rfl) : ∀ t, Steps p.tables e below (T.setTop (mkF m q ls (.int (-v) :: st))) t → Steps p.tables e below (T.setTop (mkF m pc ls (.int v :: st))) t := by
  subst hq; exact fun t k => XS.ineg X.here hx rfl (hb hby hd) rfl k
theorem own_dup (q : Nat) (X : Stand p l e R s m args below meth c T locs cells slots) (hx : p.tables.exec = Jvm.exec) (hby : c.code = bytes) {x : Value} (hd : decode bytes pc = .ok (.dup, 1)) (hc : x.category = 1 := by exact rfl) (hq : pc + 1 = q := by exact rfl) : ∀ t, Steps p.tables e below (T.setTop (mkF m q ls (x :: x :: st))) t → Steps p.tables e below (T.setTop (mkF m pc ls (x :: st))) t := by
  subst hq; exact fun t k => XS.dup X.here hx rfl (hb hby hd) rfl hc k
theorem own_dupX1 (q : Nat) (X : Stand p l e R s m args below meth c T locs cells slots) (hx : p.tables.exec = Jvm.exec) (hby : c.code = bytes) {x y : Value} (hd : decode bytes pc = .ok (.dup_x1, 1)) (hc : x.category = 1 := by exact rfl) (hc2 : y.category = 1 := by exact rfl) (hq : pc + 1 = q := by exact rfl) : ∀ t, Steps p.tables e below (T.setTop (mkF m q ls (x :: y :: x :: st))) t → Steps p.tables e below (T.setTop (mkF m pc ls (x :: y :: st))) t := by
  subst hq; exact fun t k => XS.dupX1 X.here hx rfl (hb hby hd) rfl hc hc2 k
theorem own_pop (q : Nat) (X : Stand p l e R s m args below meth c T locs cells slots) (hx : p.tables.exec = Jvm.exec) (hby : c.code = bytes) {x : Value} (hd : decode bytes pc = .ok (.pop, 1)) (hc : x.category = 1 := by exact rfl) (hq : pc + 1 = q := by exact rfl) : ∀ t, Steps p.tables e below (T.setTop (mkF m q ls (st))) t → Steps p.tables e below (T.setTop (mkF m pc ls (x :: st))) t := by
  subst hq; exact fun t k => XS.pop X.here hx rfl (hb hby hd) rfl hc k
theorem own_istoreN (q : Nat) (l' : Array Slot) (X : Stand p l e R s m args below meth c T locs cells slots) (hx : p.tables.exec = Jvm.exec) (hby : c.code = bytes) {k : Fin 4} {x : Int32} (hd : decode bytes pc = .ok (.istore_n k, 1)) (hl : storeLocals ls k.val (.int x) = some l' := by exact rfl) (hq : pc + 1 = q := by exact rfl) : ∀ t, Steps p.tables e below (T.setTop (mkF m q l' st)) t → Steps p.tables e below (T.setTop (mkF m pc ls (.int x :: st))) t := by
  subst hq; exact fun t k => XS.istoreN X.here hx rfl (hb hby hd) rfl hl k
theorem own_istore (q : Nat) (l' : Array Slot) (X : Stand p l e R s m args below meth c T locs cells slots) (hx : p.tables.exec = Jvm.exec) (hby : c.code = bytes) {k : Nat} {x : Int32} (hd : decode bytes pc = .ok (.istore k, 2)) (hl : storeLocals ls k (.int x) = some l' := by exact rfl) (hq : pc + 2 = q := by exact rfl) : ∀ t, Steps p.tables e below (T.setTop (mkF m q l' st)) t → Steps p.tables e below (T.setTop (mkF m pc ls (.int x :: st))) t := by
  subst hq; exact fun t k => XS.istore X.here hx rfl (hb hby hd) rfl hl k
theorem own_astoreN (q : Nat) (l' : Array Slot) (X : Stand p l e R s m args below meth c T locs cells slots) (hx : p.tables.exec = Jvm.exec) (hby : c.code = bytes) {k : Fin 4} {x : Value} (hd : decode bytes pc = .ok (.astore_n k, 1)) (hv : x.isRef = true := by exact rfl) (hl : storeLocals ls k.val x = some l' := by exact rfl) (hq : pc + 1 = q := by exact rfl) : ∀ t, Steps p.tables e below (T.setTop (mkF m q l' st)) t → Steps p.tables e below (T.setTop (mkF m pc ls (x :: st))) t := by
  subst hq; exact fun t k => XS.astoreN X.here hx rfl (hb hby hd) rfl hv hl k
theorem own_astore (q : Nat) (l' : Array Slot) (X : Stand p l e R s m args below meth c T locs cells slots) (hx : p.tables.exec = Jvm.exec) (hby : c.code = bytes) {k : Nat} {x : Value} (hd : decode bytes pc = .ok (.astore k, 2)) (hv : x.isRef = true := by exact rfl) (hl : storeLocals ls k x = some l' := by exact rfl) (hq : pc + 2 = q := by exact rfl) : ∀ t, Steps p.tables e below (T.setTop (mkF m q l' st)) t → Steps p.tables e below (T.setTop (mkF m pc ls (x :: st))) t := by
  subst hq; exact fun t k => XS.astore X.here hx rfl (hb hby hd) rfl hv hl k
theorem own_goto (q : Nat) (X : Stand p l e R s m args below meth c T locs cells slots) (hx : p.tables.exec = Jvm.exec) (hby : c.code = bytes)  {o : Int} (hd : decode bytes pc = .ok (.goto o, 3)) (ho : 0 ≤ (pc : Int) + o := by decide) (hp : ((pc : Int) + o).toNat = q := by decide) : ∀ t, Steps p.tables e below (T.setTop (mkF m q ls st)) t → Steps p.tables e below (T.setTop (mkF m pc ls (st))) t := by
  exact fun t k => XS.goto X.here hx rfl (pc0 := pc) (pc' := q) rfl (hb hby hd) ho hp k
theorem own_ifYes (q : Nat) (X : Stand p l e R s m args below meth c T locs cells slots) (hx : p.tables.exec = Jvm.exec) (hby : c.code = bytes) {cd : ClassFile.Cond} {x : Int32} {o : Int} (hd : decode bytes pc = .ok (.ifCond cd o, 3)) (hc : ifCond.holds cd x = true) (ho : 0 ≤ (pc : Int) + o := by decide) (hp : ((pc : Int) + o).toNat = q := by decide) : ∀ t, Steps p.tables e below (T.setTop (mkF m q ls st)) t → Steps p.tables e below (T.setTop (mkF m pc ls (.int x :: st))) t := by
  exact fun t k => XS.ifYes X.here hx rfl (pc0 := pc) (pc' := q) rfl (hb hby hd) rfl hc ho hp k
theorem own_icmpYes (q : Nat) (X : Stand p l e R s m args below meth c T locs cells slots) (hx : p.tables.exec = Jvm.exec) (hby : c.code = bytes) {cd : ClassFile.Cond} {x y : Int32} {o : Int} (hd : decode bytes pc = .ok (.if_icmp cd o, 3)) (hc : if_icmp.holds cd x y = true) (ho : 0 ≤ (pc : Int) + o := by decide) (hp : ((pc : Int) + o).toNat = q := by decide) : ∀ t, Steps p.tables e below (T.setTop (mkF m q ls st)) t → Steps p.tables e below (T.setTop (mkF m pc ls (.int y :: .int x :: st))) t := by
  exact fun t k => XS.icmpYes X.here hx rfl (pc0 := pc) (pc' := q) rfl (hb hby hd) rfl hc ho hp k
theorem own_ifnonnullYes (q : Nat) (X : Stand p l e R s m args below meth c T locs cells slots) (hx : p.tables.exec = Jvm.exec) (hby : c.code = bytes) {b : Addr} {o : Int} (hd : decode bytes pc = .ok (.ifnonnull o, 3)) (ho : 0 ≤ (pc : Int) + o := by decide) (hp : ((pc : Int) + o).toNat = q := by decide) : ∀ t, Steps p.tables e below (T.setTop (mkF m q ls st)) t → Steps p.tables e below (T.setTop (mkF m pc ls (.ref b :: st))) t := by
  exact fun t k => XS.ifnonnullYes X.here hx rfl (pc0 := pc) (pc' := q) rfl (hb hby hd) rfl ho hp k
theorem own_ifNo (q : Nat) (X : Stand p l e R s m args below meth c T locs cells slots) (hx : p.tables.exec = Jvm.exec) (hby : c.code = bytes) {cd : ClassFile.Cond} {o : Int} {x : Int32} (hd : decode bytes pc = .ok (.ifCond cd o, 3)) (hc : ifCond.holds cd x = false) (hq : pc + 3 = q := by exact rfl) : ∀ t, Steps p.tables e below (T.setTop (mkF m q ls (st))) t → Steps p.tables e below (T.setTop (mkF m pc ls (.int x :: st))) t := by
  subst hq; exact fun t k => XS.ifNo X.here hx rfl (hb hby hd) rfl hc k
theorem own_icmpNo (q : Nat) (X : Stand p l e R s m args below meth c T locs cells slots) (hx : p.tables.exec = Jvm.exec) (hby : c.code = bytes) {cd : ClassFile.Cond} {o : Int} {x y : Int32} (hd : decode bytes pc = .ok (.if_icmp cd o, 3)) (hc : if_icmp.holds cd x y = false) (hq : pc + 3 = q := by exact rfl) : ∀ t, Steps p.tables e below (T.setTop (mkF m q ls (st))) t → Steps p.tables e below (T.setTop (mkF m pc ls (.int y :: .int x :: st))) t := by
  subst hq; exact fun t k => XS.icmpNo X.here hx rfl (hb hby hd) rfl hc k
end OwnRows

section OwnHeld
variable {p : Program} {l : Launch} {e : Env} {R : Room} {s : State} {m : MethodId} {args : Array Value} {below : List Frame} {meth : Method} {c : Code} {T T' : State} {locs : List Loc} {cells slots kc ks : Nat} {Q : Option Value → Heap → List Loc → Prop} {g g' : JFrame} {Z : State} {EL : List (String × Nat)} {vm : Vm} {h0 h : Heap}
/-- own_WP, where literals may be loaded on the road: the tables may have grown, the invariant of the held literals goes on -/
def own_WH (p : Program) (e : Env) (below : List Frame) (s Z : State) (EL : List (String × Nat)) (Q : Option Value → Heap → List Loc → Prop) (kc ks : Nat) (T : State) (g : JFrame) : Prop :=
  ∃ s₂ o, Steps p.tables e below (T.setTop g) s₂ ∧ s₂.status = .running ∧ Ended s₂ below o ∧ ∃ v L, o = .returned v ∧ Q v s₂.heap L ∧ CHr Z EL s.vm s.heap s₂.vm s₂.heap ∧ ReturnedEndW s o s₂ L kc ks
theorem own_stepH (h : ∀ t, Steps p.tables e below (T'.setTop g') t → Steps p.tables e below (T.setTop g) t) (hr : own_WH p e below s Z EL Q kc ks T' g') : own_WH p e below s Z EL Q kc ks T g := by
  obtain ⟨s₂, o, h1, h2⟩ := hr
  exact ⟨s₂, o, h _ h1, h2⟩
theorem own_stH (g' : JFrame) (h : ∀ t, Steps p.tables e below (T.setTop g') t → Steps p.tables e below (T.setTop g) t) (hr : own_WH p e below s Z EL Q kc ks T g') : own_WH p e below s Z EL Q kc ks T g := own_stepH h hr
theorem own_jumpH (h : Steps p.tables e below (T.setTop g) (T'.setTop g')) (hr : own_WH p e below s Z EL Q kc ks T' g') : own_WH p e below s Z EL Q kc ks T g := by
  obtain ⟨s₂, o, h1, h2⟩ := hr
  exact ⟨s₂, o, h.trans h1, h2⟩
theorem own_retH (X : Stand p l e R (s.setVm vm) m args below meth c T locs cells slots) (hlk : meth.locks = false) {n : Nat} (hS : s.Since vm n) (hn : n ≤ T.heap.size) {v : Option Value} (hv : meth.sig.returnType = none → v = none)
    (hst : ∀ fs, (∀ (f : JFrame) (acts : List Action), f.method = m → f.locked = none → f.entered = [] → (doReturn e (T.setTop f) acts v).1 = T.setFrames fs) → Steps p.tables e below (T.setTop g) (T.setFrames fs))
    (hq : Q v T.heap locs) (hC : CHr Z EL s.vm s.heap T.vm T.heap) (h1 : cells ≤ kc) (h2 : slots ≤ ks) : own_WH p e below s Z EL Q kc ks T g := by
  obtain ⟨fs, hr, hrun, hended, r1, r2, r3, r4⟩ := X.leaveW hS hn (v := v) hv hlk
  exact ⟨_, _, hst fs hr, hrun, hended, v, locs, rfl, hq, hC, r1, r2, r3, r4.mono h1 h2⟩
theorem own_CHend (hs : s.heap = h0) (e : T.heap = h) (A : CHr Z EL s.vm h0 vm h) (B : CHr Z EL vm h T.vm h) : CHr Z EL s.vm s.heap T.vm T.heap := by
  rw [hs, e]; exact A.trans B
theorem own_leE {n : Nat} (e : T.heap = h) (q : n ≤ h.size) : n ≤ T.heap.size := by rw [e]; exact q
end OwnHeld
theorem own_bodyH {l : Launch} {y : MethodName} {bytes : ByteArray} {maxL : Nat} {ret : Option FieldType} {ws : List Jvm.Cond} {rm : Room} {A : Array Value} {Z : State} {EL : List (String × Nat)} {h0 : Heap} {Q : Option Value → Heap → List Loc → Prop} {ls : Array Slot} {kc ks : Nat}
    (hpl : plainFor y = true) (ef : ∀ m, entryFrame m A maxL = mkF m 0 ls [])
    (body : ∀ (p : Program) (e : Env) (s : State) (m : MethodId) (below : List Frame) (meth : Method) (c : Code) (T : State), Stand p l e rm (s.setVm s.vm) m A below meth c T [] 0 0 → p.tables.exec = Jvm.exec → c.code = bytes → c.maxLocals = maxL → Z.Warmed39 (s.setVm s.vm).vm → (s.setVm s.vm).vm.findClass y.cls = some m.cls → meth.name = y.name → meth.sig.returnType = ret → meth.locks = false → T.heap = h0 →
      s.heap = h0 → s.Since s.vm h0.size → CHv Z EL s.vm h0 → own_WH p e below s Z EL Q kc ks T (mkF m 0 ls [])) :
    MetFree l y (head1 (Jvm.Cond.code y bytes maxL ret :: ws) rm) (fun a U => a = A ∧ Z.Warmed39 U.vm ∧ U.heap = h0 ∧ CHv Z EL U.vm h0) (fun _ _ _ _ _ => True) (fun _ U o U' => ∃ v L, o = .returned v ∧ Q v U'.heap L ∧ CHr Z EL U.vm U.heap U'.vm U'.heap ∧ ReturnedEndW U o U' L kc ks) := by
  refine MetFree.of_bodySF hpl hisR ?_
  intro p e s m args below meth c s₁ Bd hml0 hP hK
  obtain ⟨rfl, hZ, hh, hC⟩ := hP
  obtain ⟨s₂, o, h1, h2⟩ := body p e s m below meth c s₁ (Stand.of_body Bd) Bd.exec Bd.bytes hml0 hZ (findClass_of_methodNamed Bd.named) (name_of_methodNamed Bd.named Bd.method).1 Bd.returns Bd.notSynchronized (by rw [← hh, Bd.state]; rfl) hh ((State.WarmedH.refl s).since _) hC
  exact ⟨s₂, o, castTop (ef m) h1, h2⟩

theorem own_eqint {t : Term} {n : Int32} {args : Array Value} {first s : State} {o : Option Outcome} {idx : List Nat} (h : (Jvm.Cond.eq t (.int n)).value args first o s idx = some true) : t.eval args first o idx s = some (.int n) :=
  Jvm.Cond.eq_int (beq_iff_eq.mpr h : (Jvm.Cond.eq t (.int n)).holds args first o s idx = true) rfl

theorem own_b64 {n : Int} (h1 : -2 ^ 63 ≤ n) (h2 : n < 2 ^ 63) : n.bmod (2 ^ 64) = n := by rw [Int.bmod_def]; omega
theorem own_add64 {x y : Int64} (h1 : -2 ^ 63 ≤ x.toInt + y.toInt) (h2 : x.toInt + y.toInt < 2 ^ 63) : (x + y).toInt = x.toInt + y.toInt := by rw [Int64.toInt_add, own_b64 h1 h2]
theorem own_sub64 {x y : Int64} (h1 : -2 ^ 63 ≤ x.toInt - y.toInt) (h2 : x.toInt - y.toInt < 2 ^ 63) : (x - y).toInt = x.toInt - y.toInt := by rw [Int64.toInt_sub, own_b64 h1 h2]
theorem own_mul64 {x y : Int64} (h1 : -2 ^ 63 ≤ x.toInt * y.toInt) (h2 : x.toInt * y.toInt < 2 ^ 63) : (x * y).toInt = x.toInt * y.toInt := by rw [Int64.toInt_mul, own_b64 h1 h2]
theorem own_div64 {x y : Int64} (hx : 0 ≤ x.toInt) (hy : 0 < y.toInt) : (x / y).toInt = x.toInt / y.toInt := by
  rw [Int64.toInt_div, Int.tdiv_eq_ediv_of_nonneg hx]
  have h1 : 0 ≤ x.toInt / y.toInt := Int.ediv_nonneg hx (by omega)
  have h2 : x.toInt / y.toInt ≤ x.toInt := Int.ediv_le_self _ hx
  have h3 := x.toInt_lt
  exact own_b64 (by omega) (by omega)
theorem own_mod64 {x y : Int64} (hx : 0 ≤ x.toInt) : (x % y).toInt = x.toInt % y.toInt := by
  rw [Int64.toInt_mod, Int.tmod_eq_emod_of_nonneg hx]
theorem own_lrem (x y : Int64) : x - (x / y) * y = x % y := by
  apply Int64.toInt_inj.mp
  have h1 := Int64.le_toInt (x % y)
  have h2 := Int64.toInt_lt (x % y)
  rw [Int64.toInt_sub, Int64.toInt_mul, Int64.toInt_div, Int.bmod_mul_bmod, Int.sub_bmod_bmod, Int.mul_comm (x.toInt.tdiv y.toInt), ← Int.tmod_def, ← Int64.toInt_mod]
  exact Int.bmod_eq_of_le_mul_two (by omega) (by omega)
theorem own_i64nat (v : Int64) : v.toInt = if v.toBitVec.toNat < 2 ^ 63 then (v.toBitVec.toNat : Int) else (v.toBitVec.toNat : Int) - 2 ^ 64 := by
  have := v.toBitVec.isLt
  rw [← Int64.toInt_toBitVec, BitVec.toInt_eq_toNat_cond]
  split <;> split <;> omega
theorem own_i32nat (v : Int32) : v.toInt = if v.toBitVec.toNat < 2 ^ 31 then (v.toBitVec.toNat : Int) else (v.toBitVec.toNat : Int) - 2 ^ 32 := by
  have := v.toBitVec.isLt
  rw [← Int32.toInt_toBitVec, BitVec.toInt_eq_toNat_cond]
  split <;> split <;> omega
/-- a mask of k ones, k at most 31 -/
theorem own_and32 (x m : Int32) {k : Nat} (hk : k ≤ 31) (hm : m.toBitVec.toNat = 2 ^ k - 1) : 0 ≤ (x &&& m).toInt ∧ (x &&& m).toInt < 2 ^ k ∧ (x &&& m).toBitVec.toNat = x.toBitVec.toNat % 2 ^ k := by
  have h1 := own_i32nat (x &&& m)
  have h2 : (x &&& m).toBitVec.toNat = x.toBitVec.toNat &&& m.toBitVec.toNat := rfl
  rw [hm, Nat.and_two_pow_sub_one_eq_mod] at h2
  have h3 : x.toBitVec.toNat % 2 ^ k < 2 ^ k := Nat.mod_lt _ (Nat.two_pow_pos k)
  have h4 : 2 ^ k ≤ 2 ^ 31 := Nat.pow_le_pow_right (by decide) hk
  rw [h2, if_pos (Nat.lt_of_lt_of_le h3 h4)] at h1
  refine ⟨by omega, ?_, h2⟩
  rw [h1]
  exact_mod_cast h3
theorem own_and64 (x m : Int64) {k : Nat} (hk : k ≤ 63) (hm : m.toBitVec.toNat = 2 ^ k - 1) : 0 ≤ (x &&& m).toInt ∧ (x &&& m).toInt < 2 ^ k ∧ (x &&& m).toBitVec.toNat = x.toBitVec.toNat % 2 ^ k := by
  have h1 := own_i64nat (x &&& m)
  have h2 : (x &&& m).toBitVec.toNat = x.toBitVec.toNat &&& m.toBitVec.toNat := rfl
  rw [hm, Nat.and_two_pow_sub_one_eq_mod] at h2
  have h3 : x.toBitVec.toNat % 2 ^ k < 2 ^ k := Nat.mod_lt _ (Nat.two_pow_pos k)
  have h4 : 2 ^ k ≤ 2 ^ 63 := Nat.pow_le_pow_right (by decide) hk
  rw [h2, if_pos (Nat.lt_of_lt_of_le h3 h4)] at h1
  refine ⟨by omega, ?_, h2⟩
  rw [h1]
  exact_mod_cast h3
theorem own_lremM {p : Program} {l : Launch} {e : Env} {R : Room} {s : State} {m : MethodId} {args : Array Value} {below : List Frame} {meth : Method} {c : Code} {T : State} {locs : List Loc} {cells slots : Nat} {g : JFrame} {target : State} (X : Stand p l e R s m args below meth c T locs cells slots) (hx : p.tables.exec = Jvm.exec) (hg : g.method = m) {x y : Int64} {rest : List Value} (hd : decode c.code g.pc = .ok (.lrem, 1)) (hs : g.stack = .long y :: .long x :: rest) (hy : y ≠ 0)
    (hr : Steps p.tables e below (T.setTop { g with pc := g.pc + 1, stack := .long (x % y) :: rest }) target) : Steps p.tables e below (T.setTop g) target :=
  XS.lrem X.here hx hg hd hs hy (by rw [own_lrem]; exact hr)
theorem own_pos_ne {x : Int64} (h : (0 : Int64) < x) : x ≠ 0 := fun q => by rw [q] at h; exact absurd h (by decide)

theorem own_b32 {n : Int} (h1 : -2 ^ 31 ≤ n) (h2 : n < 2 ^ 31) : n.bmod (2 ^ 32) = n := by rw [Int.bmod_def]; omega
theorem own_i32 {j : Int32} {t : Nat} (h : j.toInt = (t : Int)) : j.toNatClampNeg = t := by rw [show j.toNatClampNeg = j.toInt.toNat from rfl]; omega
theorem own_nn {j : Int32} {t : Nat} (h : j.toInt = (t : Int)) : ¬ j < 0 := by
  have e : (0 : Int32).toInt = 0 := rfl
  rw [Int32.lt_iff_toInt_lt]; omega
theorem own_lt32 {j z : Int32} {t k : Nat} (h : j.toInt = (t : Int)) (hz : z.toInt = (k : Int)) (ht : t < k) : ¬ j < 0 ∧ j < z := ⟨own_nn h, by rw [Int32.lt_iff_toInt_lt]; omega⟩
theorem own_ofnat {k : Nat} (h : k < 2 ^ 31) : (Int32.ofNat k).toInt = (k : Int) := by rw [Int32.toInt_ofNat', own_b32 (by omega) (by omega)]
theorem own_i32eq {z : Int32} {k : Nat} (h : z.toInt = (k : Int)) (hk : k < 2 ^ 31) : z = Int32.ofNat k := Int32.toInt_inj.mp (by rw [h, own_ofnat hk])
theorem own_addN (a b : Nat) : Int32.ofNat a + Int32.ofNat b = Int32.ofNat (a + b) := (Int32.ofNat_add a b).symm
def own_max32 (a b : Int32) : Int32 := if a < b then b else a
def own_min32 (a b : Int32) : Int32 := if b < a then b else a
theorem own_rep (pre : List Int32) (a b : Nat) : (pre ++ List.replicate a (0 : Int32)) ++ List.replicate b (0 : Int32) = pre ++ List.replicate (a + b) (0 : Int32) := by
  rw [List.append_assoc, List.replicate_append_replicate]
theorem own_chle (x : Int32) : ¬ (255 : Int32) < (x &&& 255).toUInt32.toUInt16.toUInt32.toInt32 := by
  rw [Int32.lt_iff_toInt_lt]
  have e : (255 : Int32).toInt = 255 := rfl
  have h1 : (x &&& 255).toBitVec.toNat < 256 := by
    rw [Int32.toBitVec_and, BitVec.toNat_and]
    exact Nat.lt_of_le_of_lt Nat.and_le_right (by decide)
  have h2 : (x &&& 255).toUInt32.toUInt16.toUInt32.toInt32.toInt = ((x &&& 255).toBitVec.toNat : Int) := by
    generalize x &&& 255 = y at h1
    have h3 : y.toUInt32.toUInt16.toUInt32.toInt32 = y := by
      apply Int32.toBitVec_inj.mp
      apply BitVec.eq_of_toNat_eq
      show (BitVec.setWidth 32 (BitVec.setWidth 16 y.toBitVec)).toNat = y.toBitVec.toNat
      simp only [BitVec.toNat_setWidth]
      omega
    rw [h3]
    show y.toBitVec.toInt = _
    rw [BitVec.toInt_eq_toNat_of_lt (by omega)]
  omega
theorem own_geti (vs : List Int32) (n : Nat) (d : Int32) : (vs.map Value.int).getD n (.int d) = .int (vs.getD n d) := by
  simp only [List.getD_eq_getElem?_getD, List.getElem?_map]
  cases vs[n]? <;> rfl
theorem own_us (cs : List Int32) (N : Nat) (hN : N = cs.length) : ((List.range N).map fun i => (cs.map Value.int).getD (0 + i) (.int 0)) = cs.map Value.int := by
  subst hN
  apply List.ext_getElem
  · simp
  · intro i h1 h2
    simp only [List.getElem_map, List.getElem_range, Nat.zero_add, own_geti]
    simp only [List.length_map, List.length_range] at h1
    rw [List.getD_eq_getElem?_getD, List.getElem?_eq_getElem h1]
    rfl
theorem own_cat (pre rs cs : List Int32) : ((pre ++ rs).map Value.int).take pre.length ++ cs.map Value.int ++ ((pre ++ rs).map Value.int).drop (pre.length + cs.length) = (pre ++ cs ++ rs.drop cs.length).map Value.int := by
  rw [← List.map_take, ← List.map_drop, List.take_left, List.drop_append, List.map_append, List.map_append]
  simp
theorem own_sum {K a b r : Nat} (h : a + b = K + r) : Int32.ofNat K + Int32.ofNat r = Int32.ofNat (a + b) := by rw [own_addN, h]
theorem own_sum0 {a b r : Nat} (h : a + b = 0 + 0 + r) : (0 : Int32) + Int32.ofNat r = Int32.ofNat (a + b) := by rw [h, Nat.zero_add, Int32.zero_add]

theorem own_nar0 : nar .byte (0 : Int32) = (0 : Int32) := by decide
theorem own_pad0 (k : Nat) : ∀ i, ((List.replicate k (0 : Int32)).map Value.int).getD i (.int 0) = ([] : List Value).getD i (.int 0) := by
  intro i
  rw [List.map_replicate]
  exact pad_rep [] (.int 0) k i
theorem own_declares {a0 : Array Value} {Z : State} {y : MethodName} {bytes : ByteArray} {maxL : Nat} {ret : Option FieldType} (wi : (Jvm.Cond.instanceMethod y).before a0 Z = true) (wc : (Jvm.Cond.code y bytes maxL ret).before a0 Z = true) : (Jvm.Cond.declares y).before a0 Z = true := by
  obtain ⟨mk, meth, h1, h2, h3, -⟩ := Cond.instanceMethod_spec wi
  obtain ⟨meth', c, h4, -, -, -, -, -, -, h5⟩ := Cond.code_spec h1 wc
  cases h2.symm.trans h4
  simp [Cond.before, Cond.holds, Cond.value, h1, h2, h3, h5]
theorem own_nf {s : State} {y y2 : MethodName} (hc : y2.cls = y.cls) {args : Array Value} {C : String} (h : (Jvm.Cond.selects C y2 y2).before args s = true) : NotFace s y := fun r0 h0 => by
  obtain ⟨c2, r2, m2, q1, q2, q3, q4, kP, hkP, hkPi⟩ := Cond.selects_spec h
  have e1 := findClass_of_methodNamed h0
  have e2 := findClass_of_methodNamed q3
  rw [hc] at e2
  have e3 : m2.cls = r0.cls := Option.some.inj (e2.symm.trans e1)
  exact ⟨kP, by rw [← e3]; exact hkP, hkPi⟩
/-- arraycopy of the first N bytes to the start of another array -/
theorem own_copy {p : Program} {l : Launch} {e : Env} {R : Room} {s : State} {m : MethodId} {args : Array Value} {below : List Frame} {meth : Method} {c : Code} {T : State} {locs : List Loc} {cells slots : Nat} {Z : State} {h : Heap} {a b : Addr} {k k' : ClassId} {z z' nn : Int32} {cs ds : List Int32} (X : Stand p l e R s m args below meth c T locs cells slots) (hx : p.tables.exec = Jvm.exec) (hZ : Z.Warmed39 s.vm) {a0 : Array Value} {own : String} {index : Nat} (hown : s.vm.findClass own = some m.cls)
    (w1 : (Jvm.Cond.methodLink own index Jvm.Stand.acN).before a0 Z = true) (w2 : (Jvm.Cond.native Jvm.Stand.acN).before a0 Z = true) (w3 : (Jvm.Cond.static Jvm.Stand.acN).before a0 Z = true) (w4 : (Jvm.Cond.initialized "java/lang/System").before a0 Z = true) (eT : T.heap = h)
    (A : Arv Z h a k .byte z (cs.map Value.int) (.int 0)) (B : Arv Z h b k' .byte z' (ds.map Value.int) (.int 0)) (N : Nat) (h3 : nn.toInt = (N : Int)) (hz : z.toInt = (cs.length : Int)) (hz' : z'.toInt = (ds.length : Int)) (h4 : N ≤ cs.length) (h5 : N ≤ ds.length) {n0 : Nat} (NF : Fr n0 locs) (ge : n0 ≤ b)
    {g : JFrame} (hg : g.method = m) (hsize : g.locals.size = c.maxLocals) {rest : List Value} (hs : g.stack = .int nn :: .int 0 :: .ref b :: .int 0 :: .ref a :: rest) (hd : decode c.code g.pc = .ok (.invokestatic index, 3))
    (hf : 1 ≤ R.frames) {W : Nat} (hW : 2 * g.monitorRoom + (rest.map fun v => v.category).sum ≤ W) (hlo : W + (nativeFrameWords "java/lang/System" "arraycopy" 5 + 11) ≤ R.locals) :
    ∃ T' h' L, Stand p l e R s m args below meth c T' L cells slots ∧ T'.heap = h' ∧ Fr n0 L ∧ Keep h h' [b] ∧ Arv Z h' b k' .byte z' ((cs.take N ++ ds.drop N).map Value.int) (.int 0) ∧
      ∀ target, Steps p.tables e below (T'.setTop { g with pc := g.pc + 3, stack := rest }) target → Steps p.tables e below (T.setTop g) target := by
  have e0 : (0 : Int32).toNatClampNeg = 0 := rfl
  have eN := own_i32 h3
  obtain ⟨T', h', L, X', eh, NF', K, V, st⟩ := cpA X hx hZ hown w1 w2 w3 w4 eT A B (Or.inl ⟨rfl, rfl⟩) (sp := 0) (dp := 0) (nn := nn) (by decide) (by decide) (own_nn h3) (by rw [e0, eN, own_i32 hz]; omega) (by rw [e0, eN, own_i32 hz']; omega) rfl (by rw [e0, eN, List.length_map]; omega) NF ge hg hsize hs hd hf hW hlo
  refine ⟨T', h', L, X', eh, NF', K, ?_, st⟩
  have q : ((List.range nn.toNatClampNeg).map fun i => (cs.map Value.int).getD ((0 : Int32).toNatClampNeg + i) (.int 0)) = (cs.take N).map Value.int := by
    rw [e0, eN]
    apply List.ext_getElem
    · simp; omega
    · intro i h1 h2
      simp only [List.getElem_map, List.getElem_range, Nat.zero_add, own_geti, List.getElem_take]
      simp only [List.length_map, List.length_range] at h1
      rw [List.getD_eq_getElem?_getD, List.getElem?_eq_getElem (by omega)]
      rfl
  rw [q, e0, eN] at V
  simpa using V
theorem own_samem {a0 : Array Value} {Z : State} {y y2 : MethodName} {C : String} (wi : (Jvm.Cond.instanceMethod y).before a0 Z = true) (hc : y2.cls = y.cls) (h : (Jvm.Cond.selects C y2 y2).before a0 Z = true) (hy : y.cls ≠ "java/lang/invoke/MethodHandle" ∧ y.cls ≠ "java/lang/invoke/VarHandle") : (Jvm.Cond.sameMethod y.cls y.cls y.name y.desc).before a0 Z = true := by
  obtain ⟨mk, meth, h1, h2, h3, -⟩ := Cond.instanceMethod_spec wi
  have e1 := findClass_of_methodNamed h1
  have e2 := State.methodFound?_of_named h1 hy
  obtain ⟨kr, hk, hni⟩ := own_nf hc h mk h1
  have e3 : Z.methodNamed? ⟨y.cls, y.name, y.desc⟩ = some mk := h1
  simp [Cond.before, Cond.holds, Cond.value, h1, e1, e2, e3, hk, hni]
theorem own_neint {t : Term} {n x : Int32} {args : Array Value} {first s : State} {o : Option Outcome} {idx : List Nat} (ht : t.eval args first o idx s = some (.int x)) (h : (Jvm.Cond.not (Jvm.Cond.eq t (.int n))).value args first o s idx = some true) : ¬ x = n :=
  gotF (Jvm.Cond.eq_ints ht rfl) (not_v h)
/-- arraycopy of a whole array of bytes behind the first ones of another -/
theorem own_copyAt {p : Program} {l : Launch} {e : Env} {R : Room} {s : State} {m : MethodId} {args : Array Value} {below : List Frame} {meth : Method} {c : Code} {T : State} {locs : List Loc} {cells slots : Nat} {Z : State} {h : Heap} {a b : Addr} {k k' : ClassId} {z z' dp nn : Int32} {cs pre rs : List Int32} (X : Stand p l e R s m args below meth c T locs cells slots) (hx : p.tables.exec = Jvm.exec) (hZ : Z.Warmed39 s.vm) {a0 : Array Value} {own : String} {index : Nat} (hown : s.vm.findClass own = some m.cls)
    (w1 : (Jvm.Cond.methodLink own index Jvm.Stand.acN).before a0 Z = true) (w2 : (Jvm.Cond.native Jvm.Stand.acN).before a0 Z = true) (w3 : (Jvm.Cond.static Jvm.Stand.acN).before a0 Z = true) (w4 : (Jvm.Cond.initialized "java/lang/System").before a0 Z = true) (eT : T.heap = h)
    (A : Arv Z h a k .byte z (cs.map Value.int) (.int 0)) (B : Arv Z h b k' .byte z' ((pre ++ rs).map Value.int) (.int 0)) (hd0 : dp.toInt = (pre.length : Int)) (h3 : nn.toInt = (cs.length : Int)) (hz : z.toInt = (cs.length : Int)) (hz' : z'.toInt = ((pre ++ rs).length : Int)) (h5 : cs.length ≤ rs.length) {n0 : Nat} (NF : Fr n0 locs) (ge : n0 ≤ b)
    {g : JFrame} (hg : g.method = m) (hsize : g.locals.size = c.maxLocals) {rest : List Value} (hs : g.stack = .int nn :: .int dp :: .ref b :: .int 0 :: .ref a :: rest) (hd : decode c.code g.pc = .ok (.invokestatic index, 3))
    (hf : 1 ≤ R.frames) {W : Nat} (hW : 2 * g.monitorRoom + (rest.map fun v => v.category).sum ≤ W) (hlo : W + (nativeFrameWords "java/lang/System" "arraycopy" 5 + 11) ≤ R.locals) :
    ∃ T' h' L, Stand p l e R s m args below meth c T' L cells slots ∧ T'.heap = h' ∧ Fr n0 L ∧ Keep h h' [b] ∧ Arv Z h' b k' .byte z' ((pre ++ cs ++ rs.drop cs.length).map Value.int) (.int 0) ∧
      ∀ target, Steps p.tables e below (T'.setTop { g with pc := g.pc + 3, stack := rest }) target → Steps p.tables e below (T.setTop g) target := by
  have e0 : (0 : Int32).toNatClampNeg = 0 := rfl
  have eN := own_i32 h3
  have eD := own_i32 hd0
  obtain ⟨T', h', L, X', eh, NF', K, V, st⟩ := cpA X hx hZ hown w1 w2 w3 w4 eT A B (Or.inl ⟨rfl, rfl⟩) (sp := 0) (dp := dp) (nn := nn) (by decide) (own_nn hd0) (own_nn h3) (by rw [e0, eN, own_i32 hz]; omega) (by rw [eD, eN, own_i32 hz', List.length_append]; omega) rfl (by rw [eD, eN, List.length_map, List.length_append]; omega) NF ge hg hsize hs hd hf hW hlo
  refine ⟨T', h', L, X', eh, NF', K, ?_, st⟩
  rw [e0, own_us cs _ eN, eD, eN, own_cat] at V
  exact V
def own_St (Z : State) (wc : Int32) (wD : Addr) (kD : ClassId) : Prop :=
  Sta Z Z.heap "java/lang/String" "COMPACT_STRINGS" "Z" (.int wc) ∧ ¬ wc = (0 : Int32) ∧ Sta Z Z.heap "java/util/ArrayList" "DEFAULTCAPACITY_EMPTY_ELEMENTDATA" "[Ljava/lang/Object;" (.ref wD) ∧ Arv Z Z.heap wD kD (.object "java/lang/Object") (0 : Int32) [] .null
/-- the ArrayList at al: k elements, the first of them f, in an array of ten at dd (or none yet: dd is al itself) -/
def own_AL (Z : State) (wD : Addr) (h : Heap) (n0 : Nat) (al : Addr) (k : Nat) (dd : Addr) (f : Value) : Prop :=
  n0 ≤ al ∧ n0 ≤ dd ∧ Exa Z h al "java/util/ArrayList" ∧ Fld Z h al "java/util/ArrayList" "size" "I" (.int (Int32.ofNat k)) ∧ (∃ md : Int32, Fld Z h al "java/util/AbstractList" "modCount" "I" (.int md)) ∧
  ((k = 0 ∧ al = dd ∧ Fld Z h al "java/util/ArrayList" "elementData" "[Ljava/lang/Object;" (.ref wD)) ∨
   (1 ≤ k ∧ al ≠ dd ∧ Fld Z h al "java/util/ArrayList" "elementData" "[Ljava/lang/Object;" (.ref dd) ∧ ∃ (kk : ClassId) (vs : List Value), Arv Z h dd kk (.object "java/lang/Object") (10 : Int32) vs .null ∧ vs.length = 10 ∧ Ovr Z kk "java/lang/Object" ∧ vs.getD 0 .null = f))
theorem own_ALext {Z : State} {wD : Addr} {h h' : Heap} {n0 : Nat} {al : Addr} {k : Nat} {dd : Addr} {f : Value} (A : own_AL Z wD h n0 al k dd f) (E : Ext h h') : own_AL Z wD h' n0 al k dd f := by
  obtain ⟨a1, a2, a3, a4, ⟨md, a5⟩, a6⟩ := A
  refine ⟨a1, a2, a3.ext E, a4.ext E, ⟨md, a5.ext E⟩, ?_⟩
  rcases a6 with ⟨b1, b2, b3⟩ | ⟨b1, b2, b3, kk, vs, b4, b5⟩
  · exact Or.inl ⟨b1, b2, b3.ext E⟩
  · exact Or.inr ⟨b1, b2, b3.ext E, kk, vs, b4.ext E, b5⟩
theorem own_ALkeep {Z : State} {wD : Addr} {h h' : Heap} {ws : List Addr} {n0 : Nat} {al : Addr} {k : Nat} {dd : Addr} {f : Value} (A : own_AL Z wD h n0 al k dd f) (K : Keep h h' ws) (q1 : al ∉ ws) (q2 : dd ∉ ws) : own_AL Z wD h' n0 al k dd f := by
  obtain ⟨a1, a2, a3, a4, ⟨md, a5⟩, a6⟩ := A
  refine ⟨a1, a2, a3.keep K, a4.keep K q1, ⟨md, a5.keep K q1⟩, ?_⟩
  rcases a6 with ⟨b1, b2, b3⟩ | ⟨b1, b2, b3, kk, vs, b4, b5⟩
  · exact Or.inl ⟨b1, b2, b3.keep K q1⟩
  · exact Or.inr ⟨b1, b2, b3.keep K q1, kk, vs, b4.keep K q2, b5⟩
/-- the ConfigProblems at p: k1 violations, k2 unsupported ones -/
def own_CP (Z : State) (wD : Addr) (h : Heap) (n0 : Nat) (p : Addr) (k1 k2 : Nat) (f1 f2 : Value) : Prop :=
  ∃ al1 dd1 al2 dd2 : Addr, n0 ≤ p ∧ Exa Z h p "com/example/shaper/shaper/core/ConfigProblems" ∧ Fld Z h p "com/example/shaper/shaper/core/ConfigProblems" "violations" "Ljava/util/List;" (.ref al1) ∧ Fld Z h p "com/example/shaper/shaper/core/ConfigProblems" "unsupported" "Ljava/util/List;" (.ref al2) ∧
    own_AL Z wD h n0 al1 k1 dd1 f1 ∧ own_AL Z wD h n0 al2 k2 dd2 f2 ∧ p ≠ al1 ∧ p ≠ dd1 ∧ p ≠ al2 ∧ p ≠ dd2 ∧ al1 ≠ al2 ∧ al1 ≠ dd2 ∧ dd1 ≠ al2 ∧ dd1 ≠ dd2
theorem own_CPext {Z : State} {wD : Addr} {h h' : Heap} {n0 : Nat} {p : Addr} {k1 k2 : Nat} {f1 f2 : Value} (A : own_CP Z wD h n0 p k1 k2 f1 f2) (E : Ext h h') : own_CP Z wD h' n0 p k1 k2 f1 f2 := by
  obtain ⟨al1, dd1, al2, dd2, a1, a2, a3, a4, a5, a6, a7⟩ := A
  exact ⟨al1, dd1, al2, dd2, a1, a2.ext E, a3.ext E, a4.ext E, own_ALext a5 E, own_ALext a6 E, a7⟩
theorem own_CPkeep {Z : State} {wD : Addr} {h h' : Heap} {n0 : Nat} {p : Addr} {k1 k2 : Nat} {f1 f2 : Value} (A : own_CP Z wD h n0 p k1 k2 f1 f2) (K : Keep h h' []) : own_CP Z wD h' n0 p k1 k2 f1 f2 := by
  obtain ⟨al1, dd1, al2, dd2, a1, a2, a3, a4, a5, a6, a7⟩ := A
  exact ⟨al1, dd1, al2, dd2, a1, a2.keep K, a3.keep K nin0, a4.keep K nin0, own_ALkeep a5 K nin0 nin0, own_ALkeep a6 K nin0 nin0, a7⟩
/-- an array of references of length 0, by the words that name it -/
theorem own_arr0 {s : State} {args : Array Value} {t : Term} {ty : FieldType} {a : Addr} (hf : Fit s) (ev : t.eval args s none [] s = some (.ref a)) (h1 : (Jvm.Cond.arrayOf t ty).value args s none s [] = some true) (h2 : (Jvm.Cond.eq (.length t) (.int 0)).value args s none s [] = some true) : ∃ k, Arv s s.heap a k ty (0 : Int32) [] .null := by
  obtain ⟨cell, A⟩ := Arr.start ev h1
  obtain ⟨a2, cell2, e7, e8, sz, e9⟩ := Jvm.Lib.length_spec (own_eqint h2)
  obtain rfl : a = a2 := Value.ref.inj (Option.some.inj (ev.symm.trans e7))
  obtain ⟨g1, -⟩ := State.arrayAt?_spec e8
  obtain rfl : cell = cell2 := Option.some.inj (A.1.symm.trans g1)
  exact ⟨_, Arv.start hf A sz (Value.int.inj e9).symm (by decide) rfl trivial⟩
def own_EL : List (String × Nat) := [("com/example/shaper/shaper/core/ConfigProblems", 26), ("com/example/shaper/shaper/core/ConfigProblems", 38)]
abbrev own_MH (l : Launch) (Z : State) (ws : List Jvm.Cond) (y : MethodName) (c : ByteArray) (n : Nat) (r : Option FieldType) (R : Room) (A : Array Value) (h0 : Heap) (Q : Option Value → Heap → List Loc → Prop) : Prop := MetFree l y (head1 (Jvm.Cond.code y c n r :: ws) R) (fun a U => a = A ∧ Z.Warmed39 U.vm ∧ U.heap = h0 ∧ CHv Z own_EL U.vm h0) (fun _ _ _ _ _ => True) (fun _ U o U' => ∃ v L, o = .returned v ∧ Q v U'.heap L ∧ CHr Z own_EL U.vm U.heap U'.vm U'.heap ∧ ReturnedEndW U o U' L R.cells R.slots)
theorem own_mem26 : ("com/example/shaper/shaper/core/ConfigProblems", 26) ∈ own_EL := by simp [own_EL]
theorem own_mem38 : ("com/example/shaper/shaper/core/ConfigProblems", 38) ∈ own_EL := by simp [own_EL]
theorem own_txt26 : (∀ c ∈ (": ").toList, c.toNat < 256) ∧ (": ").toList.map (fun c => Value.int (Jvm.Lit.byteI c.toNat.toUInt16)) = ([58, 32] : List Int32).map Value.int := ⟨by decide, rfl⟩
theorem own_txt38 : (∀ c ∈ ("not supported yet").toList, c.toNat < 256) ∧ ("not supported yet").toList.map (fun c => Value.int (Jvm.Lit.byteI c.toNat.toUInt16)) = ([110, 111, 116, 32, 115, 117, 112, 112, 111, 114, 116, 101, 100, 32, 121, 101, 116] : List Int32).map Value.int := ⟨by decide, rfl⟩
theorem own_tln26 : 4 * (": ").toList.length ≤ 8 := by decide
theorem own_tln38 : 4 * ("not supported yet").toList.length ≤ 68 := by decide
def own_Lt (x : Addr) (h : Heap) : Prop := x < h.size
theorem own_Lt.lt {x : Addr} {h : Heap} (q : own_Lt x h) : x < h.size := q
theorem own_ALl1 {Z : State} {wD : Addr} {h : Heap} {n0 : Nat} {al : Addr} {k : Nat} {dd : Addr} {f : Value} (A : own_AL Z wD h n0 al k dd f) : own_Lt al h := A.2.2.1.lt
theorem own_ALl2 {Z : State} {wD : Addr} {h : Heap} {n0 : Nat} {al : Addr} {k : Nat} {dd : Addr} {f : Value} (A : own_AL Z wD h n0 al k dd f) : own_Lt dd h := by
  obtain ⟨-, -, a3, -, -, a6⟩ := A
  rcases a6 with ⟨-, b2, -⟩ | ⟨-, -, -, kk, vs, b4, -⟩
  · rw [← b2]; exact a3.lt
  · exact b4.lt
theorem own_ALsafe {Z : State} {EL : List (String × Nat)} {vm : Vm} {wD : Addr} {h : Heap} {n0 : Nat} {al : Addr} {k : Nat} {dd : Addr} {f : Value} (hal : Z.vm.Alike vm) (A : own_AL Z wD h n0 al k dd f) : Safe Z EL vm h dd := by
  obtain ⟨-, -, a3, -, -, a6⟩ := A
  rcases a6 with ⟨-, b2, -⟩ | ⟨-, -, -, kk, vs, b4, -⟩
  · rw [← b2]; exact Safe.exa hal a3 (by decide) (by decide)
  · exact Safe.arv hal b4 nofun
theorem own_neD {x dd d' : Addr} {n : Nat} (hd : d' = dd ∨ n ≤ d') (q : x ≠ dd) (lt : x < n) : x ≠ d' := by
  rcases hd with rfl | hd
  · exact q
  · exact Nat.ne_of_lt (Nat.lt_of_lt_of_le lt hd)
/-- the first element of a list that had k and has got r -/
def own_fst (k : Nat) (r : Addr) (f : Value) : Value := match k with
  | 0 => .ref r
  | _ + 1 => f
theorem own_fst1 {k : Nat} {r : Addr} {f : Value} (h : 1 ≤ k) : own_fst k r f = f := by
  obtain ⟨j, rfl⟩ : ∃ j, k = j + 1 := ⟨k - 1, by omega⟩
  rfl
theorem own_set0 {k : Nat} {vs : List Value} {x d : Value} (h : 1 ≤ k) : (vs.set k x).getD 0 d = vs.getD 0 d := by
  rw [List.getD_eq_getElem?_getD, List.getD_eq_getElem?_getD, List.getElem?_set_ne (by omega)]
theorem own_CPexa {Z : State} {wD : Addr} {h : Heap} {n0 : Nat} {p : Addr} {k1 k2 : Nat} {f1 f2 : Value} (A : own_CP Z wD h n0 p k1 k2 f1 f2) : Exa Z h p "com/example/shaper/shaper/core/ConfigProblems" := by
  obtain ⟨al1, dd1, al2, dd2, -, a2, -⟩ := A
  exact a2

theorem hw_43 : own_H (.initialized "java/lang/String") := own_h 43 rfl
theorem hw_51 : own_H (.instantiable "java/lang/String" 4) := own_h 51 rfl
theorem hw_55 : own_H (.arrayClass .byte) := own_h 55 rfl
theorem hw_62 : own_H (.laysFinal "java/lang/String" "java/lang/String" "value" "[B") := own_h 62 rfl
theorem hw_64 : own_H (.laysFinal "java/lang/String" "java/lang/String" "coder" "B") := own_h 64 rfl
theorem hw_136 : own_H (.soleField "java/lang/String" "value") := own_h 136 rfl
theorem hw_137 : own_H (.soleField "java/lang/String" "coder") := own_h 137 rfl
theorem own_wS {a0 : Array Value} {Z : State} (hw : own_W a0 Z) : ∀ a ∈ Bundle.stringAtoms, a.before a0 Z = true := fun a ha => by
  simp only [Bundle.stringAtoms, Bundle.sN, List.mem_cons, List.not_mem_nil, or_false] at ha
  rcases ha with rfl | rfl | rfl | rfl | rfl | rfl | rfl
  · exact (hw_43 hw)
  · exact (hw_51 hw)
  · exact (hw_55 hw)
  · exact (hw_62 hw)
  · exact (hw_64 hw)
  · exact (hw_136 hw)
  · exact (hw_137 hw)
theorem d37_0 : own_D c_0 0 (.iload_n 0, 1) := by decide +kernel
theorem d37_1 : own_D c_0 1 (.iload_n 1, 1) := by decide +kernel
theorem d37_2 : own_D c_0 2 (.if_icmp .lt 7, 3) := by decide +kernel
theorem d37_9 : own_D c_0 9 (.iload_n 1, 1) := by decide +kernel
theorem d37_10 : own_D c_0 10 (.ireturn, 1) := by decide +kernel
theorem d37_5 : own_D c_0 5 (.iload_n 0, 1) := by decide +kernel
theorem d37_6 : own_D c_0 6 (.goto 4, 3) := by decide +kernel
theorem own_ef37 (m : MethodId) (p1 p2 : Int32) : entryFrame m #[(.int p1), (.int p2)] 2 = mkF m 0 #[iv p1, iv p2] [] := by first | (simp [entryFrame, mkF, argsToLocals, Value.category]; done) | rfl
def own_Q37 (Z : State) (p1 p2 : Int32) (h0 : Heap) (n0 : Nat) (v : Option Value) (h : Heap) (L : List Loc) : Prop := v = some (.int (own_max32 p1 p2)) ∧ Fr n0 L ∧ h = h0
theorem own_rm37 (l Z a0) (hw : own_W a0 Z) (ws) (p1 p2 : Int32) (h0 : Heap) (n0 : Nat) (Z0 : n0 ≤ h0.size) :
    own_M l Z ws mn_0 c_0 2 (some .int) rm_0 #[(.int p1), (.int p2)] h0 (own_Q37 Z p1 p2 h0 n0) := by
  refine own_body (Jvm.Free.JP.mathPlain rfl (by decide +kernel)) (fun m => own_ef37 m p1 p2) ?_
  intro p e s m below meth c T0 X0 hx hby hml hZ hown hnm hret hlk e0
  have hown : s.vm.findClass "java/lang/Math" = some m.cls := hown
  have hnm : meth.name = "max" := hnm
  have N0 := Fr.nil n0
  refine own_st _ (own_iloadN 1 X0 hx hby d37_0) ?_
  refine own_st _ (own_iloadN 2 X0 hx hby d37_1) ?_
  by_cases hc1 : p1 < p2
  · refine own_st _ (own_icmpYes 9 X0 hx hby d37_2 ((tlt hc1).1)) ?_
    refine own_st _ (own_iloadN 10 X0 hx hby d37_9) ?_
    refine own_ret X0 hlk (v := some (.int p2)) (fun h => by rw [hret] at h; cases h) (fun fs hr => X0.ireturnOut hx hret rfl (Or.inl rfl) (hb hby d37_10) hr) ?_ (by decide) (by decide)
    show own_Q37 Z p1 p2 h0 n0 _ T0.heap _
    rw [e0]
    exact ⟨congrArg (fun z => some (Value.int z)) (by simp [own_max32, hc1] : p2 = own_max32 p1 p2), N0, rfl⟩
  · refine own_st _ (own_icmpNo 5 X0 hx hby d37_2 ((flt hc1).1)) ?_
    refine own_st _ (own_iloadN 6 X0 hx hby d37_5) ?_
    refine own_st _ (own_goto 10 X0 hx hby d37_6) ?_
    refine own_ret X0 hlk (v := some (.int p1)) (fun h => by rw [hret] at h; cases h) (fun fs hr => X0.ireturnOut hx hret rfl (Or.inl rfl) (hb hby d37_10) hr) ?_ (by decide) (by decide)
    show own_Q37 Z p1 p2 h0 n0 _ T0.heap _
    rw [e0]
    exact ⟨congrArg (fun z => some (Value.int z)) (by simp [own_max32, hc1] : p1 = own_max32 p1 p2), N0, rfl⟩
theorem d32_0 : own_D c_1 0 (.iload_n 0, 1) := by decide +kernel
theorem d32_1 : own_D c_1 1 (.iload_n 1, 1) := by decide +kernel
theorem d32_2 : own_D c_1 2 (.if_icmp .gt 7, 3) := by decide +kernel
theorem d32_9 : own_D c_1 9 (.iload_n 1, 1) := by decide +kernel
theorem d32_10 : own_D c_1 10 (.ireturn, 1) := by decide +kernel
theorem d32_5 : own_D c_1 5 (.iload_n 0, 1) := by decide +kernel
theorem d32_6 : own_D c_1 6 (.goto 4, 3) := by decide +kernel
def own_Q32 (Z : State) (p1 p2 : Int32) (h0 : Heap) (n0 : Nat) (v : Option Value) (h : Heap) (L : List Loc) : Prop := v = some (.int (own_min32 p1 p2)) ∧ Fr n0 L ∧ h = h0
theorem own_rm32 (l Z a0) (hw : own_W a0 Z) (ws) (p1 p2 : Int32) (h0 : Heap) (n0 : Nat) (Z0 : n0 ≤ h0.size) :
    own_M l Z ws mn_1 c_1 2 (some .int) rm_0 #[(.int p1), (.int p2)] h0 (own_Q32 Z p1 p2 h0 n0) := by
  refine own_body (Jvm.Free.JP.mathPlain rfl (by decide +kernel)) (fun m => own_ef37 m p1 p2) ?_
  intro p e s m below meth c T0 X0 hx hby hml hZ hown hnm hret hlk e0
  have hown : s.vm.findClass "java/lang/Math" = some m.cls := hown
  have hnm : meth.name = "min" := hnm
  have N0 := Fr.nil n0
  refine own_st _ (own_iloadN 1 X0 hx hby d32_0) ?_
  refine own_st _ (own_iloadN 2 X0 hx hby d32_1) ?_
  by_cases hc2 : p2 < p1
  · refine own_st _ (own_icmpYes 9 X0 hx hby d32_2 ((tlt hc2).2.2.1)) ?_
    refine own_st _ (own_iloadN 10 X0 hx hby d32_9) ?_
    refine own_ret X0 hlk (v := some (.int p2)) (fun h => by rw [hret] at h; cases h) (fun fs hr => X0.ireturnOut hx hret rfl (Or.inl rfl) (hb hby d32_10) hr) ?_ (by decide) (by decide)
    show own_Q32 Z p1 p2 h0 n0 _ T0.heap _
    rw [e0]
    exact ⟨congrArg (fun z => some (Value.int z)) (by simp [own_min32, hc2] : p2 = own_min32 p1 p2), N0, rfl⟩
  · refine own_st _ (own_icmpNo 5 X0 hx hby d32_2 ((flt hc2).2.2.1)) ?_
    refine own_st _ (own_iloadN 6 X0 hx hby d32_5) ?_
    refine own_st _ (own_goto 10 X0 hx hby d32_6) ?_
    refine own_ret X0 hlk (v := some (.int p1)) (fun h => by rw [hret] at h; cases h) (fun fs hr => X0.ireturnOut hx hret rfl (Or.inl rfl) (hb hby d32_10) hr) ?_ (by decide) (by decide)
    show own_Q32 Z p1 p2 h0 n0 _ T0.heap _
    rw [e0]
    exact ⟨congrArg (fun z => some (Value.int z)) (by simp [own_min32, hc2] : p1 = own_min32 p1 p2), N0, rfl⟩
theorem d8_0 : own_D c_2 0 (.iload_n 0, 1) := by decide +kernel
theorem d8_1 : own_D c_2 1 (.sipush 255, 3) := by decide +kernel
theorem d8_4 : own_D c_2 4 (.if_icmp .gt 7, 3) := by decide +kernel
theorem d8_7 : own_D c_2 7 (.iconst 1, 1) := by decide +kernel
theorem d8_8 : own_D c_2 8 (.goto 4, 3) := by decide +kernel
theorem d8_12 : own_D c_2 12 (.ireturn, 1) := by decide +kernel
theorem pn_8 : plainName "java/lang/StringLatin1" = true := by first | (simp [plainName, overriddenIn]; done) | decide +kernel
theorem own_ef8 (m : MethodId) (p1 : Int32) : entryFrame m #[(.int p1)] 1 = mkF m 0 #[iv p1] [] := by first | (simp [entryFrame, mkF, argsToLocals, Value.category]; done) | rfl
def own_Q8 (Z : State) (p1 : Int32) (h0 : Heap) (n0 : Nat) (v : Option Value) (h : Heap) (L : List Loc) : Prop := v = some (.int 1) ∧ Fr n0 L ∧ h = h0
theorem own_rm8 (l Z a0) (hw : own_W a0 Z) (ws) (p1 : Int32) (h0 : Heap) (n0 : Nat) (Z0 : n0 ≤ h0.size) (hc : ¬ (255 : Int32) < p1) :
    own_M l Z ws mn_2 c_2 1 (some .boolean) rm_0 #[(.int p1)] h0 (own_Q8 Z p1 h0 n0) := by
  refine own_body (plainFor_of_name pn_8) (fun m => own_ef8 m p1) ?_
  intro p e s m below meth c T0 X0 hx hby hml hZ hown hnm hret hlk e0
  have hown : s.vm.findClass "java/lang/StringLatin1" = some m.cls := hown
  have hnm : meth.name = "canEncode" := hnm
  have N0 := Fr.nil n0
  refine own_st _ (own_iloadN 1 X0 hx hby d8_0) ?_
  refine own_st _ (own_sipush 4 255 X0 hx hby d8_1) ?_
  refine own_st _ (own_icmpNo 7 X0 hx hby d8_4 ((flt hc).2.2.1)) ?_
  refine own_st _ (own_iconst 8 1 X0 hx hby d8_7) ?_
  refine own_st _ (own_goto 12 X0 hx hby d8_8) ?_
  refine own_ret X0 hlk (v := some (.int 1)) (fun h => by rw [hret] at h; cases h) (fun fs hr => retN X0 hx (t := .boolean) hret (by simp) (hb hby d8_12) hr) ?_ (by decide) (by decide)
  show own_Q8 Z p1 h0 n0 _ T0.heap _
  rw [e0]
  exact ⟨rfl, N0, rfl⟩
theorem d9_0 : own_D c_3 0 (.iconst 1, 1) := by decide +kernel
theorem d9_1 : own_D c_3 1 (.newarray .byte, 2) := by decide +kernel
theorem d9_3 : own_D c_3 3 (.dup, 1) := by decide +kernel
theorem d9_4 : own_D c_3 4 (.iconst 0, 1) := by decide +kernel
theorem d9_5 : own_D c_3 5 (.iload_n 0, 1) := by decide +kernel
theorem d9_6 : own_D c_3 6 (.i2b, 1) := by decide +kernel
theorem d9_7 : own_D c_3 7 (.bastore, 1) := by decide +kernel
theorem d9_8 : own_D c_3 8 (.areturn, 1) := by decide +kernel
def own_Q9 (Z : State) (p1 : Int32) (h0 : Heap) (n0 : Nat) (v : Option Value) (h : Heap) (L : List Loc) : Prop := ∃ (ba : Addr) (kb : ClassId), v = some (.ref ba) ∧ Fr n0 L ∧ Keep h0 h [] ∧ h0.size ≤ ba ∧ Arv Z h ba kb .byte (1 : Int32) (([(nar .byte (p1.toInt8.toInt32))]).map Value.int) (.int 0) ∧ Exa Z h ba "[B"
theorem own_rm9 (l Z a0) (hw : own_W a0 Z) (ws) (p1 : Int32) (h0 : Heap) (n0 : Nat) (Z0 : n0 ≤ h0.size) :
    own_M l Z ws mn_3 c_3 1 (some (.array .byte)) rm_1 #[(.int p1)] h0 (own_Q9 Z p1 h0 n0) := by
  refine own_body (plainFor_of_name pn_8) (fun m => own_ef8 m p1) ?_
  intro p e s m below meth c T0 X0 hx hby hml hZ hown hnm hret hlk e0
  have hown : s.vm.findClass "java/lang/StringLatin1" = some m.cls := hown
  have hnm : meth.name = "toBytes" := hnm
  have N0 := Fr.nil n0
  have K0 : Keep h0 h0 [] := Keep.refl _ _
  refine own_st _ (own_iconst 1 1 X0 hx hby d9_0) ?_
  obtain ⟨T3, h3, k3, X3, e3, E3, A3, B3, st3⟩ := newPE (aty := .byte) X0 hx hZ (hw_55 hw) e0 (g := (mkF m 1 #[iv p1] [(.int 1)])) rfl (hb hby d9_1) rfl (by decide) (cap := 1) (by decide) (by decide) (by decide) (by decide) (ad := "[B") (by decide)
  obtain ⟨b3, g3⟩ : ∃ z, z = h0.size := ⟨_, rfl⟩
  rw [← g3] at A3 B3 st3
  have g_b3 : n0 ≤ b3 := Nat.le_trans Z0 (Nat.le_of_eq g3.symm)
  have sz_b3 : h0.size ≤ b3 := Nat.le_trans K0.1 (Nat.le_of_eq g3.symm)
  have Kp3 : Keep h0 h3 [] := K0.ext E3
  have V3 : Arv Z h3 b3 k3 .byte (1 : Int32) ((List.replicate 1 (0 : Int32)).map Value.int) (.int 0) := (Arv.new A3 (by decide)).pad (own_pad0 1)
  refine own_step (g' := (mkF m 3 #[iv p1] [(.ref b3)])) st3 ?_
  refine own_st _ (own_dup 4 X3 hx hby d9_3) ?_
  refine own_st _ (own_iconst 5 0 X3 hx hby d9_4) ?_
  refine own_st _ (own_iloadN 6 X3 hx hby d9_5) ?_
  refine own_st _ (own_i2b 7 X3 hx hby d9_6) ?_
  obtain ⟨cl4, Ar4, q4, S4, M4, H4, G4⟩ := id V3
  have hin4 : ¬ ((0 : Int32) < 0 ∨ cl4.slots.size ≤ ((0 : Int32)).toNatClampNeg) := inb_of S4 ⟨by decide, by decide⟩
  obtain ⟨T5, h5, X5, e5, W5, st5⟩ := stB X3 hx hZ e3 Ar4 (j := 0) hin4 (g := (mkF m 7 #[iv p1] [(.int (p1.toInt8.toInt32)), (.int 0), (.ref b3), (.ref b3)])) rfl rfl (hb hby d9_7)
  have u1 := B3.wr W5
  have V5 : Arv Z h5 b3 k3 .byte (1 : Int32) (([(nar .byte (p1.toInt8.toInt32))]).map Value.int) (.int 0) := Arv.set Ar4 q4 S4 M4 H4 G4 (fits_nar_byte _) W5 0 rfl (by decide)
  have Kp5 : Keep h0 h5 [] := Kp3.wr W5 (Or.inr sz_b3)
  have N5 := Fr.snoc X5 N0 g_b3
  refine own_step (g' := (mkF m 8 #[iv p1] [(.ref b3)])) st5 ?_
  refine own_ret X5 hlk (v := some (.ref b3)) (fun h => by rw [hret] at h; cases h) (fun fs hr => X5.areturnOut hx (w := (.ref b3)) rfl hret rfl (hb hby d9_8) hr) ?_ (by decide) (by decide)
  show own_Q9 Z p1 h0 n0 _ T5.heap _
  rw [e5]
  exact ⟨b3, k3, rfl, N5, Kp5, sz_b3, V5, u1⟩
theorem d10_0 : own_D c_4 0 (.aload_n 0, 1) := by decide +kernel
theorem d10_1 : own_D c_4 1 (.invokespecial 1, 3) := by decide +kernel
theorem hw_60 : own_H (.methodLink "java/lang/String" 1 mn_56) := own_h 60 rfl
theorem hw_7 : own_H (.instanceMethod mn_56) := own_h 7 rfl
theorem hw_8 : own_H (.code mn_56 object_method_1_code 1 none) := own_h 8 rfl
theorem d10_4 : own_D c_4 4 (.aload_n 0, 1) := by decide +kernel
theorem d10_5 : own_D c_4 5 (.aload_n 1, 1) := by decide +kernel
theorem d10_6 : own_D c_4 6 (.putfield 9, 3) := by decide +kernel
theorem hw_61 : own_H (.fieldLink "java/lang/String" 9 "java/lang/String" "value" "[B") := own_h 61 rfl
theorem d10_9 : own_D c_4 9 (.aload_n 0, 1) := by decide +kernel
theorem d10_10 : own_D c_4 10 (.iload_n 2, 1) := by decide +kernel
theorem d10_11 : own_D c_4 11 (.putfield 15, 3) := by decide +kernel
theorem hw_63 : own_H (.fieldLink "java/lang/String" 15 "java/lang/String" "coder" "B") := own_h 63 rfl
theorem d10_14 : own_D c_4 14 (.return_, 1) := by decide +kernel
theorem pn_10 : plainName "java/lang/String" = true := by first | (simp [plainName, overriddenIn]; done) | decide +kernel
theorem own_ef10 (m : MethodId) (a1 r2 : Addr) (p3 : Int32) : entryFrame m #[(.ref a1), (.ref r2), (.int p3)] 3 = mkF m 0 #[rv a1, rv r2, iv p3] [] := by first | (simp [entryFrame, mkF, argsToLocals, Value.category]; done) | rfl
def own_Q10 (Z : State) (a1 r2 : Addr) (p3 : Int32) (h0 : Heap) (n0 : Nat) (v : Option Value) (h : Heap) (L : List Loc) : Prop := v = none ∧ Fr n0 L ∧ Keep h0 h [a1] ∧ Exa Z h a1 "java/lang/String" ∧ Fld Z h a1 "java/lang/String" "value" "[B" (.ref r2) ∧ Fld Z h a1 "java/lang/String" "coder" "B" (.int (nar .byte p3))
theorem own_rm10 (l Z a0) (hw : own_W a0 Z) (ws) (a1 r2 : Addr) (p3 : Int32) (h0 : Heap) (n0 : Nat) (Z0 : n0 ≤ h0.size) (E_a1 : Exa Z h0 a1 "java/lang/String") (g_a1 : n0 ≤ a1) (F_value : Fld Z h0 a1 "java/lang/String" "value" "[B" .null) (F_coder : Fld Z h0 a1 "java/lang/String" "coder" "B" (.int 0)) :
    own_M l Z ws mn_4 c_4 3 none rm_2 #[(.ref a1), (.ref r2), (.int p3)] h0 (own_Q10 Z a1 r2 p3 h0 n0) := by
  refine own_body (plainFor_of_name pn_10) (fun m => own_ef10 m a1 r2 p3) ?_
  intro p e s m below meth c T0 X0 hx hby hml hZ hown hnm hret hlk e0
  have hown : s.vm.findClass "java/lang/String" = some m.cls := hown
  have hnm : meth.name = "<init>" := hnm
  have N0 := Fr.nil n0
  have K0 : Keep h0 h0 [a1] := Keep.refl _ _
  refine own_st _ (own_aloadN 1 X0 hx hby d10_0) ?_
  obtain ⟨T6, X6, e6, st6⟩ := initO X0 hx hZ hown (hw_60 hw) (hw_7 hw) (hw_8 hw) e0 (g := (mkF m 1 #[rv a1, rv r2, iv p3] [(.ref a1)])) rfl (by rw [hml]; rfl) rfl (hb hby d10_1) (by decide) (W := 0) own_z0 (by decide)
  refine own_step (g' := (mkF m 4 #[rv a1, rv r2, iv p3] [])) st6 ?_
  refine own_st _ (own_aloadN 5 X6 hx hby d10_4) ?_
  refine own_st _ (own_aloadN 6 X6 hx hby d10_5) ?_
  obtain ⟨T7, h7, X7, e7, W7, st7⟩ := putF X6 hx hZ hown (host := "") (Or.inl (hw_61 hw)) Via.refl e6 F_value E_a1 (Or.inr ⟨(hw_62 hw), rfl, hnm⟩) (hw_51 hw) (ty := (.array .byte)) (by decide) rfl rfl (g := (mkF m 6 #[rv a1, rv r2, iv p3] [(.ref r2), (.ref a1)])) rfl rfl (hb hby d10_6)
  have u1 := E_a1.wr W7
  have u2 := F_coder.other W7 (Or.inr (slot_ne (a0 := a0) (C := "java/lang/String") (Or.inr (hw_64 hw)) (Or.inr (hw_62 hw)) (by decide) (t := .byte) (t' := (.array .byte)) (by decide) (by decide)))
  have fw7 : Fld Z h7 a1 "java/lang/String" "value" "[B" (.ref r2) := F_value.same W7
  have Kp7 : Keep h0 h7 [a1] := K0.wr W7 (Or.inl (List.mem_of_getElem? (i := 0) rfl))
  have N7 := Fr.snoc X7 N0 g_a1
  refine own_step (g' := (mkF m 9 #[rv a1, rv r2, iv p3] [])) st7 ?_
  refine own_st _ (own_aloadN 10 X7 hx hby d10_9) ?_
  refine own_st _ (own_iloadN 11 X7 hx hby d10_10) ?_
  obtain ⟨T8, h8, X8, e8, W8, st8⟩ := putFN X7 hx hZ hown (hw_63 hw) Via.refl e7 u2 u1 (Or.inr ⟨(hw_64 hw), rfl, hnm⟩) (hw_51 hw) (ty := .byte) (v' := (.int (nar .byte p3))) (by decide) rfl (fits_nar_byte _) (g := (mkF m 11 #[rv a1, rv r2, iv p3] [(.int p3), (.ref a1)])) rfl rfl (hb hby d10_11)
  have u3 := u1.wr W8
  have u4 := fw7.other W8 (Or.inr (slot_ne (a0 := a0) (C := "java/lang/String") (Or.inr (hw_62 hw)) (Or.inr (hw_64 hw)) (by decide) (t := (.array .byte)) (t' := .byte) (by decide) (by decide)))
  have fw8 : Fld Z h8 a1 "java/lang/String" "coder" "B" (.int (nar .byte p3)) := u2.same W8
  have Kp8 : Keep h0 h8 [a1] := Kp7.wr W8 (Or.inl (List.mem_of_getElem? (i := 0) rfl))
  have N8 := Fr.snoc X8 N7 g_a1
  refine own_step (g' := (mkF m 14 #[rv a1, rv r2, iv p3] [])) st8 ?_
  refine own_ret X8 hlk (v := none) (fun _ => rfl) (fun fs hr => X8.returnOut hx hret (hb hby d10_14) hr) ?_ (by decide) (by decide)
  show own_Q10 Z a1 r2 p3 h0 n0 _ T8.heap _
  rw [e8]
  exact ⟨rfl, N8, Kp8, u3, u4, fw8⟩
theorem d7_0 : own_D c_5 0 (.getstatic 38, 3) := by decide +kernel
theorem hw_45 : own_H (.fieldLink "java/lang/String" 38 "java/lang/String" "COMPACT_STRINGS" "Z") := own_h 45 rfl
theorem d7_3 : own_D c_5 3 (.ifCond .eq 23, 3) := by decide +kernel
theorem d7_6 : own_D c_5 6 (.iload_n 0, 1) := by decide +kernel
theorem d7_7 : own_D c_5 7 (.invokestatic 1015, 3) := by decide +kernel
theorem hw_46 : own_H (.methodLink "java/lang/String" 1015 mn_2) := own_h 46 rfl
theorem hw_49 : own_H (.code mn_2 jdk_43_method_3_code 1 (some .boolean)) := own_h 49 rfl
theorem hw_48 : own_H (.initialized "java/lang/StringLatin1") := own_h 48 rfl
theorem pd_0 : parseMethodDescriptor "(C)Z" = some ⟨[.char], some .boolean⟩ := by decide +kernel
theorem hw_47 : own_H (.static mn_2) := own_h 47 rfl
theorem d7_10 : own_D c_5 10 (.ifCond .eq 16, 3) := by decide +kernel
theorem d7_13 : own_D c_5 13 (.new 10, 3) := by decide +kernel
theorem hw_50 : own_H (.classLink "java/lang/String" 10 "java/lang/String") := own_h 50 rfl
theorem d7_16 : own_D c_5 16 (.dup, 1) := by decide +kernel
theorem d7_17 : own_D c_5 17 (.iload_n 0, 1) := by decide +kernel
theorem d7_18 : own_D c_5 18 (.invokestatic 1018, 3) := by decide +kernel
theorem hw_52 : own_H (.methodLink "java/lang/String" 1018 mn_3) := own_h 52 rfl
theorem hw_54 : own_H (.code mn_3 jdk_43_method_46_code 1 (some (.array .byte))) := own_h 54 rfl
theorem pd_1 : parseMethodDescriptor "(C)[B" = some ⟨[.char], some (.array .byte)⟩ := by decide +kernel
theorem hw_53 : own_H (.static mn_3) := own_h 53 rfl
theorem d7_21 : own_D c_5 21 (.iconst 0, 1) := by decide +kernel
theorem d7_22 : own_D c_5 22 (.invokespecial 209, 3) := by decide +kernel
theorem hw_56 : own_H (.methodLink "java/lang/String" 209 mn_4) := own_h 56 rfl
theorem hw_59 : own_H (.code mn_4 jdk_42_method_151_code 3 none) := own_h 59 rfl
theorem pd_2 : parseMethodDescriptor "([BB)V" = some ⟨[(.array .byte), .byte], none⟩ := by decide +kernel
theorem hw_57 : own_H (.instanceMethod mn_4) := own_h 57 rfl
theorem d7_25 : own_D c_5 25 (.areturn, 1) := by decide +kernel
def own_Q7 (Z : State) (p1 wc : Int32) (wD : Addr) (kD : ClassId) (h0 : Heap) (n0 : Nat) (v : Option Value) (h : Heap) (L : List Loc) : Prop := ∃ (sa ba : Addr) (kb : ClassId), v = some (.ref sa) ∧ Fr n0 L ∧ Keep h0 h [] ∧ h0.size ≤ sa ∧ h0.size ≤ ba ∧ sa ≠ ba ∧ Exa Z h sa "java/lang/String" ∧ Fld Z h sa "java/lang/String" "value" "[B" (.ref ba) ∧ Fld Z h sa "java/lang/String" "coder" "B" (.int 0) ∧ Arv Z h ba kb .byte (1 : Int32) (([(nar .byte (p1.toInt8.toInt32))]).map Value.int) (.int 0)
theorem own_rm7 (l Z a0) (hw : own_W a0 Z) (ws) (p1 wc : Int32) (wD : Addr) (kD : ClassId) (h0 : Heap) (n0 : Nat) (Z0 : n0 ≤ h0.size) (O0 : Old Z n0 h0) (SS : own_St Z wc wD kD) (hc : ¬ (255 : Int32) < p1) :
    own_M l Z ws mn_5 c_5 1 (some (.object "java/lang/String")) rm_3 #[(.int p1)] h0 (own_Q7 Z p1 wc wD kD h0 n0) := by
  refine own_body (plainFor_of_name pn_10) (fun m => own_ef8 m p1) ?_
  intro p e s m below meth c T0 X0 hx hby hml hZ hown hnm hret hlk e0
  have hown : s.vm.findClass "java/lang/String" = some m.cls := hown
  have hnm : meth.name = "valueOf" := hnm
  have N0 := Fr.nil n0
  have K0 : Keep h0 h0 [] := Keep.refl _ _
  obtain ⟨S_wc, hwc, S_wD, V_wD⟩ := id SS
  obtain ⟨T9, X9, e9, st9⟩ := getS2 X0 hx hZ hown (host := "") (Or.inl (hw_45 hw)) Via.refl e0 (S_wc.ext O0.2) (g := (mkF m 0 #[iv p1] [])) rfl (hb hby d7_0)
  refine own_step (g' := (mkF m 3 #[iv p1] [(.int wc)])) st9 ?_
  refine own_st _ (own_ifNo 6 X9 hx hby d7_3 ((if0 _ _).trans (feq hwc).1)) ?_
  refine own_st _ (own_iloadN 7 X9 hx hby d7_6) ?_
  obtain ⟨_, _, ⟨T10, L10, k10, n10⟩, -, X10, ⟨Lc10, hQ10, l10, y10, z10⟩, st10⟩ := Jvm.LawKit.callS X9 hx (y := mn_2) hown (mvT hZ (hw_46 hw)) (mvT hZ (hw_47 hw)) (mvT hZ (hw_48 hw)) (mvT hZ (hw_49 hw)) (by decide) (backOf (W := 0) (own_rm8 l Z a0 hw [] p1 h0 n0 Z0 hc) hZ (hw_49 hw) (hw_48 hw) (by decide) (by decide)) (g := (mkF m 7 #[iv p1] [(.int p1)])) rfl (by rw [hml]; rfl) (argsL := [(.int p1)]) (rest := []) (lenOf pd_0 rfl) rfl own_z0 (hb hby d7_7) (fun _ _ => ⟨rfl, e9, (by decide : 0 + 0 ≤ _), (by decide : 0 + 0 ≤ _)⟩)
  dsimp only [Pt.U, Pt.locs, Pt.cells, Pt.slots] at X10 l10 y10 z10 st10 hQ10
  subst l10 y10 z10
  obtain ⟨rfl, Nq10, e10⟩ := hQ10
  have N10 := Fr.app N0 Nq10
  refine own_step (g' := (mkF m 10 #[iv p1] [(.int 1)])) st10 ?_
  refine own_st _ (own_ifNo 13 X10 hx hby d7_10 ((if0 _ _).trans (feq (by decide : ¬ ((1 : Int32) = (0 : Int32)))).1)) ?_
  obtain ⟨T11, h11, X11, e11, E11, A11, D11, -, st11⟩ := newO X10 hx hZ hown (hw_50 hw) (hw_51 hw) (hw_43 hw) e10 (g := (mkF m 13 #[iv p1] [])) rfl (hb hby d7_13) (by decide) (by decide)
  obtain ⟨b11, g11⟩ : ∃ z, z = h0.size := ⟨_, rfl⟩
  rw [← g11] at A11 D11 st11
  have g_b11 : n0 ≤ b11 := Nat.le_trans Z0 (Nat.le_of_eq g11.symm)
  have sz_b11 : h0.size ≤ b11 := Nat.le_trans K0.1 (Nat.le_of_eq g11.symm)
  have Kp11 : Keep h0 h11 [] := K0.ext E11
  have Z11 : n0 ≤ h11.size := Nat.le_trans Z0 E11.1
  have F_value_b11 : Fld Z h11 b11 "java/lang/String" "value" "[B" .null := D11 (Or.inr (hw_62 hw)) (ty := (.array .byte)) (by decide)
  have F_coder_b11 : Fld Z h11 b11 "java/lang/String" "coder" "B" (.int 0) := D11 (Or.inr (hw_64 hw)) (ty := .byte) (by decide)
  refine own_step (g' := (mkF m 16 #[iv p1] [(.ref b11)])) st11 ?_
  refine own_st _ (own_dup 17 X11 hx hby d7_16) ?_
  refine own_st _ (own_iloadN 18 X11 hx hby d7_17) ?_
  obtain ⟨_, _, ⟨T12, L12, k12, n12⟩, -, X12, ⟨Lc12, hQ12, l12, y12, z12⟩, st12⟩ := Jvm.LawKit.callS X11 hx (y := mn_3) hown (mvT hZ (hw_52 hw)) (mvT hZ (hw_53 hw)) (mvT hZ (hw_48 hw)) (mvT hZ (hw_54 hw)) (by decide) (backOf (W := 2) (own_rm9 l Z a0 hw [] p1 h11 n0 Z11) hZ (hw_54 hw) (hw_48 hw) (by decide) (by decide)) (g := (mkF m 18 #[iv p1] [(.int p1), (.ref b11), (.ref b11)])) rfl (by rw [hml]; rfl) (argsL := [(.int p1)]) (rest := [(.ref b11), (.ref b11)]) (lenOf pd_1 rfl) rfl own_z0 (hb hby d7_18) (fun _ _ => ⟨rfl, e11, (by decide : 1 + 1 ≤ _), (by decide : 4 + 1 ≤ _)⟩)
  dsimp only [Pt.U, Pt.locs, Pt.cells, Pt.slots] at X12 l12 y12 z12 st12 hQ12
  subst l12 y12 z12
  obtain ⟨ba12, kb12, rfl, Nq12, K12, gb12, V12, Eb12⟩ := hQ12
  have N12 := Fr.app N10 Nq12
  have ne_b11_ba12 : b11 ≠ ba12 := Nat.ne_of_lt (Nat.lt_of_lt_of_le A11.lt gb12)
  have sz_ba12 : h0.size ≤ ba12 := Nat.le_trans Kp11.1 gb12
  have Z12 : n0 ≤ T12.heap.size := Nat.le_trans Z11 K12.1
  have Kp12 : Keep h0 T12.heap [] := Kp11.trans K12 all0
  have u1 := A11.keep K12
  have u2 := F_value_b11.keep K12 nin0
  have u3 := F_coder_b11.keep K12 nin0
  refine own_step (g' := (mkF m 21 #[iv p1] [(.ref ba12), (.ref b11), (.ref b11)])) st12 ?_
  refine own_st _ (own_iconst 22 0 X12 hx hby d7_21) ?_
  obtain ⟨_, _, ⟨T13, L13, k13, n13⟩, -, X13, ⟨Lc13, hQ13, l13, y13, z13⟩, st13⟩ := X12.specialBack hx (y := mn_4) rfl hown (mvT hZ (hw_56 hw)) (mvT hZ (hw_57 hw)) (mvT hZ (hw_59 hw)) (by decide) (backOf (W := 1) (own_rm10 l Z a0 hw [] b11 ba12 (0 : Int32) T12.heap n0 Z12 u1 g_b11 u2 u3) hZ (hw_59 hw) (hw_43 hw) (by decide) (by decide)) (g := (mkF m 22 #[iv p1] [(.int 0), (.ref ba12), (.ref b11), (.ref b11)])) rfl (by rw [hml]; rfl) (Steps.refl _) (a := b11) (argsL := [(.ref ba12), (.int 0)]) (rest := [(.ref b11)]) (lenOf pd_2 rfl) rfl own_z0 (hb hby d7_22) (fun _ _ => ⟨rfl, rfl, (by decide : 2 + 0 ≤ _), (by decide : 5 + 0 ≤ _)⟩)
  dsimp only [Pt.U, Pt.locs, Pt.cells, Pt.slots] at X13 l13 y13 z13 st13 hQ13
  subst l13 y13 z13
  obtain ⟨rfl, Nq13, K13, Ex13, Fl13_value, Fl13_coder⟩ := hQ13
  have N13 := Fr.app N12 Nq13
  have Kp13 : Keep h0 T13.heap [] := Kp12.trans K13 (allS (Or.inr sz_b11) all0)
  have u5 := V12.keep K13 (ninS (Ne.symm ne_b11_ba12) nin0)
  refine own_jump (g' := (mkF m 25 #[iv p1] [(.ref b11)])) st13 ?_
  have Fzb11 : Fld Z T13.heap b11 "java/lang/String" "coder" "B" (.int 0) := own_nar0 ▸ Fl13_coder
  refine own_ret X13 hlk (v := some (.ref b11)) (fun h => by rw [hret] at h; cases h) (fun fs hr => X13.areturnOut hx (w := (.ref b11)) rfl hret rfl (hb hby d7_25) hr) ?_ (by decide) (by decide)
  show own_Q7 Z p1 wc wD kD h0 n0 _ T13.heap _
  exact ⟨b11, ba12, kb12, rfl, N13, Kp13, sz_b11, sz_ba12, ne_b11_ba12, Ex13, Fl13_value, Fzb11, u5⟩
theorem d17_0 : own_D c_6 0 (.getstatic 38, 3) := by decide +kernel
theorem d17_3 : own_D c_6 3 (.ifCond .eq 10, 3) := by decide +kernel
theorem d17_6 : own_D c_6 6 (.aload_n 0, 1) := by decide +kernel
theorem d17_7 : own_D c_6 7 (.getfield 15, 3) := by decide +kernel
theorem d17_10 : own_D c_6 10 (.goto 4, 3) := by decide +kernel
theorem d17_14 : own_D c_6 14 (.ireturn, 1) := by decide +kernel
theorem own_ef17 (m : MethodId) (a1 : Addr) : entryFrame m #[(.ref a1)] 1 = mkF m 0 #[rv a1] [] := by first | (simp [entryFrame, mkF, argsToLocals, Value.category]; done) | rfl
def own_Q17 (Z : State) (a1 : Addr) (wc : Int32) (wD : Addr) (kD : ClassId) (h0 : Heap) (n0 : Nat) (v : Option Value) (h : Heap) (L : List Loc) : Prop := v = some (.int 0) ∧ Fr n0 L ∧ h = h0
theorem own_rm17 (l Z a0) (hw : own_W a0 Z) (ws) (a1 : Addr) (wc : Int32) (wD : Addr) (kD : ClassId) (h0 : Heap) (n0 : Nat) (Z0 : n0 ≤ h0.size) (O0 : Old Z n0 h0) (SS : own_St Z wc wD kD) (F_c : Fld Z h0 a1 "java/lang/String" "coder" "B" (.int 0)) :
    own_M l Z ws mn_6 c_6 1 (some .byte) rm_0 #[(.ref a1)] h0 (own_Q17 Z a1 wc wD kD h0 n0) := by
  refine own_body (plainFor_of_name pn_10) (fun m => own_ef17 m a1) ?_
  intro p e s m below meth c T0 X0 hx hby hml hZ hown hnm hret hlk e0
  have hown : s.vm.findClass "java/lang/String" = some m.cls := hown
  have hnm : meth.name = "coder" := hnm
  have N0 := Fr.nil n0
  obtain ⟨S_wc, hwc, S_wD, V_wD⟩ := id SS
  obtain ⟨T14, X14, e14, st14⟩ := getS2 X0 hx hZ hown (host := "") (Or.inl (hw_45 hw)) Via.refl e0 (S_wc.ext O0.2) (g := (mkF m 0 #[rv a1] [])) rfl (hb hby d17_0)
  refine own_step (g' := (mkF m 3 #[rv a1] [(.int wc)])) st14 ?_
  refine own_st _ (own_ifNo 6 X14 hx hby d17_3 ((if0 _ _).trans (feq hwc).1)) ?_
  refine own_st _ (own_aloadN 7 X14 hx hby d17_6) ?_
  obtain ⟨T15, X15, e15, st15⟩ := getF X14 hx hZ hown (host := "") (Or.inl (hw_63 hw)) Via.refl e14 F_c (g := (mkF m 7 #[rv a1] [(.ref a1)])) rfl rfl (hb hby d17_7)
  refine own_step (g' := (mkF m 10 #[rv a1] [(.int 0)])) st15 ?_
  refine own_st _ (own_goto 14 X15 hx hby d17_10) ?_
  refine own_ret X15 hlk (v := some (.int 0)) (fun h => by rw [hret] at h; cases h) (fun fs hr => retN X15 hx (t := .byte) hret (by simp) (hb hby d17_14) hr) ?_ (by decide) (by decide)
  show own_Q17 Z a1 wc wD kD h0 n0 _ T15.heap _
  rw [e15]
  exact ⟨rfl, N0, rfl⟩
theorem d13_0 : own_D c_7 0 (.aload_n 0, 1) := by decide +kernel
theorem d13_1 : own_D c_7 1 (.invokespecial 3, 3) := by decide +kernel
theorem hw_82 : own_H (.methodLink "java/lang/AbstractStringBuilder" 3 mn_56) := own_h 82 rfl
theorem d13_4 : own_D c_7 4 (.getstatic 18, 3) := by decide +kernel
theorem hw_83 : own_H (.fieldLink "java/lang/AbstractStringBuilder" 18 "java/lang/String" "COMPACT_STRINGS" "Z") := own_h 83 rfl
theorem d13_7 : own_D c_7 7 (.ifCond .eq 18, 3) := by decide +kernel
theorem d13_10 : own_D c_7 10 (.aload_n 0, 1) := by decide +kernel
theorem d13_11 : own_D c_7 11 (.iload_n 1, 1) := by decide +kernel
theorem d13_12 : own_D c_7 12 (.newarray .byte, 2) := by decide +kernel
theorem d13_14 : own_D c_7 14 (.putfield 15, 3) := by decide +kernel
theorem hw_84 : own_H (.fieldLink "java/lang/AbstractStringBuilder" 15 "java/lang/AbstractStringBuilder" "value" "[B") := own_h 84 rfl
theorem hw_85 : own_H (.lays "java/lang/StringBuilder" "java/lang/AbstractStringBuilder" "value" "[B") := own_h 85 rfl
theorem hw_71 : own_H (.instantiable "java/lang/StringBuilder" 4) := own_h 71 rfl
theorem hw_87 : own_H (.lays "java/lang/StringBuilder" "java/lang/AbstractStringBuilder" "coder" "B") := own_h 87 rfl
theorem hw_109 : own_H (.lays "java/lang/StringBuilder" "java/lang/AbstractStringBuilder" "count" "I") := own_h 109 rfl
theorem d13_17 : own_D c_7 17 (.aload_n 0, 1) := by decide +kernel
theorem d13_18 : own_D c_7 18 (.iconst 0, 1) := by decide +kernel
theorem d13_19 : own_D c_7 19 (.putfield 22, 3) := by decide +kernel
theorem hw_86 : own_H (.fieldLink "java/lang/AbstractStringBuilder" 22 "java/lang/AbstractStringBuilder" "coder" "B") := own_h 86 rfl
theorem d13_22 : own_D c_7 22 (.goto 16, 3) := by decide +kernel
theorem d13_38 : own_D c_7 38 (.return_, 1) := by decide +kernel
theorem pn_13 : plainName "java/lang/AbstractStringBuilder" = true := by first | (simp [plainName, overriddenIn]; done) | decide +kernel
theorem own_ef13 (m : MethodId) (a1 : Addr) : entryFrame m #[(.ref a1), (.int 16)] 2 = mkF m 0 #[rv a1, iv 16] [] := by first | (simp [entryFrame, mkF, argsToLocals, Value.category]; done) | rfl
def own_Q13 (Z : State) (a1 : Addr) (wc : Int32) (wD : Addr) (kD : ClassId) (h0 : Heap) (n0 : Nat) (v : Option Value) (h : Heap) (L : List Loc) : Prop := ∃ (vb : Addr) (kb : ClassId), v = none ∧ Fr n0 L ∧ Keep h0 h [a1] ∧ h0.size ≤ vb ∧ Exa Z h a1 "java/lang/StringBuilder" ∧ Fld Z h a1 "java/lang/AbstractStringBuilder" "value" "[B" (.ref vb) ∧ Fld Z h a1 "java/lang/AbstractStringBuilder" "coder" "B" (.int 0) ∧ Fld Z h a1 "java/lang/AbstractStringBuilder" "count" "I" (.int 0) ∧ Arv Z h vb kb .byte (16 : Int32) ((List.replicate 16 (0 : Int32)).map Value.int) (.int 0)
theorem own_rm13 (l Z a0) (hw : own_W a0 Z) (ws) (a1 : Addr) (wc : Int32) (wD : Addr) (kD : ClassId) (h0 : Heap) (n0 : Nat) (Z0 : n0 ≤ h0.size) (O0 : Old Z n0 h0) (SS : own_St Z wc wD kD) (E_a1 : Exa Z h0 a1 "java/lang/StringBuilder") (F_v : Fld Z h0 a1 "java/lang/AbstractStringBuilder" "value" "[B" .null) (F_c : Fld Z h0 a1 "java/lang/AbstractStringBuilder" "coder" "B" (.int 0)) (F_n : Fld Z h0 a1 "java/lang/AbstractStringBuilder" "count" "I" (.int 0)) (g_a1 : n0 ≤ a1) :
    own_M l Z ws mn_7 c_7 2 none rm_4 #[(.ref a1), (.int 16)] h0 (own_Q13 Z a1 wc wD kD h0 n0) := by
  refine own_body (plainFor_of_name pn_13) (fun m => own_ef13 m a1) ?_
  intro p e s m below meth c T0 X0 hx hby hml hZ hown hnm hret hlk e0
  have hown : s.vm.findClass "java/lang/AbstractStringBuilder" = some m.cls := hown
  have hnm : meth.name = "<init>" := hnm
  have N0 := Fr.nil n0
  have K0 : Keep h0 h0 [a1] := Keep.refl _ _
  obtain ⟨S_wc, hwc, S_wD, V_wD⟩ := id SS
  refine own_st _ (own_aloadN 1 X0 hx hby d13_0) ?_
  obtain ⟨T16, X16, e16, st16⟩ := initO X0 hx hZ hown (hw_82 hw) (hw_7 hw) (hw_8 hw) e0 (g := (mkF m 1 #[rv a1, iv 16] [(.ref a1)])) rfl (by rw [hml]; rfl) rfl (hb hby d13_1) (by decide) (W := 0) own_z0 (by decide)
  refine own_step (g' := (mkF m 4 #[rv a1, iv 16] [])) st16 ?_
  obtain ⟨T17, X17, e17, st17⟩ := getS2 X16 hx hZ hown (host := "") (Or.inl (hw_83 hw)) Via.refl e16 (S_wc.ext O0.2) (g := (mkF m 4 #[rv a1, iv 16] [])) rfl (hb hby d13_4)
  refine own_step (g' := (mkF m 7 #[rv a1, iv 16] [(.int wc)])) st17 ?_
  refine own_st _ (own_ifNo 10 X17 hx hby d13_7 ((if0 _ _).trans (feq hwc).1)) ?_
  refine own_st _ (own_aloadN 11 X17 hx hby d13_10) ?_
  refine own_st _ (own_iloadN 12 X17 hx hby d13_11) ?_
  obtain ⟨T18, h18, k18, X18, e18, E18, A18, B18, st18⟩ := newPE (aty := .byte) X17 hx hZ (hw_55 hw) e17 (g := (mkF m 12 #[rv a1, iv 16] [(.int 16), (.ref a1)])) rfl (hb hby d13_12) rfl (by decide) (cap := 16) (by decide) (by decide) (by decide) (by decide) (ad := "[B") (by decide)
  obtain ⟨b18, g18⟩ : ∃ z, z = h0.size := ⟨_, rfl⟩
  rw [← g18] at A18 B18 st18
  have ne_a1_b18 : a1 ≠ b18 := own_ne E_a1.lt g18
  have sz_b18 : h0.size ≤ b18 := Nat.le_trans K0.1 (Nat.le_of_eq g18.symm)
  have Kp18 : Keep h0 h18 [a1] := K0.ext E18
  have u1 := E_a1.ext E18
  have u2 := F_v.ext E18
  have u3 := F_c.ext E18
  have u4 := F_n.ext E18
  have V18 : Arv Z h18 b18 k18 .byte (16 : Int32) ((List.replicate 16 (0 : Int32)).map Value.int) (.int 0) := (Arv.new A18 (by decide)).pad (own_pad0 16)
  refine own_step (g' := (mkF m 14 #[rv a1, iv 16] [(.ref b18), (.ref a1)])) st18 ?_
  obtain ⟨T19, h19, X19, e19, W19, st19⟩ := putF X18 hx hZ hown (host := "") (Or.inl (hw_84 hw)) Via.refl e18 u2 u1 (Or.inl (hw_85 hw)) (hw_71 hw) (ty := (.array .byte)) (by decide) rfl rfl (g := (mkF m 14 #[rv a1, iv 16] [(.ref b18), (.ref a1)])) rfl rfl (hb hby d13_14)
  have u5 := u1.wr W19
  have u6 := u3.other W19 (Or.inr (slot_ne (a0 := a0) (C := "java/lang/StringBuilder") (Or.inl (hw_87 hw)) (Or.inl (hw_85 hw)) (by decide) (t := .byte) (t' := (.array .byte)) (by decide) (by decide)))
  have u7 := u4.other W19 (Or.inr (slot_ne (a0 := a0) (C := "java/lang/StringBuilder") (Or.inl (hw_109 hw)) (Or.inl (hw_85 hw)) (by decide) (t := .int) (t' := (.array .byte)) (by decide) (by decide)))
  have u8 := V18.other W19 (Ne.symm ne_a1_b18)
  have fw19 : Fld Z h19 a1 "java/lang/AbstractStringBuilder" "value" "[B" (.ref b18) := u2.same W19
  have Kp19 : Keep h0 h19 [a1] := Kp18.wr W19 (Or.inl (List.mem_of_getElem? (i := 0) rfl))
  have N19 := Fr.snoc X19 N0 g_a1
  refine own_step (g' := (mkF m 17 #[rv a1, iv 16] [])) st19 ?_
  refine own_st _ (own_aloadN 18 X19 hx hby d13_17) ?_
  refine own_st _ (own_iconst 19 0 X19 hx hby d13_18) ?_
  obtain ⟨T20, h20, X20, e20, W20, st20⟩ := putFN X19 hx hZ hown (hw_86 hw) Via.refl e19 u6 u5 (Or.inl (hw_87 hw)) (hw_71 hw) (ty := .byte) (v' := (.int (nar .byte (0 : Int32)))) (by decide) rfl (fits_nar_byte _) (g := (mkF m 19 #[rv a1, iv 16] [(.int 0), (.ref a1)])) rfl rfl (hb hby d13_19)
  have u10 := u5.wr W20
  have u11 := fw19.other W20 (Or.inr (slot_ne (a0 := a0) (C := "java/lang/StringBuilder") (Or.inl (hw_85 hw)) (Or.inl (hw_87 hw)) (by decide) (t := (.array .byte)) (t' := .byte) (by decide) (by decide)))
  have u12 := u7.other W20 (Or.inr (slot_ne (a0 := a0) (C := "java/lang/StringBuilder") (Or.inl (hw_109 hw)) (Or.inl (hw_87 hw)) (by decide) (t := .int) (t' := .byte) (by decide) (by decide)))
  have u13 := u8.other W20 (Ne.symm ne_a1_b18)
  have fw20 : Fld Z h20 a1 "java/lang/AbstractStringBuilder" "coder" "B" (.int (nar .byte (0 : Int32))) := u6.same W20
  have Kp20 : Keep h0 h20 [a1] := Kp19.wr W20 (Or.inl (List.mem_of_getElem? (i := 0) rfl))
  have N20 := Fr.snoc X20 N19 g_a1
  refine own_step (g' := (mkF m 22 #[rv a1, iv 16] [])) st20 ?_
  have Fz : Fld Z h20 a1 "java/lang/AbstractStringBuilder" "coder" "B" (.int 0) := own_nar0 ▸ fw20
  refine own_st _ (own_goto 38 X20 hx hby d13_22) ?_
  refine own_ret X20 hlk (v := none) (fun _ => rfl) (fun fs hr => X20.returnOut hx hret (hb hby d13_38) hr) ?_ (by decide) (by decide)
  show own_Q13 Z a1 wc wD kD h0 n0 _ T20.heap _
  rw [e20]
  exact ⟨b18, k18, rfl, N20, Kp20, sz_b18, u10, u11, Fz, u12, u13⟩
theorem d12_0 : own_D c_8 0 (.aload_n 0, 1) := by decide +kernel
theorem d12_1 : own_D c_8 1 (.bipush 16, 2) := by decide +kernel
theorem d12_3 : own_D c_8 3 (.invokespecial 1, 3) := by decide +kernel
theorem hw_76 : own_H (.methodLink "java/lang/StringBuilder" 1 mn_7) := own_h 76 rfl
theorem hw_81 : own_H (.code mn_7 jdk_68_method_2_code 2 none) := own_h 81 rfl
theorem hw_80 : own_H (.initialized "java/lang/AbstractStringBuilder") := own_h 80 rfl
theorem pd_3 : parseMethodDescriptor "(I)V" = some ⟨[.int], none⟩ := by decide +kernel
theorem hw_77 : own_H (.instanceMethod mn_7) := own_h 77 rfl
theorem d12_6 : own_D c_8 6 (.return_, 1) := by decide +kernel
theorem pn_12 : plainName "java/lang/StringBuilder" = true := by first | (simp [plainName, overriddenIn]; done) | decide +kernel
def own_Q12 (Z : State) (a1 : Addr) (wc : Int32) (wD : Addr) (kD : ClassId) (h0 : Heap) (n0 : Nat) (v : Option Value) (h : Heap) (L : List Loc) : Prop := ∃ (vb : Addr) (kb : ClassId), v = none ∧ Fr n0 L ∧ Keep h0 h [a1] ∧ h0.size ≤ vb ∧ Exa Z h a1 "java/lang/StringBuilder" ∧ Fld Z h a1 "java/lang/AbstractStringBuilder" "value" "[B" (.ref vb) ∧ Fld Z h a1 "java/lang/AbstractStringBuilder" "coder" "B" (.int 0) ∧ Fld Z h a1 "java/lang/AbstractStringBuilder" "count" "I" (.int 0) ∧ Arv Z h vb kb .byte (16 : Int32) ((List.replicate 16 (0 : Int32)).map Value.int) (.int 0)
theorem own_rm12 (l Z a0) (hw : own_W a0 Z) (ws) (a1 : Addr) (wc : Int32) (wD : Addr) (kD : ClassId) (h0 : Heap) (n0 : Nat) (Z0 : n0 ≤ h0.size) (O0 : Old Z n0 h0) (SS : own_St Z wc wD kD) (E_a1 : Exa Z h0 a1 "java/lang/StringBuilder") (F_v : Fld Z h0 a1 "java/lang/AbstractStringBuilder" "value" "[B" .null) (F_c : Fld Z h0 a1 "java/lang/AbstractStringBuilder" "coder" "B" (.int 0)) (F_n : Fld Z h0 a1 "java/lang/AbstractStringBuilder" "count" "I" (.int 0)) (g_a1 : n0 ≤ a1) :
    own_M l Z ws mn_8 c_8 1 none rm_5 #[(.ref a1)] h0 (own_Q12 Z a1 wc wD kD h0 n0) := by
  refine own_body (plainFor_of_name pn_12) (fun m => own_ef17 m a1) ?_
  intro p e s m below meth c T0 X0 hx hby hml hZ hown hnm hret hlk e0
  have hown : s.vm.findClass "java/lang/StringBuilder" = some m.cls := hown
  have hnm : meth.name = "<init>" := hnm
  have N0 := Fr.nil n0
  have K0 : Keep h0 h0 [a1] := Keep.refl _ _
  refine own_st _ (own_aloadN 1 X0 hx hby d12_0) ?_
  refine own_st _ (own_bipush 3 16 X0 hx hby d12_1) ?_
  obtain ⟨_, _, ⟨T21, L21, k21, n21⟩, -, X21, ⟨Lc21, hQ21, l21, y21, z21⟩, st21⟩ := X0.specialBack hx (y := mn_7) rfl hown (mvT hZ (hw_76 hw)) (mvT hZ (hw_77 hw)) (mvT hZ (hw_81 hw)) (by decide) (backOf (W := 0) (own_rm13 l Z a0 hw [] a1 wc wD kD h0 n0 Z0 O0 SS E_a1 F_v F_c F_n g_a1) hZ (hw_81 hw) (hw_80 hw) (by decide) (by decide)) (g := (mkF m 3 #[rv a1] [(.int 16), (.ref a1)])) rfl (by rw [hml]; rfl) (Steps.refl _) (a := a1) (argsL := [(.int 16)]) (rest := []) (lenOf pd_3 rfl) rfl own_z0 (hb hby d12_3) (fun _ _ => ⟨rfl, e0, (by decide : 0 + 1 ≤ _), (by decide : 0 + 16 ≤ _)⟩)
  dsimp only [Pt.U, Pt.locs, Pt.cells, Pt.slots] at X21 l21 y21 z21 st21 hQ21
  subst l21 y21 z21
  obtain ⟨vb21, kb21, rfl, Nq21, K21, gb21, Ex21, Fv21, Fc21, Fn21, V21⟩ := hQ21
  have N21 := Fr.app N0 Nq21
  have sz_vb21 : h0.size ≤ vb21 := Nat.le_trans K0.1 gb21
  have Kp21 : Keep h0 T21.heap [a1] := K0.trans K21 (allS (Or.inl (List.mem_of_getElem? (i := 0) rfl)) all0)
  refine own_jump (g' := (mkF m 6 #[rv a1] [])) st21 ?_
  refine own_ret X21 hlk (v := none) (fun _ => rfl) (fun fs hr => X21.returnOut hx hret (hb hby d12_6) hr) ?_ (by decide) (by decide)
  show own_Q12 Z a1 wc wD kD h0 n0 _ T21.heap _
  exact ⟨vb21, kb21, rfl, N21, Kp21, sz_vb21, Ex21, Fv21, Fc21, Fn21, V21⟩
theorem d28_0 : own_D c_9 0 (.getstatic 18, 3) := by decide +kernel
theorem d28_3 : own_D c_9 3 (.ifCond .eq 14, 3) := by decide +kernel
theorem d28_6 : own_D c_9 6 (.aload_n 0, 1) := by decide +kernel
theorem d28_7 : own_D c_9 7 (.getfield 22, 3) := by decide +kernel
theorem d28_10 : own_D c_9 10 (.ifCond .ne 7, 3) := by decide +kernel
theorem d28_13 : own_D c_9 13 (.iconst 1, 1) := by decide +kernel
theorem d28_14 : own_D c_9 14 (.goto 4, 3) := by decide +kernel
theorem d28_18 : own_D c_9 18 (.ireturn, 1) := by decide +kernel
def own_Q28 (Z : State) (a1 : Addr) (wc : Int32) (wD : Addr) (kD : ClassId) (h0 : Heap) (n0 : Nat) (v : Option Value) (h : Heap) (L : List Loc) : Prop := v = some (.int 1) ∧ Fr n0 L ∧ h = h0
theorem own_rm28 (l Z a0) (hw : own_W a0 Z) (ws) (a1 : Addr) (wc : Int32) (wD : Addr) (kD : ClassId) (h0 : Heap) (n0 : Nat) (Z0 : n0 ≤ h0.size) (O0 : Old Z n0 h0) (SS : own_St Z wc wD kD) (F_c : Fld Z h0 a1 "java/lang/AbstractStringBuilder" "coder" "B" (.int 0)) :
    own_M l Z ws mn_9 c_9 1 (some .boolean) rm_0 #[(.ref a1)] h0 (own_Q28 Z a1 wc wD kD h0 n0) := by
  refine own_body (plainFor_of_name pn_13) (fun m => own_ef17 m a1) ?_
  intro p e s m below meth c T0 X0 hx hby hml hZ hown hnm hret hlk e0
  have hown : s.vm.findClass "java/lang/AbstractStringBuilder" = some m.cls := hown
  have hnm : meth.name = "isLatin1" := hnm
  have N0 := Fr.nil n0
  obtain ⟨S_wc, hwc, S_wD, V_wD⟩ := id SS
  obtain ⟨T22, X22, e22, st22⟩ := getS2 X0 hx hZ hown (host := "") (Or.inl (hw_83 hw)) Via.refl e0 (S_wc.ext O0.2) (g := (mkF m 0 #[rv a1] [])) rfl (hb hby d28_0)
  refine own_step (g' := (mkF m 3 #[rv a1] [(.int wc)])) st22 ?_
  refine own_st _ (own_ifNo 6 X22 hx hby d28_3 ((if0 _ _).trans (feq hwc).1)) ?_
  refine own_st _ (own_aloadN 7 X22 hx hby d28_6) ?_
  obtain ⟨T23, X23, e23, st23⟩ := getF X22 hx hZ hown (host := "") (Or.inl (hw_86 hw)) Via.refl e22 F_c (g := (mkF m 7 #[rv a1] [(.ref a1)])) rfl rfl (hb hby d28_7)
  refine own_step (g' := (mkF m 10 #[rv a1] [(.int 0)])) st23 ?_
  refine own_st _ (own_ifNo 13 X23 hx hby d28_10 ((if0 _ _).trans (teq (by decide : (0 : Int32) = (0 : Int32))).2)) ?_
  refine own_st _ (own_iconst 14 1 X23 hx hby d28_13) ?_
  refine own_st _ (own_goto 18 X23 hx hby d28_14) ?_
  refine own_ret X23 hlk (v := some (.int 1)) (fun h => by rw [hret] at h; cases h) (fun fs hr => retN X23 hx (t := .boolean) hret (by simp) (hb hby d28_18) hr) ?_ (by decide) (by decide)
  show own_Q28 Z a1 wc wD kD h0 n0 _ T23.heap _
  rw [e23]
  exact ⟨rfl, N0, rfl⟩
theorem d20_0 : own_D c_10 0 (.getstatic 18, 3) := by decide +kernel
theorem d20_3 : own_D c_10 3 (.ifCond .eq 18, 3) := by decide +kernel
theorem d20_6 : own_D c_10 6 (.aload_n 0, 1) := by decide +kernel
theorem d20_7 : own_D c_10 7 (.getfield 22, 3) := by decide +kernel
theorem d20_10 : own_D c_10 10 (.aload_n 1, 1) := by decide +kernel
theorem d20_11 : own_D c_10 11 (.invokevirtual 40, 3) := by decide +kernel
theorem hw_125 : own_H (.methodLink "java/lang/AbstractStringBuilder" 40 mn_6) := own_h 125 rfl
theorem hw_107 : own_H (.code mn_6 jdk_42_method_152_code 1 (some .byte)) := own_h 107 rfl
theorem pd_4 : parseMethodDescriptor "()B" = some ⟨[], some .byte⟩ := by decide +kernel
theorem hw_106 : own_H (.selects "java/lang/String" mn_6 mn_6) := own_h 106 rfl
theorem hw_104 : own_H (.declares mn_6) := own_h 104 rfl
theorem hw_105 : own_H (.instanceMethod mn_6) := own_h 105 rfl
theorem d20_14 : own_D c_10 14 (.if_icmp .eq 7, 3) := by decide +kernel
theorem d20_21 : own_D c_10 21 (.return_, 1) := by decide +kernel
theorem own_ef20 (m : MethodId) (a1 r2 : Addr) : entryFrame m #[(.ref a1), (.ref r2)] 2 = mkF m 0 #[rv a1, rv r2] [] := by first | (simp [entryFrame, mkF, argsToLocals, Value.category]; done) | rfl
def own_Q20 (Z : State) (a1 r2 : Addr) (wc : Int32) (wD : Addr) (kD : ClassId) (h0 : Heap) (n0 : Nat) (v : Option Value) (h : Heap) (L : List Loc) : Prop := v = none ∧ Fr n0 L ∧ h = h0
theorem own_rm20 (l Z a0) (hw : own_W a0 Z) (ws) (a1 r2 : Addr) (wc : Int32) (wD : Addr) (kD : ClassId) (h0 : Heap) (n0 : Nat) (Z0 : n0 ≤ h0.size) (O0 : Old Z n0 h0) (SS : own_St Z wc wD kD) (F_c : Fld Z h0 a1 "java/lang/AbstractStringBuilder" "coder" "B" (.int 0)) (E_r2 : Exa Z h0 r2 "java/lang/String") (F_sc : Fld Z h0 r2 "java/lang/String" "coder" "B" (.int 0)) :
    own_M l Z ws mn_10 c_10 2 none rm_6 #[(.ref a1), (.ref r2)] h0 (own_Q20 Z a1 r2 wc wD kD h0 n0) := by
  refine own_body (plainFor_of_name pn_13) (fun m => own_ef20 m a1 r2) ?_
  intro p e s m below meth c T0 X0 hx hby hml hZ hown hnm hret hlk e0
  have hown : s.vm.findClass "java/lang/AbstractStringBuilder" = some m.cls := hown
  have hnm : meth.name = "inflateIfNeededFor" := hnm
  have N0 := Fr.nil n0
  obtain ⟨S_wc, hwc, S_wD, V_wD⟩ := id SS
  obtain ⟨T24, X24, e24, st24⟩ := getS2 X0 hx hZ hown (host := "") (Or.inl (hw_83 hw)) Via.refl e0 (S_wc.ext O0.2) (g := (mkF m 0 #[rv a1, rv r2] [])) rfl (hb hby d20_0)
  refine own_step (g' := (mkF m 3 #[rv a1, rv r2] [(.int wc)])) st24 ?_
  refine own_st _ (own_ifNo 6 X24 hx hby d20_3 ((if0 _ _).trans (feq hwc).1)) ?_
  refine own_st _ (own_aloadN 7 X24 hx hby d20_6) ?_
  obtain ⟨T25, X25, e25, st25⟩ := getF X24 hx hZ hown (host := "") (Or.inl (hw_86 hw)) Via.refl e24 F_c (g := (mkF m 7 #[rv a1, rv r2] [(.ref a1)])) rfl rfl (hb hby d20_7)
  refine own_step (g' := (mkF m 10 #[rv a1, rv r2] [(.int 0)])) st25 ?_
  refine own_st _ (own_aloadN 11 X25 hx hby d20_10) ?_
  obtain ⟨cq26, kq26, q26a, q26b, q26c⟩ := isOf hZ e25 E_r2
  obtain ⟨_, _, ⟨T26, L26, k26, n26⟩, -, X26, ⟨Lc26, hQ26, l26, y26, z26⟩, st26⟩ := X25.virtualBack hx (y := mn_6) (z := mn_6) hown (mvT hZ (hw_125 hw)) (mvT hZ (hw_104 hw)) (notFace_of_selects (args := #[]) (mvT hZ (hw_106 hw))) (mvT hZ (hw_106 hw)) (mvT hZ (hw_105 hw)) (by decide) (backOf (W := 1) (own_rm17 l Z a0 hw [] r2 wc wD kD h0 n0 Z0 O0 SS F_sc) hZ (hw_107 hw) (hw_43 hw) (by decide) (by decide)) q26a q26c (g := (mkF m 11 #[rv a1, rv r2] [(.ref r2), (.int 0)])) rfl (by rw [hml]; rfl) (Steps.refl _) (argsL := []) (rest := [(.int 0)]) (lenOf pd_4 rfl) rfl own_z0 (hb hby d20_11) (fun _ _ => ⟨rfl, e25, (by decide : 0 + 0 ≤ _), (by decide : 0 + 0 ≤ _)⟩)
  dsimp only [Pt.U, Pt.locs, Pt.cells, Pt.slots] at X26 l26 y26 z26 st26 hQ26
  subst l26 y26 z26
  obtain ⟨rfl, Nq26, e26⟩ := hQ26
  have N26 := Fr.app N0 Nq26
  refine own_jump (g' := (mkF m 14 #[rv a1, rv r2] [(.int 0), (.int 0)])) st26 ?_
  refine own_st _ (own_icmpYes 21 X26 hx hby d20_14 ((teq (by decide : (0 : Int32) = (0 : Int32))).1)) ?_
  refine own_ret X26 hlk (v := none) (fun _ => rfl) (fun fs hr => X26.returnOut hx hret (hb hby d20_21) hr) ?_ (by decide) (by decide)
  show own_Q20 Z a1 r2 wc wD kD h0 n0 _ T26.heap _
  rw [e26]
  exact ⟨rfl, N26, rfl⟩
theorem d25_0 : own_D c_11 0 (.aload_n 0, 1) := by decide +kernel
theorem d25_1 : own_D c_11 1 (.getfield 15, 3) := by decide +kernel
theorem d25_4 : own_D c_11 4 (.areturn, 1) := by decide +kernel
def own_Q25 (Z : State) (a1 vb : Addr) (h0 : Heap) (n0 : Nat) (v : Option Value) (h : Heap) (L : List Loc) : Prop := v = some (.ref vb) ∧ Fr n0 L ∧ h = h0
theorem own_rm25 (l Z a0) (hw : own_W a0 Z) (ws) (a1 vb : Addr) (h0 : Heap) (n0 : Nat) (Z0 : n0 ≤ h0.size) (F_v : Fld Z h0 a1 "java/lang/AbstractStringBuilder" "value" "[B" (.ref vb)) :
    own_M l Z ws mn_11 c_11 1 (some (.array .byte)) rm_0 #[(.ref a1)] h0 (own_Q25 Z a1 vb h0 n0) := by
  refine own_body (plainFor_of_name pn_13) (fun m => own_ef17 m a1) ?_
  intro p e s m below meth c T0 X0 hx hby hml hZ hown hnm hret hlk e0
  have hown : s.vm.findClass "java/lang/AbstractStringBuilder" = some m.cls := hown
  have hnm : meth.name = "getValue" := hnm
  have N0 := Fr.nil n0
  refine own_st _ (own_aloadN 1 X0 hx hby d25_0) ?_
  obtain ⟨T27, X27, e27, st27⟩ := getF X0 hx hZ hown (host := "") (Or.inl (hw_84 hw)) Via.refl e0 F_v (g := (mkF m 1 #[rv a1] [(.ref a1)])) rfl rfl (hb hby d25_1)
  refine own_step (g' := (mkF m 4 #[rv a1] [(.ref vb)])) st27 ?_
  refine own_ret X27 hlk (v := some (.ref vb)) (fun h => by rw [hret] at h; cases h) (fun fs hr => X27.areturnOut hx (w := (.ref vb)) rfl hret rfl (hb hby d25_4) hr) ?_ (by decide) (by decide)
  show own_Q25 Z a1 vb h0 n0 _ T27.heap _
  rw [e27]
  exact ⟨rfl, N0, rfl⟩
theorem d27_0 : own_D c_12 0 (.aload_n 0, 1) := by decide +kernel
theorem d27_1 : own_D c_12 1 (.getfield 79, 3) := by decide +kernel
theorem hw_108 : own_H (.fieldLink "java/lang/AbstractStringBuilder" 79 "java/lang/AbstractStringBuilder" "count" "I") := own_h 108 rfl
theorem d27_4 : own_D c_12 4 (.ireturn, 1) := by decide +kernel
def own_Q27 (Z : State) (a1 : Addr) (cc : Int32) (h0 : Heap) (n0 : Nat) (v : Option Value) (h : Heap) (L : List Loc) : Prop := v = some (.int cc) ∧ Fr n0 L ∧ h = h0
theorem own_rm27 (l Z a0) (hw : own_W a0 Z) (ws) (a1 : Addr) (cc : Int32) (h0 : Heap) (n0 : Nat) (Z0 : n0 ≤ h0.size) (F_n : Fld Z h0 a1 "java/lang/AbstractStringBuilder" "count" "I" (.int cc)) :
    own_M l Z ws mn_12 c_12 1 (some .int) rm_0 #[(.ref a1)] h0 (own_Q27 Z a1 cc h0 n0) := by
  refine own_body (plainFor_of_name pn_13) (fun m => own_ef17 m a1) ?_
  intro p e s m below meth c T0 X0 hx hby hml hZ hown hnm hret hlk e0
  have hown : s.vm.findClass "java/lang/AbstractStringBuilder" = some m.cls := hown
  have hnm : meth.name = "length" := hnm
  have N0 := Fr.nil n0
  refine own_st _ (own_aloadN 1 X0 hx hby d27_0) ?_
  obtain ⟨T28, X28, e28, st28⟩ := getF X0 hx hZ hown (host := "") (Or.inl (hw_108 hw)) Via.refl e0 F_n (g := (mkF m 1 #[rv a1] [(.ref a1)])) rfl rfl (hb hby d27_1)
  refine own_step (g' := (mkF m 4 #[rv a1] [(.int cc)])) st28 ?_
  refine own_ret X28 hlk (v := some (.int cc)) (fun h => by rw [hret] at h; cases h) (fun fs hr => X28.ireturnOut hx hret rfl (Or.inl rfl) (hb hby d27_4) hr) ?_ (by decide) (by decide)
  show own_Q27 Z a1 cc h0 n0 _ T28.heap _
  rw [e28]
  exact ⟨rfl, N0, rfl⟩
theorem d26_0 : own_D c_13 0 (.aload_n 0, 1) := by decide +kernel
theorem d26_1 : own_D c_13 1 (.invokespecial 343, 3) := by decide +kernel
theorem hw_161 : own_H (.methodLink "java/lang/StringBuilder" 343 mn_12) := own_h 161 rfl
theorem hw_162 : own_H (.code mn_12 jdk_68_method_6_code 1 (some .int)) := own_h 162 rfl
theorem pd_5 : parseMethodDescriptor "()I" = some ⟨[], some .int⟩ := by decide +kernel
theorem hw_157 : own_H (.instanceMethod mn_12) := own_h 157 rfl
theorem hw_153 : own_H (.selects "java/lang/StringBuilder" mn_11 mn_11) := own_h 153 rfl
theorem hw_95 : own_H (.superclass "java/lang/StringBuilder" "java/lang/AbstractStringBuilder") := own_h 95 rfl
theorem d26_4 : own_D c_13 4 (.ireturn, 1) := by decide +kernel
def own_Q26 (Z : State) (a1 : Addr) (cc : Int32) (h0 : Heap) (n0 : Nat) (v : Option Value) (h : Heap) (L : List Loc) : Prop := v = some (.int cc) ∧ Fr n0 L ∧ h = h0
theorem own_rm26 (l Z a0) (hw : own_W a0 Z) (ws) (a1 : Addr) (cc : Int32) (h0 : Heap) (n0 : Nat) (Z0 : n0 ≤ h0.size) (F_n : Fld Z h0 a1 "java/lang/AbstractStringBuilder" "count" "I" (.int cc)) (E_a1 : Exa Z h0 a1 "java/lang/StringBuilder") :
    own_M l Z ws mn_13 c_13 1 (some .int) rm_2 #[(.ref a1)] h0 (own_Q26 Z a1 cc h0 n0) := by
  refine own_body (plainFor_of_name pn_12) (fun m => own_ef17 m a1) ?_
  intro p e s m below meth c T0 X0 hx hby hml hZ hown hnm hret hlk e0
  have hown : s.vm.findClass "java/lang/StringBuilder" = some m.cls := hown
  have hnm : meth.name = "length" := hnm
  have N0 := Fr.nil n0
  refine own_st _ (own_aloadN 1 X0 hx hby d26_0) ?_
  obtain ⟨_, _, ⟨T29, L29, k29, n29⟩, -, X29, ⟨Lc29, hQ29, l29, y29, z29⟩, st29⟩ := superBack X0 hx hZ (y := mn_12) hown (hw_161 hw) (own_samem (y := mn_12) (hw_157 hw) (y2 := mn_11) rfl (hw_153 hw) (by decide)) (hw_157 hw) (hw_95 hw) (by decide) (backOf (W := 0) (own_rm27 l Z a0 hw [] a1 cc h0 n0 Z0 F_n) hZ (hw_162 hw) (hw_80 hw) (by decide) (by decide)) e0 (Ins.self E_a1) (g := (mkF m 1 #[rv a1] [(.ref a1)])) rfl (by rw [hml]; rfl) (hw_162 hw) (argsL := []) (rest := []) (lenOf pd_5 rfl) rfl own_z0 (hb hby d26_1) (fun _ _ => ⟨rfl, e0, (by decide : 0 + 0 ≤ _), (by decide : 0 + 0 ≤ _)⟩)
  dsimp only [Pt.U, Pt.locs, Pt.cells, Pt.slots] at X29 l29 y29 z29 st29 hQ29
  subst l29 y29 z29
  obtain ⟨rfl, Nq29, e29⟩ := hQ29
  have N29 := Fr.app N0 Nq29
  refine own_jump (g' := (mkF m 4 #[rv a1] [(.int cc)])) st29 ?_
  refine own_ret X29 hlk (v := some (.int cc)) (fun h => by rw [hret] at h; cases h) (fun fs hr => X29.ireturnOut hx hret rfl (Or.inl rfl) (hb hby d26_4) hr) ?_ (by decide) (by decide)
  show own_Q26 Z a1 cc h0 n0 _ T29.heap _
  rw [e29]
  exact ⟨rfl, N29, rfl⟩
theorem d16_0 : own_D c_14 0 (.aload_n 0, 1) := by decide +kernel
theorem d16_1 : own_D c_14 1 (.getfield 9, 3) := by decide +kernel
theorem d16_4 : own_D c_14 4 (.arraylength, 1) := by decide +kernel
theorem d16_5 : own_D c_14 5 (.aload_n 0, 1) := by decide +kernel
theorem d16_6 : own_D c_14 6 (.invokevirtual 335, 3) := by decide +kernel
theorem hw_103 : own_H (.methodLink "java/lang/String" 335 mn_6) := own_h 103 rfl
theorem d16_9 : own_D c_14 9 (.ishr, 1) := by decide +kernel
theorem d16_10 : own_D c_14 10 (.ireturn, 1) := by decide +kernel
def own_Q16_1 (Z : State) (a1 r9 : Addr) (bs : List Int32) (kq : ClassId) (wc : Int32) (wD : Addr) (kD : ClassId) (h0 : Heap) (n0 : Nat) (v : Option Value) (h : Heap) (L : List Loc) : Prop := v = some (.int 1) ∧ Fr n0 L ∧ h = h0
theorem own_rm16_1 (l Z a0) (hw : own_W a0 Z) (ws) (a1 r9 : Addr) (bs : List Int32) (kq : ClassId) (wc : Int32) (wD : Addr) (kD : ClassId) (h0 : Heap) (n0 : Nat) (Z0 : n0 ≤ h0.size) (O0 : Old Z n0 h0) (SS : own_St Z wc wD kD) (E_a1 : Exa Z h0 a1 "java/lang/String") (F_v : Fld Z h0 a1 "java/lang/String" "value" "[B" (.ref r9)) (F_c : Fld Z h0 a1 "java/lang/String" "coder" "B" (.int 0)) (V0 : Arv Z h0 r9 kq .byte (1 : Int32) ((bs).map Value.int) (.int 0)) :
    own_M l Z ws mn_14 c_14 1 (some .int) rm_6 #[(.ref a1)] h0 (own_Q16_1 Z a1 r9 bs kq wc wD kD h0 n0) := by
  refine own_body (plainFor_of_name pn_10) (fun m => own_ef17 m a1) ?_
  intro p e s m below meth c T0 X0 hx hby hml hZ hown hnm hret hlk e0
  have hown : s.vm.findClass "java/lang/String" = some m.cls := hown
  have hnm : meth.name = "length" := hnm
  have N0 := Fr.nil n0
  refine own_st _ (own_aloadN 1 X0 hx hby d16_0) ?_
  obtain ⟨T30, X30, e30, st30⟩ := getF X0 hx hZ hown (host := "") (Or.inl (hw_61 hw)) Via.refl e0 F_v (g := (mkF m 1 #[rv a1] [(.ref a1)])) rfl rfl (hb hby d16_1)
  refine own_step (g' := (mkF m 4 #[rv a1] [(.ref r9)])) st30 ?_
  obtain ⟨cl31, Ar31, -, S31, M31, -, -⟩ := id V0
  refine own_step (T' := T30) (g' := (mkF m 5 #[rv a1] [(.int cl31.slots.size.toInt32)])) (X30.arraylength hx (by rw [e30]; exact Ar31.1) (State.isArrayOf_alike hZ.alike Ar31.2.1) (g := (mkF m 4 #[rv a1] [(.ref r9)])) rfl rfl (hb hby d16_4)) ?_
  rw [len_of S31 M31]
  refine own_st _ (own_aloadN 6 X30 hx hby d16_5) ?_
  obtain ⟨cq32, kq32, q32a, q32b, q32c⟩ := isOf hZ e30 E_a1
  obtain ⟨_, _, ⟨T32, L32, k32, n32⟩, -, X32, ⟨Lc32, hQ32, l32, y32, z32⟩, st32⟩ := X30.virtualBack hx (y := mn_6) (z := mn_6) hown (mvT hZ (hw_103 hw)) (mvT hZ (hw_104 hw)) (notFace_of_selects (args := #[]) (mvT hZ (hw_106 hw))) (mvT hZ (hw_106 hw)) (mvT hZ (hw_105 hw)) (by decide) (backOf (W := 1) (own_rm17 l Z a0 hw [] a1 wc wD kD h0 n0 Z0 O0 SS F_c) hZ (hw_107 hw) (hw_43 hw) (by decide) (by decide)) q32a q32c (g := (mkF m 6 #[rv a1] [(.ref a1), (.int 1)])) rfl (by rw [hml]; rfl) (Steps.refl _) (argsL := []) (rest := [(.int 1)]) (lenOf pd_4 rfl) rfl own_z0 (hb hby d16_6) (fun _ _ => ⟨rfl, e30, (by decide : 0 + 0 ≤ _), (by decide : 0 + 0 ≤ _)⟩)
  dsimp only [Pt.U, Pt.locs, Pt.cells, Pt.slots] at X32 l32 y32 z32 st32 hQ32
  subst l32 y32 z32
  obtain ⟨rfl, Nq32, e32⟩ := hQ32
  have N32 := Fr.app N0 Nq32
  refine own_jump (g' := (mkF m 9 #[rv a1] [(.int 0), (.int 1)])) st32 ?_
  refine own_st _ (own_ishr 10 X32 hx hby d16_9) ?_
  rw [show ((1 : Int32) >>> ((0 : Int32) &&& 31)) = (1 : Int32) from by decide]
  refine own_ret X32 hlk (v := some (.int 1)) (fun h => by rw [hret] at h; cases h) (fun fs hr => X32.ireturnOut hx hret rfl (Or.inl rfl) (hb hby d16_10) hr) ?_ (by decide) (by decide)
  show own_Q16_1 Z a1 r9 bs kq wc wD kD h0 n0 _ T32.heap _
  rw [e32]
  exact ⟨rfl, N32, rfl⟩
def own_Q16_2 (Z : State) (a1 r9 : Addr) (bs : List Int32) (kq : ClassId) (wc : Int32) (wD : Addr) (kD : ClassId) (h0 : Heap) (n0 : Nat) (v : Option Value) (h : Heap) (L : List Loc) : Prop := v = some (.int 2) ∧ Fr n0 L ∧ h = h0
theorem own_rm16_2 (l Z a0) (hw : own_W a0 Z) (ws) (a1 r9 : Addr) (bs : List Int32) (kq : ClassId) (wc : Int32) (wD : Addr) (kD : ClassId) (h0 : Heap) (n0 : Nat) (Z0 : n0 ≤ h0.size) (O0 : Old Z n0 h0) (SS : own_St Z wc wD kD) (E_a1 : Exa Z h0 a1 "java/lang/String") (F_v : Fld Z h0 a1 "java/lang/String" "value" "[B" (.ref r9)) (F_c : Fld Z h0 a1 "java/lang/String" "coder" "B" (.int 0)) (V0 : Arv Z h0 r9 kq .byte (2 : Int32) ((bs).map Value.int) (.int 0)) :
    own_M l Z ws mn_14 c_14 1 (some .int) rm_6 #[(.ref a1)] h0 (own_Q16_2 Z a1 r9 bs kq wc wD kD h0 n0) := by
  refine own_body (plainFor_of_name pn_10) (fun m => own_ef17 m a1) ?_
  intro p e s m below meth c T0 X0 hx hby hml hZ hown hnm hret hlk e0
  have hown : s.vm.findClass "java/lang/String" = some m.cls := hown
  have hnm : meth.name = "length" := hnm
  have N0 := Fr.nil n0
  refine own_st _ (own_aloadN 1 X0 hx hby d16_0) ?_
  obtain ⟨T33, X33, e33, st33⟩ := getF X0 hx hZ hown (host := "") (Or.inl (hw_61 hw)) Via.refl e0 F_v (g := (mkF m 1 #[rv a1] [(.ref a1)])) rfl rfl (hb hby d16_1)
  refine own_step (g' := (mkF m 4 #[rv a1] [(.ref r9)])) st33 ?_
  obtain ⟨cl34, Ar34, -, S34, M34, -, -⟩ := id V0
  refine own_step (T' := T33) (g' := (mkF m 5 #[rv a1] [(.int cl34.slots.size.toInt32)])) (X33.arraylength hx (by rw [e33]; exact Ar34.1) (State.isArrayOf_alike hZ.alike Ar34.2.1) (g := (mkF m 4 #[rv a1] [(.ref r9)])) rfl rfl (hb hby d16_4)) ?_
  rw [len_of S34 M34]
  refine own_st _ (own_aloadN 6 X33 hx hby d16_5) ?_
  obtain ⟨cq35, kq35, q35a, q35b, q35c⟩ := isOf hZ e33 E_a1
  obtain ⟨_, _, ⟨T35, L35, k35, n35⟩, -, X35, ⟨Lc35, hQ35, l35, y35, z35⟩, st35⟩ := X33.virtualBack hx (y := mn_6) (z := mn_6) hown (mvT hZ (hw_103 hw)) (mvT hZ (hw_104 hw)) (notFace_of_selects (args := #[]) (mvT hZ (hw_106 hw))) (mvT hZ (hw_106 hw)) (mvT hZ (hw_105 hw)) (by decide) (backOf (W := 1) (own_rm17 l Z a0 hw [] a1 wc wD kD h0 n0 Z0 O0 SS F_c) hZ (hw_107 hw) (hw_43 hw) (by decide) (by decide)) q35a q35c (g := (mkF m 6 #[rv a1] [(.ref a1), (.int 2)])) rfl (by rw [hml]; rfl) (Steps.refl _) (argsL := []) (rest := [(.int 2)]) (lenOf pd_4 rfl) rfl own_z0 (hb hby d16_6) (fun _ _ => ⟨rfl, e33, (by decide : 0 + 0 ≤ _), (by decide : 0 + 0 ≤ _)⟩)
  dsimp only [Pt.U, Pt.locs, Pt.cells, Pt.slots] at X35 l35 y35 z35 st35 hQ35
  subst l35 y35 z35
  obtain ⟨rfl, Nq35, e35⟩ := hQ35
  have N35 := Fr.app N0 Nq35
  refine own_jump (g' := (mkF m 9 #[rv a1] [(.int 0), (.int 2)])) st35 ?_
  refine own_st _ (own_ishr 10 X35 hx hby d16_9) ?_
  rw [show ((2 : Int32) >>> ((0 : Int32) &&& 31)) = (2 : Int32) from by decide]
  refine own_ret X35 hlk (v := some (.int 2)) (fun h => by rw [hret] at h; cases h) (fun fs hr => X35.ireturnOut hx hret rfl (Or.inl rfl) (hb hby d16_10) hr) ?_ (by decide) (by decide)
  show own_Q16_2 Z a1 r9 bs kq wc wD kD h0 n0 _ T35.heap _
  rw [e35]
  exact ⟨rfl, N35, rfl⟩
def own_Q16_17 (Z : State) (a1 r9 : Addr) (bs : List Int32) (kq : ClassId) (wc : Int32) (wD : Addr) (kD : ClassId) (h0 : Heap) (n0 : Nat) (v : Option Value) (h : Heap) (L : List Loc) : Prop := v = some (.int 17) ∧ Fr n0 L ∧ h = h0
theorem own_rm16_17 (l Z a0) (hw : own_W a0 Z) (ws) (a1 r9 : Addr) (bs : List Int32) (kq : ClassId) (wc : Int32) (wD : Addr) (kD : ClassId) (h0 : Heap) (n0 : Nat) (Z0 : n0 ≤ h0.size) (O0 : Old Z n0 h0) (SS : own_St Z wc wD kD) (E_a1 : Exa Z h0 a1 "java/lang/String") (F_v : Fld Z h0 a1 "java/lang/String" "value" "[B" (.ref r9)) (F_c : Fld Z h0 a1 "java/lang/String" "coder" "B" (.int 0)) (V0 : Arv Z h0 r9 kq .byte (17 : Int32) ((bs).map Value.int) (.int 0)) :
    own_M l Z ws mn_14 c_14 1 (some .int) rm_6 #[(.ref a1)] h0 (own_Q16_17 Z a1 r9 bs kq wc wD kD h0 n0) := by
  refine own_body (plainFor_of_name pn_10) (fun m => own_ef17 m a1) ?_
  intro p e s m below meth c T0 X0 hx hby hml hZ hown hnm hret hlk e0
  have hown : s.vm.findClass "java/lang/String" = some m.cls := hown
  have hnm : meth.name = "length" := hnm
  have N0 := Fr.nil n0
  refine own_st _ (own_aloadN 1 X0 hx hby d16_0) ?_
  obtain ⟨T36, X36, e36, st36⟩ := getF X0 hx hZ hown (host := "") (Or.inl (hw_61 hw)) Via.refl e0 F_v (g := (mkF m 1 #[rv a1] [(.ref a1)])) rfl rfl (hb hby d16_1)
  refine own_step (g' := (mkF m 4 #[rv a1] [(.ref r9)])) st36 ?_
  obtain ⟨cl37, Ar37, -, S37, M37, -, -⟩ := id V0
  refine own_step (T' := T36) (g' := (mkF m 5 #[rv a1] [(.int cl37.slots.size.toInt32)])) (X36.arraylength hx (by rw [e36]; exact Ar37.1) (State.isArrayOf_alike hZ.alike Ar37.2.1) (g := (mkF m 4 #[rv a1] [(.ref r9)])) rfl rfl (hb hby d16_4)) ?_
  rw [len_of S37 M37]
  refine own_st _ (own_aloadN 6 X36 hx hby d16_5) ?_
  obtain ⟨cq38, kq38, q38a, q38b, q38c⟩ := isOf hZ e36 E_a1
  obtain ⟨_, _, ⟨T38, L38, k38, n38⟩, -, X38, ⟨Lc38, hQ38, l38, y38, z38⟩, st38⟩ := X36.virtualBack hx (y := mn_6) (z := mn_6) hown (mvT hZ (hw_103 hw)) (mvT hZ (hw_104 hw)) (notFace_of_selects (args := #[]) (mvT hZ (hw_106 hw))) (mvT hZ (hw_106 hw)) (mvT hZ (hw_105 hw)) (by decide) (backOf (W := 1) (own_rm17 l Z a0 hw [] a1 wc wD kD h0 n0 Z0 O0 SS F_c) hZ (hw_107 hw) (hw_43 hw) (by decide) (by decide)) q38a q38c (g := (mkF m 6 #[rv a1] [(.ref a1), (.int 17)])) rfl (by rw [hml]; rfl) (Steps.refl _) (argsL := []) (rest := [(.int 17)]) (lenOf pd_4 rfl) rfl own_z0 (hb hby d16_6) (fun _ _ => ⟨rfl, e36, (by decide : 0 + 0 ≤ _), (by decide : 0 + 0 ≤ _)⟩)
  dsimp only [Pt.U, Pt.locs, Pt.cells, Pt.slots] at X38 l38 y38 z38 st38 hQ38
  subst l38 y38 z38
  obtain ⟨rfl, Nq38, e38⟩ := hQ38
  have N38 := Fr.app N0 Nq38
  refine own_jump (g' := (mkF m 9 #[rv a1] [(.int 0), (.int 17)])) st38 ?_
  refine own_st _ (own_ishr 10 X38 hx hby d16_9) ?_
  rw [show ((17 : Int32) >>> ((0 : Int32) &&& 31)) = (17 : Int32) from by decide]
  refine own_ret X38 hlk (v := some (.int 17)) (fun h => by rw [hret] at h; cases h) (fun fs hr => X38.ireturnOut hx hret rfl (Or.inl rfl) (hb hby d16_10) hr) ?_ (by decide) (by decide)
  show own_Q16_17 Z a1 r9 bs kq wc wD kD h0 n0 _ T38.heap _
  rw [e38]
  exact ⟨rfl, N38, rfl⟩
theorem d18_0 : own_D c_15 0 (.aload_n 0, 1) := by decide +kernel
theorem d18_1 : own_D c_15 1 (.getfield 15, 3) := by decide +kernel
theorem d18_4 : own_D c_15 4 (.arraylength, 1) := by decide +kernel
theorem d18_5 : own_D c_15 5 (.aload_n 0, 1) := by decide +kernel
theorem d18_6 : own_D c_15 6 (.getfield 22, 3) := by decide +kernel
theorem d18_9 : own_D c_15 9 (.ishr, 1) := by decide +kernel
theorem d18_10 : own_D c_15 10 (.istore_n 2, 1) := by decide +kernel
theorem d18_11 : own_D c_15 11 (.iload_n 1, 1) := by decide +kernel
theorem d18_12 : own_D c_15 12 (.iload_n 2, 1) := by decide +kernel
theorem d18_13 : own_D c_15 13 (.isub, 1) := by decide +kernel
theorem d18_14 : own_D c_15 14 (.ifCond .le 24, 3) := by decide +kernel
theorem d18_38 : own_D c_15 38 (.return_, 1) := by decide +kernel
theorem own_ef18_0_1 (m : MethodId) (a1 : Addr) : entryFrame m #[(.ref a1), (.int 1)] 3 = mkF m 0 #[rv a1, iv 1, .unset] [] := by first | (simp [entryFrame, mkF, argsToLocals, Value.category]; done) | rfl
def own_Q18_0_1 (Z : State) (a1 vb : Addr) (kb : ClassId) (es : List Int32) (h0 : Heap) (n0 : Nat) (v : Option Value) (h : Heap) (L : List Loc) : Prop := v = none ∧ Fr n0 L ∧ h = h0
theorem own_rm18_0_1 (l Z a0) (hw : own_W a0 Z) (ws) (a1 vb : Addr) (kb : ClassId) (es : List Int32) (h0 : Heap) (n0 : Nat) (Z0 : n0 ≤ h0.size) (E_a1 : Exa Z h0 a1 "java/lang/StringBuilder") (F_v : Fld Z h0 a1 "java/lang/AbstractStringBuilder" "value" "[B" (.ref vb)) (F_c : Fld Z h0 a1 "java/lang/AbstractStringBuilder" "coder" "B" (.int 0)) (V0 : Arv Z h0 vb kb .byte (16 : Int32) ((es).map Value.int) (.int 0)) :
    own_M l Z ws mn_15 c_15 3 none rm_0 #[(.ref a1), (.int 1)] h0 (own_Q18_0_1 Z a1 vb kb es h0 n0) := by
  refine own_body (plainFor_of_name pn_13) (fun m => own_ef18_0_1 m a1) ?_
  intro p e s m below meth c T0 X0 hx hby hml hZ hown hnm hret hlk e0
  have hown : s.vm.findClass "java/lang/AbstractStringBuilder" = some m.cls := hown
  have hnm : meth.name = "ensureCapacityInternal" := hnm
  have N0 := Fr.nil n0
  refine own_st _ (own_aloadN 1 X0 hx hby d18_0) ?_
  obtain ⟨T39, X39, e39, st39⟩ := getF X0 hx hZ hown (host := "") (Or.inl (hw_84 hw)) Via.refl e0 F_v (g := (mkF m 1 #[rv a1, iv 1, .unset] [(.ref a1)])) rfl rfl (hb hby d18_1)
  refine own_step (g' := (mkF m 4 #[rv a1, iv 1, .unset] [(.ref vb)])) st39 ?_
  obtain ⟨cl40, Ar40, -, S40, M40, -, -⟩ := id V0
  refine own_step (T' := T39) (g' := (mkF m 5 #[rv a1, iv 1, .unset] [(.int cl40.slots.size.toInt32)])) (X39.arraylength hx (by rw [e39]; exact Ar40.1) (State.isArrayOf_alike hZ.alike Ar40.2.1) (g := (mkF m 4 #[rv a1, iv 1, .unset] [(.ref vb)])) rfl rfl (hb hby d18_4)) ?_
  rw [len_of S40 M40]
  refine own_st _ (own_aloadN 6 X39 hx hby d18_5) ?_
  obtain ⟨T41, X41, e41, st41⟩ := getF X39 hx hZ hown (host := "") (Or.inl (hw_86 hw)) Via.refl e39 F_c (g := (mkF m 6 #[rv a1, iv 1, .unset] [(.ref a1), (.int 16)])) rfl rfl (hb hby d18_6)
  refine own_step (g' := (mkF m 9 #[rv a1, iv 1, .unset] [(.int 0), (.int 16)])) st41 ?_
  refine own_st _ (own_ishr 10 X41 hx hby d18_9) ?_
  rw [show ((16 : Int32) >>> ((0 : Int32) &&& 31)) = (16 : Int32) from by decide]
  refine own_st _ (own_istoreN 11 #[rv a1, iv 1, iv 16] X41 hx hby d18_10) ?_
  refine own_st _ (own_iloadN 12 X41 hx hby d18_11) ?_
  refine own_st _ (own_iloadN 13 X41 hx hby d18_12) ?_
  refine own_st _ (own_isub 14 X41 hx hby d18_13) ?_
  rw [show ((1 : Int32) - (16 : Int32)) = (-15 : Int32) from by decide]
  refine own_st _ (own_ifYes 38 X41 hx hby d18_14 ((if0 _ _).trans (flt (by decide : ¬ ((0 : Int32) < (-15 : Int32)))).2.2.2)) ?_
  refine own_ret X41 hlk (v := none) (fun _ => rfl) (fun fs hr => X41.returnOut hx hret (hb hby d18_38) hr) ?_ (by decide) (by decide)
  show own_Q18_0_1 Z a1 vb kb es h0 n0 _ T41.heap _
  rw [e41]
  exact ⟨rfl, N0, rfl⟩
theorem d21_0 : own_D c_16 0 (.aload_n 0, 1) := by decide +kernel
theorem d21_1 : own_D c_16 1 (.invokevirtual 335, 3) := by decide +kernel
theorem d21_4 : own_D c_16 4 (.iload_n 3, 1) := by decide +kernel
theorem d21_5 : own_D c_16 5 (.if_icmp .ne 23, 3) := by decide +kernel
theorem d21_8 : own_D c_16 8 (.aload_n 0, 1) := by decide +kernel
theorem d21_9 : own_D c_16 9 (.getfield 9, 3) := by decide +kernel
theorem d21_12 : own_D c_16 12 (.iconst 0, 1) := by decide +kernel
theorem d21_13 : own_D c_16 13 (.aload_n 1, 1) := by decide +kernel
theorem d21_14 : own_D c_16 14 (.iload_n 2, 1) := by decide +kernel
theorem d21_15 : own_D c_16 15 (.iload_n 3, 1) := by decide +kernel
theorem d21_16 : own_D c_16 16 (.ishl, 1) := by decide +kernel
theorem d21_17 : own_D c_16 17 (.aload_n 0, 1) := by decide +kernel
theorem d21_18 : own_D c_16 18 (.getfield 9, 3) := by decide +kernel
theorem d21_21 : own_D c_16 21 (.arraylength, 1) := by decide +kernel
theorem d21_22 : own_D c_16 22 (.invokestatic 212, 3) := by decide +kernel
theorem hw_131 : own_H (.methodLink "java/lang/String" 212 mn_57) := own_h 131 rfl
theorem hw_134 : own_H (.native mn_57) := own_h 134 rfl
theorem hw_132 : own_H (.static mn_57) := own_h 132 rfl
theorem hw_133 : own_H (.initialized "java/lang/System") := own_h 133 rfl
theorem d21_25 : own_D c_16 25 (.goto 18, 3) := by decide +kernel
theorem d21_43 : own_D c_16 43 (.return_, 1) := by decide +kernel
theorem own_ef21_0_1 (m : MethodId) (a1 r2 : Addr) : entryFrame m #[(.ref a1), (.ref r2), (.int 0), (.int 0)] 4 = mkF m 0 #[rv a1, rv r2, iv 0, iv 0] [] := by first | (simp [entryFrame, mkF, argsToLocals, Value.category]; done) | rfl
def own_Q21_0_1 (Z : State) (a1 r2 r9 : Addr) (k2 : ClassId) (bs : List Int32) (kq : ClassId) (pre : List Int32) (wc : Int32) (wD : Addr) (kD : ClassId) (h0 : Heap) (n0 : Nat) (v : Option Value) (h : Heap) (L : List Loc) : Prop := v = none ∧ Fr n0 L ∧ Keep h0 h [r2] ∧ Arv Z h r2 k2 .byte (16 : Int32) (((pre ++ bs) ++ List.replicate 15 (0 : Int32)).map Value.int) (.int 0)
theorem own_rm21_0_1 (l Z a0) (hw : own_W a0 Z) (ws) (a1 r2 r9 : Addr) (k2 : ClassId) (bs : List Int32) (kq : ClassId) (pre : List Int32) (wc : Int32) (wD : Addr) (kD : ClassId) (h0 : Heap) (n0 : Nat) (Z0 : n0 ≤ h0.size) (O0 : Old Z n0 h0) (SS : own_St Z wc wD kD) (hpre : pre.length = 0) (hbl : bs.length = 1) (E_a1 : Exa Z h0 a1 "java/lang/String") (F_v : Fld Z h0 a1 "java/lang/String" "value" "[B" (.ref r9)) (F_c : Fld Z h0 a1 "java/lang/String" "coder" "B" (.int 0)) (V0 : Arv Z h0 r9 kq .byte (1 : Int32) ((bs).map Value.int) (.int 0)) (V2 : Arv Z h0 r2 k2 .byte (16 : Int32) ((pre ++ List.replicate 16 (0 : Int32)).map Value.int) (.int 0)) (g_r2 : n0 ≤ r2) (ne_92 : r9 ≠ r2) (ne_12 : a1 ≠ r2) :
    own_M l Z ws mn_16 c_16 4 none rm_7 #[(.ref a1), (.ref r2), (.int 0), (.int 0)] h0 (own_Q21_0_1 Z a1 r2 r9 k2 bs kq pre wc wD kD h0 n0) := by
  refine own_body (plainFor_of_name pn_10) (fun m => own_ef21_0_1 m a1 r2) ?_
  intro p e s m below meth c T0 X0 hx hby hml hZ hown hnm hret hlk e0
  have hown : s.vm.findClass "java/lang/String" = some m.cls := hown
  have hnm : meth.name = "getBytes" := hnm
  have N0 := Fr.nil n0
  have K0 : Keep h0 h0 [r2] := Keep.refl _ _
  refine own_st _ (own_aloadN 1 X0 hx hby d21_0) ?_
  obtain ⟨cq42, kq42, q42a, q42b, q42c⟩ := isOf hZ e0 E_a1
  obtain ⟨_, _, ⟨T42, L42, k42, n42⟩, -, X42, ⟨Lc42, hQ42, l42, y42, z42⟩, st42⟩ := X0.virtualBack hx (y := mn_6) (z := mn_6) hown (mvT hZ (hw_103 hw)) (mvT hZ (hw_104 hw)) (notFace_of_selects (args := #[]) (mvT hZ (hw_106 hw))) (mvT hZ (hw_106 hw)) (mvT hZ (hw_105 hw)) (by decide) (backOf (W := 0) (own_rm17 l Z a0 hw [] a1 wc wD kD h0 n0 Z0 O0 SS F_c) hZ (hw_107 hw) (hw_43 hw) (by decide) (by decide)) q42a q42c (g := (mkF m 1 #[rv a1, rv r2, iv 0, iv 0] [(.ref a1)])) rfl (by rw [hml]; rfl) (Steps.refl _) (argsL := []) (rest := []) (lenOf pd_4 rfl) rfl own_z0 (hb hby d21_1) (fun _ _ => ⟨rfl, e0, (by decide : 0 + 0 ≤ _), (by decide : 0 + 0 ≤ _)⟩)
  dsimp only [Pt.U, Pt.locs, Pt.cells, Pt.slots] at X42 l42 y42 z42 st42 hQ42
  subst l42 y42 z42
  obtain ⟨rfl, Nq42, e42⟩ := hQ42
  have N42 := Fr.app N0 Nq42
  refine own_jump (g' := (mkF m 4 #[rv a1, rv r2, iv 0, iv 0] [(.int 0)])) st42 ?_
  refine own_st _ (own_iloadN 5 X42 hx hby d21_4) ?_
  refine own_st _ (own_icmpNo 8 X42 hx hby d21_5 ((teq (by decide : (0 : Int32) = (0 : Int32))).2)) ?_
  refine own_st _ (own_aloadN 9 X42 hx hby d21_8) ?_
  obtain ⟨T43, X43, e43, st43⟩ := getF X42 hx hZ hown (host := "") (Or.inl (hw_61 hw)) Via.refl e42 F_v (g := (mkF m 9 #[rv a1, rv r2, iv 0, iv 0] [(.ref a1)])) rfl rfl (hb hby d21_9)
  refine own_step (g' := (mkF m 12 #[rv a1, rv r2, iv 0, iv 0] [(.ref r9)])) st43 ?_
  refine own_st _ (own_iconst 13 0 X43 hx hby d21_12) ?_
  refine own_st _ (own_aloadN 14 X43 hx hby d21_13) ?_
  refine own_st _ (own_iloadN 15 X43 hx hby d21_14) ?_
  refine own_st _ (own_iloadN 16 X43 hx hby d21_15) ?_
  refine own_st _ (own_ishl 17 X43 hx hby d21_16) ?_
  rw [show ((0 : Int32) <<< ((0 : Int32) &&& 31)) = (0 : Int32) from by decide]
  refine own_st _ (own_aloadN 18 X43 hx hby d21_17) ?_
  obtain ⟨T44, X44, e44, st44⟩ := getF X43 hx hZ hown (host := "") (Or.inl (hw_61 hw)) Via.refl e43 F_v (g := (mkF m 18 #[rv a1, rv r2, iv 0, iv 0] [(.ref a1), (.int 0), (.ref r2), (.int 0), (.ref r9)])) rfl rfl (hb hby d21_18)
  refine own_step (g' := (mkF m 21 #[rv a1, rv r2, iv 0, iv 0] [(.ref r9), (.int 0), (.ref r2), (.int 0), (.ref r9)])) st44 ?_
  obtain ⟨cl45, Ar45, -, S45, M45, -, -⟩ := id V0
  refine own_step (T' := T44) (g' := (mkF m 22 #[rv a1, rv r2, iv 0, iv 0] [(.int cl45.slots.size.toInt32), (.int 0), (.ref r2), (.int 0), (.ref r9)])) (X44.arraylength hx (by rw [e44]; exact Ar45.1) (State.isArrayOf_alike hZ.alike Ar45.2.1) (g := (mkF m 21 #[rv a1, rv r2, iv 0, iv 0] [(.ref r9), (.int 0), (.ref r2), (.int 0), (.ref r9)])) rfl rfl (hb hby d21_21)) ?_
  rw [len_of S45 M45]
  obtain ⟨T46, h46, Lc46, X46, e46, N46, K46, V46, st46⟩ := own_copyAt (pre := pre) (rs := List.replicate 16 (0 : Int32)) X44 hx hZ hown (hw_131 hw) (hw_134 hw) (hw_132 hw) (hw_133 hw) e44 V0 V2 (by rw [hpre]; rfl) (by rw [hbl]; rfl) (by rw [hbl]; rfl) (by simp [hpre]) (by rw [hbl]; simp) (n0 := n0) N42 g_r2 (g := (mkF m 22 #[rv a1, rv r2, iv 0, iv 0] [(.int 1), (.int 0), (.ref r2), (.int 0), (.ref r9)])) rfl (by rw [hml]; rfl) rfl (hb hby d21_22) (by decide) (W := 0) own_z0 (by decide)
  have Kp46 : Keep h0 h46 [r2] := K0.trans K46 (allS (Or.inl (List.mem_of_getElem? (i := 0) rfl)) all0)
  have Vr46 : Arv Z h46 r2 k2 .byte (16 : Int32) (((pre ++ bs) ++ List.replicate 15 (0 : Int32)).map Value.int) (.int 0) := by have q := V46; rw [hbl, List.drop_replicate] at q; exact q
  refine own_step (g' := (mkF m 25 #[rv a1, rv r2, iv 0, iv 0] [])) st46 ?_
  refine own_st _ (own_goto 43 X46 hx hby d21_25) ?_
  refine own_ret X46 hlk (v := none) (fun _ => rfl) (fun fs hr => X46.returnOut hx hret (hb hby d21_43) hr) ?_ (by decide) (by decide)
  show own_Q21_0_1 Z a1 r2 r9 k2 bs kq pre wc wD kD h0 n0 _ T46.heap _
  rw [e46]
  exact ⟨rfl, N46, Kp46, Vr46⟩
theorem d19_0 : own_D c_17 0 (.aload_n 0, 1) := by decide +kernel
theorem d19_1 : own_D c_17 1 (.aload_n 2, 1) := by decide +kernel
theorem d19_2 : own_D c_17 2 (.invokevirtual 397, 3) := by decide +kernel
theorem hw_120 : own_H (.methodLink "java/lang/AbstractStringBuilder" 397 mn_10) := own_h 120 rfl
theorem hw_124 : own_H (.code mn_10 jdk_68_method_71_code 2 none) := own_h 124 rfl
theorem pd_6 : parseMethodDescriptor "(Ljava/lang/String;)V" = some ⟨[(.object "java/lang/String")], none⟩ := by decide +kernel
theorem hw_123 : own_H (.selects "java/lang/StringBuilder" mn_10 mn_10) := own_h 123 rfl
theorem hw_121 : own_H (.instanceMethod mn_10) := own_h 121 rfl
theorem d19_5 : own_D c_17 5 (.aload_n 2, 1) := by decide +kernel
theorem d19_6 : own_D c_17 6 (.aload_n 0, 1) := by decide +kernel
theorem d19_7 : own_D c_17 7 (.getfield 15, 3) := by decide +kernel
theorem d19_10 : own_D c_17 10 (.iload_n 1, 1) := by decide +kernel
theorem d19_11 : own_D c_17 11 (.aload_n 0, 1) := by decide +kernel
theorem d19_12 : own_D c_17 12 (.getfield 22, 3) := by decide +kernel
theorem d19_15 : own_D c_17 15 (.invokevirtual 399, 3) := by decide +kernel
theorem hw_126 : own_H (.methodLink "java/lang/AbstractStringBuilder" 399 mn_16) := own_h 126 rfl
theorem hw_130 : own_H (.code mn_16 jdk_42_method_147_code 4 none) := own_h 130 rfl
theorem pd_7 : parseMethodDescriptor "([BIB)V" = some ⟨[(.array .byte), .int, .byte], none⟩ := by decide +kernel
theorem hw_129 : own_H (.selects "java/lang/String" mn_16 mn_16) := own_h 129 rfl
theorem hw_127 : own_H (.declares mn_16) := own_h 127 rfl
theorem hw_128 : own_H (.instanceMethod mn_16) := own_h 128 rfl
theorem d19_18 : own_D c_17 18 (.return_, 1) := by decide +kernel
theorem own_ef19_0_1 (m : MethodId) (a1 r3 : Addr) : entryFrame m #[(.ref a1), (.int 0), (.ref r3)] 3 = mkF m 0 #[rv a1, iv 0, rv r3] [] := by first | (simp [entryFrame, mkF, argsToLocals, Value.category]; done) | rfl
def own_Q19_0_1 (Z : State) (a1 r3 vb : Addr) (kb : ClassId) (r9 : Addr) (bs : List Int32) (kq : ClassId) (pre : List Int32) (wc : Int32) (wD : Addr) (kD : ClassId) (h0 : Heap) (n0 : Nat) (v : Option Value) (h : Heap) (L : List Loc) : Prop := v = none ∧ Fr n0 L ∧ Keep h0 h [vb] ∧ Arv Z h vb kb .byte (16 : Int32) (((pre ++ bs) ++ List.replicate 15 (0 : Int32)).map Value.int) (.int 0)
theorem own_rm19_0_1 (l Z a0) (hw : own_W a0 Z) (ws) (a1 r3 vb : Addr) (kb : ClassId) (r9 : Addr) (bs : List Int32) (kq : ClassId) (pre : List Int32) (wc : Int32) (wD : Addr) (kD : ClassId) (h0 : Heap) (n0 : Nat) (Z0 : n0 ≤ h0.size) (O0 : Old Z n0 h0) (SS : own_St Z wc wD kD) (hpre : pre.length = 0) (hbl : bs.length = 1) (E_a1 : Exa Z h0 a1 "java/lang/StringBuilder") (F_v : Fld Z h0 a1 "java/lang/AbstractStringBuilder" "value" "[B" (.ref vb)) (F_c : Fld Z h0 a1 "java/lang/AbstractStringBuilder" "coder" "B" (.int 0)) (V0 : Arv Z h0 vb kb .byte (16 : Int32) ((pre ++ List.replicate 16 (0 : Int32)).map Value.int) (.int 0)) (E_r3 : Exa Z h0 r3 "java/lang/String") (G_v : Fld Z h0 r3 "java/lang/String" "value" "[B" (.ref r9)) (G_c : Fld Z h0 r3 "java/lang/String" "coder" "B" (.int 0)) (V9 : Arv Z h0 r9 kq .byte (1 : Int32) ((bs).map Value.int) (.int 0)) (g_vb : n0 ≤ vb) (ne_av : a1 ≠ vb) (ne_rv : r3 ≠ vb) (ne_9v : r9 ≠ vb) :
    own_M l Z ws mn_17 c_17 3 none rm_8 #[(.ref a1), (.int 0), (.ref r3)] h0 (own_Q19_0_1 Z a1 r3 vb kb r9 bs kq pre wc wD kD h0 n0) := by
  refine own_body (plainFor_of_name pn_13) (fun m => own_ef19_0_1 m a1 r3) ?_
  intro p e s m below meth c T0 X0 hx hby hml hZ hown hnm hret hlk e0
  have hown : s.vm.findClass "java/lang/AbstractStringBuilder" = some m.cls := hown
  have hnm : meth.name = "putStringAt" := hnm
  have N0 := Fr.nil n0
  have K0 : Keep h0 h0 [vb] := Keep.refl _ _
  refine own_st _ (own_aloadN 1 X0 hx hby d19_0) ?_
  refine own_st _ (own_aloadN 2 X0 hx hby d19_1) ?_
  obtain ⟨cq47, kq47, q47a, q47b, q47c⟩ := isOf hZ e0 E_a1
  obtain ⟨_, _, ⟨T47, L47, k47, n47⟩, -, X47, ⟨Lc47, hQ47, l47, y47, z47⟩, st47⟩ := X0.virtualBack hx (y := mn_10) (z := mn_10) hown (mvT hZ (hw_120 hw)) (mvT hZ (own_declares (hw_121 hw) (hw_124 hw))) (notFace_of_selects (args := #[]) (mvT hZ (hw_123 hw))) (mvT hZ (hw_123 hw)) (mvT hZ (hw_121 hw)) (by decide) (backOf (W := 0) (own_rm20 l Z a0 hw [] a1 r3 wc wD kD h0 n0 Z0 O0 SS F_c E_r3 G_c) hZ (hw_124 hw) (hw_80 hw) (by decide) (by decide)) q47a q47c (g := (mkF m 2 #[rv a1, iv 0, rv r3] [(.ref r3), (.ref a1)])) rfl (by rw [hml]; rfl) (Steps.refl _) (argsL := [(.ref r3)]) (rest := []) (lenOf pd_6 rfl) rfl own_z0 (hb hby d19_2) (fun _ _ => ⟨rfl, e0, (by decide : 0 + 0 ≤ _), (by decide : 0 + 0 ≤ _)⟩)
  dsimp only [Pt.U, Pt.locs, Pt.cells, Pt.slots] at X47 l47 y47 z47 st47 hQ47
  subst l47 y47 z47
  obtain ⟨rfl, Nq47, e47⟩ := hQ47
  have N47 := Fr.app N0 Nq47
  refine own_jump (g' := (mkF m 5 #[rv a1, iv 0, rv r3] [])) st47 ?_
  refine own_st _ (own_aloadN 6 X47 hx hby d19_5) ?_
  refine own_st _ (own_aloadN 7 X47 hx hby d19_6) ?_
  obtain ⟨T48, X48, e48, st48⟩ := getF X47 hx hZ hown (host := "") (Or.inl (hw_84 hw)) Via.refl e47 F_v (g := (mkF m 7 #[rv a1, iv 0, rv r3] [(.ref a1), (.ref r3)])) rfl rfl (hb hby d19_7)
  refine own_step (g' := (mkF m 10 #[rv a1, iv 0, rv r3] [(.ref vb), (.ref r3)])) st48 ?_
  refine own_st _ (own_iloadN 11 X48 hx hby d19_10) ?_
  refine own_st _ (own_aloadN 12 X48 hx hby d19_11) ?_
  obtain ⟨T49, X49, e49, st49⟩ := getF X48 hx hZ hown (host := "") (Or.inl (hw_86 hw)) Via.refl e48 F_c (g := (mkF m 12 #[rv a1, iv 0, rv r3] [(.ref a1), (.int 0), (.ref vb), (.ref r3)])) rfl rfl (hb hby d19_12)
  refine own_step (g' := (mkF m 15 #[rv a1, iv 0, rv r3] [(.int 0), (.int 0), (.ref vb), (.ref r3)])) st49 ?_
  obtain ⟨cq50, kq50, q50a, q50b, q50c⟩ := isOf hZ e49 E_r3
  obtain ⟨_, _, ⟨T50, L50, k50, n50⟩, -, X50, ⟨Lc50, hQ50, l50, y50, z50⟩, st50⟩ := X49.virtualBack hx (y := mn_16) (z := mn_16) hown (mvT hZ (hw_126 hw)) (mvT hZ (hw_127 hw)) (notFace_of_selects (args := #[]) (mvT hZ (hw_129 hw))) (mvT hZ (hw_129 hw)) (mvT hZ (hw_128 hw)) (by decide) (backOf (W := 0) (own_rm21_0_1 l Z a0 hw [] r3 vb r9 kb bs kq pre wc wD kD h0 n0 Z0 O0 SS hpre hbl E_r3 G_v G_c V9 V0 g_vb ne_9v ne_rv) hZ (hw_130 hw) (hw_43 hw) (by decide) (by decide)) q50a q50c (g := (mkF m 15 #[rv a1, iv 0, rv r3] [(.int 0), (.int 0), (.ref vb), (.ref r3)])) rfl (by rw [hml]; rfl) (Steps.refl _) (argsL := [(.ref vb), (.int 0), (.int 0)]) (rest := []) (lenOf pd_7 rfl) rfl own_z0 (hb hby d19_15) (fun _ _ => ⟨rfl, e49, (by decide : 0 + 0 ≤ _), (by decide : 0 + 0 ≤ _)⟩)
  dsimp only [Pt.U, Pt.locs, Pt.cells, Pt.slots] at X50 l50 y50 z50 st50 hQ50
  subst l50 y50 z50
  obtain ⟨rfl, Nq50, K50, V50⟩ := hQ50
  have N50 := Fr.app N47 Nq50
  have Kp50 : Keep h0 T50.heap [vb] := K0.trans K50 (allS (Or.inl (List.mem_of_getElem? (i := 0) rfl)) all0)
  refine own_jump (g' := (mkF m 18 #[rv a1, iv 0, rv r3] [])) st50 ?_
  refine own_ret X50 hlk (v := none) (fun _ => rfl) (fun fs hr => X50.returnOut hx hret (hb hby d19_18) hr) ?_ (by decide) (by decide)
  show own_Q19_0_1 Z a1 r3 vb kb r9 bs kq pre wc wD kD h0 n0 _ T50.heap _
  exact ⟨rfl, N50, Kp50, V50⟩
theorem d15_0 : own_D c_18 0 (.aload_n 1, 1) := by decide +kernel
theorem d15_1 : own_D c_18 1 (.ifnonnull 8, 3) := by decide +kernel
theorem d15_9 : own_D c_18 9 (.aload_n 1, 1) := by decide +kernel
theorem d15_10 : own_D c_18 10 (.invokevirtual 32, 3) := by decide +kernel
theorem hw_98 : own_H (.methodLink "java/lang/AbstractStringBuilder" 32 mn_14) := own_h 98 rfl
theorem hw_102 : own_H (.code mn_14 jdk_42_method_54_code 1 (some .int)) := own_h 102 rfl
theorem hw_101 : own_H (.selects "java/lang/String" mn_14 mn_14) := own_h 101 rfl
theorem hw_99 : own_H (.declares mn_14) := own_h 99 rfl
theorem hw_100 : own_H (.instanceMethod mn_14) := own_h 100 rfl
theorem d15_13 : own_D c_18 13 (.istore_n 2, 1) := by decide +kernel
theorem d15_14 : own_D c_18 14 (.aload_n 0, 1) := by decide +kernel
theorem d15_15 : own_D c_18 15 (.aload_n 0, 1) := by decide +kernel
theorem d15_16 : own_D c_18 16 (.getfield 79, 3) := by decide +kernel
theorem d15_19 : own_D c_18 19 (.iload_n 2, 1) := by decide +kernel
theorem d15_20 : own_D c_18 20 (.iadd, 1) := by decide +kernel
theorem d15_21 : own_D c_18 21 (.invokevirtual 100, 3) := by decide +kernel
theorem hw_110 : own_H (.methodLink "java/lang/AbstractStringBuilder" 100 mn_15) := own_h 110 rfl
theorem hw_114 : own_H (.code mn_15 jdk_68_method_9_code 3 none) := own_h 114 rfl
theorem hw_113 : own_H (.selects "java/lang/StringBuilder" mn_15 mn_15) := own_h 113 rfl
theorem hw_111 : own_H (.instanceMethod mn_15) := own_h 111 rfl
theorem d15_24 : own_D c_18 24 (.aload_n 0, 1) := by decide +kernel
theorem d15_25 : own_D c_18 25 (.aload_n 0, 1) := by decide +kernel
theorem d15_26 : own_D c_18 26 (.getfield 79, 3) := by decide +kernel
theorem d15_29 : own_D c_18 29 (.aload_n 1, 1) := by decide +kernel
theorem d15_30 : own_D c_18 30 (.invokevirtual 208, 3) := by decide +kernel
theorem hw_115 : own_H (.methodLink "java/lang/AbstractStringBuilder" 208 mn_17) := own_h 115 rfl
theorem hw_119 : own_H (.code mn_17 jdk_68_method_73_code 3 none) := own_h 119 rfl
theorem pd_8 : parseMethodDescriptor "(ILjava/lang/String;)V" = some ⟨[.int, (.object "java/lang/String")], none⟩ := by decide +kernel
theorem hw_118 : own_H (.selects "java/lang/StringBuilder" mn_17 mn_17) := own_h 118 rfl
theorem hw_116 : own_H (.instanceMethod mn_17) := own_h 116 rfl
theorem d15_33 : own_D c_18 33 (.aload_n 0, 1) := by decide +kernel
theorem d15_34 : own_D c_18 34 (.dup, 1) := by decide +kernel
theorem d15_35 : own_D c_18 35 (.getfield 79, 3) := by decide +kernel
theorem d15_38 : own_D c_18 38 (.iload_n 2, 1) := by decide +kernel
theorem d15_39 : own_D c_18 39 (.iadd, 1) := by decide +kernel
theorem d15_40 : own_D c_18 40 (.putfield 79, 3) := by decide +kernel
theorem d15_43 : own_D c_18 43 (.aload_n 0, 1) := by decide +kernel
theorem d15_44 : own_D c_18 44 (.areturn, 1) := by decide +kernel
theorem own_ef15_0_1 (m : MethodId) (a1 r2 : Addr) : entryFrame m #[(.ref a1), (.ref r2)] 3 = mkF m 0 #[rv a1, rv r2, .unset] [] := by first | (simp [entryFrame, mkF, argsToLocals, Value.category]; done) | rfl
def own_Q15_0_1 (Z : State) (a1 r2 v0 : Addr) (k0 : ClassId) (r9 : Addr) (bs : List Int32) (kq : ClassId) (pre : List Int32) (wc : Int32) (wD : Addr) (kD : ClassId) (h0 : Heap) (n0 : Nat) (v : Option Value) (h : Heap) (L : List Loc) : Prop := v = some (.ref a1) ∧ Fr n0 L ∧ Keep h0 h [a1, v0] ∧ Exa Z h a1 "java/lang/StringBuilder" ∧ Fld Z h a1 "java/lang/AbstractStringBuilder" "value" "[B" (.ref v0) ∧ Fld Z h a1 "java/lang/AbstractStringBuilder" "coder" "B" (.int 0) ∧ Fld Z h a1 "java/lang/AbstractStringBuilder" "count" "I" (.int 1) ∧ Arv Z h v0 k0 .byte (16 : Int32) (((pre ++ bs) ++ List.replicate 15 (0 : Int32)).map Value.int) (.int 0)
theorem own_rm15_0_1 (l Z a0) (hw : own_W a0 Z) (ws) (a1 r2 v0 : Addr) (k0 : ClassId) (r9 : Addr) (bs : List Int32) (kq : ClassId) (pre : List Int32) (wc : Int32) (wD : Addr) (kD : ClassId) (h0 : Heap) (n0 : Nat) (Z0 : n0 ≤ h0.size) (O0 : Old Z n0 h0) (SS : own_St Z wc wD kD) (hpre : pre.length = 0) (hbl : bs.length = 1) (E_a1 : Exa Z h0 a1 "java/lang/StringBuilder") (F_v : Fld Z h0 a1 "java/lang/AbstractStringBuilder" "value" "[B" (.ref v0)) (F_c : Fld Z h0 a1 "java/lang/AbstractStringBuilder" "coder" "B" (.int 0)) (F_n : Fld Z h0 a1 "java/lang/AbstractStringBuilder" "count" "I" (.int 0)) (V0 : Arv Z h0 v0 k0 .byte (16 : Int32) ((pre ++ List.replicate 16 (0 : Int32)).map Value.int) (.int 0)) (E_r2 : Exa Z h0 r2 "java/lang/String") (G_v : Fld Z h0 r2 "java/lang/String" "value" "[B" (.ref r9)) (G_c : Fld Z h0 r2 "java/lang/String" "coder" "B" (.int 0)) (V9 : Arv Z h0 r9 kq .byte (1 : Int32) ((bs).map Value.int) (.int 0)) (g_a1 : n0 ≤ a1) (ne_av : a1 ≠ v0) (ne_ar : a1 ≠ r2) (ne_a9 : a1 ≠ r9) (ne_rv : r2 ≠ v0) (ne_9v : r9 ≠ v0) (g_v0 : n0 ≤ v0) :
    own_M l Z ws mn_18 c_18 3 (some (.object "java/lang/AbstractStringBuilder")) rm_9 #[(.ref a1), (.ref r2)] h0 (own_Q15_0_1 Z a1 r2 v0 k0 r9 bs kq pre wc wD kD h0 n0) := by
  refine own_body (plainFor_of_name pn_13) (fun m => own_ef15_0_1 m a1 r2) ?_
  intro p e s m below meth c T0 X0 hx hby hml hZ hown hnm hret hlk e0
  have hown : s.vm.findClass "java/lang/AbstractStringBuilder" = some m.cls := hown
  have hnm : meth.name = "append" := hnm
  have N0 := Fr.nil n0
  have K0 : Keep h0 h0 [a1, v0] := Keep.refl _ _
  refine own_st _ (own_aloadN 1 X0 hx hby d15_0) ?_
  refine own_st _ (own_ifnonnullYes 9 X0 hx hby d15_1) ?_
  refine own_st _ (own_aloadN 10 X0 hx hby d15_9) ?_
  obtain ⟨cq51, kq51, q51a, q51b, q51c⟩ := isOf hZ e0 E_r2
  obtain ⟨_, _, ⟨T51, L51, k51, n51⟩, -, X51, ⟨Lc51, hQ51, l51, y51, z51⟩, st51⟩ := X0.virtualBack hx (y := mn_14) (z := mn_14) hown (mvT hZ (hw_98 hw)) (mvT hZ (hw_99 hw)) (notFace_of_selects (args := #[]) (mvT hZ (hw_101 hw))) (mvT hZ (hw_101 hw)) (mvT hZ (hw_100 hw)) (by decide) (backOf (W := 0) (own_rm16_1 l Z a0 hw [] r2 r9 bs kq wc wD kD h0 n0 Z0 O0 SS E_r2 G_v G_c V9) hZ (hw_102 hw) (hw_43 hw) (by decide) (by decide)) q51a q51c (g := (mkF m 10 #[rv a1, rv r2, .unset] [(.ref r2)])) rfl (by rw [hml]; rfl) (Steps.refl _) (argsL := []) (rest := []) (lenOf pd_5 rfl) rfl own_z0 (hb hby d15_10) (fun _ _ => ⟨rfl, e0, (by decide : 0 + 0 ≤ _), (by decide : 0 + 0 ≤ _)⟩)
  dsimp only [Pt.U, Pt.locs, Pt.cells, Pt.slots] at X51 l51 y51 z51 st51 hQ51
  subst l51 y51 z51
  obtain ⟨rfl, Nq51, e51⟩ := hQ51
  have N51 := Fr.app N0 Nq51
  refine own_jump (g' := (mkF m 13 #[rv a1, rv r2, .unset] [(.int 1)])) st51 ?_
  refine own_st _ (own_istoreN 14 #[rv a1, rv r2, iv 1] X51 hx hby d15_13) ?_
  refine own_st _ (own_aloadN 15 X51 hx hby d15_14) ?_
  refine own_st _ (own_aloadN 16 X51 hx hby d15_15) ?_
  obtain ⟨T52, X52, e52, st52⟩ := getF X51 hx hZ hown (host := "") (Or.inl (hw_108 hw)) Via.refl e51 F_n (g := (mkF m 16 #[rv a1, rv r2, iv 1] [(.ref a1), (.ref a1)])) rfl rfl (hb hby d15_16)
  refine own_step (g' := (mkF m 19 #[rv a1, rv r2, iv 1] [(.int 0), (.ref a1)])) st52 ?_
  refine own_st _ (own_iloadN 20 X52 hx hby d15_19) ?_
  refine own_st _ (own_iadd 21 X52 hx hby d15_20) ?_
  rw [show ((0 : Int32) + (1 : Int32)) = (1 : Int32) from by decide]
  obtain ⟨cq53, kq53, q53a, q53b, q53c⟩ := isOf hZ e52 E_a1
  obtain ⟨_, _, ⟨T53, L53, k53, n53⟩, -, X53, ⟨Lc53, hQ53, l53, y53, z53⟩, st53⟩ := X52.virtualBack hx (y := mn_15) (z := mn_15) hown (mvT hZ (hw_110 hw)) (mvT hZ (own_declares (hw_111 hw) (hw_114 hw))) (notFace_of_selects (args := #[]) (mvT hZ (hw_113 hw))) (mvT hZ (hw_113 hw)) (mvT hZ (hw_111 hw)) (by decide) (backOf (W := 0) (own_rm18_0_1 l Z a0 hw [] a1 v0 k0 (pre ++ List.replicate 16 (0 : Int32)) h0 n0 Z0 E_a1 F_v F_c V0) hZ (hw_114 hw) (hw_80 hw) (by decide) (by decide)) q53a q53c (g := (mkF m 21 #[rv a1, rv r2, iv 1] [(.int 1), (.ref a1)])) rfl (by rw [hml]; rfl) (Steps.refl _) (argsL := [(.int 1)]) (rest := []) (lenOf pd_3 rfl) rfl own_z0 (hb hby d15_21) (fun _ _ => ⟨rfl, e52, (by decide : 0 + 0 ≤ _), (by decide : 0 + 0 ≤ _)⟩)
  dsimp only [Pt.U, Pt.locs, Pt.cells, Pt.slots] at X53 l53 y53 z53 st53 hQ53
  subst l53 y53 z53
  obtain ⟨rfl, Nq53, e53⟩ := hQ53
  have N53 := Fr.app N51 Nq53
  refine own_jump (g' := (mkF m 24 #[rv a1, rv r2, iv 1] [])) st53 ?_
  refine own_st _ (own_aloadN 25 X53 hx hby d15_24) ?_
  refine own_st _ (own_aloadN 26 X53 hx hby d15_25) ?_
  obtain ⟨T54, X54, e54, st54⟩ := getF X53 hx hZ hown (host := "") (Or.inl (hw_108 hw)) Via.refl e53 F_n (g := (mkF m 26 #[rv a1, rv r2, iv 1] [(.ref a1), (.ref a1)])) rfl rfl (hb hby d15_26)
  refine own_step (g' := (mkF m 29 #[rv a1, rv r2, iv 1] [(.int 0), (.ref a1)])) st54 ?_
  refine own_st _ (own_aloadN 30 X54 hx hby d15_29) ?_
  obtain ⟨cq55, kq55, q55a, q55b, q55c⟩ := isOf hZ e54 E_a1
  obtain ⟨_, _, ⟨T55, L55, k55, n55⟩, -, X55, ⟨Lc55, hQ55, l55, y55, z55⟩, st55⟩ := X54.virtualBack hx (y := mn_17) (z := mn_17) hown (mvT hZ (hw_115 hw)) (mvT hZ (own_declares (hw_116 hw) (hw_119 hw))) (notFace_of_selects (args := #[]) (mvT hZ (hw_118 hw))) (mvT hZ (hw_118 hw)) (mvT hZ (hw_116 hw)) (by decide) (backOf (W := 0) (own_rm19_0_1 l Z a0 hw [] a1 r2 v0 k0 r9 bs kq pre wc wD kD h0 n0 Z0 O0 SS hpre hbl E_a1 F_v F_c V0 E_r2 G_v G_c V9 g_v0 ne_av ne_rv ne_9v) hZ (hw_119 hw) (hw_80 hw) (by decide) (by decide)) q55a q55c (g := (mkF m 30 #[rv a1, rv r2, iv 1] [(.ref r2), (.int 0), (.ref a1)])) rfl (by rw [hml]; rfl) (Steps.refl _) (argsL := [(.int 0), (.ref r2)]) (rest := []) (lenOf pd_8 rfl) rfl own_z0 (hb hby d15_30) (fun _ _ => ⟨rfl, e54, (by decide : 0 + 0 ≤ _), (by decide : 0 + 0 ≤ _)⟩)
  dsimp only [Pt.U, Pt.locs, Pt.cells, Pt.slots] at X55 l55 y55 z55 st55 hQ55
  subst l55 y55 z55
  obtain ⟨rfl, Nq55, K55, V55⟩ := hQ55
  have N55 := Fr.app N53 Nq55
  have Kp55 : Keep h0 T55.heap [a1, v0] := K0.trans K55 (allS (Or.inl (List.mem_of_getElem? (i := 1) rfl)) all0)
  have u1 := E_a1.keep K55
  have u2 := F_v.keep K55 (ninS ne_av nin0)
  have u3 := F_c.keep K55 (ninS ne_av nin0)
  have u4 := F_n.keep K55 (ninS ne_av nin0)
  refine own_jump (g' := (mkF m 33 #[rv a1, rv r2, iv 1] [])) st55 ?_
  refine own_st _ (own_aloadN 34 X55 hx hby d15_33) ?_
  refine own_st _ (own_dup 35 X55 hx hby d15_34) ?_
  obtain ⟨T56, X56, e56, st56⟩ := getF X55 hx hZ hown (host := "") (Or.inl (hw_108 hw)) Via.refl rfl u4 (g := (mkF m 35 #[rv a1, rv r2, iv 1] [(.ref a1), (.ref a1)])) rfl rfl (hb hby d15_35)
  refine own_step (g' := (mkF m 38 #[rv a1, rv r2, iv 1] [(.int 0), (.ref a1)])) st56 ?_
  refine own_st _ (own_iloadN 39 X56 hx hby d15_38) ?_
  refine own_st _ (own_iadd 40 X56 hx hby d15_39) ?_
  rw [show ((0 : Int32) + (1 : Int32)) = (1 : Int32) from by decide]
  obtain ⟨T57, h57, X57, e57, W57, st57⟩ := putF X56 hx hZ hown (host := "") (Or.inl (hw_108 hw)) Via.refl e56 u4 u1 (Or.inl (hw_109 hw)) (hw_71 hw) (ty := .int) (by decide) rfl rfl (g := (mkF m 40 #[rv a1, rv r2, iv 1] [(.int 1), (.ref a1)])) rfl rfl (hb hby d15_40)
  have u9 := u1.wr W57
  have u10 := u2.other W57 (Or.inr (slot_ne (a0 := a0) (C := "java/lang/StringBuilder") (Or.inl (hw_85 hw)) (Or.inl (hw_109 hw)) (by decide) (t := (.array .byte)) (t' := .int) (by decide) (by decide)))
  have u11 := u3.other W57 (Or.inr (slot_ne (a0 := a0) (C := "java/lang/StringBuilder") (Or.inl (hw_87 hw)) (Or.inl (hw_109 hw)) (by decide) (t := .byte) (t' := .int) (by decide) (by decide)))
  have u16 := V55.other W57 (Ne.symm ne_av)
  have fw57 : Fld Z h57 a1 "java/lang/AbstractStringBuilder" "count" "I" (.int 1) := u4.same W57
  have Kp57 : Keep h0 h57 [a1, v0] := Kp55.wr W57 (Or.inl (List.mem_of_getElem? (i := 0) rfl))
  have N57 := Fr.snoc X57 N55 g_a1
  refine own_step (g' := (mkF m 43 #[rv a1, rv r2, iv 1] [])) st57 ?_
  refine own_st _ (own_aloadN 44 X57 hx hby d15_43) ?_
  refine own_ret X57 hlk (v := some (.ref a1)) (fun h => by rw [hret] at h; cases h) (fun fs hr => X57.areturnOut hx (w := (.ref a1)) rfl hret rfl (hb hby d15_44) hr) ?_ (by decide) (by decide)
  show own_Q15_0_1 Z a1 r2 v0 k0 r9 bs kq pre wc wD kD h0 n0 _ T57.heap _
  rw [e57]
  exact ⟨rfl, N57, Kp57, u9, u10, u11, fw57, u16⟩
theorem d14_0 : own_D c_19 0 (.aload_n 0, 1) := by decide +kernel
theorem d14_1 : own_D c_19 1 (.aload_n 1, 1) := by decide +kernel
theorem d14_2 : own_D c_19 2 (.invokespecial 29, 3) := by decide +kernel
theorem hw_93 : own_H (.methodLink "java/lang/StringBuilder" 29 mn_18) := own_h 93 rfl
theorem hw_97 : own_H (.code mn_18 jdk_68_method_22_code 3 (some (.object "java/lang/AbstractStringBuilder"))) := own_h 97 rfl
theorem pd_9 : parseMethodDescriptor "(Ljava/lang/String;)Ljava/lang/AbstractStringBuilder;" = some ⟨[(.object "java/lang/String")], some (.object "java/lang/AbstractStringBuilder")⟩ := by decide +kernel
theorem hw_94 : own_H (.instanceMethod mn_18) := own_h 94 rfl
theorem d14_5 : own_D c_19 5 (.pop, 1) := by decide +kernel
theorem d14_6 : own_D c_19 6 (.aload_n 0, 1) := by decide +kernel
theorem d14_7 : own_D c_19 7 (.areturn, 1) := by decide +kernel
def own_Q14_0_1 (Z : State) (a1 r2 v0 : Addr) (k0 : ClassId) (r9 : Addr) (bs : List Int32) (kq : ClassId) (pre : List Int32) (wc : Int32) (wD : Addr) (kD : ClassId) (h0 : Heap) (n0 : Nat) (v : Option Value) (h : Heap) (L : List Loc) : Prop := v = some (.ref a1) ∧ Fr n0 L ∧ Keep h0 h [a1, v0] ∧ Exa Z h a1 "java/lang/StringBuilder" ∧ Fld Z h a1 "java/lang/AbstractStringBuilder" "value" "[B" (.ref v0) ∧ Fld Z h a1 "java/lang/AbstractStringBuilder" "coder" "B" (.int 0) ∧ Fld Z h a1 "java/lang/AbstractStringBuilder" "count" "I" (.int 1) ∧ Arv Z h v0 k0 .byte (16 : Int32) (((pre ++ bs) ++ List.replicate 15 (0 : Int32)).map Value.int) (.int 0)
theorem own_rm14_0_1 (l Z a0) (hw : own_W a0 Z) (ws) (a1 r2 v0 : Addr) (k0 : ClassId) (r9 : Addr) (bs : List Int32) (kq : ClassId) (pre : List Int32) (wc : Int32) (wD : Addr) (kD : ClassId) (h0 : Heap) (n0 : Nat) (Z0 : n0 ≤ h0.size) (O0 : Old Z n0 h0) (SS : own_St Z wc wD kD) (hpre : pre.length = 0) (hbl : bs.length = 1) (E_a1 : Exa Z h0 a1 "java/lang/StringBuilder") (F_v : Fld Z h0 a1 "java/lang/AbstractStringBuilder" "value" "[B" (.ref v0)) (F_c : Fld Z h0 a1 "java/lang/AbstractStringBuilder" "coder" "B" (.int 0)) (F_n : Fld Z h0 a1 "java/lang/AbstractStringBuilder" "count" "I" (.int 0)) (V0 : Arv Z h0 v0 k0 .byte (16 : Int32) ((pre ++ List.replicate 16 (0 : Int32)).map Value.int) (.int 0)) (E_r2 : Exa Z h0 r2 "java/lang/String") (G_v : Fld Z h0 r2 "java/lang/String" "value" "[B" (.ref r9)) (G_c : Fld Z h0 r2 "java/lang/String" "coder" "B" (.int 0)) (V9 : Arv Z h0 r9 kq .byte (1 : Int32) ((bs).map Value.int) (.int 0)) (g_a1 : n0 ≤ a1) (ne_av : a1 ≠ v0) (ne_ar : a1 ≠ r2) (ne_a9 : a1 ≠ r9) (ne_rv : r2 ≠ v0) (ne_9v : r9 ≠ v0) (g_v0 : n0 ≤ v0) :
    own_M l Z ws mn_19 c_19 2 (some (.object "java/lang/StringBuilder")) rm_10 #[(.ref a1), (.ref r2)] h0 (own_Q14_0_1 Z a1 r2 v0 k0 r9 bs kq pre wc wD kD h0 n0) := by
  refine own_body (plainFor_of_name pn_12) (fun m => own_ef20 m a1 r2) ?_
  intro p e s m below meth c T0 X0 hx hby hml hZ hown hnm hret hlk e0
  have hown : s.vm.findClass "java/lang/StringBuilder" = some m.cls := hown
  have hnm : meth.name = "append" := hnm
  have N0 := Fr.nil n0
  have K0 : Keep h0 h0 [a1, v0] := Keep.refl _ _
  refine own_st _ (own_aloadN 1 X0 hx hby d14_0) ?_
  refine own_st _ (own_aloadN 2 X0 hx hby d14_1) ?_
  obtain ⟨_, _, ⟨T58, L58, k58, n58⟩, -, X58, ⟨Lc58, hQ58, l58, y58, z58⟩, st58⟩ := superBack X0 hx hZ (y := mn_18) hown (hw_93 hw) (own_samem (y := mn_18) (hw_94 hw) (y2 := mn_11) rfl (hw_153 hw) (by decide)) (hw_94 hw) (hw_95 hw) (by decide) (backOf (W := 0) (own_rm15_0_1 l Z a0 hw [] a1 r2 v0 k0 r9 bs kq pre wc wD kD h0 n0 Z0 O0 SS hpre hbl E_a1 F_v F_c F_n V0 E_r2 G_v G_c V9 g_a1 ne_av ne_ar ne_a9 ne_rv ne_9v g_v0) hZ (hw_97 hw) (hw_80 hw) (by decide) (by decide)) e0 (Ins.self E_a1) (g := (mkF m 2 #[rv a1, rv r2] [(.ref r2), (.ref a1)])) rfl (by rw [hml]; rfl) (hw_97 hw) (argsL := [(.ref r2)]) (rest := []) (lenOf pd_9 rfl) rfl own_z0 (hb hby d14_2) (fun _ _ => ⟨rfl, e0, (by decide : 0 + 0 ≤ _), (by decide : 0 + 0 ≤ _)⟩)
  dsimp only [Pt.U, Pt.locs, Pt.cells, Pt.slots] at X58 l58 y58 z58 st58 hQ58
  subst l58 y58 z58
  obtain ⟨rfl, Nq58, K58, Ex58, Fv58, Fc58, Fn58, V58⟩ := hQ58
  have N58 := Fr.app N0 Nq58
  have Kp58 : Keep h0 T58.heap [a1, v0] := K0.trans K58 (allS (Or.inl (List.mem_of_getElem? (i := 0) rfl)) (allS (Or.inl (List.mem_of_getElem? (i := 1) rfl)) all0))
  refine own_jump (g' := (mkF m 5 #[rv a1, rv r2] [(.ref a1)])) st58 ?_
  refine own_st _ (own_pop 6 X58 hx hby d14_5) ?_
  refine own_st _ (own_aloadN 7 X58 hx hby d14_6) ?_
  refine own_ret X58 hlk (v := some (.ref a1)) (fun h => by rw [hret] at h; cases h) (fun fs hr => X58.areturnOut hx (w := (.ref a1)) rfl hret rfl (hb hby d14_7) hr) ?_ (by decide) (by decide)
  show own_Q14_0_1 Z a1 r2 v0 k0 r9 bs kq pre wc wD kD h0 n0 _ T58.heap _
  exact ⟨rfl, N58, Kp58, Ex58, Fv58, Fc58, Fn58, V58⟩
theorem own_ef18_1_2 (m : MethodId) (a1 : Addr) : entryFrame m #[(.ref a1), (.int 3)] 3 = mkF m 0 #[rv a1, iv 3, .unset] [] := by first | (simp [entryFrame, mkF, argsToLocals, Value.category]; done) | rfl
def own_Q18_1_2 (Z : State) (a1 vb : Addr) (kb : ClassId) (es : List Int32) (h0 : Heap) (n0 : Nat) (v : Option Value) (h : Heap) (L : List Loc) : Prop := v = none ∧ Fr n0 L ∧ h = h0
theorem own_rm18_1_2 (l Z a0) (hw : own_W a0 Z) (ws) (a1 vb : Addr) (kb : ClassId) (es : List Int32) (h0 : Heap) (n0 : Nat) (Z0 : n0 ≤ h0.size) (E_a1 : Exa Z h0 a1 "java/lang/StringBuilder") (F_v : Fld Z h0 a1 "java/lang/AbstractStringBuilder" "value" "[B" (.ref vb)) (F_c : Fld Z h0 a1 "java/lang/AbstractStringBuilder" "coder" "B" (.int 0)) (V0 : Arv Z h0 vb kb .byte (16 : Int32) ((es).map Value.int) (.int 0)) :
    own_M l Z ws mn_15 c_15 3 none rm_0 #[(.ref a1), (.int 3)] h0 (own_Q18_1_2 Z a1 vb kb es h0 n0) := by
  refine own_body (plainFor_of_name pn_13) (fun m => own_ef18_1_2 m a1) ?_
  intro p e s m below meth c T0 X0 hx hby hml hZ hown hnm hret hlk e0
  have hown : s.vm.findClass "java/lang/AbstractStringBuilder" = some m.cls := hown
  have hnm : meth.name = "ensureCapacityInternal" := hnm
  have N0 := Fr.nil n0
  refine own_st _ (own_aloadN 1 X0 hx hby d18_0) ?_
  obtain ⟨T59, X59, e59, st59⟩ := getF X0 hx hZ hown (host := "") (Or.inl (hw_84 hw)) Via.refl e0 F_v (g := (mkF m 1 #[rv a1, iv 3, .unset] [(.ref a1)])) rfl rfl (hb hby d18_1)
  refine own_step (g' := (mkF m 4 #[rv a1, iv 3, .unset] [(.ref vb)])) st59 ?_
  obtain ⟨cl60, Ar60, -, S60, M60, -, -⟩ := id V0
  refine own_step (T' := T59) (g' := (mkF m 5 #[rv a1, iv 3, .unset] [(.int cl60.slots.size.toInt32)])) (X59.arraylength hx (by rw [e59]; exact Ar60.1) (State.isArrayOf_alike hZ.alike Ar60.2.1) (g := (mkF m 4 #[rv a1, iv 3, .unset] [(.ref vb)])) rfl rfl (hb hby d18_4)) ?_
  rw [len_of S60 M60]
  refine own_st _ (own_aloadN 6 X59 hx hby d18_5) ?_
  obtain ⟨T61, X61, e61, st61⟩ := getF X59 hx hZ hown (host := "") (Or.inl (hw_86 hw)) Via.refl e59 F_c (g := (mkF m 6 #[rv a1, iv 3, .unset] [(.ref a1), (.int 16)])) rfl rfl (hb hby d18_6)
  refine own_step (g' := (mkF m 9 #[rv a1, iv 3, .unset] [(.int 0), (.int 16)])) st61 ?_
  refine own_st _ (own_ishr 10 X61 hx hby d18_9) ?_
  rw [show ((16 : Int32) >>> ((0 : Int32) &&& 31)) = (16 : Int32) from by decide]
  refine own_st _ (own_istoreN 11 #[rv a1, iv 3, iv 16] X61 hx hby d18_10) ?_
  refine own_st _ (own_iloadN 12 X61 hx hby d18_11) ?_
  refine own_st _ (own_iloadN 13 X61 hx hby d18_12) ?_
  refine own_st _ (own_isub 14 X61 hx hby d18_13) ?_
  rw [show ((3 : Int32) - (16 : Int32)) = (-13 : Int32) from by decide]
  refine own_st _ (own_ifYes 38 X61 hx hby d18_14 ((if0 _ _).trans (flt (by decide : ¬ ((0 : Int32) < (-13 : Int32)))).2.2.2)) ?_
  refine own_ret X61 hlk (v := none) (fun _ => rfl) (fun fs hr => X61.returnOut hx hret (hb hby d18_38) hr) ?_ (by decide) (by decide)
  show own_Q18_1_2 Z a1 vb kb es h0 n0 _ T61.heap _
  rw [e61]
  exact ⟨rfl, N0, rfl⟩
theorem own_ef21_1_2 (m : MethodId) (a1 r2 : Addr) : entryFrame m #[(.ref a1), (.ref r2), (.int 1), (.int 0)] 4 = mkF m 0 #[rv a1, rv r2, iv 1, iv 0] [] := by first | (simp [entryFrame, mkF, argsToLocals, Value.category]; done) | rfl
def own_Q21_1_2 (Z : State) (a1 r2 r9 : Addr) (k2 : ClassId) (bs : List Int32) (kq : ClassId) (pre : List Int32) (wc : Int32) (wD : Addr) (kD : ClassId) (h0 : Heap) (n0 : Nat) (v : Option Value) (h : Heap) (L : List Loc) : Prop := v = none ∧ Fr n0 L ∧ Keep h0 h [r2] ∧ Arv Z h r2 k2 .byte (16 : Int32) (((pre ++ bs) ++ List.replicate 13 (0 : Int32)).map Value.int) (.int 0)
theorem own_rm21_1_2 (l Z a0) (hw : own_W a0 Z) (ws) (a1 r2 r9 : Addr) (k2 : ClassId) (bs : List Int32) (kq : ClassId) (pre : List Int32) (wc : Int32) (wD : Addr) (kD : ClassId) (h0 : Heap) (n0 : Nat) (Z0 : n0 ≤ h0.size) (O0 : Old Z n0 h0) (SS : own_St Z wc wD kD) (hpre : pre.length = 1) (hbl : bs.length = 2) (E_a1 : Exa Z h0 a1 "java/lang/String") (F_v : Fld Z h0 a1 "java/lang/String" "value" "[B" (.ref r9)) (F_c : Fld Z h0 a1 "java/lang/String" "coder" "B" (.int 0)) (V0 : Arv Z h0 r9 kq .byte (2 : Int32) ((bs).map Value.int) (.int 0)) (V2 : Arv Z h0 r2 k2 .byte (16 : Int32) ((pre ++ List.replicate 15 (0 : Int32)).map Value.int) (.int 0)) (g_r2 : n0 ≤ r2) (ne_92 : r9 ≠ r2) (ne_12 : a1 ≠ r2) :
    own_M l Z ws mn_16 c_16 4 none rm_7 #[(.ref a1), (.ref r2), (.int 1), (.int 0)] h0 (own_Q21_1_2 Z a1 r2 r9 k2 bs kq pre wc wD kD h0 n0) := by
  refine own_body (plainFor_of_name pn_10) (fun m => own_ef21_1_2 m a1 r2) ?_
  intro p e s m below meth c T0 X0 hx hby hml hZ hown hnm hret hlk e0
  have hown : s.vm.findClass "java/lang/String" = some m.cls := hown
  have hnm : meth.name = "getBytes" := hnm
  have N0 := Fr.nil n0
  have K0 : Keep h0 h0 [r2] := Keep.refl _ _
  refine own_st _ (own_aloadN 1 X0 hx hby d21_0) ?_
  obtain ⟨cq62, kq62, q62a, q62b, q62c⟩ := isOf hZ e0 E_a1
  obtain ⟨_, _, ⟨T62, L62, k62, n62⟩, -, X62, ⟨Lc62, hQ62, l62, y62, z62⟩, st62⟩ := X0.virtualBack hx (y := mn_6) (z := mn_6) hown (mvT hZ (hw_103 hw)) (mvT hZ (hw_104 hw)) (notFace_of_selects (args := #[]) (mvT hZ (hw_106 hw))) (mvT hZ (hw_106 hw)) (mvT hZ (hw_105 hw)) (by decide) (backOf (W := 0) (own_rm17 l Z a0 hw [] a1 wc wD kD h0 n0 Z0 O0 SS F_c) hZ (hw_107 hw) (hw_43 hw) (by decide) (by decide)) q62a q62c (g := (mkF m 1 #[rv a1, rv r2, iv 1, iv 0] [(.ref a1)])) rfl (by rw [hml]; rfl) (Steps.refl _) (argsL := []) (rest := []) (lenOf pd_4 rfl) rfl own_z0 (hb hby d21_1) (fun _ _ => ⟨rfl, e0, (by decide : 0 + 0 ≤ _), (by decide : 0 + 0 ≤ _)⟩)
  dsimp only [Pt.U, Pt.locs, Pt.cells, Pt.slots] at X62 l62 y62 z62 st62 hQ62
  subst l62 y62 z62
  obtain ⟨rfl, Nq62, e62⟩ := hQ62
  have N62 := Fr.app N0 Nq62
  refine own_jump (g' := (mkF m 4 #[rv a1, rv r2, iv 1, iv 0] [(.int 0)])) st62 ?_
  refine own_st _ (own_iloadN 5 X62 hx hby d21_4) ?_
  refine own_st _ (own_icmpNo 8 X62 hx hby d21_5 ((teq (by decide : (0 : Int32) = (0 : Int32))).2)) ?_
  refine own_st _ (own_aloadN 9 X62 hx hby d21_8) ?_
  obtain ⟨T63, X63, e63, st63⟩ := getF X62 hx hZ hown (host := "") (Or.inl (hw_61 hw)) Via.refl e62 F_v (g := (mkF m 9 #[rv a1, rv r2, iv 1, iv 0] [(.ref a1)])) rfl rfl (hb hby d21_9)
  refine own_step (g' := (mkF m 12 #[rv a1, rv r2, iv 1, iv 0] [(.ref r9)])) st63 ?_
  refine own_st _ (own_iconst 13 0 X63 hx hby d21_12) ?_
  refine own_st _ (own_aloadN 14 X63 hx hby d21_13) ?_
  refine own_st _ (own_iloadN 15 X63 hx hby d21_14) ?_
  refine own_st _ (own_iloadN 16 X63 hx hby d21_15) ?_
  refine own_st _ (own_ishl 17 X63 hx hby d21_16) ?_
  rw [show ((1 : Int32) <<< ((0 : Int32) &&& 31)) = (1 : Int32) from by decide]
  refine own_st _ (own_aloadN 18 X63 hx hby d21_17) ?_
  obtain ⟨T64, X64, e64, st64⟩ := getF X63 hx hZ hown (host := "") (Or.inl (hw_61 hw)) Via.refl e63 F_v (g := (mkF m 18 #[rv a1, rv r2, iv 1, iv 0] [(.ref a1), (.int 1), (.ref r2), (.int 0), (.ref r9)])) rfl rfl (hb hby d21_18)
  refine own_step (g' := (mkF m 21 #[rv a1, rv r2, iv 1, iv 0] [(.ref r9), (.int 1), (.ref r2), (.int 0), (.ref r9)])) st64 ?_
  obtain ⟨cl65, Ar65, -, S65, M65, -, -⟩ := id V0
  refine own_step (T' := T64) (g' := (mkF m 22 #[rv a1, rv r2, iv 1, iv 0] [(.int cl65.slots.size.toInt32), (.int 1), (.ref r2), (.int 0), (.ref r9)])) (X64.arraylength hx (by rw [e64]; exact Ar65.1) (State.isArrayOf_alike hZ.alike Ar65.2.1) (g := (mkF m 21 #[rv a1, rv r2, iv 1, iv 0] [(.ref r9), (.int 1), (.ref r2), (.int 0), (.ref r9)])) rfl rfl (hb hby d21_21)) ?_
  rw [len_of S65 M65]
  obtain ⟨T66, h66, Lc66, X66, e66, N66, K66, V66, st66⟩ := own_copyAt (pre := pre) (rs := List.replicate 15 (0 : Int32)) X64 hx hZ hown (hw_131 hw) (hw_134 hw) (hw_132 hw) (hw_133 hw) e64 V0 V2 (by rw [hpre]; rfl) (by rw [hbl]; rfl) (by rw [hbl]; rfl) (by simp [hpre]) (by rw [hbl]; simp) (n0 := n0) N62 g_r2 (g := (mkF m 22 #[rv a1, rv r2, iv 1, iv 0] [(.int 2), (.int 1), (.ref r2), (.int 0), (.ref r9)])) rfl (by rw [hml]; rfl) rfl (hb hby d21_22) (by decide) (W := 0) own_z0 (by decide)
  have Kp66 : Keep h0 h66 [r2] := K0.trans K66 (allS (Or.inl (List.mem_of_getElem? (i := 0) rfl)) all0)
  have Vr66 : Arv Z h66 r2 k2 .byte (16 : Int32) (((pre ++ bs) ++ List.replicate 13 (0 : Int32)).map Value.int) (.int 0) := by have q := V66; rw [hbl, List.drop_replicate] at q; exact q
  refine own_step (g' := (mkF m 25 #[rv a1, rv r2, iv 1, iv 0] [])) st66 ?_
  refine own_st _ (own_goto 43 X66 hx hby d21_25) ?_
  refine own_ret X66 hlk (v := none) (fun _ => rfl) (fun fs hr => X66.returnOut hx hret (hb hby d21_43) hr) ?_ (by decide) (by decide)
  show own_Q21_1_2 Z a1 r2 r9 k2 bs kq pre wc wD kD h0 n0 _ T66.heap _
  rw [e66]
  exact ⟨rfl, N66, Kp66, Vr66⟩
theorem own_ef19_1_2 (m : MethodId) (a1 r3 : Addr) : entryFrame m #[(.ref a1), (.int 1), (.ref r3)] 3 = mkF m 0 #[rv a1, iv 1, rv r3] [] := by first | (simp [entryFrame, mkF, argsToLocals, Value.category]; done) | rfl
def own_Q19_1_2 (Z : State) (a1 r3 vb : Addr) (kb : ClassId) (r9 : Addr) (bs : List Int32) (kq : ClassId) (pre : List Int32) (wc : Int32) (wD : Addr) (kD : ClassId) (h0 : Heap) (n0 : Nat) (v : Option Value) (h : Heap) (L : List Loc) : Prop := v = none ∧ Fr n0 L ∧ Keep h0 h [vb] ∧ Arv Z h vb kb .byte (16 : Int32) (((pre ++ bs) ++ List.replicate 13 (0 : Int32)).map Value.int) (.int 0)
theorem own_rm19_1_2 (l Z a0) (hw : own_W a0 Z) (ws) (a1 r3 vb : Addr) (kb : ClassId) (r9 : Addr) (bs : List Int32) (kq : ClassId) (pre : List Int32) (wc : Int32) (wD : Addr) (kD : ClassId) (h0 : Heap) (n0 : Nat) (Z0 : n0 ≤ h0.size) (O0 : Old Z n0 h0) (SS : own_St Z wc wD kD) (hpre : pre.length = 1) (hbl : bs.length = 2) (E_a1 : Exa Z h0 a1 "java/lang/StringBuilder") (F_v : Fld Z h0 a1 "java/lang/AbstractStringBuilder" "value" "[B" (.ref vb)) (F_c : Fld Z h0 a1 "java/lang/AbstractStringBuilder" "coder" "B" (.int 0)) (V0 : Arv Z h0 vb kb .byte (16 : Int32) ((pre ++ List.replicate 15 (0 : Int32)).map Value.int) (.int 0)) (E_r3 : Exa Z h0 r3 "java/lang/String") (G_v : Fld Z h0 r3 "java/lang/String" "value" "[B" (.ref r9)) (G_c : Fld Z h0 r3 "java/lang/String" "coder" "B" (.int 0)) (V9 : Arv Z h0 r9 kq .byte (2 : Int32) ((bs).map Value.int) (.int 0)) (g_vb : n0 ≤ vb) (ne_av : a1 ≠ vb) (ne_rv : r3 ≠ vb) (ne_9v : r9 ≠ vb) :
    own_M l Z ws mn_17 c_17 3 none rm_8 #[(.ref a1), (.int 1), (.ref r3)] h0 (own_Q19_1_2 Z a1 r3 vb kb r9 bs kq pre wc wD kD h0 n0) := by
  refine own_body (plainFor_of_name pn_13) (fun m => own_ef19_1_2 m a1 r3) ?_
  intro p e s m below meth c T0 X0 hx hby hml hZ hown hnm hret hlk e0
  have hown : s.vm.findClass "java/lang/AbstractStringBuilder" = some m.cls := hown
  have hnm : meth.name = "putStringAt" := hnm
  have N0 := Fr.nil n0
  have K0 : Keep h0 h0 [vb] := Keep.refl _ _
  refine own_st _ (own_aloadN 1 X0 hx hby d19_0) ?_
  refine own_st _ (own_aloadN 2 X0 hx hby d19_1) ?_
  obtain ⟨cq67, kq67, q67a, q67b, q67c⟩ := isOf hZ e0 E_a1
  obtain ⟨_, _, ⟨T67, L67, k67, n67⟩, -, X67, ⟨Lc67, hQ67, l67, y67, z67⟩, st67⟩ := X0.virtualBack hx (y := mn_10) (z := mn_10) hown (mvT hZ (hw_120 hw)) (mvT hZ (own_declares (hw_121 hw) (hw_124 hw))) (notFace_of_selects (args := #[]) (mvT hZ (hw_123 hw))) (mvT hZ (hw_123 hw)) (mvT hZ (hw_121 hw)) (by decide) (backOf (W := 0) (own_rm20 l Z a0 hw [] a1 r3 wc wD kD h0 n0 Z0 O0 SS F_c E_r3 G_c) hZ (hw_124 hw) (hw_80 hw) (by decide) (by decide)) q67a q67c (g := (mkF m 2 #[rv a1, iv 1, rv r3] [(.ref r3), (.ref a1)])) rfl (by rw [hml]; rfl) (Steps.refl _) (argsL := [(.ref r3)]) (rest := []) (lenOf pd_6 rfl) rfl own_z0 (hb hby d19_2) (fun _ _ => ⟨rfl, e0, (by decide : 0 + 0 ≤ _), (by decide : 0 + 0 ≤ _)⟩)
  dsimp only [Pt.U, Pt.locs, Pt.cells, Pt.slots] at X67 l67 y67 z67 st67 hQ67
  subst l67 y67 z67
  obtain ⟨rfl, Nq67, e67⟩ := hQ67
  have N67 := Fr.app N0 Nq67
  refine own_jump (g' := (mkF m 5 #[rv a1, iv 1, rv r3] [])) st67 ?_
  refine own_st _ (own_aloadN 6 X67 hx hby d19_5) ?_
  refine own_st _ (own_aloadN 7 X67 hx hby d19_6) ?_
  obtain ⟨T68, X68, e68, st68⟩ := getF X67 hx hZ hown (host := "") (Or.inl (hw_84 hw)) Via.refl e67 F_v (g := (mkF m 7 #[rv a1, iv 1, rv r3] [(.ref a1), (.ref r3)])) rfl rfl (hb hby d19_7)
  refine own_step (g' := (mkF m 10 #[rv a1, iv 1, rv r3] [(.ref vb), (.ref r3)])) st68 ?_
  refine own_st _ (own_iloadN 11 X68 hx hby d19_10) ?_
  refine own_st _ (own_aloadN 12 X68 hx hby d19_11) ?_
  obtain ⟨T69, X69, e69, st69⟩ := getF X68 hx hZ hown (host := "") (Or.inl (hw_86 hw)) Via.refl e68 F_c (g := (mkF m 12 #[rv a1, iv 1, rv r3] [(.ref a1), (.int 1), (.ref vb), (.ref r3)])) rfl rfl (hb hby d19_12)
  refine own_step (g' := (mkF m 15 #[rv a1, iv 1, rv r3] [(.int 0), (.int 1), (.ref vb), (.ref r3)])) st69 ?_
  obtain ⟨cq70, kq70, q70a, q70b, q70c⟩ := isOf hZ e69 E_r3
  obtain ⟨_, _, ⟨T70, L70, k70, n70⟩, -, X70, ⟨Lc70, hQ70, l70, y70, z70⟩, st70⟩ := X69.virtualBack hx (y := mn_16) (z := mn_16) hown (mvT hZ (hw_126 hw)) (mvT hZ (hw_127 hw)) (notFace_of_selects (args := #[]) (mvT hZ (hw_129 hw))) (mvT hZ (hw_129 hw)) (mvT hZ (hw_128 hw)) (by decide) (backOf (W := 0) (own_rm21_1_2 l Z a0 hw [] r3 vb r9 kb bs kq pre wc wD kD h0 n0 Z0 O0 SS hpre hbl E_r3 G_v G_c V9 V0 g_vb ne_9v ne_rv) hZ (hw_130 hw) (hw_43 hw) (by decide) (by decide)) q70a q70c (g := (mkF m 15 #[rv a1, iv 1, rv r3] [(.int 0), (.int 1), (.ref vb), (.ref r3)])) rfl (by rw [hml]; rfl) (Steps.refl _) (argsL := [(.ref vb), (.int 1), (.int 0)]) (rest := []) (lenOf pd_7 rfl) rfl own_z0 (hb hby d19_15) (fun _ _ => ⟨rfl, e69, (by decide : 0 + 0 ≤ _), (by decide : 0 + 0 ≤ _)⟩)
  dsimp only [Pt.U, Pt.locs, Pt.cells, Pt.slots] at X70 l70 y70 z70 st70 hQ70
  subst l70 y70 z70
  obtain ⟨rfl, Nq70, K70, V70⟩ := hQ70
  have N70 := Fr.app N67 Nq70
  have Kp70 : Keep h0 T70.heap [vb] := K0.trans K70 (allS (Or.inl (List.mem_of_getElem? (i := 0) rfl)) all0)
  refine own_jump (g' := (mkF m 18 #[rv a1, iv 1, rv r3] [])) st70 ?_
  refine own_ret X70 hlk (v := none) (fun _ => rfl) (fun fs hr => X70.returnOut hx hret (hb hby d19_18) hr) ?_ (by decide) (by decide)
  show own_Q19_1_2 Z a1 r3 vb kb r9 bs kq pre wc wD kD h0 n0 _ T70.heap _
  exact ⟨rfl, N70, Kp70, V70⟩
def own_Q15_1_2 (Z : State) (a1 r2 v0 : Addr) (k0 : ClassId) (r9 : Addr) (bs : List Int32) (kq : ClassId) (pre : List Int32) (wc : Int32) (wD : Addr) (kD : ClassId) (h0 : Heap) (n0 : Nat) (v : Option Value) (h : Heap) (L : List Loc) : Prop := v = some (.ref a1) ∧ Fr n0 L ∧ Keep h0 h [a1, v0] ∧ Exa Z h a1 "java/lang/StringBuilder" ∧ Fld Z h a1 "java/lang/AbstractStringBuilder" "value" "[B" (.ref v0) ∧ Fld Z h a1 "java/lang/AbstractStringBuilder" "coder" "B" (.int 0) ∧ Fld Z h a1 "java/lang/AbstractStringBuilder" "count" "I" (.int 3) ∧ Arv Z h v0 k0 .byte (16 : Int32) (((pre ++ bs) ++ List.replicate 13 (0 : Int32)).map Value.int) (.int 0)
theorem own_rm15_1_2 (l Z a0) (hw : own_W a0 Z) (ws) (a1 r2 v0 : Addr) (k0 : ClassId) (r9 : Addr) (bs : List Int32) (kq : ClassId) (pre : List Int32) (wc : Int32) (wD : Addr) (kD : ClassId) (h0 : Heap) (n0 : Nat) (Z0 : n0 ≤ h0.size) (O0 : Old Z n0 h0) (SS : own_St Z wc wD kD) (hpre : pre.length = 1) (hbl : bs.length = 2) (E_a1 : Exa Z h0 a1 "java/lang/StringBuilder") (F_v : Fld Z h0 a1 "java/lang/AbstractStringBuilder" "value" "[B" (.ref v0)) (F_c : Fld Z h0 a1 "java/lang/AbstractStringBuilder" "coder" "B" (.int 0)) (F_n : Fld Z h0 a1 "java/lang/AbstractStringBuilder" "count" "I" (.int 1)) (V0 : Arv Z h0 v0 k0 .byte (16 : Int32) ((pre ++ List.replicate 15 (0 : Int32)).map Value.int) (.int 0)) (E_r2 : Exa Z h0 r2 "java/lang/String") (G_v : Fld Z h0 r2 "java/lang/String" "value" "[B" (.ref r9)) (G_c : Fld Z h0 r2 "java/lang/String" "coder" "B" (.int 0)) (V9 : Arv Z h0 r9 kq .byte (2 : Int32) ((bs).map Value.int) (.int 0)) (g_a1 : n0 ≤ a1) (ne_av : a1 ≠ v0) (ne_ar : a1 ≠ r2) (ne_a9 : a1 ≠ r9) (ne_rv : r2 ≠ v0) (ne_9v : r9 ≠ v0) (g_v0 : n0 ≤ v0) :
    own_M l Z ws mn_18 c_18 3 (some (.object "java/lang/AbstractStringBuilder")) rm_9 #[(.ref a1), (.ref r2)] h0 (own_Q15_1_2 Z a1 r2 v0 k0 r9 bs kq pre wc wD kD h0 n0) := by
  refine own_body (plainFor_of_name pn_13) (fun m => own_ef15_0_1 m a1 r2) ?_
  intro p e s m below meth c T0 X0 hx hby hml hZ hown hnm hret hlk e0
  have hown : s.vm.findClass "java/lang/AbstractStringBuilder" = some m.cls := hown
  have hnm : meth.name = "append" := hnm
  have N0 := Fr.nil n0
  have K0 : Keep h0 h0 [a1, v0] := Keep.refl _ _
  refine own_st _ (own_aloadN 1 X0 hx hby d15_0) ?_
  refine own_st _ (own_ifnonnullYes 9 X0 hx hby d15_1) ?_
  refine own_st _ (own_aloadN 10 X0 hx hby d15_9) ?_
  obtain ⟨cq71, kq71, q71a, q71b, q71c⟩ := isOf hZ e0 E_r2
  obtain ⟨_, _, ⟨T71, L71, k71, n71⟩, -, X71, ⟨Lc71, hQ71, l71, y71, z71⟩, st71⟩ := X0.virtualBack hx (y := mn_14) (z := mn_14) hown (mvT hZ (hw_98 hw)) (mvT hZ (hw_99 hw)) (notFace_of_selects (args := #[]) (mvT hZ (hw_101 hw))) (mvT hZ (hw_101 hw)) (mvT hZ (hw_100 hw)) (by decide) (backOf (W := 0) (own_rm16_2 l Z a0 hw [] r2 r9 bs kq wc wD kD h0 n0 Z0 O0 SS E_r2 G_v G_c V9) hZ (hw_102 hw) (hw_43 hw) (by decide) (by decide)) q71a q71c (g := (mkF m 10 #[rv a1, rv r2, .unset] [(.ref r2)])) rfl (by rw [hml]; rfl) (Steps.refl _) (argsL := []) (rest := []) (lenOf pd_5 rfl) rfl own_z0 (hb hby d15_10) (fun _ _ => ⟨rfl, e0, (by decide : 0 + 0 ≤ _), (by decide : 0 + 0 ≤ _)⟩)
  dsimp only [Pt.U, Pt.locs, Pt.cells, Pt.slots] at X71 l71 y71 z71 st71 hQ71
  subst l71 y71 z71
  obtain ⟨rfl, Nq71, e71⟩ := hQ71
  have N71 := Fr.app N0 Nq71
  refine own_jump (g' := (mkF m 13 #[rv a1, rv r2, .unset] [(.int 2)])) st71 ?_
  refine own_st _ (own_istoreN 14 #[rv a1, rv r2, iv 2] X71 hx hby d15_13) ?_
  refine own_st _ (own_aloadN 15 X71 hx hby d15_14) ?_
  refine own_st _ (own_aloadN 16 X71 hx hby d15_15) ?_
  obtain ⟨T72, X72, e72, st72⟩ := getF X71 hx hZ hown (host := "") (Or.inl (hw_108 hw)) Via.refl e71 F_n (g := (mkF m 16 #[rv a1, rv r2, iv 2] [(.ref a1), (.ref a1)])) rfl rfl (hb hby d15_16)
  refine own_step (g' := (mkF m 19 #[rv a1, rv r2, iv 2] [(.int 1), (.ref a1)])) st72 ?_
  refine own_st _ (own_iloadN 20 X72 hx hby d15_19) ?_
  refine own_st _ (own_iadd 21 X72 hx hby d15_20) ?_
  rw [show ((1 : Int32) + (2 : Int32)) = (3 : Int32) from by decide]
  obtain ⟨cq73, kq73, q73a, q73b, q73c⟩ := isOf hZ e72 E_a1
  obtain ⟨_, _, ⟨T73, L73, k73, n73⟩, -, X73, ⟨Lc73, hQ73, l73, y73, z73⟩, st73⟩ := X72.virtualBack hx (y := mn_15) (z := mn_15) hown (mvT hZ (hw_110 hw)) (mvT hZ (own_declares (hw_111 hw) (hw_114 hw))) (notFace_of_selects (args := #[]) (mvT hZ (hw_113 hw))) (mvT hZ (hw_113 hw)) (mvT hZ (hw_111 hw)) (by decide) (backOf (W := 0) (own_rm18_1_2 l Z a0 hw [] a1 v0 k0 (pre ++ List.replicate 15 (0 : Int32)) h0 n0 Z0 E_a1 F_v F_c V0) hZ (hw_114 hw) (hw_80 hw) (by decide) (by decide)) q73a q73c (g := (mkF m 21 #[rv a1, rv r2, iv 2] [(.int 3), (.ref a1)])) rfl (by rw [hml]; rfl) (Steps.refl _) (argsL := [(.int 3)]) (rest := []) (lenOf pd_3 rfl) rfl own_z0 (hb hby d15_21) (fun _ _ => ⟨rfl, e72, (by decide : 0 + 0 ≤ _), (by decide : 0 + 0 ≤ _)⟩)
  dsimp only [Pt.U, Pt.locs, Pt.cells, Pt.slots] at X73 l73 y73 z73 st73 hQ73
  subst l73 y73 z73
  obtain ⟨rfl, Nq73, e73⟩ := hQ73
  have N73 := Fr.app N71 Nq73
  refine own_jump (g' := (mkF m 24 #[rv a1, rv r2, iv 2] [])) st73 ?_
  refine own_st _ (own_aloadN 25 X73 hx hby d15_24) ?_
  refine own_st _ (own_aloadN 26 X73 hx hby d15_25) ?_
  obtain ⟨T74, X74, e74, st74⟩ := getF X73 hx hZ hown (host := "") (Or.inl (hw_108 hw)) Via.refl e73 F_n (g := (mkF m 26 #[rv a1, rv r2, iv 2] [(.ref a1), (.ref a1)])) rfl rfl (hb hby d15_26)
  refine own_step (g' := (mkF m 29 #[rv a1, rv r2, iv 2] [(.int 1), (.ref a1)])) st74 ?_
  refine own_st _ (own_aloadN 30 X74 hx hby d15_29) ?_
  obtain ⟨cq75, kq75, q75a, q75b, q75c⟩ := isOf hZ e74 E_a1
  obtain ⟨_, _, ⟨T75, L75, k75, n75⟩, -, X75, ⟨Lc75, hQ75, l75, y75, z75⟩, st75⟩ := X74.virtualBack hx (y := mn_17) (z := mn_17) hown (mvT hZ (hw_115 hw)) (mvT hZ (own_declares (hw_116 hw) (hw_119 hw))) (notFace_of_selects (args := #[]) (mvT hZ (hw_118 hw))) (mvT hZ (hw_118 hw)) (mvT hZ (hw_116 hw)) (by decide) (backOf (W := 0) (own_rm19_1_2 l Z a0 hw [] a1 r2 v0 k0 r9 bs kq pre wc wD kD h0 n0 Z0 O0 SS hpre hbl E_a1 F_v F_c V0 E_r2 G_v G_c V9 g_v0 ne_av ne_rv ne_9v) hZ (hw_119 hw) (hw_80 hw) (by decide) (by decide)) q75a q75c (g := (mkF m 30 #[rv a1, rv r2, iv 2] [(.ref r2), (.int 1), (.ref a1)])) rfl (by rw [hml]; rfl) (Steps.refl _) (argsL := [(.int 1), (.ref r2)]) (rest := []) (lenOf pd_8 rfl) rfl own_z0 (hb hby d15_30) (fun _ _ => ⟨rfl, e74, (by decide : 0 + 0 ≤ _), (by decide : 0 + 0 ≤ _)⟩)
  dsimp only [Pt.U, Pt.locs, Pt.cells, Pt.slots] at X75 l75 y75 z75 st75 hQ75
  subst l75 y75 z75
  obtain ⟨rfl, Nq75, K75, V75⟩ := hQ75
  have N75 := Fr.app N73 Nq75
  have Kp75 : Keep h0 T75.heap [a1, v0] := K0.trans K75 (allS (Or.inl (List.mem_of_getElem? (i := 1) rfl)) all0)
  have u1 := E_a1.keep K75
  have u2 := F_v.keep K75 (ninS ne_av nin0)
  have u3 := F_c.keep K75 (ninS ne_av nin0)
  have u4 := F_n.keep K75 (ninS ne_av nin0)
  refine own_jump (g' := (mkF m 33 #[rv a1, rv r2, iv 2] [])) st75 ?_
  refine own_st _ (own_aloadN 34 X75 hx hby d15_33) ?_
  refine own_st _ (own_dup 35 X75 hx hby d15_34) ?_
  obtain ⟨T76, X76, e76, st76⟩ := getF X75 hx hZ hown (host := "") (Or.inl (hw_108 hw)) Via.refl rfl u4 (g := (mkF m 35 #[rv a1, rv r2, iv 2] [(.ref a1), (.ref a1)])) rfl rfl (hb hby d15_35)
  refine own_step (g' := (mkF m 38 #[rv a1, rv r2, iv 2] [(.int 1), (.ref a1)])) st76 ?_
  refine own_st _ (own_iloadN 39 X76 hx hby d15_38) ?_
  refine own_st _ (own_iadd 40 X76 hx hby d15_39) ?_
  rw [show ((1 : Int32) + (2 : Int32)) = (3 : Int32) from by decide]
  obtain ⟨T77, h77, X77, e77, W77, st77⟩ := putF X76 hx hZ hown (host := "") (Or.inl (hw_108 hw)) Via.refl e76 u4 u1 (Or.inl (hw_109 hw)) (hw_71 hw) (ty := .int) (by decide) rfl rfl (g := (mkF m 40 #[rv a1, rv r2, iv 2] [(.int 3), (.ref a1)])) rfl rfl (hb hby d15_40)
  have u9 := u1.wr W77
  have u10 := u2.other W77 (Or.inr (slot_ne (a0 := a0) (C := "java/lang/StringBuilder") (Or.inl (hw_85 hw)) (Or.inl (hw_109 hw)) (by decide) (t := (.array .byte)) (t' := .int) (by decide) (by decide)))
  have u11 := u3.other W77 (Or.inr (slot_ne (a0 := a0) (C := "java/lang/StringBuilder") (Or.inl (hw_87 hw)) (Or.inl (hw_109 hw)) (by decide) (t := .byte) (t' := .int) (by decide) (by decide)))
  have u16 := V75.other W77 (Ne.symm ne_av)
  have fw77 : Fld Z h77 a1 "java/lang/AbstractStringBuilder" "count" "I" (.int 3) := u4.same W77
  have Kp77 : Keep h0 h77 [a1, v0] := Kp75.wr W77 (Or.inl (List.mem_of_getElem? (i := 0) rfl))
  have N77 := Fr.snoc X77 N75 g_a1
  refine own_step (g' := (mkF m 43 #[rv a1, rv r2, iv 2] [])) st77 ?_
  refine own_st _ (own_aloadN 44 X77 hx hby d15_43) ?_
  refine own_ret X77 hlk (v := some (.ref a1)) (fun h => by rw [hret] at h; cases h) (fun fs hr => X77.areturnOut hx (w := (.ref a1)) rfl hret rfl (hb hby d15_44) hr) ?_ (by decide) (by decide)
  show own_Q15_1_2 Z a1 r2 v0 k0 r9 bs kq pre wc wD kD h0 n0 _ T77.heap _
  rw [e77]
  exact ⟨rfl, N77, Kp77, u9, u10, u11, fw77, u16⟩
def own_Q14_1_2 (Z : State) (a1 r2 v0 : Addr) (k0 : ClassId) (r9 : Addr) (bs : List Int32) (kq : ClassId) (pre : List Int32) (wc : Int32) (wD : Addr) (kD : ClassId) (h0 : Heap) (n0 : Nat) (v : Option Value) (h : Heap) (L : List Loc) : Prop := v = some (.ref a1) ∧ Fr n0 L ∧ Keep h0 h [a1, v0] ∧ Exa Z h a1 "java/lang/StringBuilder" ∧ Fld Z h a1 "java/lang/AbstractStringBuilder" "value" "[B" (.ref v0) ∧ Fld Z h a1 "java/lang/AbstractStringBuilder" "coder" "B" (.int 0) ∧ Fld Z h a1 "java/lang/AbstractStringBuilder" "count" "I" (.int 3) ∧ Arv Z h v0 k0 .byte (16 : Int32) (((pre ++ bs) ++ List.replicate 13 (0 : Int32)).map Value.int) (.int 0)
theorem own_rm14_1_2 (l Z a0) (hw : own_W a0 Z) (ws) (a1 r2 v0 : Addr) (k0 : ClassId) (r9 : Addr) (bs : List Int32) (kq : ClassId) (pre : List Int32) (wc : Int32) (wD : Addr) (kD : ClassId) (h0 : Heap) (n0 : Nat) (Z0 : n0 ≤ h0.size) (O0 : Old Z n0 h0) (SS : own_St Z wc wD kD) (hpre : pre.length = 1) (hbl : bs.length = 2) (E_a1 : Exa Z h0 a1 "java/lang/StringBuilder") (F_v : Fld Z h0 a1 "java/lang/AbstractStringBuilder" "value" "[B" (.ref v0)) (F_c : Fld Z h0 a1 "java/lang/AbstractStringBuilder" "coder" "B" (.int 0)) (F_n : Fld Z h0 a1 "java/lang/AbstractStringBuilder" "count" "I" (.int 1)) (V0 : Arv Z h0 v0 k0 .byte (16 : Int32) ((pre ++ List.replicate 15 (0 : Int32)).map Value.int) (.int 0)) (E_r2 : Exa Z h0 r2 "java/lang/String") (G_v : Fld Z h0 r2 "java/lang/String" "value" "[B" (.ref r9)) (G_c : Fld Z h0 r2 "java/lang/String" "coder" "B" (.int 0)) (V9 : Arv Z h0 r9 kq .byte (2 : Int32) ((bs).map Value.int) (.int 0)) (g_a1 : n0 ≤ a1) (ne_av : a1 ≠ v0) (ne_ar : a1 ≠ r2) (ne_a9 : a1 ≠ r9) (ne_rv : r2 ≠ v0) (ne_9v : r9 ≠ v0) (g_v0 : n0 ≤ v0) :
    own_M l Z ws mn_19 c_19 2 (some (.object "java/lang/StringBuilder")) rm_10 #[(.ref a1), (.ref r2)] h0 (own_Q14_1_2 Z a1 r2 v0 k0 r9 bs kq pre wc wD kD h0 n0) := by
  refine own_body (plainFor_of_name pn_12) (fun m => own_ef20 m a1 r2) ?_
  intro p e s m below meth c T0 X0 hx hby hml hZ hown hnm hret hlk e0
  have hown : s.vm.findClass "java/lang/StringBuilder" = some m.cls := hown
  have hnm : meth.name = "append" := hnm
  have N0 := Fr.nil n0
  have K0 : Keep h0 h0 [a1, v0] := Keep.refl _ _
  refine own_st _ (own_aloadN 1 X0 hx hby d14_0) ?_
  refine own_st _ (own_aloadN 2 X0 hx hby d14_1) ?_
  obtain ⟨_, _, ⟨T78, L78, k78, n78⟩, -, X78, ⟨Lc78, hQ78, l78, y78, z78⟩, st78⟩ := superBack X0 hx hZ (y := mn_18) hown (hw_93 hw) (own_samem (y := mn_18) (hw_94 hw) (y2 := mn_11) rfl (hw_153 hw) (by decide)) (hw_94 hw) (hw_95 hw) (by decide) (backOf (W := 0) (own_rm15_1_2 l Z a0 hw [] a1 r2 v0 k0 r9 bs kq pre wc wD kD h0 n0 Z0 O0 SS hpre hbl E_a1 F_v F_c F_n V0 E_r2 G_v G_c V9 g_a1 ne_av ne_ar ne_a9 ne_rv ne_9v g_v0) hZ (hw_97 hw) (hw_80 hw) (by decide) (by decide)) e0 (Ins.self E_a1) (g := (mkF m 2 #[rv a1, rv r2] [(.ref r2), (.ref a1)])) rfl (by rw [hml]; rfl) (hw_97 hw) (argsL := [(.ref r2)]) (rest := []) (lenOf pd_9 rfl) rfl own_z0 (hb hby d14_2) (fun _ _ => ⟨rfl, e0, (by decide : 0 + 0 ≤ _), (by decide : 0 + 0 ≤ _)⟩)
  dsimp only [Pt.U, Pt.locs, Pt.cells, Pt.slots] at X78 l78 y78 z78 st78 hQ78
  subst l78 y78 z78
  obtain ⟨rfl, Nq78, K78, Ex78, Fv78, Fc78, Fn78, V78⟩ := hQ78
  have N78 := Fr.app N0 Nq78
  have Kp78 : Keep h0 T78.heap [a1, v0] := K0.trans K78 (allS (Or.inl (List.mem_of_getElem? (i := 0) rfl)) (allS (Or.inl (List.mem_of_getElem? (i := 1) rfl)) all0))
  refine own_jump (g' := (mkF m 5 #[rv a1, rv r2] [(.ref a1)])) st78 ?_
  refine own_st _ (own_pop 6 X78 hx hby d14_5) ?_
  refine own_st _ (own_aloadN 7 X78 hx hby d14_6) ?_
  refine own_ret X78 hlk (v := some (.ref a1)) (fun h => by rw [hret] at h; cases h) (fun fs hr => X78.areturnOut hx (w := (.ref a1)) rfl hret rfl (hb hby d14_7) hr) ?_ (by decide) (by decide)
  show own_Q14_1_2 Z a1 r2 v0 k0 r9 bs kq pre wc wD kD h0 n0 _ T78.heap _
  exact ⟨rfl, N78, Kp78, Ex78, Fv78, Fc78, Fn78, V78⟩
theorem own_ef18_3_1 (m : MethodId) (a1 : Addr) : entryFrame m #[(.ref a1), (.int 4)] 3 = mkF m 0 #[rv a1, iv 4, .unset] [] := by first | (simp [entryFrame, mkF, argsToLocals, Value.category]; done) | rfl
def own_Q18_3_1 (Z : State) (a1 vb : Addr) (kb : ClassId) (es : List Int32) (h0 : Heap) (n0 : Nat) (v : Option Value) (h : Heap) (L : List Loc) : Prop := v = none ∧ Fr n0 L ∧ h = h0
theorem own_rm18_3_1 (l Z a0) (hw : own_W a0 Z) (ws) (a1 vb : Addr) (kb : ClassId) (es : List Int32) (h0 : Heap) (n0 : Nat) (Z0 : n0 ≤ h0.size) (E_a1 : Exa Z h0 a1 "java/lang/StringBuilder") (F_v : Fld Z h0 a1 "java/lang/AbstractStringBuilder" "value" "[B" (.ref vb)) (F_c : Fld Z h0 a1 "java/lang/AbstractStringBuilder" "coder" "B" (.int 0)) (V0 : Arv Z h0 vb kb .byte (16 : Int32) ((es).map Value.int) (.int 0)) :
    own_M l Z ws mn_15 c_15 3 none rm_0 #[(.ref a1), (.int 4)] h0 (own_Q18_3_1 Z a1 vb kb es h0 n0) := by
  refine own_body (plainFor_of_name pn_13) (fun m => own_ef18_3_1 m a1) ?_
  intro p e s m below meth c T0 X0 hx hby hml hZ hown hnm hret hlk e0
  have hown : s.vm.findClass "java/lang/AbstractStringBuilder" = some m.cls := hown
  have hnm : meth.name = "ensureCapacityInternal" := hnm
  have N0 := Fr.nil n0
  refine own_st _ (own_aloadN 1 X0 hx hby d18_0) ?_
  obtain ⟨T79, X79, e79, st79⟩ := getF X0 hx hZ hown (host := "") (Or.inl (hw_84 hw)) Via.refl e0 F_v (g := (mkF m 1 #[rv a1, iv 4, .unset] [(.ref a1)])) rfl rfl (hb hby d18_1)
  refine own_step (g' := (mkF m 4 #[rv a1, iv 4, .unset] [(.ref vb)])) st79 ?_
  obtain ⟨cl80, Ar80, -, S80, M80, -, -⟩ := id V0
  refine own_step (T' := T79) (g' := (mkF m 5 #[rv a1, iv 4, .unset] [(.int cl80.slots.size.toInt32)])) (X79.arraylength hx (by rw [e79]; exact Ar80.1) (State.isArrayOf_alike hZ.alike Ar80.2.1) (g := (mkF m 4 #[rv a1, iv 4, .unset] [(.ref vb)])) rfl rfl (hb hby d18_4)) ?_
  rw [len_of S80 M80]
  refine own_st _ (own_aloadN 6 X79 hx hby d18_5) ?_
  obtain ⟨T81, X81, e81, st81⟩ := getF X79 hx hZ hown (host := "") (Or.inl (hw_86 hw)) Via.refl e79 F_c (g := (mkF m 6 #[rv a1, iv 4, .unset] [(.ref a1), (.int 16)])) rfl rfl (hb hby d18_6)
  refine own_step (g' := (mkF m 9 #[rv a1, iv 4, .unset] [(.int 0), (.int 16)])) st81 ?_
  refine own_st _ (own_ishr 10 X81 hx hby d18_9) ?_
  rw [show ((16 : Int32) >>> ((0 : Int32) &&& 31)) = (16 : Int32) from by decide]
  refine own_st _ (own_istoreN 11 #[rv a1, iv 4, iv 16] X81 hx hby d18_10) ?_
  refine own_st _ (own_iloadN 12 X81 hx hby d18_11) ?_
  refine own_st _ (own_iloadN 13 X81 hx hby d18_12) ?_
  refine own_st _ (own_isub 14 X81 hx hby d18_13) ?_
  rw [show ((4 : Int32) - (16 : Int32)) = (-12 : Int32) from by decide]
  refine own_st _ (own_ifYes 38 X81 hx hby d18_14 ((if0 _ _).trans (flt (by decide : ¬ ((0 : Int32) < (-12 : Int32)))).2.2.2)) ?_
  refine own_ret X81 hlk (v := none) (fun _ => rfl) (fun fs hr => X81.returnOut hx hret (hb hby d18_38) hr) ?_ (by decide) (by decide)
  show own_Q18_3_1 Z a1 vb kb es h0 n0 _ T81.heap _
  rw [e81]
  exact ⟨rfl, N0, rfl⟩
theorem own_ef21_3_1 (m : MethodId) (a1 r2 : Addr) : entryFrame m #[(.ref a1), (.ref r2), (.int 3), (.int 0)] 4 = mkF m 0 #[rv a1, rv r2, iv 3, iv 0] [] := by first | (simp [entryFrame, mkF, argsToLocals, Value.category]; done) | rfl
def own_Q21_3_1 (Z : State) (a1 r2 r9 : Addr) (k2 : ClassId) (bs : List Int32) (kq : ClassId) (pre : List Int32) (wc : Int32) (wD : Addr) (kD : ClassId) (h0 : Heap) (n0 : Nat) (v : Option Value) (h : Heap) (L : List Loc) : Prop := v = none ∧ Fr n0 L ∧ Keep h0 h [r2] ∧ Arv Z h r2 k2 .byte (16 : Int32) (((pre ++ bs) ++ List.replicate 12 (0 : Int32)).map Value.int) (.int 0)
theorem own_rm21_3_1 (l Z a0) (hw : own_W a0 Z) (ws) (a1 r2 r9 : Addr) (k2 : ClassId) (bs : List Int32) (kq : ClassId) (pre : List Int32) (wc : Int32) (wD : Addr) (kD : ClassId) (h0 : Heap) (n0 : Nat) (Z0 : n0 ≤ h0.size) (O0 : Old Z n0 h0) (SS : own_St Z wc wD kD) (hpre : pre.length = 3) (hbl : bs.length = 1) (E_a1 : Exa Z h0 a1 "java/lang/String") (F_v : Fld Z h0 a1 "java/lang/String" "value" "[B" (.ref r9)) (F_c : Fld Z h0 a1 "java/lang/String" "coder" "B" (.int 0)) (V0 : Arv Z h0 r9 kq .byte (1 : Int32) ((bs).map Value.int) (.int 0)) (V2 : Arv Z h0 r2 k2 .byte (16 : Int32) ((pre ++ List.replicate 13 (0 : Int32)).map Value.int) (.int 0)) (g_r2 : n0 ≤ r2) (ne_92 : r9 ≠ r2) (ne_12 : a1 ≠ r2) :
    own_M l Z ws mn_16 c_16 4 none rm_7 #[(.ref a1), (.ref r2), (.int 3), (.int 0)] h0 (own_Q21_3_1 Z a1 r2 r9 k2 bs kq pre wc wD kD h0 n0) := by
  refine own_body (plainFor_of_name pn_10) (fun m => own_ef21_3_1 m a1 r2) ?_
  intro p e s m below meth c T0 X0 hx hby hml hZ hown hnm hret hlk e0
  have hown : s.vm.findClass "java/lang/String" = some m.cls := hown
  have hnm : meth.name = "getBytes" := hnm
  have N0 := Fr.nil n0
  have K0 : Keep h0 h0 [r2] := Keep.refl _ _
  refine own_st _ (own_aloadN 1 X0 hx hby d21_0) ?_
  obtain ⟨cq82, kq82, q82a, q82b, q82c⟩ := isOf hZ e0 E_a1
  obtain ⟨_, _, ⟨T82, L82, k82, n82⟩, -, X82, ⟨Lc82, hQ82, l82, y82, z82⟩, st82⟩ := X0.virtualBack hx (y := mn_6) (z := mn_6) hown (mvT hZ (hw_103 hw)) (mvT hZ (hw_104 hw)) (notFace_of_selects (args := #[]) (mvT hZ (hw_106 hw))) (mvT hZ (hw_106 hw)) (mvT hZ (hw_105 hw)) (by decide) (backOf (W := 0) (own_rm17 l Z a0 hw [] a1 wc wD kD h0 n0 Z0 O0 SS F_c) hZ (hw_107 hw) (hw_43 hw) (by decide) (by decide)) q82a q82c (g := (mkF m 1 #[rv a1, rv r2, iv 3, iv 0] [(.ref a1)])) rfl (by rw [hml]; rfl) (Steps.refl _) (argsL := []) (rest := []) (lenOf pd_4 rfl) rfl own_z0 (hb hby d21_1) (fun _ _ => ⟨rfl, e0, (by decide : 0 + 0 ≤ _), (by decide : 0 + 0 ≤ _)⟩)
  dsimp only [Pt.U, Pt.locs, Pt.cells, Pt.slots] at X82 l82 y82 z82 st82 hQ82
  subst l82 y82 z82
  obtain ⟨rfl, Nq82, e82⟩ := hQ82
  have N82 := Fr.app N0 Nq82
  refine own_jump (g' := (mkF m 4 #[rv a1, rv r2, iv 3, iv 0] [(.int 0)])) st82 ?_
  refine own_st _ (own_iloadN 5 X82 hx hby d21_4) ?_
  refine own_st _ (own_icmpNo 8 X82 hx hby d21_5 ((teq (by decide : (0 : Int32) = (0 : Int32))).2)) ?_
  refine own_st _ (own_aloadN 9 X82 hx hby d21_8) ?_
  obtain ⟨T83, X83, e83, st83⟩ := getF X82 hx hZ hown (host := "") (Or.inl (hw_61 hw)) Via.refl e82 F_v (g := (mkF m 9 #[rv a1, rv r2, iv 3, iv 0] [(.ref a1)])) rfl rfl (hb hby d21_9)
  refine own_step (g' := (mkF m 12 #[rv a1, rv r2, iv 3, iv 0] [(.ref r9)])) st83 ?_
  refine own_st _ (own_iconst 13 0 X83 hx hby d21_12) ?_
  refine own_st _ (own_aloadN 14 X83 hx hby d21_13) ?_
  refine own_st _ (own_iloadN 15 X83 hx hby d21_14) ?_
  refine own_st _ (own_iloadN 16 X83 hx hby d21_15) ?_
  refine own_st _ (own_ishl 17 X83 hx hby d21_16) ?_
  rw [show ((3 : Int32) <<< ((0 : Int32) &&& 31)) = (3 : Int32) from by decide]
  refine own_st _ (own_aloadN 18 X83 hx hby d21_17) ?_
  obtain ⟨T84, X84, e84, st84⟩ := getF X83 hx hZ hown (host := "") (Or.inl (hw_61 hw)) Via.refl e83 F_v (g := (mkF m 18 #[rv a1, rv r2, iv 3, iv 0] [(.ref a1), (.int 3), (.ref r2), (.int 0), (.ref r9)])) rfl rfl (hb hby d21_18)
  refine own_step (g' := (mkF m 21 #[rv a1, rv r2, iv 3, iv 0] [(.ref r9), (.int 3), (.ref r2), (.int 0), (.ref r9)])) st84 ?_
  obtain ⟨cl85, Ar85, -, S85, M85, -, -⟩ := id V0
  refine own_step (T' := T84) (g' := (mkF m 22 #[rv a1, rv r2, iv 3, iv 0] [(.int cl85.slots.size.toInt32), (.int 3), (.ref r2), (.int 0), (.ref r9)])) (X84.arraylength hx (by rw [e84]; exact Ar85.1) (State.isArrayOf_alike hZ.alike Ar85.2.1) (g := (mkF m 21 #[rv a1, rv r2, iv 3, iv 0] [(.ref r9), (.int 3), (.ref r2), (.int 0), (.ref r9)])) rfl rfl (hb hby d21_21)) ?_
  rw [len_of S85 M85]
  obtain ⟨T86, h86, Lc86, X86, e86, N86, K86, V86, st86⟩ := own_copyAt (pre := pre) (rs := List.replicate 13 (0 : Int32)) X84 hx hZ hown (hw_131 hw) (hw_134 hw) (hw_132 hw) (hw_133 hw) e84 V0 V2 (by rw [hpre]; rfl) (by rw [hbl]; rfl) (by rw [hbl]; rfl) (by simp [hpre]) (by rw [hbl]; simp) (n0 := n0) N82 g_r2 (g := (mkF m 22 #[rv a1, rv r2, iv 3, iv 0] [(.int 1), (.int 3), (.ref r2), (.int 0), (.ref r9)])) rfl (by rw [hml]; rfl) rfl (hb hby d21_22) (by decide) (W := 0) own_z0 (by decide)
  have Kp86 : Keep h0 h86 [r2] := K0.trans K86 (allS (Or.inl (List.mem_of_getElem? (i := 0) rfl)) all0)
  have Vr86 : Arv Z h86 r2 k2 .byte (16 : Int32) (((pre ++ bs) ++ List.replicate 12 (0 : Int32)).map Value.int) (.int 0) := by have q := V86; rw [hbl, List.drop_replicate] at q; exact q
  refine own_step (g' := (mkF m 25 #[rv a1, rv r2, iv 3, iv 0] [])) st86 ?_
  refine own_st _ (own_goto 43 X86 hx hby d21_25) ?_
  refine own_ret X86 hlk (v := none) (fun _ => rfl) (fun fs hr => X86.returnOut hx hret (hb hby d21_43) hr) ?_ (by decide) (by decide)
  show own_Q21_3_1 Z a1 r2 r9 k2 bs kq pre wc wD kD h0 n0 _ T86.heap _
  rw [e86]
  exact ⟨rfl, N86, Kp86, Vr86⟩
theorem own_ef19_3_1 (m : MethodId) (a1 r3 : Addr) : entryFrame m #[(.ref a1), (.int 3), (.ref r3)] 3 = mkF m 0 #[rv a1, iv 3, rv r3] [] := by first | (simp [entryFrame, mkF, argsToLocals, Value.category]; done) | rfl
def own_Q19_3_1 (Z : State) (a1 r3 vb : Addr) (kb : ClassId) (r9 : Addr) (bs : List Int32) (kq : ClassId) (pre : List Int32) (wc : Int32) (wD : Addr) (kD : ClassId) (h0 : Heap) (n0 : Nat) (v : Option Value) (h : Heap) (L : List Loc) : Prop := v = none ∧ Fr n0 L ∧ Keep h0 h [vb] ∧ Arv Z h vb kb .byte (16 : Int32) (((pre ++ bs) ++ List.replicate 12 (0 : Int32)).map Value.int) (.int 0)
theorem own_rm19_3_1 (l Z a0) (hw : own_W a0 Z) (ws) (a1 r3 vb : Addr) (kb : ClassId) (r9 : Addr) (bs : List Int32) (kq : ClassId) (pre : List Int32) (wc : Int32) (wD : Addr) (kD : ClassId) (h0 : Heap) (n0 : Nat) (Z0 : n0 ≤ h0.size) (O0 : Old Z n0 h0) (SS : own_St Z wc wD kD) (hpre : pre.length = 3) (hbl : bs.length = 1) (E_a1 : Exa Z h0 a1 "java/lang/StringBuilder") (F_v : Fld Z h0 a1 "java/lang/AbstractStringBuilder" "value" "[B" (.ref vb)) (F_c : Fld Z h0 a1 "java/lang/AbstractStringBuilder" "coder" "B" (.int 0)) (V0 : Arv Z h0 vb kb .byte (16 : Int32) ((pre ++ List.replicate 13 (0 : Int32)).map Value.int) (.int 0)) (E_r3 : Exa Z h0 r3 "java/lang/String") (G_v : Fld Z h0 r3 "java/lang/String" "value" "[B" (.ref r9)) (G_c : Fld Z h0 r3 "java/lang/String" "coder" "B" (.int 0)) (V9 : Arv Z h0 r9 kq .byte (1 : Int32) ((bs).map Value.int) (.int 0)) (g_vb : n0 ≤ vb) (ne_av : a1 ≠ vb) (ne_rv : r3 ≠ vb) (ne_9v : r9 ≠ vb) :
    own_M l Z ws mn_17 c_17 3 none rm_8 #[(.ref a1), (.int 3), (.ref r3)] h0 (own_Q19_3_1 Z a1 r3 vb kb r9 bs kq pre wc wD kD h0 n0) := by
  refine own_body (plainFor_of_name pn_13) (fun m => own_ef19_3_1 m a1 r3) ?_
  intro p e s m below meth c T0 X0 hx hby hml hZ hown hnm hret hlk e0
  have hown : s.vm.findClass "java/lang/AbstractStringBuilder" = some m.cls := hown
  have hnm : meth.name = "putStringAt" := hnm
  have N0 := Fr.nil n0
  have K0 : Keep h0 h0 [vb] := Keep.refl _ _
  refine own_st _ (own_aloadN 1 X0 hx hby d19_0) ?_
  refine own_st _ (own_aloadN 2 X0 hx hby d19_1) ?_
  obtain ⟨cq87, kq87, q87a, q87b, q87c⟩ := isOf hZ e0 E_a1
  obtain ⟨_, _, ⟨T87, L87, k87, n87⟩, -, X87, ⟨Lc87, hQ87, l87, y87, z87⟩, st87⟩ := X0.virtualBack hx (y := mn_10) (z := mn_10) hown (mvT hZ (hw_120 hw)) (mvT hZ (own_declares (hw_121 hw) (hw_124 hw))) (notFace_of_selects (args := #[]) (mvT hZ (hw_123 hw))) (mvT hZ (hw_123 hw)) (mvT hZ (hw_121 hw)) (by decide) (backOf (W := 0) (own_rm20 l Z a0 hw [] a1 r3 wc wD kD h0 n0 Z0 O0 SS F_c E_r3 G_c) hZ (hw_124 hw) (hw_80 hw) (by decide) (by decide)) q87a q87c (g := (mkF m 2 #[rv a1, iv 3, rv r3] [(.ref r3), (.ref a1)])) rfl (by rw [hml]; rfl) (Steps.refl _) (argsL := [(.ref r3)]) (rest := []) (lenOf pd_6 rfl) rfl own_z0 (hb hby d19_2) (fun _ _ => ⟨rfl, e0, (by decide : 0 + 0 ≤ _), (by decide : 0 + 0 ≤ _)⟩)
  dsimp only [Pt.U, Pt.locs, Pt.cells, Pt.slots] at X87 l87 y87 z87 st87 hQ87
  subst l87 y87 z87
  obtain ⟨rfl, Nq87, e87⟩ := hQ87
  have N87 := Fr.app N0 Nq87
  refine own_jump (g' := (mkF m 5 #[rv a1, iv 3, rv r3] [])) st87 ?_
  refine own_st _ (own_aloadN 6 X87 hx hby d19_5) ?_
  refine own_st _ (own_aloadN 7 X87 hx hby d19_6) ?_
  obtain ⟨T88, X88, e88, st88⟩ := getF X87 hx hZ hown (host := "") (Or.inl (hw_84 hw)) Via.refl e87 F_v (g := (mkF m 7 #[rv a1, iv 3, rv r3] [(.ref a1), (.ref r3)])) rfl rfl (hb hby d19_7)
  refine own_step (g' := (mkF m 10 #[rv a1, iv 3, rv r3] [(.ref vb), (.ref r3)])) st88 ?_
  refine own_st _ (own_iloadN 11 X88 hx hby d19_10) ?_
  refine own_st _ (own_aloadN 12 X88 hx hby d19_11) ?_
  obtain ⟨T89, X89, e89, st89⟩ := getF X88 hx hZ hown (host := "") (Or.inl (hw_86 hw)) Via.refl e88 F_c (g := (mkF m 12 #[rv a1, iv 3, rv r3] [(.ref a1), (.int 3), (.ref vb), (.ref r3)])) rfl rfl (hb hby d19_12)
  refine own_step (g' := (mkF m 15 #[rv a1, iv 3, rv r3] [(.int 0), (.int 3), (.ref vb), (.ref r3)])) st89 ?_
  obtain ⟨cq90, kq90, q90a, q90b, q90c⟩ := isOf hZ e89 E_r3
  obtain ⟨_, _, ⟨T90, L90, k90, n90⟩, -, X90, ⟨Lc90, hQ90, l90, y90, z90⟩, st90⟩ := X89.virtualBack hx (y := mn_16) (z := mn_16) hown (mvT hZ (hw_126 hw)) (mvT hZ (hw_127 hw)) (notFace_of_selects (args := #[]) (mvT hZ (hw_129 hw))) (mvT hZ (hw_129 hw)) (mvT hZ (hw_128 hw)) (by decide) (backOf (W := 0) (own_rm21_3_1 l Z a0 hw [] r3 vb r9 kb bs kq pre wc wD kD h0 n0 Z0 O0 SS hpre hbl E_r3 G_v G_c V9 V0 g_vb ne_9v ne_rv) hZ (hw_130 hw) (hw_43 hw) (by decide) (by decide)) q90a q90c (g := (mkF m 15 #[rv a1, iv 3, rv r3] [(.int 0), (.int 3), (.ref vb), (.ref r3)])) rfl (by rw [hml]; rfl) (Steps.refl _) (argsL := [(.ref vb), (.int 3), (.int 0)]) (rest := []) (lenOf pd_7 rfl) rfl own_z0 (hb hby d19_15) (fun _ _ => ⟨rfl, e89, (by decide : 0 + 0 ≤ _), (by decide : 0 + 0 ≤ _)⟩)
  dsimp only [Pt.U, Pt.locs, Pt.cells, Pt.slots] at X90 l90 y90 z90 st90 hQ90
  subst l90 y90 z90
  obtain ⟨rfl, Nq90, K90, V90⟩ := hQ90
  have N90 := Fr.app N87 Nq90
  have Kp90 : Keep h0 T90.heap [vb] := K0.trans K90 (allS (Or.inl (List.mem_of_getElem? (i := 0) rfl)) all0)
  refine own_jump (g' := (mkF m 18 #[rv a1, iv 3, rv r3] [])) st90 ?_
  refine own_ret X90 hlk (v := none) (fun _ => rfl) (fun fs hr => X90.returnOut hx hret (hb hby d19_18) hr) ?_ (by decide) (by decide)
  show own_Q19_3_1 Z a1 r3 vb kb r9 bs kq pre wc wD kD h0 n0 _ T90.heap _
  exact ⟨rfl, N90, Kp90, V90⟩
def own_Q15_3_1 (Z : State) (a1 r2 v0 : Addr) (k0 : ClassId) (r9 : Addr) (bs : List Int32) (kq : ClassId) (pre : List Int32) (wc : Int32) (wD : Addr) (kD : ClassId) (h0 : Heap) (n0 : Nat) (v : Option Value) (h : Heap) (L : List Loc) : Prop := v = some (.ref a1) ∧ Fr n0 L ∧ Keep h0 h [a1, v0] ∧ Exa Z h a1 "java/lang/StringBuilder" ∧ Fld Z h a1 "java/lang/AbstractStringBuilder" "value" "[B" (.ref v0) ∧ Fld Z h a1 "java/lang/AbstractStringBuilder" "coder" "B" (.int 0) ∧ Fld Z h a1 "java/lang/AbstractStringBuilder" "count" "I" (.int 4) ∧ Arv Z h v0 k0 .byte (16 : Int32) (((pre ++ bs) ++ List.replicate 12 (0 : Int32)).map Value.int) (.int 0)
theorem own_rm15_3_1 (l Z a0) (hw : own_W a0 Z) (ws) (a1 r2 v0 : Addr) (k0 : ClassId) (r9 : Addr) (bs : List Int32) (kq : ClassId) (pre : List Int32) (wc : Int32) (wD : Addr) (kD : ClassId) (h0 : Heap) (n0 : Nat) (Z0 : n0 ≤ h0.size) (O0 : Old Z n0 h0) (SS : own_St Z wc wD kD) (hpre : pre.length = 3) (hbl : bs.length = 1) (E_a1 : Exa Z h0 a1 "java/lang/StringBuilder") (F_v : Fld Z h0 a1 "java/lang/AbstractStringBuilder" "value" "[B" (.ref v0)) (F_c : Fld Z h0 a1 "java/lang/AbstractStringBuilder" "coder" "B" (.int 0)) (F_n : Fld Z h0 a1 "java/lang/AbstractStringBuilder" "count" "I" (.int 3)) (V0 : Arv Z h0 v0 k0 .byte (16 : Int32) ((pre ++ List.replicate 13 (0 : Int32)).map Value.int) (.int 0)) (E_r2 : Exa Z h0 r2 "java/lang/String") (G_v : Fld Z h0 r2 "java/lang/String" "value" "[B" (.ref r9)) (G_c : Fld Z h0 r2 "java/lang/String" "coder" "B" (.int 0)) (V9 : Arv Z h0 r9 kq .byte (1 : Int32) ((bs).map Value.int) (.int 0)) (g_a1 : n0 ≤ a1) (ne_av : a1 ≠ v0) (ne_ar : a1 ≠ r2) (ne_a9 : a1 ≠ r9) (ne_rv : r2 ≠ v0) (ne_9v : r9 ≠ v0) (g_v0 : n0 ≤ v0) :
    own_M l Z ws mn_18 c_18 3 (some (.object "java/lang/AbstractStringBuilder")) rm_9 #[(.ref a1), (.ref r2)] h0 (own_Q15_3_1 Z a1 r2 v0 k0 r9 bs kq pre wc wD kD h0 n0) := by
  refine own_body (plainFor_of_name pn_13) (fun m => own_ef15_0_1 m a1 r2) ?_
  intro p e s m below meth c T0 X0 hx hby hml hZ hown hnm hret hlk e0
  have hown : s.vm.findClass "java/lang/AbstractStringBuilder" = some m.cls := hown
  have hnm : meth.name = "append" := hnm
  have N0 := Fr.nil n0
  have K0 : Keep h0 h0 [a1, v0] := Keep.refl _ _
  refine own_st _ (own_aloadN 1 X0 hx hby d15_0) ?_
  refine own_st _ (own_ifnonnullYes 9 X0 hx hby d15_1) ?_
  refine own_st _ (own_aloadN 10 X0 hx hby d15_9) ?_
  obtain ⟨cq91, kq91, q91a, q91b, q91c⟩ := isOf hZ e0 E_r2
  obtain ⟨_, _, ⟨T91, L91, k91, n91⟩, -, X91, ⟨Lc91, hQ91, l91, y91, z91⟩, st91⟩ := X0.virtualBack hx (y := mn_14) (z := mn_14) hown (mvT hZ (hw_98 hw)) (mvT hZ (hw_99 hw)) (notFace_of_selects (args := #[]) (mvT hZ (hw_101 hw))) (mvT hZ (hw_101 hw)) (mvT hZ (hw_100 hw)) (by decide) (backOf (W := 0) (own_rm16_1 l Z a0 hw [] r2 r9 bs kq wc wD kD h0 n0 Z0 O0 SS E_r2 G_v G_c V9) hZ (hw_102 hw) (hw_43 hw) (by decide) (by decide)) q91a q91c (g := (mkF m 10 #[rv a1, rv r2, .unset] [(.ref r2)])) rfl (by rw [hml]; rfl) (Steps.refl _) (argsL := []) (rest := []) (lenOf pd_5 rfl) rfl own_z0 (hb hby d15_10) (fun _ _ => ⟨rfl, e0, (by decide : 0 + 0 ≤ _), (by decide : 0 + 0 ≤ _)⟩)
  dsimp only [Pt.U, Pt.locs, Pt.cells, Pt.slots] at X91 l91 y91 z91 st91 hQ91
  subst l91 y91 z91
  obtain ⟨rfl, Nq91, e91⟩ := hQ91
  have N91 := Fr.app N0 Nq91
  refine own_jump (g' := (mkF m 13 #[rv a1, rv r2, .unset] [(.int 1)])) st91 ?_
  refine own_st _ (own_istoreN 14 #[rv a1, rv r2, iv 1] X91 hx hby d15_13) ?_
  refine own_st _ (own_aloadN 15 X91 hx hby d15_14) ?_
  refine own_st _ (own_aloadN 16 X91 hx hby d15_15) ?_
  obtain ⟨T92, X92, e92, st92⟩ := getF X91 hx hZ hown (host := "") (Or.inl (hw_108 hw)) Via.refl e91 F_n (g := (mkF m 16 #[rv a1, rv r2, iv 1] [(.ref a1), (.ref a1)])) rfl rfl (hb hby d15_16)
  refine own_step (g' := (mkF m 19 #[rv a1, rv r2, iv 1] [(.int 3), (.ref a1)])) st92 ?_
  refine own_st _ (own_iloadN 20 X92 hx hby d15_19) ?_
  refine own_st _ (own_iadd 21 X92 hx hby d15_20) ?_
  rw [show ((3 : Int32) + (1 : Int32)) = (4 : Int32) from by decide]
  obtain ⟨cq93, kq93, q93a, q93b, q93c⟩ := isOf hZ e92 E_a1
  obtain ⟨_, _, ⟨T93, L93, k93, n93⟩, -, X93, ⟨Lc93, hQ93, l93, y93, z93⟩, st93⟩ := X92.virtualBack hx (y := mn_15) (z := mn_15) hown (mvT hZ (hw_110 hw)) (mvT hZ (own_declares (hw_111 hw) (hw_114 hw))) (notFace_of_selects (args := #[]) (mvT hZ (hw_113 hw))) (mvT hZ (hw_113 hw)) (mvT hZ (hw_111 hw)) (by decide) (backOf (W := 0) (own_rm18_3_1 l Z a0 hw [] a1 v0 k0 (pre ++ List.replicate 13 (0 : Int32)) h0 n0 Z0 E_a1 F_v F_c V0) hZ (hw_114 hw) (hw_80 hw) (by decide) (by decide)) q93a q93c (g := (mkF m 21 #[rv a1, rv r2, iv 1] [(.int 4), (.ref a1)])) rfl (by rw [hml]; rfl) (Steps.refl _) (argsL := [(.int 4)]) (rest := []) (lenOf pd_3 rfl) rfl own_z0 (hb hby d15_21) (fun _ _ => ⟨rfl, e92, (by decide : 0 + 0 ≤ _), (by decide : 0 + 0 ≤ _)⟩)
  dsimp only [Pt.U, Pt.locs, Pt.cells, Pt.slots] at X93 l93 y93 z93 st93 hQ93
  subst l93 y93 z93
  obtain ⟨rfl, Nq93, e93⟩ := hQ93
  have N93 := Fr.app N91 Nq93
  refine own_jump (g' := (mkF m 24 #[rv a1, rv r2, iv 1] [])) st93 ?_
  refine own_st _ (own_aloadN 25 X93 hx hby d15_24) ?_
  refine own_st _ (own_aloadN 26 X93 hx hby d15_25) ?_
  obtain ⟨T94, X94, e94, st94⟩ := getF X93 hx hZ hown (host := "") (Or.inl (hw_108 hw)) Via.refl e93 F_n (g := (mkF m 26 #[rv a1, rv r2, iv 1] [(.ref a1), (.ref a1)])) rfl rfl (hb hby d15_26)
  refine own_step (g' := (mkF m 29 #[rv a1, rv r2, iv 1] [(.int 3), (.ref a1)])) st94 ?_
  refine own_st _ (own_aloadN 30 X94 hx hby d15_29) ?_
  obtain ⟨cq95, kq95, q95a, q95b, q95c⟩ := isOf hZ e94 E_a1
  obtain ⟨_, _, ⟨T95, L95, k95, n95⟩, -, X95, ⟨Lc95, hQ95, l95, y95, z95⟩, st95⟩ := X94.virtualBack hx (y := mn_17) (z := mn_17) hown (mvT hZ (hw_115 hw)) (mvT hZ (own_declares (hw_116 hw) (hw_119 hw))) (notFace_of_selects (args := #[]) (mvT hZ (hw_118 hw))) (mvT hZ (hw_118 hw)) (mvT hZ (hw_116 hw)) (by decide) (backOf (W := 0) (own_rm19_3_1 l Z a0 hw [] a1 r2 v0 k0 r9 bs kq pre wc wD kD h0 n0 Z0 O0 SS hpre hbl E_a1 F_v F_c V0 E_r2 G_v G_c V9 g_v0 ne_av ne_rv ne_9v) hZ (hw_119 hw) (hw_80 hw) (by decide) (by decide)) q95a q95c (g := (mkF m 30 #[rv a1, rv r2, iv 1] [(.ref r2), (.int 3), (.ref a1)])) rfl (by rw [hml]; rfl) (Steps.refl _) (argsL := [(.int 3), (.ref r2)]) (rest := []) (lenOf pd_8 rfl) rfl own_z0 (hb hby d15_30) (fun _ _ => ⟨rfl, e94, (by decide : 0 + 0 ≤ _), (by decide : 0 + 0 ≤ _)⟩)
  dsimp only [Pt.U, Pt.locs, Pt.cells, Pt.slots] at X95 l95 y95 z95 st95 hQ95
  subst l95 y95 z95
  obtain ⟨rfl, Nq95, K95, V95⟩ := hQ95
  have N95 := Fr.app N93 Nq95
  have Kp95 : Keep h0 T95.heap [a1, v0] := K0.trans K95 (allS (Or.inl (List.mem_of_getElem? (i := 1) rfl)) all0)
  have u1 := E_a1.keep K95
  have u2 := F_v.keep K95 (ninS ne_av nin0)
  have u3 := F_c.keep K95 (ninS ne_av nin0)
  have u4 := F_n.keep K95 (ninS ne_av nin0)
  refine own_jump (g' := (mkF m 33 #[rv a1, rv r2, iv 1] [])) st95 ?_
  refine own_st _ (own_aloadN 34 X95 hx hby d15_33) ?_
  refine own_st _ (own_dup 35 X95 hx hby d15_34) ?_
  obtain ⟨T96, X96, e96, st96⟩ := getF X95 hx hZ hown (host := "") (Or.inl (hw_108 hw)) Via.refl rfl u4 (g := (mkF m 35 #[rv a1, rv r2, iv 1] [(.ref a1), (.ref a1)])) rfl rfl (hb hby d15_35)
  refine own_step (g' := (mkF m 38 #[rv a1, rv r2, iv 1] [(.int 3), (.ref a1)])) st96 ?_
  refine own_st _ (own_iloadN 39 X96 hx hby d15_38) ?_
  refine own_st _ (own_iadd 40 X96 hx hby d15_39) ?_
  rw [show ((3 : Int32) + (1 : Int32)) = (4 : Int32) from by decide]
  obtain ⟨T97, h97, X97, e97, W97, st97⟩ := putF X96 hx hZ hown (host := "") (Or.inl (hw_108 hw)) Via.refl e96 u4 u1 (Or.inl (hw_109 hw)) (hw_71 hw) (ty := .int) (by decide) rfl rfl (g := (mkF m 40 #[rv a1, rv r2, iv 1] [(.int 4), (.ref a1)])) rfl rfl (hb hby d15_40)
  have u9 := u1.wr W97
  have u10 := u2.other W97 (Or.inr (slot_ne (a0 := a0) (C := "java/lang/StringBuilder") (Or.inl (hw_85 hw)) (Or.inl (hw_109 hw)) (by decide) (t := (.array .byte)) (t' := .int) (by decide) (by decide)))
  have u11 := u3.other W97 (Or.inr (slot_ne (a0 := a0) (C := "java/lang/StringBuilder") (Or.inl (hw_87 hw)) (Or.inl (hw_109 hw)) (by decide) (t := .byte) (t' := .int) (by decide) (by decide)))
  have u16 := V95.other W97 (Ne.symm ne_av)
  have fw97 : Fld Z h97 a1 "java/lang/AbstractStringBuilder" "count" "I" (.int 4) := u4.same W97
  have Kp97 : Keep h0 h97 [a1, v0] := Kp95.wr W97 (Or.inl (List.mem_of_getElem? (i := 0) rfl))
  have N97 := Fr.snoc X97 N95 g_a1
  refine own_step (g' := (mkF m 43 #[rv a1, rv r2, iv 1] [])) st97 ?_
  refine own_st _ (own_aloadN 44 X97 hx hby d15_43) ?_
  refine own_ret X97 hlk (v := some (.ref a1)) (fun h => by rw [hret] at h; cases h) (fun fs hr => X97.areturnOut hx (w := (.ref a1)) rfl hret rfl (hb hby d15_44) hr) ?_ (by decide) (by decide)
  show own_Q15_3_1 Z a1 r2 v0 k0 r9 bs kq pre wc wD kD h0 n0 _ T97.heap _
  rw [e97]
  exact ⟨rfl, N97, Kp97, u9, u10, u11, fw97, u16⟩
def own_Q14_3_1 (Z : State) (a1 r2 v0 : Addr) (k0 : ClassId) (r9 : Addr) (bs : List Int32) (kq : ClassId) (pre : List Int32) (wc : Int32) (wD : Addr) (kD : ClassId) (h0 : Heap) (n0 : Nat) (v : Option Value) (h : Heap) (L : List Loc) : Prop := v = some (.ref a1) ∧ Fr n0 L ∧ Keep h0 h [a1, v0] ∧ Exa Z h a1 "java/lang/StringBuilder" ∧ Fld Z h a1 "java/lang/AbstractStringBuilder" "value" "[B" (.ref v0) ∧ Fld Z h a1 "java/lang/AbstractStringBuilder" "coder" "B" (.int 0) ∧ Fld Z h a1 "java/lang/AbstractStringBuilder" "count" "I" (.int 4) ∧ Arv Z h v0 k0 .byte (16 : Int32) (((pre ++ bs) ++ List.replicate 12 (0 : Int32)).map Value.int) (.int 0)
theorem own_rm14_3_1 (l Z a0) (hw : own_W a0 Z) (ws) (a1 r2 v0 : Addr) (k0 : ClassId) (r9 : Addr) (bs : List Int32) (kq : ClassId) (pre : List Int32) (wc : Int32) (wD : Addr) (kD : ClassId) (h0 : Heap) (n0 : Nat) (Z0 : n0 ≤ h0.size) (O0 : Old Z n0 h0) (SS : own_St Z wc wD kD) (hpre : pre.length = 3) (hbl : bs.length = 1) (E_a1 : Exa Z h0 a1 "java/lang/StringBuilder") (F_v : Fld Z h0 a1 "java/lang/AbstractStringBuilder" "value" "[B" (.ref v0)) (F_c : Fld Z h0 a1 "java/lang/AbstractStringBuilder" "coder" "B" (.int 0)) (F_n : Fld Z h0 a1 "java/lang/AbstractStringBuilder" "count" "I" (.int 3)) (V0 : Arv Z h0 v0 k0 .byte (16 : Int32) ((pre ++ List.replicate 13 (0 : Int32)).map Value.int) (.int 0)) (E_r2 : Exa Z h0 r2 "java/lang/String") (G_v : Fld Z h0 r2 "java/lang/String" "value" "[B" (.ref r9)) (G_c : Fld Z h0 r2 "java/lang/String" "coder" "B" (.int 0)) (V9 : Arv Z h0 r9 kq .byte (1 : Int32) ((bs).map Value.int) (.int 0)) (g_a1 : n0 ≤ a1) (ne_av : a1 ≠ v0) (ne_ar : a1 ≠ r2) (ne_a9 : a1 ≠ r9) (ne_rv : r2 ≠ v0) (ne_9v : r9 ≠ v0) (g_v0 : n0 ≤ v0) :
    own_M l Z ws mn_19 c_19 2 (some (.object "java/lang/StringBuilder")) rm_10 #[(.ref a1), (.ref r2)] h0 (own_Q14_3_1 Z a1 r2 v0 k0 r9 bs kq pre wc wD kD h0 n0) := by
  refine own_body (plainFor_of_name pn_12) (fun m => own_ef20 m a1 r2) ?_
  intro p e s m below meth c T0 X0 hx hby hml hZ hown hnm hret hlk e0
  have hown : s.vm.findClass "java/lang/StringBuilder" = some m.cls := hown
  have hnm : meth.name = "append" := hnm
  have N0 := Fr.nil n0
  have K0 : Keep h0 h0 [a1, v0] := Keep.refl _ _
  refine own_st _ (own_aloadN 1 X0 hx hby d14_0) ?_
  refine own_st _ (own_aloadN 2 X0 hx hby d14_1) ?_
  obtain ⟨_, _, ⟨T98, L98, k98, n98⟩, -, X98, ⟨Lc98, hQ98, l98, y98, z98⟩, st98⟩ := superBack X0 hx hZ (y := mn_18) hown (hw_93 hw) (own_samem (y := mn_18) (hw_94 hw) (y2 := mn_11) rfl (hw_153 hw) (by decide)) (hw_94 hw) (hw_95 hw) (by decide) (backOf (W := 0) (own_rm15_3_1 l Z a0 hw [] a1 r2 v0 k0 r9 bs kq pre wc wD kD h0 n0 Z0 O0 SS hpre hbl E_a1 F_v F_c F_n V0 E_r2 G_v G_c V9 g_a1 ne_av ne_ar ne_a9 ne_rv ne_9v g_v0) hZ (hw_97 hw) (hw_80 hw) (by decide) (by decide)) e0 (Ins.self E_a1) (g := (mkF m 2 #[rv a1, rv r2] [(.ref r2), (.ref a1)])) rfl (by rw [hml]; rfl) (hw_97 hw) (argsL := [(.ref r2)]) (rest := []) (lenOf pd_9 rfl) rfl own_z0 (hb hby d14_2) (fun _ _ => ⟨rfl, e0, (by decide : 0 + 0 ≤ _), (by decide : 0 + 0 ≤ _)⟩)
  dsimp only [Pt.U, Pt.locs, Pt.cells, Pt.slots] at X98 l98 y98 z98 st98 hQ98
  subst l98 y98 z98
  obtain ⟨rfl, Nq98, K98, Ex98, Fv98, Fc98, Fn98, V98⟩ := hQ98
  have N98 := Fr.app N0 Nq98
  have Kp98 : Keep h0 T98.heap [a1, v0] := K0.trans K98 (allS (Or.inl (List.mem_of_getElem? (i := 0) rfl)) (allS (Or.inl (List.mem_of_getElem? (i := 1) rfl)) all0))
  refine own_jump (g' := (mkF m 5 #[rv a1, rv r2] [(.ref a1)])) st98 ?_
  refine own_st _ (own_pop 6 X98 hx hby d14_5) ?_
  refine own_st _ (own_aloadN 7 X98 hx hby d14_6) ?_
  refine own_ret X98 hlk (v := some (.ref a1)) (fun h => by rw [hret] at h; cases h) (fun fs hr => X98.areturnOut hx (w := (.ref a1)) rfl hret rfl (hb hby d14_7) hr) ?_ (by decide) (by decide)
  show own_Q14_3_1 Z a1 r2 v0 k0 r9 bs kq pre wc wD kD h0 n0 _ T98.heap _
  exact ⟨rfl, N98, Kp98, Ex98, Fv98, Fc98, Fn98, V98⟩
theorem d57_0 : own_D c_20 0 (.iload_n 0, 1) := by decide +kernel
theorem d57_1 : own_D c_20 1 (.iload_n 1, 1) := by decide +kernel
theorem d57_2 : own_D c_20 2 (.iload_n 2, 1) := by decide +kernel
theorem d57_3 : own_D c_20 3 (.invokestatic 194, 3) := by decide +kernel
theorem hw_309 : own_H (.methodLink "jdk/internal/util/ArraysSupport" 194 mn_0) := own_h 309 rfl
theorem hw_213 : own_H (.code mn_0 jdk_29_method_65_code 2 (some .int)) := own_h 213 rfl
theorem hw_180 : own_H (.initialized "java/lang/Math") := own_h 180 rfl
theorem pd_10 : parseMethodDescriptor "(II)I" = some ⟨[.int, .int], some .int⟩ := by decide +kernel
theorem hw_212 : own_H (.static mn_0) := own_h 212 rfl
theorem d57_6 : own_D c_20 6 (.iadd, 1) := by decide +kernel
theorem d57_7 : own_D c_20 7 (.istore_n 3, 1) := by decide +kernel
theorem d57_8 : own_D c_20 8 (.iconst 0, 1) := by decide +kernel
theorem d57_9 : own_D c_20 9 (.iload_n 3, 1) := by decide +kernel
theorem d57_10 : own_D c_20 10 (.if_icmp .ge 11, 3) := by decide +kernel
theorem d57_13 : own_D c_20 13 (.iload_n 3, 1) := by decide +kernel
theorem d57_14 : own_D c_20 14 (.ldc 200, 2) := by decide +kernel
theorem hw_310 : own_H (.constant "jdk/internal/util/ArraysSupport" 200 (2147483639 : Int32)) := own_h 310 rfl
theorem d57_16 : own_D c_20 16 (.if_icmp .gt 5, 3) := by decide +kernel
theorem d57_19 : own_D c_20 19 (.iload_n 3, 1) := by decide +kernel
theorem d57_20 : own_D c_20 20 (.ireturn, 1) := by decide +kernel
theorem pn_57 : plainName "jdk/internal/util/ArraysSupport" = true := by first | (simp [plainName, overriddenIn]; done) | decide +kernel
theorem own_ef57 (m : MethodId)  : entryFrame m #[(.int 16), (.int 4), (.int 18)] 4 = mkF m 0 #[iv 16, iv 4, iv 18, .unset] [] := by first | (simp [entryFrame, mkF, argsToLocals, Value.category]; done) | rfl
def own_Q57 (Z : State)  (h0 : Heap) (n0 : Nat) (v : Option Value) (h : Heap) (L : List Loc) : Prop := v = some (.int 34) ∧ Fr n0 L ∧ h = h0
theorem own_rm57 (l Z a0) (hw : own_W a0 Z) (ws)  (h0 : Heap) (n0 : Nat) (Z0 : n0 ≤ h0.size) :
    own_M l Z ws mn_20 c_20 4 (some .int) rm_11 #[(.int 16), (.int 4), (.int 18)] h0 (own_Q57 Z h0 n0) := by
  refine own_body (plainFor_of_name pn_57) (fun m => own_ef57 m ) ?_
  intro p e s m below meth c T0 X0 hx hby hml hZ hown hnm hret hlk e0
  have hown : s.vm.findClass "jdk/internal/util/ArraysSupport" = some m.cls := hown
  have hnm : meth.name = "newLength" := hnm
  have N0 := Fr.nil n0
  refine own_st _ (own_iloadN 1 X0 hx hby d57_0) ?_
  refine own_st _ (own_iloadN 2 X0 hx hby d57_1) ?_
  refine own_st _ (own_iloadN 3 X0 hx hby d57_2) ?_
  obtain ⟨_, _, ⟨T99, L99, k99, n99⟩, -, X99, ⟨Lc99, hQ99, l99, y99, z99⟩, st99⟩ := Jvm.LawKit.callS X0 hx (y := mn_0) hown (mvT hZ (hw_309 hw)) (mvT hZ (hw_212 hw)) (mvT hZ (hw_180 hw)) (mvT hZ (hw_213 hw)) (by decide) (backOf (W := 1) (own_rm37 l Z a0 hw [] (4 : Int32) (18 : Int32) h0 n0 Z0) hZ (hw_213 hw) (hw_180 hw) (by decide) (by decide)) (g := (mkF m 3 #[iv 16, iv 4, iv 18, .unset] [(.int 18), (.int 4), (.int 16)])) rfl (by rw [hml]; rfl) (argsL := [(.int 4), (.int 18)]) (rest := [(.int 16)]) (lenOf pd_10 rfl) rfl own_z0 (hb hby d57_3) (fun _ _ => ⟨rfl, e0, (by decide : 0 + 0 ≤ _), (by decide : 0 + 0 ≤ _)⟩)
  dsimp only [Pt.U, Pt.locs, Pt.cells, Pt.slots] at X99 l99 y99 z99 st99 hQ99
  subst l99 y99 z99
  obtain ⟨rfl, Nq99, e99⟩ := hQ99
  have N99 := Fr.app N0 Nq99
  refine own_step (g' := (mkF m 6 #[iv 16, iv 4, iv 18, .unset] [(.int (own_max32 (4 : Int32) (18 : Int32))), (.int 16)])) st99 ?_
  rw [show (own_max32 (4 : Int32) (18 : Int32)) = (18 : Int32) from by decide]
  refine own_st _ (own_iadd 7 X99 hx hby d57_6) ?_
  rw [show ((16 : Int32) + (18 : Int32)) = (34 : Int32) from by decide]
  refine own_st _ (own_istoreN 8 #[iv 16, iv 4, iv 18, iv 34] X99 hx hby d57_7) ?_
  refine own_st _ (own_iconst 9 0 X99 hx hby d57_8) ?_
  refine own_st _ (own_iloadN 10 X99 hx hby d57_9) ?_
  refine own_st _ (own_icmpNo 13 X99 hx hby d57_10 ((tlt (by decide : (0 : Int32) < (34 : Int32))).2.1)) ?_
  refine own_st _ (own_iloadN 14 X99 hx hby d57_13) ?_
  refine own_st (mkF m 16 #[iv 16, iv 4, iv 18, iv 34] [(.int 2147483639), (.int 34)]) (fun t k => X99.ldcInt hx hown (mvT hZ (hw_310 hw)) (g := (mkF m 14 #[iv 16, iv 4, iv 18, iv 34] [(.int 34)])) rfl (hb hby d57_14) _ k) ?_
  refine own_st _ (own_icmpNo 19 X99 hx hby d57_16 ((flt (by decide : ¬ ((2147483639 : Int32) < (34 : Int32)))).2.2.1)) ?_
  refine own_st _ (own_iloadN 20 X99 hx hby d57_19) ?_
  refine own_ret X99 hlk (v := some (.int 34)) (fun h => by rw [hret] at h; cases h) (fun fs hr => X99.ireturnOut hx hret rfl (Or.inl rfl) (hb hby d57_20) hr) ?_ (by decide) (by decide)
  show own_Q57 Z h0 n0 _ T99.heap _
  rw [e99]
  exact ⟨rfl, N99, rfl⟩
theorem d56_0 : own_D c_21 0 (.aload_n 0, 1) := by decide +kernel
theorem d56_1 : own_D c_21 1 (.getfield 15, 3) := by decide +kernel
theorem d56_4 : own_D c_21 4 (.arraylength, 1) := by decide +kernel
theorem d56_5 : own_D c_21 5 (.istore_n 2, 1) := by decide +kernel
theorem d56_6 : own_D c_21 6 (.iload_n 1, 1) := by decide +kernel
theorem d56_7 : own_D c_21 7 (.aload_n 0, 1) := by decide +kernel
theorem d56_8 : own_D c_21 8 (.getfield 22, 3) := by decide +kernel
theorem d56_11 : own_D c_21 11 (.ishl, 1) := by decide +kernel
theorem d56_12 : own_D c_21 12 (.istore_n 3, 1) := by decide +kernel
theorem d56_13 : own_D c_21 13 (.iload_n 3, 1) := by decide +kernel
theorem d56_14 : own_D c_21 14 (.iload_n 2, 1) := by decide +kernel
theorem d56_15 : own_D c_21 15 (.isub, 1) := by decide +kernel
theorem d56_16 : own_D c_21 16 (.istore 4, 2) := by decide +kernel
theorem d56_18 : own_D c_21 18 (.iload_n 2, 1) := by decide +kernel
theorem d56_19 : own_D c_21 19 (.iload 4, 2) := by decide +kernel
theorem d56_21 : own_D c_21 21 (.iload_n 2, 1) := by decide +kernel
theorem d56_22 : own_D c_21 22 (.iconst 2, 1) := by decide +kernel
theorem d56_23 : own_D c_21 23 (.aload_n 0, 1) := by decide +kernel
theorem d56_24 : own_D c_21 24 (.getfield 22, 3) := by decide +kernel
theorem d56_27 : own_D c_21 27 (.ishl, 1) := by decide +kernel
theorem d56_28 : own_D c_21 28 (.iadd, 1) := by decide +kernel
theorem d56_29 : own_D c_21 29 (.invokestatic 114, 3) := by decide +kernel
theorem hw_305 : own_H (.methodLink "java/lang/AbstractStringBuilder" 114 mn_20) := own_h 305 rfl
theorem hw_308 : own_H (.code mn_20 jdk_48_method_27_code 4 (some .int)) := own_h 308 rfl
theorem hw_307 : own_H (.initialized "jdk/internal/util/ArraysSupport") := own_h 307 rfl
theorem pd_11 : parseMethodDescriptor "(III)I" = some ⟨[.int, .int, .int], some .int⟩ := by decide +kernel
theorem hw_306 : own_H (.static mn_20) := own_h 306 rfl
theorem d56_32 : own_D c_21 32 (.istore 5, 2) := by decide +kernel
theorem d56_34 : own_D c_21 34 (.iload 5, 2) := by decide +kernel
theorem d56_36 : own_D c_21 36 (.ldc 39, 2) := by decide +kernel
theorem hw_311 : own_H (.constant "java/lang/AbstractStringBuilder" 39 (2147483647 : Int32)) := own_h 311 rfl
theorem d56_38 : own_D c_21 38 (.if_icmp .ne 13, 3) := by decide +kernel
theorem d56_51 : own_D c_21 51 (.iload 5, 2) := by decide +kernel
theorem d56_53 : own_D c_21 53 (.aload_n 0, 1) := by decide +kernel
theorem d56_54 : own_D c_21 54 (.getfield 22, 3) := by decide +kernel
theorem d56_57 : own_D c_21 57 (.ishr, 1) := by decide +kernel
theorem d56_58 : own_D c_21 58 (.ireturn, 1) := by decide +kernel
theorem own_ef56 (m : MethodId) (a1 : Addr) : entryFrame m #[(.ref a1), (.int 20)] 6 = mkF m 0 #[rv a1, iv 20, .unset, .unset, .unset, .unset] [] := by first | (simp [entryFrame, mkF, argsToLocals, Value.category]; done) | rfl
def own_Q56 (Z : State) (a1 vb : Addr) (kb : ClassId) (es : List Int32) (h0 : Heap) (n0 : Nat) (v : Option Value) (h : Heap) (L : List Loc) : Prop := v = some (.int 34) ∧ Fr n0 L ∧ h = h0
theorem own_rm56 (l Z a0) (hw : own_W a0 Z) (ws) (a1 vb : Addr) (kb : ClassId) (es : List Int32) (h0 : Heap) (n0 : Nat) (Z0 : n0 ≤ h0.size) (E_a1 : Exa Z h0 a1 "java/lang/StringBuilder") (F_v : Fld Z h0 a1 "java/lang/AbstractStringBuilder" "value" "[B" (.ref vb)) (F_c : Fld Z h0 a1 "java/lang/AbstractStringBuilder" "coder" "B" (.int 0)) (V0 : Arv Z h0 vb kb .byte (16 : Int32) ((es).map Value.int) (.int 0)) :
    own_M l Z ws mn_21 c_21 6 (some .int) rm_12 #[(.ref a1), (.int 20)] h0 (own_Q56 Z a1 vb kb es h0 n0) := by
  refine own_body (plainFor_of_name pn_13) (fun m => own_ef56 m a1) ?_
  intro p e s m below meth c T0 X0 hx hby hml hZ hown hnm hret hlk e0
  have hown : s.vm.findClass "java/lang/AbstractStringBuilder" = some m.cls := hown
  have hnm : meth.name = "newCapacity" := hnm
  have N0 := Fr.nil n0
  refine own_st _ (own_aloadN 1 X0 hx hby d56_0) ?_
  obtain ⟨T100, X100, e100, st100⟩ := getF X0 hx hZ hown (host := "") (Or.inl (hw_84 hw)) Via.refl e0 F_v (g := (mkF m 1 #[rv a1, iv 20, .unset, .unset, .unset, .unset] [(.ref a1)])) rfl rfl (hb hby d56_1)
  refine own_step (g' := (mkF m 4 #[rv a1, iv 20, .unset, .unset, .unset, .unset] [(.ref vb)])) st100 ?_
  obtain ⟨cl101, Ar101, -, S101, M101, -, -⟩ := id V0
  refine own_step (T' := T100) (g' := (mkF m 5 #[rv a1, iv 20, .unset, .unset, .unset, .unset] [(.int cl101.slots.size.toInt32)])) (X100.arraylength hx (by rw [e100]; exact Ar101.1) (State.isArrayOf_alike hZ.alike Ar101.2.1) (g := (mkF m 4 #[rv a1, iv 20, .unset, .unset, .unset, .unset] [(.ref vb)])) rfl rfl (hb hby d56_4)) ?_
  rw [len_of S101 M101]
  refine own_st _ (own_istoreN 6 #[rv a1, iv 20, iv 16, .unset, .unset, .unset] X100 hx hby d56_5) ?_
  refine own_st _ (own_iloadN 7 X100 hx hby d56_6) ?_
  refine own_st _ (own_aloadN 8 X100 hx hby d56_7) ?_
  obtain ⟨T102, X102, e102, st102⟩ := getF X100 hx hZ hown (host := "") (Or.inl (hw_86 hw)) Via.refl e100 F_c (g := (mkF m 8 #[rv a1, iv 20, iv 16, .unset, .unset, .unset] [(.ref a1), (.int 20)])) rfl rfl (hb hby d56_8)
  refine own_step (g' := (mkF m 11 #[rv a1, iv 20, iv 16, .unset, .unset, .unset] [(.int 0), (.int 20)])) st102 ?_
  refine own_st _ (own_ishl 12 X102 hx hby d56_11) ?_
  rw [show ((20 : Int32) <<< ((0 : Int32) &&& 31)) = (20 : Int32) from by decide]
  refine own_st _ (own_istoreN 13 #[rv a1, iv 20, iv 16, iv 20, .unset, .unset] X102 hx hby d56_12) ?_
  refine own_st _ (own_iloadN 14 X102 hx hby d56_13) ?_
  refine own_st _ (own_iloadN 15 X102 hx hby d56_14) ?_
  refine own_st _ (own_isub 16 X102 hx hby d56_15) ?_
  rw [show ((20 : Int32) - (16 : Int32)) = (4 : Int32) from by decide]
  refine own_st _ (own_istore 18 #[rv a1, iv 20, iv 16, iv 20, iv 4, .unset] X102 hx hby d56_16) ?_
  refine own_st _ (own_iloadN 19 X102 hx hby d56_18) ?_
  refine own_st _ (own_iload 21 X102 hx hby d56_19) ?_
  refine own_st _ (own_iloadN 22 X102 hx hby d56_21) ?_
  refine own_st _ (own_iconst 23 2 X102 hx hby d56_22) ?_
  refine own_st _ (own_aloadN 24 X102 hx hby d56_23) ?_
  obtain ⟨T103, X103, e103, st103⟩ := getF X102 hx hZ hown (host := "") (Or.inl (hw_86 hw)) Via.refl e102 F_c (g := (mkF m 24 #[rv a1, iv 20, iv 16, iv 20, iv 4, .unset] [(.ref a1), (.int 2), (.int 16), (.int 4), (.int 16)])) rfl rfl (hb hby d56_24)
  refine own_step (g' := (mkF m 27 #[rv a1, iv 20, iv 16, iv 20, iv 4, .unset] [(.int 0), (.int 2), (.int 16), (.int 4), (.int 16)])) st103 ?_
  refine own_st _ (own_ishl 28 X103 hx hby d56_27) ?_
  rw [show ((2 : Int32) <<< ((0 : Int32) &&& 31)) = (2 : Int32) from by decide]
  refine own_st _ (own_iadd 29 X103 hx hby d56_28) ?_
  rw [show ((16 : Int32) + (2 : Int32)) = (18 : Int32) from by decide]
  obtain ⟨_, _, ⟨T104, L104, k104, n104⟩, -, X104, ⟨Lc104, hQ104, l104, y104, z104⟩, st104⟩ := Jvm.LawKit.callS X103 hx (y := mn_20) hown (mvT hZ (hw_305 hw)) (mvT hZ (hw_306 hw)) (mvT hZ (hw_307 hw)) (mvT hZ (hw_308 hw)) (by decide) (backOf (W := 0) (own_rm57 l Z a0 hw [] h0 n0 Z0) hZ (hw_308 hw) (hw_307 hw) (by decide) (by decide)) (g := (mkF m 29 #[rv a1, iv 20, iv 16, iv 20, iv 4, .unset] [(.int 18), (.int 4), (.int 16)])) rfl (by rw [hml]; rfl) (argsL := [(.int 16), (.int 4), (.int 18)]) (rest := []) (lenOf pd_11 rfl) rfl own_z0 (hb hby d56_29) (fun _ _ => ⟨rfl, e103, (by decide : 0 + 0 ≤ _), (by decide : 0 + 0 ≤ _)⟩)
  dsimp only [Pt.U, Pt.locs, Pt.cells, Pt.slots] at X104 l104 y104 z104 st104 hQ104
  subst l104 y104 z104
  obtain ⟨rfl, Nq104, e104⟩ := hQ104
  have N104 := Fr.app N0 Nq104
  refine own_step (g' := (mkF m 32 #[rv a1, iv 20, iv 16, iv 20, iv 4, .unset] [(.int 34)])) st104 ?_
  refine own_st _ (own_istore 34 #[rv a1, iv 20, iv 16, iv 20, iv 4, iv 34] X104 hx hby d56_32) ?_
  refine own_st _ (own_iload 36 X104 hx hby d56_34) ?_
  refine own_st (mkF m 38 #[rv a1, iv 20, iv 16, iv 20, iv 4, iv 34] [(.int 2147483647), (.int 34)]) (fun t k => X104.ldcInt hx hown (mvT hZ (hw_311 hw)) (g := (mkF m 36 #[rv a1, iv 20, iv 16, iv 20, iv 4, iv 34] [(.int 34)])) rfl (hb hby d56_36) _ k) ?_
  refine own_st _ (own_icmpYes 51 X104 hx hby d56_38 ((feq (by decide : ¬ ((34 : Int32) = (2147483647 : Int32)))).2)) ?_
  refine own_st _ (own_iload 53 X104 hx hby d56_51) ?_
  refine own_st _ (own_aloadN 54 X104 hx hby d56_53) ?_
  obtain ⟨T105, X105, e105, st105⟩ := getF X104 hx hZ hown (host := "") (Or.inl (hw_86 hw)) Via.refl e104 F_c (g := (mkF m 54 #[rv a1, iv 20, iv 16, iv 20, iv 4, iv 34] [(.ref a1), (.int 34)])) rfl rfl (hb hby d56_54)
  refine own_step (g' := (mkF m 57 #[rv a1, iv 20, iv 16, iv 20, iv 4, iv 34] [(.int 0), (.int 34)])) st105 ?_
  refine own_st _ (own_ishr 58 X105 hx hby d56_57) ?_
  rw [show ((34 : Int32) >>> ((0 : Int32) &&& 31)) = (34 : Int32) from by decide]
  refine own_ret X105 hlk (v := some (.int 34)) (fun h => by rw [hret] at h; cases h) (fun fs hr => X105.ireturnOut hx hret rfl (Or.inl rfl) (hb hby d56_58) hr) ?_ (by decide) (by decide)
  show own_Q56 Z a1 vb kb es h0 n0 _ T105.heap _
  rw [e105]
  exact ⟨rfl, N104, rfl⟩
theorem d58_0 : own_D c_22 0 (.iload_n 1, 1) := by decide +kernel
theorem d58_1 : own_D c_22 1 (.aload_n 0, 1) := by decide +kernel
theorem d58_2 : own_D c_22 2 (.arraylength, 1) := by decide +kernel
theorem d58_3 : own_D c_22 3 (.if_icmp .ne 11, 3) := by decide +kernel
theorem d58_14 : own_D c_22 14 (.iload_n 1, 1) := by decide +kernel
theorem d58_15 : own_D c_22 15 (.newarray .byte, 2) := by decide +kernel
theorem d58_17 : own_D c_22 17 (.astore_n 2, 1) := by decide +kernel
theorem d58_18 : own_D c_22 18 (.aload_n 0, 1) := by decide +kernel
theorem d58_19 : own_D c_22 19 (.iconst 0, 1) := by decide +kernel
theorem d58_20 : own_D c_22 20 (.aload_n 2, 1) := by decide +kernel
theorem d58_21 : own_D c_22 21 (.iconst 0, 1) := by decide +kernel
theorem d58_22 : own_D c_22 22 (.aload_n 0, 1) := by decide +kernel
theorem d58_23 : own_D c_22 23 (.arraylength, 1) := by decide +kernel
theorem d58_24 : own_D c_22 24 (.iload_n 1, 1) := by decide +kernel
theorem d58_25 : own_D c_22 25 (.invokestatic 304, 3) := by decide +kernel
theorem hw_178 : own_H (.methodLink "java/util/Arrays" 304 mn_1) := own_h 178 rfl
theorem hw_181 : own_H (.code mn_1 jdk_29_method_69_code 2 (some .int)) := own_h 181 rfl
theorem hw_179 : own_H (.static mn_1) := own_h 179 rfl
theorem d58_28 : own_D c_22 28 (.invokestatic 150, 3) := by decide +kernel
theorem hw_182 : own_H (.methodLink "java/util/Arrays" 150 mn_57) := own_h 182 rfl
theorem d58_31 : own_D c_22 31 (.aload_n 2, 1) := by decide +kernel
theorem d58_32 : own_D c_22 32 (.areturn, 1) := by decide +kernel
theorem pn_58 : plainName "java/util/Arrays" = true := by first | (simp [plainName, overriddenIn]; done) | decide +kernel
theorem own_ef58 (m : MethodId) (r1 : Addr) : entryFrame m #[(.ref r1), (.int 34)] 3 = mkF m 0 #[rv r1, iv 34, .unset] [] := by first | (simp [entryFrame, mkF, argsToLocals, Value.category]; done) | rfl
def own_Q58 (Z : State) (r1 : Addr) (kb : ClassId) (es : List Int32) (h0 : Heap) (n0 : Nat) (v : Option Value) (h : Heap) (L : List Loc) : Prop := ∃ (vb : Addr) (kb : ClassId), v = some (.ref vb) ∧ Fr n0 L ∧ Keep h0 h [] ∧ h0.size ≤ vb ∧ Arv Z h vb kb .byte (34 : Int32) ((es ++ List.replicate 18 (0 : Int32)).map Value.int) (.int 0)
theorem own_rm58 (l Z a0) (hw : own_W a0 Z) (ws) (r1 : Addr) (kb : ClassId) (es : List Int32) (h0 : Heap) (n0 : Nat) (Z0 : n0 ≤ h0.size) (hes : es.length = 16) (V0 : Arv Z h0 r1 kb .byte (16 : Int32) ((es).map Value.int) (.int 0)) :
    own_M l Z ws mn_22 c_22 3 (some (.array .byte)) rm_13 #[(.ref r1), (.int 34)] h0 (own_Q58 Z r1 kb es h0 n0) := by
  refine own_body (plainFor_of_name pn_58) (fun m => own_ef58 m r1) ?_
  intro p e s m below meth c T0 X0 hx hby hml hZ hown hnm hret hlk e0
  have hown : s.vm.findClass "java/util/Arrays" = some m.cls := hown
  have hnm : meth.name = "copyOf" := hnm
  have N0 := Fr.nil n0
  have K0 : Keep h0 h0 [] := Keep.refl _ _
  refine own_st _ (own_iloadN 1 X0 hx hby d58_0) ?_
  refine own_st _ (own_aloadN 2 X0 hx hby d58_1) ?_
  obtain ⟨cl106, Ar106, -, S106, M106, -, -⟩ := id V0
  refine own_step (T' := T0) (g' := (mkF m 3 #[rv r1, iv 34, .unset] [(.int cl106.slots.size.toInt32), (.int 34)])) (X0.arraylength hx (by rw [e0]; exact Ar106.1) (State.isArrayOf_alike hZ.alike Ar106.2.1) (g := (mkF m 2 #[rv r1, iv 34, .unset] [(.ref r1), (.int 34)])) rfl rfl (hb hby d58_2)) ?_
  rw [len_of S106 M106]
  refine own_st _ (own_icmpYes 14 X0 hx hby d58_3 ((feq (by decide : ¬ ((34 : Int32) = (16 : Int32)))).2)) ?_
  refine own_st _ (own_iloadN 15 X0 hx hby d58_14) ?_
  obtain ⟨T107, h107, k107, X107, e107, E107, A107, B107, st107⟩ := newPE (aty := .byte) X0 hx hZ (hw_55 hw) e0 (g := (mkF m 15 #[rv r1, iv 34, .unset] [(.int 34)])) rfl (hb hby d58_15) rfl (by decide) (cap := 34) (by decide) (by decide) (by decide) (by decide) (ad := "[B") (by decide)
  obtain ⟨b107, g107⟩ : ∃ z, z = h0.size := ⟨_, rfl⟩
  rw [← g107] at A107 B107 st107
  have g_b107 : n0 ≤ b107 := Nat.le_trans Z0 (Nat.le_of_eq g107.symm)
  have sz_b107 : h0.size ≤ b107 := Nat.le_trans K0.1 (Nat.le_of_eq g107.symm)
  have Kp107 : Keep h0 h107 [] := K0.ext E107
  have Z107 : n0 ≤ h107.size := Nat.le_trans Z0 E107.1
  have u1 := V0.ext E107
  have V107 : Arv Z h107 b107 k107 .byte (34 : Int32) ((List.replicate 34 (0 : Int32)).map Value.int) (.int 0) := (Arv.new A107 (by decide)).pad (own_pad0 34)
  refine own_step (g' := (mkF m 17 #[rv r1, iv 34, .unset] [(.ref b107)])) st107 ?_
  refine own_st _ (own_astoreN 18 #[rv r1, iv 34, rv b107] X107 hx hby d58_17) ?_
  refine own_st _ (own_aloadN 19 X107 hx hby d58_18) ?_
  refine own_st _ (own_iconst 20 0 X107 hx hby d58_19) ?_
  refine own_st _ (own_aloadN 21 X107 hx hby d58_20) ?_
  refine own_st _ (own_iconst 22 0 X107 hx hby d58_21) ?_
  refine own_st _ (own_aloadN 23 X107 hx hby d58_22) ?_
  obtain ⟨cl108, Ar108, -, S108, M108, -, -⟩ := id u1
  refine own_step (T' := T107) (g' := (mkF m 24 #[rv r1, iv 34, rv b107] [(.int cl108.slots.size.toInt32), (.int 0), (.ref b107), (.int 0), (.ref r1)])) (X107.arraylength hx (by rw [e107]; exact Ar108.1) (State.isArrayOf_alike hZ.alike Ar108.2.1) (g := (mkF m 23 #[rv r1, iv 34, rv b107] [(.ref r1), (.int 0), (.ref b107), (.int 0), (.ref r1)])) rfl rfl (hb hby d58_23)) ?_
  rw [len_of S108 M108]
  refine own_st _ (own_iloadN 25 X107 hx hby d58_24) ?_
  obtain ⟨_, _, ⟨T109, L109, k109, n109⟩, -, X109, ⟨Lc109, hQ109, l109, y109, z109⟩, st109⟩ := Jvm.LawKit.callS X107 hx (y := mn_1) hown (mvT hZ (hw_178 hw)) (mvT hZ (hw_179 hw)) (mvT hZ (hw_180 hw)) (mvT hZ (hw_181 hw)) (by decide) (backOf (W := 4) (own_rm32 l Z a0 hw [] (16 : Int32) (34 : Int32) h107 n0 Z107) hZ (hw_181 hw) (hw_180 hw) (by decide) (by decide)) (g := (mkF m 25 #[rv r1, iv 34, rv b107] [(.int 34), (.int 16), (.int 0), (.ref b107), (.int 0), (.ref r1)])) rfl (by rw [hml]; rfl) (argsL := [(.int 16), (.int 34)]) (rest := [(.int 0), (.ref b107), (.int 0), (.ref r1)]) (lenOf pd_10 rfl) rfl own_z0 (hb hby d58_25) (fun _ _ => ⟨rfl, e107, (by decide : 1 + 0 ≤ _), (by decide : 34 + 0 ≤ _)⟩)
  dsimp only [Pt.U, Pt.locs, Pt.cells, Pt.slots] at X109 l109 y109 z109 st109 hQ109
  subst l109 y109 z109
  obtain ⟨rfl, Nq109, e109⟩ := hQ109
  have N109 := Fr.app N0 Nq109
  refine own_step (g' := (mkF m 28 #[rv r1, iv 34, rv b107] [(.int (own_min32 (16 : Int32) (34 : Int32))), (.int 0), (.ref b107), (.int 0), (.ref r1)])) st109 ?_
  rw [show (own_min32 (16 : Int32) (34 : Int32)) = (16 : Int32) from by decide]
  obtain ⟨T110, h110, Lc110, X110, e110, N110, K110, V110, st110⟩ := own_copyAt (pre := []) (rs := List.replicate 34 (0 : Int32)) X109 hx hZ hown (hw_182 hw) (hw_134 hw) (hw_132 hw) (hw_133 hw) e109 u1 V107 rfl (by rw [hes]; rfl) (by rw [hes]; rfl) rfl (by rw [hes]; simp) (n0 := n0) N109 g_b107 (g := (mkF m 28 #[rv r1, iv 34, rv b107] [(.int 16), (.int 0), (.ref b107), (.int 0), (.ref r1)])) rfl (by rw [hml]; rfl) rfl (hb hby d58_28) (by decide) (W := 0) own_z0 (by decide)
  have Kp110 : Keep h0 h110 [] := Kp107.trans K110 (allS (Or.inr sz_b107) all0)
  have Vr110 : Arv Z h110 b107 k107 .byte (34 : Int32) ((es ++ List.replicate 18 (0 : Int32)).map Value.int) (.int 0) := by have q := V110; rw [hes, List.drop_replicate] at q; exact q
  refine own_step (g' := (mkF m 31 #[rv r1, iv 34, rv b107] [])) st110 ?_
  refine own_st _ (own_aloadN 32 X110 hx hby d58_31) ?_
  refine own_ret X110 hlk (v := some (.ref b107)) (fun h => by rw [hret] at h; cases h) (fun fs hr => X110.areturnOut hx (w := (.ref b107)) rfl hret rfl (hb hby d58_32) hr) ?_ (by decide) (by decide)
  show own_Q58 Z r1 kb es h0 n0 _ T110.heap _
  rw [e110]
  exact ⟨b107, k107, rfl, N110, Kp110, sz_b107, Vr110⟩
theorem d18_17 : own_D c_15 17 (.aload_n 0, 1) := by decide +kernel
theorem d18_18 : own_D c_15 18 (.aload_n 0, 1) := by decide +kernel
theorem d18_19 : own_D c_15 19 (.getfield 15, 3) := by decide +kernel
theorem d18_22 : own_D c_15 22 (.aload_n 0, 1) := by decide +kernel
theorem d18_23 : own_D c_15 23 (.iload_n 1, 1) := by decide +kernel
theorem d18_24 : own_D c_15 24 (.invokevirtual 104, 3) := by decide +kernel
theorem hw_300 : own_H (.methodLink "java/lang/AbstractStringBuilder" 104 mn_21) := own_h 300 rfl
theorem hw_304 : own_H (.code mn_21 jdk_68_method_10_code 6 (some .int)) := own_h 304 rfl
theorem pd_12 : parseMethodDescriptor "(I)I" = some ⟨[.int], some .int⟩ := by decide +kernel
theorem hw_303 : own_H (.selects "java/lang/StringBuilder" mn_21 mn_21) := own_h 303 rfl
theorem hw_301 : own_H (.instanceMethod mn_21) := own_h 301 rfl
theorem d18_27 : own_D c_15 27 (.aload_n 0, 1) := by decide +kernel
theorem d18_28 : own_D c_15 28 (.getfield 22, 3) := by decide +kernel
theorem d18_31 : own_D c_15 31 (.ishl, 1) := by decide +kernel
theorem d18_32 : own_D c_15 32 (.invokestatic 108, 3) := by decide +kernel
theorem hw_312 : own_H (.methodLink "java/lang/AbstractStringBuilder" 108 mn_22) := own_h 312 rfl
theorem hw_314 : own_H (.code mn_22 jdk_65_method_121_code 3 (some (.array .byte))) := own_h 314 rfl
theorem hw_170 : own_H (.initialized "java/util/Arrays") := own_h 170 rfl
theorem pd_13 : parseMethodDescriptor "([BI)[B" = some ⟨[(.array .byte), .int], some (.array .byte)⟩ := by decide +kernel
theorem hw_313 : own_H (.static mn_22) := own_h 313 rfl
theorem d18_35 : own_D c_15 35 (.putfield 15, 3) := by decide +kernel
theorem own_ef18_3_17 (m : MethodId) (a1 : Addr) : entryFrame m #[(.ref a1), (.int 20)] 3 = mkF m 0 #[rv a1, iv 20, .unset] [] := by first | (simp [entryFrame, mkF, argsToLocals, Value.category]; done) | rfl
def own_Q18_3_17 (Z : State) (a1 v0 : Addr) (k0 : ClassId) (pre : List Int32) (h0 : Heap) (n0 : Nat) (v : Option Value) (h : Heap) (L : List Loc) : Prop := ∃ (vb : Addr) (kb : ClassId), v = none ∧ Fr n0 L ∧ Keep h0 h [a1] ∧ h0.size ≤ vb ∧ Exa Z h a1 "java/lang/StringBuilder" ∧ Fld Z h a1 "java/lang/AbstractStringBuilder" "value" "[B" (.ref vb) ∧ Fld Z h a1 "java/lang/AbstractStringBuilder" "coder" "B" (.int 0) ∧ Fld Z h a1 "java/lang/AbstractStringBuilder" "count" "I" (.int 3) ∧ Arv Z h vb kb .byte (34 : Int32) ((pre ++ List.replicate 31 (0 : Int32)).map Value.int) (.int 0)
theorem own_rm18_3_17 (l Z a0) (hw : own_W a0 Z) (ws) (a1 v0 : Addr) (k0 : ClassId) (pre : List Int32) (h0 : Heap) (n0 : Nat) (Z0 : n0 ≤ h0.size) (hpre : pre.length = 3) (E_a1 : Exa Z h0 a1 "java/lang/StringBuilder") (F_v : Fld Z h0 a1 "java/lang/AbstractStringBuilder" "value" "[B" (.ref v0)) (F_c : Fld Z h0 a1 "java/lang/AbstractStringBuilder" "coder" "B" (.int 0)) (F_n : Fld Z h0 a1 "java/lang/AbstractStringBuilder" "count" "I" (.int 3)) (V0 : Arv Z h0 v0 k0 .byte (16 : Int32) ((pre ++ List.replicate 13 (0 : Int32)).map Value.int) (.int 0)) (g_a1 : n0 ≤ a1) (ne_av : a1 ≠ v0) :
    own_M l Z ws mn_15 c_15 3 none rm_14 #[(.ref a1), (.int 20)] h0 (own_Q18_3_17 Z a1 v0 k0 pre h0 n0) := by
  refine own_body (plainFor_of_name pn_13) (fun m => own_ef18_3_17 m a1) ?_
  intro p e s m below meth c T0 X0 hx hby hml hZ hown hnm hret hlk e0
  have hown : s.vm.findClass "java/lang/AbstractStringBuilder" = some m.cls := hown
  have hnm : meth.name = "ensureCapacityInternal" := hnm
  have N0 := Fr.nil n0
  have K0 : Keep h0 h0 [a1] := Keep.refl _ _
  refine own_st _ (own_aloadN 1 X0 hx hby d18_0) ?_
  obtain ⟨T111, X111, e111, st111⟩ := getF X0 hx hZ hown (host := "") (Or.inl (hw_84 hw)) Via.refl e0 F_v (g := (mkF m 1 #[rv a1, iv 20, .unset] [(.ref a1)])) rfl rfl (hb hby d18_1)
  refine own_step (g' := (mkF m 4 #[rv a1, iv 20, .unset] [(.ref v0)])) st111 ?_
  obtain ⟨cl112, Ar112, -, S112, M112, -, -⟩ := id V0
  refine own_step (T' := T111) (g' := (mkF m 5 #[rv a1, iv 20, .unset] [(.int cl112.slots.size.toInt32)])) (X111.arraylength hx (by rw [e111]; exact Ar112.1) (State.isArrayOf_alike hZ.alike Ar112.2.1) (g := (mkF m 4 #[rv a1, iv 20, .unset] [(.ref v0)])) rfl rfl (hb hby d18_4)) ?_
  rw [len_of S112 M112]
  refine own_st _ (own_aloadN 6 X111 hx hby d18_5) ?_
  obtain ⟨T113, X113, e113, st113⟩ := getF X111 hx hZ hown (host := "") (Or.inl (hw_86 hw)) Via.refl e111 F_c (g := (mkF m 6 #[rv a1, iv 20, .unset] [(.ref a1), (.int 16)])) rfl rfl (hb hby d18_6)
  refine own_step (g' := (mkF m 9 #[rv a1, iv 20, .unset] [(.int 0), (.int 16)])) st113 ?_
  refine own_st _ (own_ishr 10 X113 hx hby d18_9) ?_
  rw [show ((16 : Int32) >>> ((0 : Int32) &&& 31)) = (16 : Int32) from by decide]
  refine own_st _ (own_istoreN 11 #[rv a1, iv 20, iv 16] X113 hx hby d18_10) ?_
  refine own_st _ (own_iloadN 12 X113 hx hby d18_11) ?_
  refine own_st _ (own_iloadN 13 X113 hx hby d18_12) ?_
  refine own_st _ (own_isub 14 X113 hx hby d18_13) ?_
  rw [show ((20 : Int32) - (16 : Int32)) = (4 : Int32) from by decide]
  refine own_st _ (own_ifNo 17 X113 hx hby d18_14 ((if0 _ _).trans (tlt (by decide : (0 : Int32) < (4 : Int32))).2.2.2)) ?_
  refine own_st _ (own_aloadN 18 X113 hx hby d18_17) ?_
  refine own_st _ (own_aloadN 19 X113 hx hby d18_18) ?_
  obtain ⟨T114, X114, e114, st114⟩ := getF X113 hx hZ hown (host := "") (Or.inl (hw_84 hw)) Via.refl e113 F_v (g := (mkF m 19 #[rv a1, iv 20, iv 16] [(.ref a1), (.ref a1)])) rfl rfl (hb hby d18_19)
  refine own_step (g' := (mkF m 22 #[rv a1, iv 20, iv 16] [(.ref v0), (.ref a1)])) st114 ?_
  refine own_st _ (own_aloadN 23 X114 hx hby d18_22) ?_
  refine own_st _ (own_iloadN 24 X114 hx hby d18_23) ?_
  obtain ⟨cq115, kq115, q115a, q115b, q115c⟩ := isOf hZ e114 E_a1
  obtain ⟨_, _, ⟨T115, L115, k115, n115⟩, -, X115, ⟨Lc115, hQ115, l115, y115, z115⟩, st115⟩ := X114.virtualBack hx (y := mn_21) (z := mn_21) hown (mvT hZ (hw_300 hw)) (mvT hZ (own_declares (hw_301 hw) (hw_304 hw))) (notFace_of_selects (args := #[]) (mvT hZ (hw_303 hw))) (mvT hZ (hw_303 hw)) (mvT hZ (hw_301 hw)) (by decide) (backOf (W := 2) (own_rm56 l Z a0 hw [] a1 v0 k0 (pre ++ List.replicate 13 (0 : Int32)) h0 n0 Z0 E_a1 F_v F_c V0) hZ (hw_304 hw) (hw_80 hw) (by decide) (by decide)) q115a q115c (g := (mkF m 24 #[rv a1, iv 20, iv 16] [(.int 20), (.ref a1), (.ref v0), (.ref a1)])) rfl (by rw [hml]; rfl) (Steps.refl _) (argsL := [(.int 20)]) (rest := [(.ref v0), (.ref a1)]) (lenOf pd_12 rfl) rfl own_z0 (hb hby d18_24) (fun _ _ => ⟨rfl, e114, (by decide : 0 + 0 ≤ _), (by decide : 0 + 0 ≤ _)⟩)
  dsimp only [Pt.U, Pt.locs, Pt.cells, Pt.slots] at X115 l115 y115 z115 st115 hQ115
  subst l115 y115 z115
  obtain ⟨rfl, Nq115, e115⟩ := hQ115
  have N115 := Fr.app N0 Nq115
  refine own_jump (g' := (mkF m 27 #[rv a1, iv 20, iv 16] [(.int 34), (.ref v0), (.ref a1)])) st115 ?_
  refine own_st _ (own_aloadN 28 X115 hx hby d18_27) ?_
  obtain ⟨T116, X116, e116, st116⟩ := getF X115 hx hZ hown (host := "") (Or.inl (hw_86 hw)) Via.refl e115 F_c (g := (mkF m 28 #[rv a1, iv 20, iv 16] [(.ref a1), (.int 34), (.ref v0), (.ref a1)])) rfl rfl (hb hby d18_28)
  refine own_step (g' := (mkF m 31 #[rv a1, iv 20, iv 16] [(.int 0), (.int 34), (.ref v0), (.ref a1)])) st116 ?_
  refine own_st _ (own_ishl 32 X116 hx hby d18_31) ?_
  rw [show ((34 : Int32) <<< ((0 : Int32) &&& 31)) = (34 : Int32) from by decide]
  obtain ⟨_, _, ⟨T117, L117, k117, n117⟩, -, X117, ⟨Lc117, hQ117, l117, y117, z117⟩, st117⟩ := Jvm.LawKit.callS X116 hx (y := mn_22) hown (mvT hZ (hw_312 hw)) (mvT hZ (hw_313 hw)) (mvT hZ (hw_170 hw)) (mvT hZ (hw_314 hw)) (by decide) (backOf (W := 1) (own_rm58 l Z a0 hw [] v0 k0 (pre ++ List.replicate 13 (0 : Int32)) h0 n0 Z0 (by simp [hpre]) V0) hZ (hw_314 hw) (hw_170 hw) (by decide) (by decide)) (g := (mkF m 32 #[rv a1, iv 20, iv 16] [(.int 34), (.ref v0), (.ref a1)])) rfl (by rw [hml]; rfl) (argsL := [(.ref v0), (.int 34)]) (rest := [(.ref a1)]) (lenOf pd_13 rfl) rfl own_z0 (hb hby d18_32) (fun _ _ => ⟨rfl, e116, (by decide : 0 + 1 ≤ _), (by decide : 0 + 34 ≤ _)⟩)
  dsimp only [Pt.U, Pt.locs, Pt.cells, Pt.slots] at X117 l117 y117 z117 st117 hQ117
  subst l117 y117 z117
  obtain ⟨vb117, kb117, rfl, Nq117, K117, gb117, V117⟩ := hQ117
  have N117 := Fr.app N115 Nq117
  have ne_a1_vb117 : a1 ≠ vb117 := Nat.ne_of_lt (Nat.lt_of_lt_of_le E_a1.lt gb117)
  have sz_vb117 : h0.size ≤ vb117 := Nat.le_trans K0.1 gb117
  have Kp117 : Keep h0 T117.heap [a1] := K0.trans K117 all0
  have u1 := E_a1.keep K117
  have u2 := F_v.keep K117 nin0
  have u3 := F_c.keep K117 nin0
  have u4 := F_n.keep K117 nin0
  refine own_step (g' := (mkF m 35 #[rv a1, iv 20, iv 16] [(.ref vb117), (.ref a1)])) st117 ?_
  have Vg : Arv Z T117.heap vb117 kb117 .byte (34 : Int32) ((pre ++ List.replicate 31 (0 : Int32)).map Value.int) (.int 0) := by have q := V117; rw [own_rep] at q; exact q
  obtain ⟨T118, h118, X118, e118, W118, st118⟩ := putF X117 hx hZ hown (host := "") (Or.inl (hw_84 hw)) Via.refl rfl u2 u1 (Or.inl (hw_85 hw)) (hw_71 hw) (ty := (.array .byte)) (by decide) rfl rfl (g := (mkF m 35 #[rv a1, iv 20, iv 16] [(.ref vb117), (.ref a1)])) rfl rfl (hb hby d18_35)
  have u6 := u1.wr W118
  have u7 := u3.other W118 (Or.inr (slot_ne (a0 := a0) (C := "java/lang/StringBuilder") (Or.inl (hw_87 hw)) (Or.inl (hw_85 hw)) (by decide) (t := .byte) (t' := (.array .byte)) (by decide) (by decide)))
  have u8 := u4.other W118 (Or.inr (slot_ne (a0 := a0) (C := "java/lang/StringBuilder") (Or.inl (hw_109 hw)) (Or.inl (hw_85 hw)) (by decide) (t := .int) (t' := (.array .byte)) (by decide) (by decide)))
  have u10 := Vg.other W118 (Ne.symm ne_a1_vb117)
  have fw118 : Fld Z h118 a1 "java/lang/AbstractStringBuilder" "value" "[B" (.ref vb117) := u2.same W118
  have Kp118 : Keep h0 h118 [a1] := Kp117.wr W118 (Or.inl (List.mem_of_getElem? (i := 0) rfl))
  have N118 := Fr.snoc X118 N117 g_a1
  refine own_step (g' := (mkF m 38 #[rv a1, iv 20, iv 16] [])) st118 ?_
  refine own_ret X118 hlk (v := none) (fun _ => rfl) (fun fs hr => X118.returnOut hx hret (hb hby d18_38) hr) ?_ (by decide) (by decide)
  show own_Q18_3_17 Z a1 v0 k0 pre h0 n0 _ T118.heap _
  rw [e118]
  exact ⟨vb117, kb117, rfl, N118, Kp118, sz_vb117, u6, fw118, u7, u8, u10⟩
def own_Q21_3_17 (Z : State) (a1 r2 r9 : Addr) (k2 : ClassId) (bs : List Int32) (kq : ClassId) (pre : List Int32) (wc : Int32) (wD : Addr) (kD : ClassId) (h0 : Heap) (n0 : Nat) (v : Option Value) (h : Heap) (L : List Loc) : Prop := v = none ∧ Fr n0 L ∧ Keep h0 h [r2] ∧ Arv Z h r2 k2 .byte (34 : Int32) (((pre ++ bs) ++ List.replicate 14 (0 : Int32)).map Value.int) (.int 0)
theorem own_rm21_3_17 (l Z a0) (hw : own_W a0 Z) (ws) (a1 r2 r9 : Addr) (k2 : ClassId) (bs : List Int32) (kq : ClassId) (pre : List Int32) (wc : Int32) (wD : Addr) (kD : ClassId) (h0 : Heap) (n0 : Nat) (Z0 : n0 ≤ h0.size) (O0 : Old Z n0 h0) (SS : own_St Z wc wD kD) (hpre : pre.length = 3) (hbl : bs.length = 17) (E_a1 : Exa Z h0 a1 "java/lang/String") (F_v : Fld Z h0 a1 "java/lang/String" "value" "[B" (.ref r9)) (F_c : Fld Z h0 a1 "java/lang/String" "coder" "B" (.int 0)) (V0 : Arv Z h0 r9 kq .byte (17 : Int32) ((bs).map Value.int) (.int 0)) (V2 : Arv Z h0 r2 k2 .byte (34 : Int32) ((pre ++ List.replicate 31 (0 : Int32)).map Value.int) (.int 0)) (g_r2 : n0 ≤ r2) (ne_92 : r9 ≠ r2) (ne_12 : a1 ≠ r2) :
    own_M l Z ws mn_16 c_16 4 none rm_7 #[(.ref a1), (.ref r2), (.int 3), (.int 0)] h0 (own_Q21_3_17 Z a1 r2 r9 k2 bs kq pre wc wD kD h0 n0) := by
  refine own_body (plainFor_of_name pn_10) (fun m => own_ef21_3_1 m a1 r2) ?_
  intro p e s m below meth c T0 X0 hx hby hml hZ hown hnm hret hlk e0
  have hown : s.vm.findClass "java/lang/String" = some m.cls := hown
  have hnm : meth.name = "getBytes" := hnm
  have N0 := Fr.nil n0
  have K0 : Keep h0 h0 [r2] := Keep.refl _ _
  refine own_st _ (own_aloadN 1 X0 hx hby d21_0) ?_
  obtain ⟨cq119, kq119, q119a, q119b, q119c⟩ := isOf hZ e0 E_a1
  obtain ⟨_, _, ⟨T119, L119, k119, n119⟩, -, X119, ⟨Lc119, hQ119, l119, y119, z119⟩, st119⟩ := X0.virtualBack hx (y := mn_6) (z := mn_6) hown (mvT hZ (hw_103 hw)) (mvT hZ (hw_104 hw)) (notFace_of_selects (args := #[]) (mvT hZ (hw_106 hw))) (mvT hZ (hw_106 hw)) (mvT hZ (hw_105 hw)) (by decide) (backOf (W := 0) (own_rm17 l Z a0 hw [] a1 wc wD kD h0 n0 Z0 O0 SS F_c) hZ (hw_107 hw) (hw_43 hw) (by decide) (by decide)) q119a q119c (g := (mkF m 1 #[rv a1, rv r2, iv 3, iv 0] [(.ref a1)])) rfl (by rw [hml]; rfl) (Steps.refl _) (argsL := []) (rest := []) (lenOf pd_4 rfl) rfl own_z0 (hb hby d21_1) (fun _ _ => ⟨rfl, e0, (by decide : 0 + 0 ≤ _), (by decide : 0 + 0 ≤ _)⟩)
  dsimp only [Pt.U, Pt.locs, Pt.cells, Pt.slots] at X119 l119 y119 z119 st119 hQ119
  subst l119 y119 z119
  obtain ⟨rfl, Nq119, e119⟩ := hQ119
  have N119 := Fr.app N0 Nq119
  refine own_jump (g' := (mkF m 4 #[rv a1, rv r2, iv 3, iv 0] [(.int 0)])) st119 ?_
  refine own_st _ (own_iloadN 5 X119 hx hby d21_4) ?_
  refine own_st _ (own_icmpNo 8 X119 hx hby d21_5 ((teq (by decide : (0 : Int32) = (0 : Int32))).2)) ?_
  refine own_st _ (own_aloadN 9 X119 hx hby d21_8) ?_
  obtain ⟨T120, X120, e120, st120⟩ := getF X119 hx hZ hown (host := "") (Or.inl (hw_61 hw)) Via.refl e119 F_v (g := (mkF m 9 #[rv a1, rv r2, iv 3, iv 0] [(.ref a1)])) rfl rfl (hb hby d21_9)
  refine own_step (g' := (mkF m 12 #[rv a1, rv r2, iv 3, iv 0] [(.ref r9)])) st120 ?_
  refine own_st _ (own_iconst 13 0 X120 hx hby d21_12) ?_
  refine own_st _ (own_aloadN 14 X120 hx hby d21_13) ?_
  refine own_st _ (own_iloadN 15 X120 hx hby d21_14) ?_
  refine own_st _ (own_iloadN 16 X120 hx hby d21_15) ?_
  refine own_st _ (own_ishl 17 X120 hx hby d21_16) ?_
  rw [show ((3 : Int32) <<< ((0 : Int32) &&& 31)) = (3 : Int32) from by decide]
  refine own_st _ (own_aloadN 18 X120 hx hby d21_17) ?_
  obtain ⟨T121, X121, e121, st121⟩ := getF X120 hx hZ hown (host := "") (Or.inl (hw_61 hw)) Via.refl e120 F_v (g := (mkF m 18 #[rv a1, rv r2, iv 3, iv 0] [(.ref a1), (.int 3), (.ref r2), (.int 0), (.ref r9)])) rfl rfl (hb hby d21_18)
  refine own_step (g' := (mkF m 21 #[rv a1, rv r2, iv 3, iv 0] [(.ref r9), (.int 3), (.ref r2), (.int 0), (.ref r9)])) st121 ?_
  obtain ⟨cl122, Ar122, -, S122, M122, -, -⟩ := id V0
  refine own_step (T' := T121) (g' := (mkF m 22 #[rv a1, rv r2, iv 3, iv 0] [(.int cl122.slots.size.toInt32), (.int 3), (.ref r2), (.int 0), (.ref r9)])) (X121.arraylength hx (by rw [e121]; exact Ar122.1) (State.isArrayOf_alike hZ.alike Ar122.2.1) (g := (mkF m 21 #[rv a1, rv r2, iv 3, iv 0] [(.ref r9), (.int 3), (.ref r2), (.int 0), (.ref r9)])) rfl rfl (hb hby d21_21)) ?_
  rw [len_of S122 M122]
  obtain ⟨T123, h123, Lc123, X123, e123, N123, K123, V123, st123⟩ := own_copyAt (pre := pre) (rs := List.replicate 31 (0 : Int32)) X121 hx hZ hown (hw_131 hw) (hw_134 hw) (hw_132 hw) (hw_133 hw) e121 V0 V2 (by rw [hpre]; rfl) (by rw [hbl]; rfl) (by rw [hbl]; rfl) (by simp [hpre]) (by rw [hbl]; simp) (n0 := n0) N119 g_r2 (g := (mkF m 22 #[rv a1, rv r2, iv 3, iv 0] [(.int 17), (.int 3), (.ref r2), (.int 0), (.ref r9)])) rfl (by rw [hml]; rfl) rfl (hb hby d21_22) (by decide) (W := 0) own_z0 (by decide)
  have Kp123 : Keep h0 h123 [r2] := K0.trans K123 (allS (Or.inl (List.mem_of_getElem? (i := 0) rfl)) all0)
  have Vr123 : Arv Z h123 r2 k2 .byte (34 : Int32) (((pre ++ bs) ++ List.replicate 14 (0 : Int32)).map Value.int) (.int 0) := by have q := V123; rw [hbl, List.drop_replicate] at q; exact q
  refine own_step (g' := (mkF m 25 #[rv a1, rv r2, iv 3, iv 0] [])) st123 ?_
  refine own_st _ (own_goto 43 X123 hx hby d21_25) ?_
  refine own_ret X123 hlk (v := none) (fun _ => rfl) (fun fs hr => X123.returnOut hx hret (hb hby d21_43) hr) ?_ (by decide) (by decide)
  show own_Q21_3_17 Z a1 r2 r9 k2 bs kq pre wc wD kD h0 n0 _ T123.heap _
  rw [e123]
  exact ⟨rfl, N123, Kp123, Vr123⟩
def own_Q19_3_17 (Z : State) (a1 r3 vb : Addr) (kb : ClassId) (r9 : Addr) (bs : List Int32) (kq : ClassId) (pre : List Int32) (wc : Int32) (wD : Addr) (kD : ClassId) (h0 : Heap) (n0 : Nat) (v : Option Value) (h : Heap) (L : List Loc) : Prop := v = none ∧ Fr n0 L ∧ Keep h0 h [vb] ∧ Arv Z h vb kb .byte (34 : Int32) (((pre ++ bs) ++ List.replicate 14 (0 : Int32)).map Value.int) (.int 0)
theorem own_rm19_3_17 (l Z a0) (hw : own_W a0 Z) (ws) (a1 r3 vb : Addr) (kb : ClassId) (r9 : Addr) (bs : List Int32) (kq : ClassId) (pre : List Int32) (wc : Int32) (wD : Addr) (kD : ClassId) (h0 : Heap) (n0 : Nat) (Z0 : n0 ≤ h0.size) (O0 : Old Z n0 h0) (SS : own_St Z wc wD kD) (hpre : pre.length = 3) (hbl : bs.length = 17) (E_a1 : Exa Z h0 a1 "java/lang/StringBuilder") (F_v : Fld Z h0 a1 "java/lang/AbstractStringBuilder" "value" "[B" (.ref vb)) (F_c : Fld Z h0 a1 "java/lang/AbstractStringBuilder" "coder" "B" (.int 0)) (V0 : Arv Z h0 vb kb .byte (34 : Int32) ((pre ++ List.replicate 31 (0 : Int32)).map Value.int) (.int 0)) (E_r3 : Exa Z h0 r3 "java/lang/String") (G_v : Fld Z h0 r3 "java/lang/String" "value" "[B" (.ref r9)) (G_c : Fld Z h0 r3 "java/lang/String" "coder" "B" (.int 0)) (V9 : Arv Z h0 r9 kq .byte (17 : Int32) ((bs).map Value.int) (.int 0)) (g_vb : n0 ≤ vb) (ne_av : a1 ≠ vb) (ne_rv : r3 ≠ vb) (ne_9v : r9 ≠ vb) :
    own_M l Z ws mn_17 c_17 3 none rm_8 #[(.ref a1), (.int 3), (.ref r3)] h0 (own_Q19_3_17 Z a1 r3 vb kb r9 bs kq pre wc wD kD h0 n0) := by
  refine own_body (plainFor_of_name pn_13) (fun m => own_ef19_3_1 m a1 r3) ?_
  intro p e s m below meth c T0 X0 hx hby hml hZ hown hnm hret hlk e0
  have hown : s.vm.findClass "java/lang/AbstractStringBuilder" = some m.cls := hown
  have hnm : meth.name = "putStringAt" := hnm
  have N0 := Fr.nil n0
  have K0 : Keep h0 h0 [vb] := Keep.refl _ _
  refine own_st _ (own_aloadN 1 X0 hx hby d19_0) ?_
  refine own_st _ (own_aloadN 2 X0 hx hby d19_1) ?_
  obtain ⟨cq124, kq124, q124a, q124b, q124c⟩ := isOf hZ e0 E_a1
  obtain ⟨_, _, ⟨T124, L124, k124, n124⟩, -, X124, ⟨Lc124, hQ124, l124, y124, z124⟩, st124⟩ := X0.virtualBack hx (y := mn_10) (z := mn_10) hown (mvT hZ (hw_120 hw)) (mvT hZ (own_declares (hw_121 hw) (hw_124 hw))) (notFace_of_selects (args := #[]) (mvT hZ (hw_123 hw))) (mvT hZ (hw_123 hw)) (mvT hZ (hw_121 hw)) (by decide) (backOf (W := 0) (own_rm20 l Z a0 hw [] a1 r3 wc wD kD h0 n0 Z0 O0 SS F_c E_r3 G_c) hZ (hw_124 hw) (hw_80 hw) (by decide) (by decide)) q124a q124c (g := (mkF m 2 #[rv a1, iv 3, rv r3] [(.ref r3), (.ref a1)])) rfl (by rw [hml]; rfl) (Steps.refl _) (argsL := [(.ref r3)]) (rest := []) (lenOf pd_6 rfl) rfl own_z0 (hb hby d19_2) (fun _ _ => ⟨rfl, e0, (by decide : 0 + 0 ≤ _), (by decide : 0 + 0 ≤ _)⟩)
  dsimp only [Pt.U, Pt.locs, Pt.cells, Pt.slots] at X124 l124 y124 z124 st124 hQ124
  subst l124 y124 z124
  obtain ⟨rfl, Nq124, e124⟩ := hQ124
  have N124 := Fr.app N0 Nq124
  refine own_jump (g' := (mkF m 5 #[rv a1, iv 3, rv r3] [])) st124 ?_
  refine own_st _ (own_aloadN 6 X124 hx hby d19_5) ?_
  refine own_st _ (own_aloadN 7 X124 hx hby d19_6) ?_
  obtain ⟨T125, X125, e125, st125⟩ := getF X124 hx hZ hown (host := "") (Or.inl (hw_84 hw)) Via.refl e124 F_v (g := (mkF m 7 #[rv a1, iv 3, rv r3] [(.ref a1), (.ref r3)])) rfl rfl (hb hby d19_7)
  refine own_step (g' := (mkF m 10 #[rv a1, iv 3, rv r3] [(.ref vb), (.ref r3)])) st125 ?_
  refine own_st _ (own_iloadN 11 X125 hx hby d19_10) ?_
  refine own_st _ (own_aloadN 12 X125 hx hby d19_11) ?_
  obtain ⟨T126, X126, e126, st126⟩ := getF X125 hx hZ hown (host := "") (Or.inl (hw_86 hw)) Via.refl e125 F_c (g := (mkF m 12 #[rv a1, iv 3, rv r3] [(.ref a1), (.int 3), (.ref vb), (.ref r3)])) rfl rfl (hb hby d19_12)
  refine own_step (g' := (mkF m 15 #[rv a1, iv 3, rv r3] [(.int 0), (.int 3), (.ref vb), (.ref r3)])) st126 ?_
  obtain ⟨cq127, kq127, q127a, q127b, q127c⟩ := isOf hZ e126 E_r3
  obtain ⟨_, _, ⟨T127, L127, k127, n127⟩, -, X127, ⟨Lc127, hQ127, l127, y127, z127⟩, st127⟩ := X126.virtualBack hx (y := mn_16) (z := mn_16) hown (mvT hZ (hw_126 hw)) (mvT hZ (hw_127 hw)) (notFace_of_selects (args := #[]) (mvT hZ (hw_129 hw))) (mvT hZ (hw_129 hw)) (mvT hZ (hw_128 hw)) (by decide) (backOf (W := 0) (own_rm21_3_17 l Z a0 hw [] r3 vb r9 kb bs kq pre wc wD kD h0 n0 Z0 O0 SS hpre hbl E_r3 G_v G_c V9 V0 g_vb ne_9v ne_rv) hZ (hw_130 hw) (hw_43 hw) (by decide) (by decide)) q127a q127c (g := (mkF m 15 #[rv a1, iv 3, rv r3] [(.int 0), (.int 3), (.ref vb), (.ref r3)])) rfl (by rw [hml]; rfl) (Steps.refl _) (argsL := [(.ref vb), (.int 3), (.int 0)]) (rest := []) (lenOf pd_7 rfl) rfl own_z0 (hb hby d19_15) (fun _ _ => ⟨rfl, e126, (by decide : 0 + 0 ≤ _), (by decide : 0 + 0 ≤ _)⟩)
  dsimp only [Pt.U, Pt.locs, Pt.cells, Pt.slots] at X127 l127 y127 z127 st127 hQ127
  subst l127 y127 z127
  obtain ⟨rfl, Nq127, K127, V127⟩ := hQ127
  have N127 := Fr.app N124 Nq127
  have Kp127 : Keep h0 T127.heap [vb] := K0.trans K127 (allS (Or.inl (List.mem_of_getElem? (i := 0) rfl)) all0)
  refine own_jump (g' := (mkF m 18 #[rv a1, iv 3, rv r3] [])) st127 ?_
  refine own_ret X127 hlk (v := none) (fun _ => rfl) (fun fs hr => X127.returnOut hx hret (hb hby d19_18) hr) ?_ (by decide) (by decide)
  show own_Q19_3_17 Z a1 r3 vb kb r9 bs kq pre wc wD kD h0 n0 _ T127.heap _
  exact ⟨rfl, N127, Kp127, V127⟩
def own_Q15_3_17 (Z : State) (a1 r2 v0 : Addr) (k0 : ClassId) (r9 : Addr) (bs : List Int32) (kq : ClassId) (pre : List Int32) (wc : Int32) (wD : Addr) (kD : ClassId) (h0 : Heap) (n0 : Nat) (v : Option Value) (h : Heap) (L : List Loc) : Prop := ∃ (vb : Addr) (kb : ClassId), v = some (.ref a1) ∧ Fr n0 L ∧ Keep h0 h [a1] ∧ h0.size ≤ vb ∧ Exa Z h a1 "java/lang/StringBuilder" ∧ Fld Z h a1 "java/lang/AbstractStringBuilder" "value" "[B" (.ref vb) ∧ Fld Z h a1 "java/lang/AbstractStringBuilder" "coder" "B" (.int 0) ∧ Fld Z h a1 "java/lang/AbstractStringBuilder" "count" "I" (.int 20) ∧ Arv Z h vb kb .byte (34 : Int32) (((pre ++ bs) ++ List.replicate 14 (0 : Int32)).map Value.int) (.int 0)
theorem own_rm15_3_17 (l Z a0) (hw : own_W a0 Z) (ws) (a1 r2 v0 : Addr) (k0 : ClassId) (r9 : Addr) (bs : List Int32) (kq : ClassId) (pre : List Int32) (wc : Int32) (wD : Addr) (kD : ClassId) (h0 : Heap) (n0 : Nat) (Z0 : n0 ≤ h0.size) (O0 : Old Z n0 h0) (SS : own_St Z wc wD kD) (hpre : pre.length = 3) (hbl : bs.length = 17) (E_a1 : Exa Z h0 a1 "java/lang/StringBuilder") (F_v : Fld Z h0 a1 "java/lang/AbstractStringBuilder" "value" "[B" (.ref v0)) (F_c : Fld Z h0 a1 "java/lang/AbstractStringBuilder" "coder" "B" (.int 0)) (F_n : Fld Z h0 a1 "java/lang/AbstractStringBuilder" "count" "I" (.int 3)) (V0 : Arv Z h0 v0 k0 .byte (16 : Int32) ((pre ++ List.replicate 13 (0 : Int32)).map Value.int) (.int 0)) (E_r2 : Exa Z h0 r2 "java/lang/String") (G_v : Fld Z h0 r2 "java/lang/String" "value" "[B" (.ref r9)) (G_c : Fld Z h0 r2 "java/lang/String" "coder" "B" (.int 0)) (V9 : Arv Z h0 r9 kq .byte (17 : Int32) ((bs).map Value.int) (.int 0)) (g_a1 : n0 ≤ a1) (ne_av : a1 ≠ v0) (ne_ar : a1 ≠ r2) (ne_a9 : a1 ≠ r9) :
    own_M l Z ws mn_18 c_18 3 (some (.object "java/lang/AbstractStringBuilder")) rm_15 #[(.ref a1), (.ref r2)] h0 (own_Q15_3_17 Z a1 r2 v0 k0 r9 bs kq pre wc wD kD h0 n0) := by
  refine own_body (plainFor_of_name pn_13) (fun m => own_ef15_0_1 m a1 r2) ?_
  intro p e s m below meth c T0 X0 hx hby hml hZ hown hnm hret hlk e0
  have hown : s.vm.findClass "java/lang/AbstractStringBuilder" = some m.cls := hown
  have hnm : meth.name = "append" := hnm
  have N0 := Fr.nil n0
  have K0 : Keep h0 h0 [a1] := Keep.refl _ _
  refine own_st _ (own_aloadN 1 X0 hx hby d15_0) ?_
  refine own_st _ (own_ifnonnullYes 9 X0 hx hby d15_1) ?_
  refine own_st _ (own_aloadN 10 X0 hx hby d15_9) ?_
  obtain ⟨cq128, kq128, q128a, q128b, q128c⟩ := isOf hZ e0 E_r2
  obtain ⟨_, _, ⟨T128, L128, k128, n128⟩, -, X128, ⟨Lc128, hQ128, l128, y128, z128⟩, st128⟩ := X0.virtualBack hx (y := mn_14) (z := mn_14) hown (mvT hZ (hw_98 hw)) (mvT hZ (hw_99 hw)) (notFace_of_selects (args := #[]) (mvT hZ (hw_101 hw))) (mvT hZ (hw_101 hw)) (mvT hZ (hw_100 hw)) (by decide) (backOf (W := 0) (own_rm16_17 l Z a0 hw [] r2 r9 bs kq wc wD kD h0 n0 Z0 O0 SS E_r2 G_v G_c V9) hZ (hw_102 hw) (hw_43 hw) (by decide) (by decide)) q128a q128c (g := (mkF m 10 #[rv a1, rv r2, .unset] [(.ref r2)])) rfl (by rw [hml]; rfl) (Steps.refl _) (argsL := []) (rest := []) (lenOf pd_5 rfl) rfl own_z0 (hb hby d15_10) (fun _ _ => ⟨rfl, e0, (by decide : 0 + 0 ≤ _), (by decide : 0 + 0 ≤ _)⟩)
  dsimp only [Pt.U, Pt.locs, Pt.cells, Pt.slots] at X128 l128 y128 z128 st128 hQ128
  subst l128 y128 z128
  obtain ⟨rfl, Nq128, e128⟩ := hQ128
  have N128 := Fr.app N0 Nq128
  refine own_jump (g' := (mkF m 13 #[rv a1, rv r2, .unset] [(.int 17)])) st128 ?_
  refine own_st _ (own_istoreN 14 #[rv a1, rv r2, iv 17] X128 hx hby d15_13) ?_
  refine own_st _ (own_aloadN 15 X128 hx hby d15_14) ?_
  refine own_st _ (own_aloadN 16 X128 hx hby d15_15) ?_
  obtain ⟨T129, X129, e129, st129⟩ := getF X128 hx hZ hown (host := "") (Or.inl (hw_108 hw)) Via.refl e128 F_n (g := (mkF m 16 #[rv a1, rv r2, iv 17] [(.ref a1), (.ref a1)])) rfl rfl (hb hby d15_16)
  refine own_step (g' := (mkF m 19 #[rv a1, rv r2, iv 17] [(.int 3), (.ref a1)])) st129 ?_
  refine own_st _ (own_iloadN 20 X129 hx hby d15_19) ?_
  refine own_st _ (own_iadd 21 X129 hx hby d15_20) ?_
  rw [show ((3 : Int32) + (17 : Int32)) = (20 : Int32) from by decide]
  obtain ⟨cq130, kq130, q130a, q130b, q130c⟩ := isOf hZ e129 E_a1
  obtain ⟨_, _, ⟨T130, L130, k130, n130⟩, -, X130, ⟨Lc130, hQ130, l130, y130, z130⟩, st130⟩ := X129.virtualBack hx (y := mn_15) (z := mn_15) hown (mvT hZ (hw_110 hw)) (mvT hZ (own_declares (hw_111 hw) (hw_114 hw))) (notFace_of_selects (args := #[]) (mvT hZ (hw_113 hw))) (mvT hZ (hw_113 hw)) (mvT hZ (hw_111 hw)) (by decide) (backOf (W := 0) (own_rm18_3_17 l Z a0 hw [] a1 v0 k0 pre h0 n0 Z0 hpre E_a1 F_v F_c F_n V0 g_a1 ne_av) hZ (hw_114 hw) (hw_80 hw) (by decide) (by decide)) q130a q130c (g := (mkF m 21 #[rv a1, rv r2, iv 17] [(.int 20), (.ref a1)])) rfl (by rw [hml]; rfl) (Steps.refl _) (argsL := [(.int 20)]) (rest := []) (lenOf pd_3 rfl) rfl own_z0 (hb hby d15_21) (fun _ _ => ⟨rfl, e129, (by decide : 0 + 1 ≤ _), (by decide : 0 + 34 ≤ _)⟩)
  dsimp only [Pt.U, Pt.locs, Pt.cells, Pt.slots] at X130 l130 y130 z130 st130 hQ130
  subst l130 y130 z130
  obtain ⟨vb130, kb130, rfl, Nq130, K130, gb130, Ex130, Fv130, Fc130, Fn130, V130⟩ := hQ130
  have N130 := Fr.app N128 Nq130
  have g_vb130 : n0 ≤ vb130 := Nat.le_trans Z0 gb130
  have ne_a1_vb130 : a1 ≠ vb130 := Nat.ne_of_lt (Nat.lt_of_lt_of_le E_a1.lt gb130)
  have ne_r2_vb130 : r2 ≠ vb130 := Nat.ne_of_lt (Nat.lt_of_lt_of_le E_r2.lt gb130)
  have ne_r9_vb130 : r9 ≠ vb130 := Nat.ne_of_lt (Nat.lt_of_lt_of_le V9.lt gb130)
  have sz_vb130 : h0.size ≤ vb130 := Nat.le_trans K0.1 gb130
  have Z130 : n0 ≤ T130.heap.size := Nat.le_trans Z0 K130.1
  have O130 : Old Z n0 T130.heap := O0.keep K130 (allS g_a1 all0)
  have Kp130 : Keep h0 T130.heap [a1] := K0.trans K130 (allS (Or.inl (List.mem_of_getElem? (i := 0) rfl)) all0)
  have u3 := E_r2.keep K130
  have u4 := G_v.keep K130 (ninS (Ne.symm ne_ar) nin0)
  have u5 := G_c.keep K130 (ninS (Ne.symm ne_ar) nin0)
  have u6 := V9.keep K130 (ninS (Ne.symm ne_a9) nin0)
  refine own_jump (g' := (mkF m 24 #[rv a1, rv r2, iv 17] [])) st130 ?_
  refine own_st _ (own_aloadN 25 X130 hx hby d15_24) ?_
  refine own_st _ (own_aloadN 26 X130 hx hby d15_25) ?_
  obtain ⟨T131, X131, e131, st131⟩ := getF X130 hx hZ hown (host := "") (Or.inl (hw_108 hw)) Via.refl rfl Fn130 (g := (mkF m 26 #[rv a1, rv r2, iv 17] [(.ref a1), (.ref a1)])) rfl rfl (hb hby d15_26)
  refine own_step (g' := (mkF m 29 #[rv a1, rv r2, iv 17] [(.int 3), (.ref a1)])) st131 ?_
  refine own_st _ (own_aloadN 30 X131 hx hby d15_29) ?_
  obtain ⟨cq132, kq132, q132a, q132b, q132c⟩ := isOf hZ e131 Ex130
  obtain ⟨_, _, ⟨T132, L132, k132, n132⟩, -, X132, ⟨Lc132, hQ132, l132, y132, z132⟩, st132⟩ := X131.virtualBack hx (y := mn_17) (z := mn_17) hown (mvT hZ (hw_115 hw)) (mvT hZ (own_declares (hw_116 hw) (hw_119 hw))) (notFace_of_selects (args := #[]) (mvT hZ (hw_118 hw))) (mvT hZ (hw_118 hw)) (mvT hZ (hw_116 hw)) (by decide) (backOf (W := 0) (own_rm19_3_17 l Z a0 hw [] a1 r2 vb130 kb130 r9 bs kq pre wc wD kD T130.heap n0 Z130 O130 SS hpre hbl Ex130 Fv130 Fc130 V130 u3 u4 u5 u6 g_vb130 ne_a1_vb130 ne_r2_vb130 ne_r9_vb130) hZ (hw_119 hw) (hw_80 hw) (by decide) (by decide)) q132a q132c (g := (mkF m 30 #[rv a1, rv r2, iv 17] [(.ref r2), (.int 3), (.ref a1)])) rfl (by rw [hml]; rfl) (Steps.refl _) (argsL := [(.int 3), (.ref r2)]) (rest := []) (lenOf pd_8 rfl) rfl own_z0 (hb hby d15_30) (fun _ _ => ⟨rfl, e131, (by decide : 1 + 0 ≤ _), (by decide : 34 + 0 ≤ _)⟩)
  dsimp only [Pt.U, Pt.locs, Pt.cells, Pt.slots] at X132 l132 y132 z132 st132 hQ132
  subst l132 y132 z132
  obtain ⟨rfl, Nq132, K132, V132⟩ := hQ132
  have N132 := Fr.app N130 Nq132
  have Kp132 : Keep h0 T132.heap [a1] := Kp130.trans K132 (allS (Or.inr sz_vb130) all0)
  have u7 := Ex130.keep K132
  have u13 := Fv130.keep K132 (ninS ne_a1_vb130 nin0)
  have u14 := Fc130.keep K132 (ninS ne_a1_vb130 nin0)
  have u15 := Fn130.keep K132 (ninS ne_a1_vb130 nin0)
  refine own_jump (g' := (mkF m 33 #[rv a1, rv r2, iv 17] [])) st132 ?_
  refine own_st _ (own_aloadN 34 X132 hx hby d15_33) ?_
  refine own_st _ (own_dup 35 X132 hx hby d15_34) ?_
  obtain ⟨T133, X133, e133, st133⟩ := getF X132 hx hZ hown (host := "") (Or.inl (hw_108 hw)) Via.refl rfl u15 (g := (mkF m 35 #[rv a1, rv r2, iv 17] [(.ref a1), (.ref a1)])) rfl rfl (hb hby d15_35)
  refine own_step (g' := (mkF m 38 #[rv a1, rv r2, iv 17] [(.int 3), (.ref a1)])) st133 ?_
  refine own_st _ (own_iloadN 39 X133 hx hby d15_38) ?_
  refine own_st _ (own_iadd 40 X133 hx hby d15_39) ?_
  rw [show ((3 : Int32) + (17 : Int32)) = (20 : Int32) from by decide]
  obtain ⟨T134, h134, X134, e134, W134, st134⟩ := putF X133 hx hZ hown (host := "") (Or.inl (hw_108 hw)) Via.refl e133 u15 u7 (Or.inl (hw_109 hw)) (hw_71 hw) (ty := .int) (by decide) rfl rfl (g := (mkF m 40 #[rv a1, rv r2, iv 17] [(.int 20), (.ref a1)])) rfl rfl (hb hby d15_40)
  have u16 := u7.wr W134
  have u22 := u13.other W134 (Or.inr (slot_ne (a0 := a0) (C := "java/lang/StringBuilder") (Or.inl (hw_85 hw)) (Or.inl (hw_109 hw)) (by decide) (t := (.array .byte)) (t' := .int) (by decide) (by decide)))
  have u23 := u14.other W134 (Or.inr (slot_ne (a0 := a0) (C := "java/lang/StringBuilder") (Or.inl (hw_87 hw)) (Or.inl (hw_109 hw)) (by decide) (t := .byte) (t' := .int) (by decide) (by decide)))
  have u24 := V132.other W134 (Ne.symm ne_a1_vb130)
  have fw134 : Fld Z h134 a1 "java/lang/AbstractStringBuilder" "count" "I" (.int 20) := u15.same W134
  have Kp134 : Keep h0 h134 [a1] := Kp132.wr W134 (Or.inl (List.mem_of_getElem? (i := 0) rfl))
  have N134 := Fr.snoc X134 N132 g_a1
  refine own_step (g' := (mkF m 43 #[rv a1, rv r2, iv 17] [])) st134 ?_
  refine own_st _ (own_aloadN 44 X134 hx hby d15_43) ?_
  refine own_ret X134 hlk (v := some (.ref a1)) (fun h => by rw [hret] at h; cases h) (fun fs hr => X134.areturnOut hx (w := (.ref a1)) rfl hret rfl (hb hby d15_44) hr) ?_ (by decide) (by decide)
  show own_Q15_3_17 Z a1 r2 v0 k0 r9 bs kq pre wc wD kD h0 n0 _ T134.heap _
  rw [e134]
  exact ⟨vb130, kb130, rfl, N134, Kp134, sz_vb130, u16, u22, u23, fw134, u24⟩
def own_Q14_3_17 (Z : State) (a1 r2 v0 : Addr) (k0 : ClassId) (r9 : Addr) (bs : List Int32) (kq : ClassId) (pre : List Int32) (wc : Int32) (wD : Addr) (kD : ClassId) (h0 : Heap) (n0 : Nat) (v : Option Value) (h : Heap) (L : List Loc) : Prop := ∃ (vb : Addr) (kb : ClassId), v = some (.ref a1) ∧ Fr n0 L ∧ Keep h0 h [a1] ∧ h0.size ≤ vb ∧ Exa Z h a1 "java/lang/StringBuilder" ∧ Fld Z h a1 "java/lang/AbstractStringBuilder" "value" "[B" (.ref vb) ∧ Fld Z h a1 "java/lang/AbstractStringBuilder" "coder" "B" (.int 0) ∧ Fld Z h a1 "java/lang/AbstractStringBuilder" "count" "I" (.int 20) ∧ Arv Z h vb kb .byte (34 : Int32) (((pre ++ bs) ++ List.replicate 14 (0 : Int32)).map Value.int) (.int 0)
theorem own_rm14_3_17 (l Z a0) (hw : own_W a0 Z) (ws) (a1 r2 v0 : Addr) (k0 : ClassId) (r9 : Addr) (bs : List Int32) (kq : ClassId) (pre : List Int32) (wc : Int32) (wD : Addr) (kD : ClassId) (h0 : Heap) (n0 : Nat) (Z0 : n0 ≤ h0.size) (O0 : Old Z n0 h0) (SS : own_St Z wc wD kD) (hpre : pre.length = 3) (hbl : bs.length = 17) (E_a1 : Exa Z h0 a1 "java/lang/StringBuilder") (F_v : Fld Z h0 a1 "java/lang/AbstractStringBuilder" "value" "[B" (.ref v0)) (F_c : Fld Z h0 a1 "java/lang/AbstractStringBuilder" "coder" "B" (.int 0)) (F_n : Fld Z h0 a1 "java/lang/AbstractStringBuilder" "count" "I" (.int 3)) (V0 : Arv Z h0 v0 k0 .byte (16 : Int32) ((pre ++ List.replicate 13 (0 : Int32)).map Value.int) (.int 0)) (E_r2 : Exa Z h0 r2 "java/lang/String") (G_v : Fld Z h0 r2 "java/lang/String" "value" "[B" (.ref r9)) (G_c : Fld Z h0 r2 "java/lang/String" "coder" "B" (.int 0)) (V9 : Arv Z h0 r9 kq .byte (17 : Int32) ((bs).map Value.int) (.int 0)) (g_a1 : n0 ≤ a1) (ne_av : a1 ≠ v0) (ne_ar : a1 ≠ r2) (ne_a9 : a1 ≠ r9) :
    own_M l Z ws mn_19 c_19 2 (some (.object "java/lang/StringBuilder")) rm_16 #[(.ref a1), (.ref r2)] h0 (own_Q14_3_17 Z a1 r2 v0 k0 r9 bs kq pre wc wD kD h0 n0) := by
  refine own_body (plainFor_of_name pn_12) (fun m => own_ef20 m a1 r2) ?_
  intro p e s m below meth c T0 X0 hx hby hml hZ hown hnm hret hlk e0
  have hown : s.vm.findClass "java/lang/StringBuilder" = some m.cls := hown
  have hnm : meth.name = "append" := hnm
  have N0 := Fr.nil n0
  have K0 : Keep h0 h0 [a1] := Keep.refl _ _
  refine own_st _ (own_aloadN 1 X0 hx hby d14_0) ?_
  refine own_st _ (own_aloadN 2 X0 hx hby d14_1) ?_
  obtain ⟨_, _, ⟨T135, L135, k135, n135⟩, -, X135, ⟨Lc135, hQ135, l135, y135, z135⟩, st135⟩ := superBack X0 hx hZ (y := mn_18) hown (hw_93 hw) (own_samem (y := mn_18) (hw_94 hw) (y2 := mn_11) rfl (hw_153 hw) (by decide)) (hw_94 hw) (hw_95 hw) (by decide) (backOf (W := 0) (own_rm15_3_17 l Z a0 hw [] a1 r2 v0 k0 r9 bs kq pre wc wD kD h0 n0 Z0 O0 SS hpre hbl E_a1 F_v F_c F_n V0 E_r2 G_v G_c V9 g_a1 ne_av ne_ar ne_a9) hZ (hw_97 hw) (hw_80 hw) (by decide) (by decide)) e0 (Ins.self E_a1) (g := (mkF m 2 #[rv a1, rv r2] [(.ref r2), (.ref a1)])) rfl (by rw [hml]; rfl) (hw_97 hw) (argsL := [(.ref r2)]) (rest := []) (lenOf pd_9 rfl) rfl own_z0 (hb hby d14_2) (fun _ _ => ⟨rfl, e0, (by decide : 0 + 1 ≤ _), (by decide : 0 + 34 ≤ _)⟩)
  dsimp only [Pt.U, Pt.locs, Pt.cells, Pt.slots] at X135 l135 y135 z135 st135 hQ135
  subst l135 y135 z135
  obtain ⟨vb135, kb135, rfl, Nq135, K135, gb135, Ex135, Fv135, Fc135, Fn135, V135⟩ := hQ135
  have N135 := Fr.app N0 Nq135
  have sz_vb135 : h0.size ≤ vb135 := Nat.le_trans K0.1 gb135
  have Kp135 : Keep h0 T135.heap [a1] := K0.trans K135 (allS (Or.inl (List.mem_of_getElem? (i := 0) rfl)) all0)
  refine own_jump (g' := (mkF m 5 #[rv a1, rv r2] [(.ref a1)])) st135 ?_
  refine own_st _ (own_pop 6 X135 hx hby d14_5) ?_
  refine own_st _ (own_aloadN 7 X135 hx hby d14_6) ?_
  refine own_ret X135 hlk (v := some (.ref a1)) (fun h => by rw [hret] at h; cases h) (fun fs hr => X135.areturnOut hx (w := (.ref a1)) rfl hret rfl (hb hby d14_7) hr) ?_ (by decide) (by decide)
  show own_Q14_3_17 Z a1 r2 v0 k0 r9 bs kq pre wc wD kD h0 n0 _ T135.heap _
  exact ⟨vb135, kb135, rfl, N135, Kp135, sz_vb135, Ex135, Fv135, Fc135, Fn135, V135⟩
theorem d31_0 : own_D c_23 0 (.iload_n 1, 1) := by decide +kernel
theorem d31_1 : own_D c_23 1 (.iload_n 0, 1) := by decide +kernel
theorem d31_2 : own_D c_23 2 (.if_icmp .ge 35, 3) := by decide +kernel
theorem d31_37 : own_D c_23 37 (.return_, 1) := by decide +kernel
theorem own_ef31_t4 (m : MethodId)  : entryFrame m #[(.int 0), (.int 4)] 2 = mkF m 0 #[iv 0, iv 4] [] := by first | (simp [entryFrame, mkF, argsToLocals, Value.category]; done) | rfl
def own_Q31_t4 (Z : State)  (h0 : Heap) (n0 : Nat) (v : Option Value) (h : Heap) (L : List Loc) : Prop := v = none ∧ Fr n0 L ∧ h = h0
theorem own_rm31_t4 (l Z a0) (hw : own_W a0 Z) (ws)  (h0 : Heap) (n0 : Nat) (Z0 : n0 ≤ h0.size) :
    own_M l Z ws mn_23 c_23 2 none rm_0 #[(.int 0), (.int 4)] h0 (own_Q31_t4 Z h0 n0) := by
  refine own_body (plainFor_of_name pn_58) (fun m => own_ef31_t4 m ) ?_
  intro p e s m below meth c T0 X0 hx hby hml hZ hown hnm hret hlk e0
  have hown : s.vm.findClass "java/util/Arrays" = some m.cls := hown
  have hnm : meth.name = "checkLength" := hnm
  have N0 := Fr.nil n0
  refine own_st _ (own_iloadN 1 X0 hx hby d31_0) ?_
  refine own_st _ (own_iloadN 2 X0 hx hby d31_1) ?_
  refine own_st _ (own_icmpYes 37 X0 hx hby d31_2 ((flt (by decide : ¬ ((4 : Int32) < (0 : Int32)))).2.1)) ?_
  refine own_ret X0 hlk (v := none) (fun _ => rfl) (fun fs hr => X0.returnOut hx hret (hb hby d31_37) hr) ?_ (by decide) (by decide)
  show own_Q31_t4 Z h0 n0 _ T0.heap _
  rw [e0]
  exact ⟨rfl, N0, rfl⟩
theorem d30_0 : own_D c_24 0 (.iload_n 1, 1) := by decide +kernel
theorem d30_1 : own_D c_24 1 (.iload_n 2, 1) := by decide +kernel
theorem d30_2 : own_D c_24 2 (.invokestatic 343, 3) := by decide +kernel
theorem hw_175 : own_H (.methodLink "java/util/Arrays" 343 mn_23) := own_h 175 rfl
theorem hw_177 : own_H (.code mn_23 jdk_65_method_131_code 2 none) := own_h 177 rfl
theorem pd_14 : parseMethodDescriptor "(II)V" = some ⟨[.int, .int], none⟩ := by decide +kernel
theorem hw_176 : own_H (.static mn_23) := own_h 176 rfl
theorem d30_5 : own_D c_24 5 (.iload_n 2, 1) := by decide +kernel
theorem d30_6 : own_D c_24 6 (.iload_n 1, 1) := by decide +kernel
theorem d30_7 : own_D c_24 7 (.isub, 1) := by decide +kernel
theorem d30_8 : own_D c_24 8 (.istore_n 3, 1) := by decide +kernel
theorem d30_9 : own_D c_24 9 (.iload_n 3, 1) := by decide +kernel
theorem d30_10 : own_D c_24 10 (.newarray .byte, 2) := by decide +kernel
theorem d30_12 : own_D c_24 12 (.astore 4, 2) := by decide +kernel
theorem d30_14 : own_D c_24 14 (.aload_n 0, 1) := by decide +kernel
theorem d30_15 : own_D c_24 15 (.iload_n 1, 1) := by decide +kernel
theorem d30_16 : own_D c_24 16 (.aload 4, 2) := by decide +kernel
theorem d30_18 : own_D c_24 18 (.iconst 0, 1) := by decide +kernel
theorem d30_19 : own_D c_24 19 (.aload_n 0, 1) := by decide +kernel
theorem d30_20 : own_D c_24 20 (.arraylength, 1) := by decide +kernel
theorem d30_21 : own_D c_24 21 (.iload_n 1, 1) := by decide +kernel
theorem d30_22 : own_D c_24 22 (.isub, 1) := by decide +kernel
theorem d30_23 : own_D c_24 23 (.iload_n 3, 1) := by decide +kernel
theorem d30_24 : own_D c_24 24 (.invokestatic 304, 3) := by decide +kernel
theorem d30_27 : own_D c_24 27 (.invokestatic 150, 3) := by decide +kernel
theorem d30_30 : own_D c_24 30 (.aload 4, 2) := by decide +kernel
theorem d30_32 : own_D c_24 32 (.areturn, 1) := by decide +kernel
theorem own_ef30_t4 (m : MethodId) (r1 : Addr) : entryFrame m #[(.ref r1), (.int 0), (.int 4)] 5 = mkF m 0 #[rv r1, iv 0, iv 4, .unset, .unset] [] := by first | (simp [entryFrame, mkF, argsToLocals, Value.category]; done) | rfl
def own_Q30_t4 (Z : State) (r1 : Addr) (kb : ClassId) (es : List Int32) (h0 : Heap) (n0 : Nat) (v : Option Value) (h : Heap) (L : List Loc) : Prop := ∃ (ba : Addr) (kb : ClassId), v = some (.ref ba) ∧ Fr n0 L ∧ Keep h0 h [] ∧ h0.size ≤ ba ∧ Arv Z h ba kb .byte (4 : Int32) ((es.take 4).map Value.int) (.int 0) ∧ Exa Z h ba "[B"
theorem own_rm30_t4 (l Z a0) (hw : own_W a0 Z) (ws) (r1 : Addr) (kb : ClassId) (es : List Int32) (h0 : Heap) (n0 : Nat) (Z0 : n0 ≤ h0.size) (hes : es.length = 16) (V0 : Arv Z h0 r1 kb .byte (16 : Int32) ((es).map Value.int) (.int 0)) :
    own_M l Z ws mn_24 c_24 5 (some (.array .byte)) rm_17 #[(.ref r1), (.int 0), (.int 4)] h0 (own_Q30_t4 Z r1 kb es h0 n0) := by
  refine own_body (plainFor_of_name pn_58) (fun m => own_ef30_t4 m r1) ?_
  intro p e s m below meth c T0 X0 hx hby hml hZ hown hnm hret hlk e0
  have hown : s.vm.findClass "java/util/Arrays" = some m.cls := hown
  have hnm : meth.name = "copyOfRangeByte" := hnm
  have N0 := Fr.nil n0
  have K0 : Keep h0 h0 [] := Keep.refl _ _
  refine own_st _ (own_iloadN 1 X0 hx hby d30_0) ?_
  refine own_st _ (own_iloadN 2 X0 hx hby d30_1) ?_
  obtain ⟨_, _, ⟨T136, L136, k136, n136⟩, -, X136, ⟨Lc136, hQ136, l136, y136, z136⟩, st136⟩ := Jvm.LawKit.callS X0 hx (y := mn_23) hown (mvT hZ (hw_175 hw)) (mvT hZ (hw_176 hw)) (mvT hZ (hw_170 hw)) (mvT hZ (hw_177 hw)) (by decide) (backOf (W := 0) (own_rm31_t4 l Z a0 hw [] h0 n0 Z0) hZ (hw_177 hw) (hw_170 hw) (by decide) (by decide)) (g := (mkF m 2 #[rv r1, iv 0, iv 4, .unset, .unset] [(.int 4), (.int 0)])) rfl (by rw [hml]; rfl) (argsL := [(.int 0), (.int 4)]) (rest := []) (lenOf pd_14 rfl) rfl own_z0 (hb hby d30_2) (fun _ _ => ⟨rfl, e0, (by decide : 0 + 0 ≤ _), (by decide : 0 + 0 ≤ _)⟩)
  dsimp only [Pt.U, Pt.locs, Pt.cells, Pt.slots] at X136 l136 y136 z136 st136 hQ136
  subst l136 y136 z136
  obtain ⟨rfl, Nq136, e136⟩ := hQ136
  have N136 := Fr.app N0 Nq136
  refine own_step (g' := (mkF m 5 #[rv r1, iv 0, iv 4, .unset, .unset] [])) st136 ?_
  refine own_st _ (own_iloadN 6 X136 hx hby d30_5) ?_
  refine own_st _ (own_iloadN 7 X136 hx hby d30_6) ?_
  refine own_st _ (own_isub 8 X136 hx hby d30_7) ?_
  rw [show ((4 : Int32) - (0 : Int32)) = (4 : Int32) from by decide]
  refine own_st _ (own_istoreN 9 #[rv r1, iv 0, iv 4, iv 4, .unset] X136 hx hby d30_8) ?_
  refine own_st _ (own_iloadN 10 X136 hx hby d30_9) ?_
  obtain ⟨T137, h137, k137, X137, e137, E137, A137, B137, st137⟩ := newPE (aty := .byte) X136 hx hZ (hw_55 hw) e136 (g := (mkF m 10 #[rv r1, iv 0, iv 4, iv 4, .unset] [(.int 4)])) rfl (hb hby d30_10) rfl (by decide) (cap := 4) (by decide) (by decide) (by decide) (by decide) (ad := "[B") (by decide)
  obtain ⟨b137, g137⟩ : ∃ z, z = h0.size := ⟨_, rfl⟩
  rw [← g137] at A137 B137 st137
  have g_b137 : n0 ≤ b137 := Nat.le_trans Z0 (Nat.le_of_eq g137.symm)
  have sz_b137 : h0.size ≤ b137 := Nat.le_trans K0.1 (Nat.le_of_eq g137.symm)
  have Kp137 : Keep h0 h137 [] := K0.ext E137
  have Z137 : n0 ≤ h137.size := Nat.le_trans Z0 E137.1
  have u1 := V0.ext E137
  have V137 : Arv Z h137 b137 k137 .byte (4 : Int32) ((List.replicate 4 (0 : Int32)).map Value.int) (.int 0) := (Arv.new A137 (by decide)).pad (own_pad0 4)
  refine own_step (g' := (mkF m 12 #[rv r1, iv 0, iv 4, iv 4, .unset] [(.ref b137)])) st137 ?_
  refine own_st _ (own_astore 14 #[rv r1, iv 0, iv 4, iv 4, rv b137] X137 hx hby d30_12) ?_
  refine own_st _ (own_aloadN 15 X137 hx hby d30_14) ?_
  refine own_st _ (own_iloadN 16 X137 hx hby d30_15) ?_
  refine own_st _ (own_aload 18 X137 hx hby d30_16) ?_
  refine own_st _ (own_iconst 19 0 X137 hx hby d30_18) ?_
  refine own_st _ (own_aloadN 20 X137 hx hby d30_19) ?_
  obtain ⟨cl138, Ar138, -, S138, M138, -, -⟩ := id u1
  refine own_step (T' := T137) (g' := (mkF m 21 #[rv r1, iv 0, iv 4, iv 4, rv b137] [(.int cl138.slots.size.toInt32), (.int 0), (.ref b137), (.int 0), (.ref r1)])) (X137.arraylength hx (by rw [e137]; exact Ar138.1) (State.isArrayOf_alike hZ.alike Ar138.2.1) (g := (mkF m 20 #[rv r1, iv 0, iv 4, iv 4, rv b137] [(.ref r1), (.int 0), (.ref b137), (.int 0), (.ref r1)])) rfl rfl (hb hby d30_20)) ?_
  rw [len_of S138 M138]
  refine own_st _ (own_iloadN 22 X137 hx hby d30_21) ?_
  refine own_st _ (own_isub 23 X137 hx hby d30_22) ?_
  rw [show ((16 : Int32) - (0 : Int32)) = (16 : Int32) from by decide]
  refine own_st _ (own_iloadN 24 X137 hx hby d30_23) ?_
  obtain ⟨_, _, ⟨T139, L139, k139, n139⟩, -, X139, ⟨Lc139, hQ139, l139, y139, z139⟩, st139⟩ := Jvm.LawKit.callS X137 hx (y := mn_1) hown (mvT hZ (hw_178 hw)) (mvT hZ (hw_179 hw)) (mvT hZ (hw_180 hw)) (mvT hZ (hw_181 hw)) (by decide) (backOf (W := 4) (own_rm32 l Z a0 hw [] (16 : Int32) (4 : Int32) h137 n0 Z137) hZ (hw_181 hw) (hw_180 hw) (by decide) (by decide)) (g := (mkF m 24 #[rv r1, iv 0, iv 4, iv 4, rv b137] [(.int 4), (.int 16), (.int 0), (.ref b137), (.int 0), (.ref r1)])) rfl (by rw [hml]; rfl) (argsL := [(.int 16), (.int 4)]) (rest := [(.int 0), (.ref b137), (.int 0), (.ref r1)]) (lenOf pd_10 rfl) rfl own_z0 (hb hby d30_24) (fun _ _ => ⟨rfl, e137, (by decide : 1 + 0 ≤ _), (by decide : 4 + 0 ≤ _)⟩)
  dsimp only [Pt.U, Pt.locs, Pt.cells, Pt.slots] at X139 l139 y139 z139 st139 hQ139
  subst l139 y139 z139
  obtain ⟨rfl, Nq139, e139⟩ := hQ139
  have N139 := Fr.app N136 Nq139
  refine own_step (g' := (mkF m 27 #[rv r1, iv 0, iv 4, iv 4, rv b137] [(.int (own_min32 (16 : Int32) (4 : Int32))), (.int 0), (.ref b137), (.int 0), (.ref r1)])) st139 ?_
  rw [show (own_min32 (16 : Int32) (4 : Int32)) = (4 : Int32) from by decide]
  obtain ⟨T140, h140, Lc140, X140, e140, N140, K140, V140, st140⟩ := own_copy X139 hx hZ hown (hw_182 hw) (hw_134 hw) (hw_132 hw) (hw_133 hw) e139 u1 V137 4 (show (4 : Int32).toInt = ((4 : Nat) : Int) from rfl) (by rw [hes]; rfl) rfl (by omega) (by simp) (n0 := n0) N139 g_b137 (g := (mkF m 27 #[rv r1, iv 0, iv 4, iv 4, rv b137] [(.int 4), (.int 0), (.ref b137), (.int 0), (.ref r1)])) rfl (by rw [hml]; rfl) rfl (hb hby d30_27) (by decide) (W := 0) own_z0 (by decide)
  have Kp140 : Keep h0 h140 [] := Kp137.trans K140 (allS (Or.inr sz_b137) all0)
  have u3 := B137.keep K140
  refine own_step (g' := (mkF m 30 #[rv r1, iv 0, iv 4, iv 4, rv b137] [])) st140 ?_
  refine own_st _ (own_aload 32 X140 hx hby d30_30) ?_
  have Vz : Arv Z h140 b137 k137 .byte (4 : Int32) ((es.take 4).map Value.int) (.int 0) := by have q := V140; simpa using q
  refine own_ret X140 hlk (v := some (.ref b137)) (fun h => by rw [hret] at h; cases h) (fun fs hr => X140.areturnOut hx (w := (.ref b137)) rfl hret rfl (hb hby d30_32) hr) ?_ (by decide) (by decide)
  show own_Q30_t4 Z r1 kb es h0 n0 _ T140.heap _
  rw [e140]
  exact ⟨b137, k137, rfl, N140, Kp140, sz_b137, Vz, u3⟩
theorem d29_0 : own_D c_25 0 (.iload_n 1, 1) := by decide +kernel
theorem d29_1 : own_D c_25 1 (.ifCond .ne 9, 3) := by decide +kernel
theorem d29_4 : own_D c_25 4 (.iload_n 2, 1) := by decide +kernel
theorem d29_5 : own_D c_25 5 (.aload_n 0, 1) := by decide +kernel
theorem d29_6 : own_D c_25 6 (.arraylength, 1) := by decide +kernel
theorem d29_7 : own_D c_25 7 (.if_icmp .eq 10, 3) := by decide +kernel
theorem d29_10 : own_D c_25 10 (.aload_n 0, 1) := by decide +kernel
theorem d29_11 : own_D c_25 11 (.iload_n 1, 1) := by decide +kernel
theorem d29_12 : own_D c_25 12 (.iload_n 2, 1) := by decide +kernel
theorem d29_13 : own_D c_25 13 (.invokestatic 339, 3) := by decide +kernel
theorem hw_172 : own_H (.methodLink "java/util/Arrays" 339 mn_24) := own_h 172 rfl
theorem hw_174 : own_H (.code mn_24 jdk_65_method_133_code 5 (some (.array .byte))) := own_h 174 rfl
theorem pd_15 : parseMethodDescriptor "([BII)[B" = some ⟨[(.array .byte), .int, .int], some (.array .byte)⟩ := by decide +kernel
theorem hw_173 : own_H (.static mn_24) := own_h 173 rfl
theorem d29_16 : own_D c_25 16 (.areturn, 1) := by decide +kernel
theorem own_ef29_t4 (m : MethodId) (r1 : Addr) : entryFrame m #[(.ref r1), (.int 0), (.int 4)] 3 = mkF m 0 #[rv r1, iv 0, iv 4] [] := by first | (simp [entryFrame, mkF, argsToLocals, Value.category]; done) | rfl
def own_Q29_t4 (Z : State) (r1 : Addr) (kb : ClassId) (es : List Int32) (h0 : Heap) (n0 : Nat) (v : Option Value) (h : Heap) (L : List Loc) : Prop := ∃ (ba : Addr) (kb : ClassId), v = some (.ref ba) ∧ Fr n0 L ∧ Keep h0 h [] ∧ h0.size ≤ ba ∧ Arv Z h ba kb .byte (4 : Int32) ((es.take 4).map Value.int) (.int 0) ∧ Exa Z h ba "[B"
theorem own_rm29_t4 (l Z a0) (hw : own_W a0 Z) (ws) (r1 : Addr) (kb : ClassId) (es : List Int32) (h0 : Heap) (n0 : Nat) (Z0 : n0 ≤ h0.size) (hes : es.length = 16) (V0 : Arv Z h0 r1 kb .byte (16 : Int32) ((es).map Value.int) (.int 0)) :
    own_M l Z ws mn_25 c_25 3 (some (.array .byte)) rm_18 #[(.ref r1), (.int 0), (.int 4)] h0 (own_Q29_t4 Z r1 kb es h0 n0) := by
  refine own_body (plainFor_of_name pn_58) (fun m => own_ef29_t4 m r1) ?_
  intro p e s m below meth c T0 X0 hx hby hml hZ hown hnm hret hlk e0
  have hown : s.vm.findClass "java/util/Arrays" = some m.cls := hown
  have hnm : meth.name = "copyOfRange" := hnm
  have N0 := Fr.nil n0
  have K0 : Keep h0 h0 [] := Keep.refl _ _
  refine own_st _ (own_iloadN 1 X0 hx hby d29_0) ?_
  refine own_st _ (own_ifNo 4 X0 hx hby d29_1 ((if0 _ _).trans (teq (by decide : (0 : Int32) = (0 : Int32))).2)) ?_
  refine own_st _ (own_iloadN 5 X0 hx hby d29_4) ?_
  refine own_st _ (own_aloadN 6 X0 hx hby d29_5) ?_
  obtain ⟨cl141, Ar141, -, S141, M141, -, -⟩ := id V0
  refine own_step (T' := T0) (g' := (mkF m 7 #[rv r1, iv 0, iv 4] [(.int cl141.slots.size.toInt32), (.int 4)])) (X0.arraylength hx (by rw [e0]; exact Ar141.1) (State.isArrayOf_alike hZ.alike Ar141.2.1) (g := (mkF m 6 #[rv r1, iv 0, iv 4] [(.ref r1), (.int 4)])) rfl rfl (hb hby d29_6)) ?_
  rw [len_of S141 M141]
  refine own_st _ (own_icmpNo 10 X0 hx hby d29_7 ((feq (by decide : ¬ ((4 : Int32) = (16 : Int32)))).1)) ?_
  refine own_st _ (own_aloadN 11 X0 hx hby d29_10) ?_
  refine own_st _ (own_iloadN 12 X0 hx hby d29_11) ?_
  refine own_st _ (own_iloadN 13 X0 hx hby d29_12) ?_
  obtain ⟨_, _, ⟨T142, L142, k142, n142⟩, -, X142, ⟨Lc142, hQ142, l142, y142, z142⟩, st142⟩ := Jvm.LawKit.callS X0 hx (y := mn_24) hown (mvT hZ (hw_172 hw)) (mvT hZ (hw_173 hw)) (mvT hZ (hw_170 hw)) (mvT hZ (hw_174 hw)) (by decide) (backOf (W := 0) (own_rm30_t4 l Z a0 hw [] r1 kb es h0 n0 Z0 hes V0) hZ (hw_174 hw) (hw_170 hw) (by decide) (by decide)) (g := (mkF m 13 #[rv r1, iv 0, iv 4] [(.int 4), (.int 0), (.ref r1)])) rfl (by rw [hml]; rfl) (argsL := [(.ref r1), (.int 0), (.int 4)]) (rest := []) (lenOf pd_15 rfl) rfl own_z0 (hb hby d29_13) (fun _ _ => ⟨rfl, e0, (by decide : 0 + 1 ≤ _), (by decide : 0 + 4 ≤ _)⟩)
  dsimp only [Pt.U, Pt.locs, Pt.cells, Pt.slots] at X142 l142 y142 z142 st142 hQ142
  subst l142 y142 z142
  obtain ⟨ba142, kb142, rfl, Nq142, K142, gb142, V142, Eb142⟩ := hQ142
  have N142 := Fr.app N0 Nq142
  have sz_ba142 : h0.size ≤ ba142 := Nat.le_trans K0.1 gb142
  have Kp142 : Keep h0 T142.heap [] := K0.trans K142 all0
  refine own_step (g' := (mkF m 16 #[rv r1, iv 0, iv 4] [(.ref ba142)])) st142 ?_
  refine own_ret X142 hlk (v := some (.ref ba142)) (fun h => by rw [hret] at h; cases h) (fun fs hr => X142.areturnOut hx (w := (.ref ba142)) rfl hret rfl (hb hby d29_16) hr) ?_ (by decide) (by decide)
  show own_Q29_t4 Z r1 kb es h0 n0 _ T142.heap _
  exact ⟨ba142, kb142, rfl, N142, Kp142, sz_ba142, V142, Eb142⟩
theorem d24_0 : own_D c_26 0 (.aload_n 0, 1) := by decide +kernel
theorem d24_1 : own_D c_26 1 (.invokespecial 1, 3) := by decide +kernel
theorem d24_4 : own_D c_26 4 (.aload_n 1, 1) := by decide +kernel
theorem d24_5 : own_D c_26 5 (.invokevirtual 552, 3) := by decide +kernel
theorem hw_150 : own_H (.methodLink "java/lang/String" 552 mn_11) := own_h 150 rfl
theorem hw_154 : own_H (.code mn_11 jdk_68_method_64_code 1 (some (.array .byte))) := own_h 154 rfl
theorem pd_16 : parseMethodDescriptor "()[B" = some ⟨[], some (.array .byte)⟩ := by decide +kernel
theorem hw_151 : own_H (.declares mn_11) := own_h 151 rfl
theorem hw_152 : own_H (.instanceMethod mn_11) := own_h 152 rfl
theorem d24_8 : own_D c_26 8 (.astore_n 3, 1) := by decide +kernel
theorem d24_9 : own_D c_26 9 (.aload_n 1, 1) := by decide +kernel
theorem d24_10 : own_D c_26 10 (.invokevirtual 549, 3) := by decide +kernel
theorem hw_155 : own_H (.methodLink "java/lang/String" 549 mn_12) := own_h 155 rfl
theorem hw_160 : own_H (.code mn_13 jdk_67_method_93_code 1 (some .int)) := own_h 160 rfl
theorem hw_72 : own_H (.initialized "java/lang/StringBuilder") := own_h 72 rfl
theorem hw_158 : own_H (.selects "java/lang/StringBuilder" mn_12 mn_13) := own_h 158 rfl
theorem hw_156 : own_H (.declares mn_12) := own_h 156 rfl
theorem hw_159 : own_H (.instanceMethod mn_13) := own_h 159 rfl
theorem d24_13 : own_D c_26 13 (.istore 4, 2) := by decide +kernel
theorem d24_15 : own_D c_26 15 (.aload_n 1, 1) := by decide +kernel
theorem d24_16 : own_D c_26 16 (.invokevirtual 1047, 3) := by decide +kernel
theorem hw_163 : own_H (.methodLink "java/lang/String" 1047 mn_9) := own_h 163 rfl
theorem hw_167 : own_H (.code mn_9 jdk_68_method_68_code 1 (some .boolean)) := own_h 167 rfl
theorem pd_17 : parseMethodDescriptor "()Z" = some ⟨[], some .boolean⟩ := by decide +kernel
theorem hw_166 : own_H (.selects "java/lang/StringBuilder" mn_9 mn_9) := own_h 166 rfl
theorem hw_164 : own_H (.declares mn_9) := own_h 164 rfl
theorem hw_165 : own_H (.instanceMethod mn_9) := own_h 165 rfl
theorem d24_19 : own_D c_26 19 (.ifCond .eq 22, 3) := by decide +kernel
theorem d24_22 : own_D c_26 22 (.aload_n 0, 1) := by decide +kernel
theorem d24_23 : own_D c_26 23 (.iconst 0, 1) := by decide +kernel
theorem d24_24 : own_D c_26 24 (.putfield 15, 3) := by decide +kernel
theorem d24_27 : own_D c_26 27 (.aload_n 0, 1) := by decide +kernel
theorem d24_28 : own_D c_26 28 (.aload_n 3, 1) := by decide +kernel
theorem d24_29 : own_D c_26 29 (.iconst 0, 1) := by decide +kernel
theorem d24_30 : own_D c_26 30 (.iload 4, 2) := by decide +kernel
theorem d24_32 : own_D c_26 32 (.invokestatic 54, 3) := by decide +kernel
theorem hw_168 : own_H (.methodLink "java/lang/String" 54 mn_25) := own_h 168 rfl
theorem hw_171 : own_H (.code mn_25 jdk_65_method_132_code 3 (some (.array .byte))) := own_h 171 rfl
theorem hw_169 : own_H (.static mn_25) := own_h 169 rfl
theorem d24_35 : own_D c_26 35 (.putfield 9, 3) := by decide +kernel
theorem d24_38 : own_D c_26 38 (.goto 59, 3) := by decide +kernel
theorem d24_97 : own_D c_26 97 (.return_, 1) := by decide +kernel
theorem own_ef24_t4 (m : MethodId) (a1 r2 : Addr) : entryFrame m #[(.ref a1), (.ref r2), .null] 5 = mkF m 0 #[rv a1, rv r2, .val .null, .unset, .unset] [] := by first | (simp [entryFrame, mkF, argsToLocals, Value.category]; done) | rfl
def own_Q24_t4 (Z : State) (a1 r2 vb : Addr) (kb : ClassId) (es : List Int32) (wc : Int32) (wD : Addr) (kD : ClassId) (h0 : Heap) (n0 : Nat) (v : Option Value) (h : Heap) (L : List Loc) : Prop := ∃ (ba : Addr) (kq : ClassId), v = none ∧ Fr n0 L ∧ Keep h0 h [a1] ∧ h0.size ≤ ba ∧ Exa Z h a1 "java/lang/String" ∧ Fld Z h a1 "java/lang/String" "value" "[B" (.ref ba) ∧ Fld Z h a1 "java/lang/String" "coder" "B" (.int 0) ∧ Arv Z h ba kq .byte (4 : Int32) ((es.take 4).map Value.int) (.int 0)
theorem own_rm24_t4 (l Z a0) (hw : own_W a0 Z) (ws) (a1 r2 vb : Addr) (kb : ClassId) (es : List Int32) (wc : Int32) (wD : Addr) (kD : ClassId) (h0 : Heap) (n0 : Nat) (Z0 : n0 ≤ h0.size) (O0 : Old Z n0 h0) (SS : own_St Z wc wD kD) (hes : es.length = 16) (E_a1 : Exa Z h0 a1 "java/lang/String") (F_v : Fld Z h0 a1 "java/lang/String" "value" "[B" .null) (F_c : Fld Z h0 a1 "java/lang/String" "coder" "B" (.int 0)) (E_r2 : Exa Z h0 r2 "java/lang/StringBuilder") (G_v : Fld Z h0 r2 "java/lang/AbstractStringBuilder" "value" "[B" (.ref vb)) (G_c : Fld Z h0 r2 "java/lang/AbstractStringBuilder" "coder" "B" (.int 0)) (G_n : Fld Z h0 r2 "java/lang/AbstractStringBuilder" "count" "I" (.int 4)) (V0 : Arv Z h0 vb kb .byte (16 : Int32) ((es).map Value.int) (.int 0)) (g_a1 : n0 ≤ a1) (ne_12 : a1 ≠ r2) (ne_1v : a1 ≠ vb) :
    own_M l Z ws mn_26 c_26 5 none rm_19 #[(.ref a1), (.ref r2), .null] h0 (own_Q24_t4 Z a1 r2 vb kb es wc wD kD h0 n0) := by
  refine own_body (plainFor_of_name pn_10) (fun m => own_ef24_t4 m a1 r2) ?_
  intro p e s m below meth c T0 X0 hx hby hml hZ hown hnm hret hlk e0
  have hown : s.vm.findClass "java/lang/String" = some m.cls := hown
  have hnm : meth.name = "<init>" := hnm
  have N0 := Fr.nil n0
  have K0 : Keep h0 h0 [a1] := Keep.refl _ _
  refine own_st _ (own_aloadN 1 X0 hx hby d24_0) ?_
  obtain ⟨T143, X143, e143, st143⟩ := initO X0 hx hZ hown (hw_60 hw) (hw_7 hw) (hw_8 hw) e0 (g := (mkF m 1 #[rv a1, rv r2, .val .null, .unset, .unset] [(.ref a1)])) rfl (by rw [hml]; rfl) rfl (hb hby d24_1) (by decide) (W := 0) own_z0 (by decide)
  refine own_step (g' := (mkF m 4 #[rv a1, rv r2, .val .null, .unset, .unset] [])) st143 ?_
  refine own_st _ (own_aloadN 5 X143 hx hby d24_4) ?_
  obtain ⟨cq144, kq144, q144a, q144b, q144c⟩ := isOf hZ e143 E_r2
  obtain ⟨_, _, ⟨T144, L144, k144, n144⟩, -, X144, ⟨Lc144, hQ144, l144, y144, z144⟩, st144⟩ := X143.virtualBack hx (y := mn_11) (z := mn_11) hown (mvT hZ (hw_150 hw)) (mvT hZ (hw_151 hw)) (notFace_of_selects (args := #[]) (mvT hZ (hw_153 hw))) (mvT hZ (hw_153 hw)) (mvT hZ (hw_152 hw)) (by decide) (backOf (W := 0) (own_rm25 l Z a0 hw [] r2 vb h0 n0 Z0 G_v) hZ (hw_154 hw) (hw_80 hw) (by decide) (by decide)) q144a q144c (g := (mkF m 5 #[rv a1, rv r2, .val .null, .unset, .unset] [(.ref r2)])) rfl (by rw [hml]; rfl) (Steps.refl _) (argsL := []) (rest := []) (lenOf pd_16 rfl) rfl own_z0 (hb hby d24_5) (fun _ _ => ⟨rfl, e143, (by decide : 0 + 0 ≤ _), (by decide : 0 + 0 ≤ _)⟩)
  dsimp only [Pt.U, Pt.locs, Pt.cells, Pt.slots] at X144 l144 y144 z144 st144 hQ144
  subst l144 y144 z144
  obtain ⟨rfl, Nq144, e144⟩ := hQ144
  have N144 := Fr.app N0 Nq144
  refine own_jump (g' := (mkF m 8 #[rv a1, rv r2, .val .null, .unset, .unset] [(.ref vb)])) st144 ?_
  refine own_st _ (own_astoreN 9 #[rv a1, rv r2, .val .null, rv vb, .unset] X144 hx hby d24_8) ?_
  refine own_st _ (own_aloadN 10 X144 hx hby d24_9) ?_
  obtain ⟨cq145, kq145, q145a, q145b, q145c⟩ := isOf hZ e144 E_r2
  obtain ⟨_, _, ⟨T145, L145, k145, n145⟩, -, X145, ⟨Lc145, hQ145, l145, y145, z145⟩, st145⟩ := X144.virtualBack hx (y := mn_12) (z := mn_13) hown (mvT hZ (hw_155 hw)) (mvT hZ (hw_156 hw)) (own_nf (y := mn_12) (y2 := mn_11) rfl (args := #[]) (mvT hZ (hw_153 hw))) (mvT hZ (hw_158 hw)) (mvT hZ (hw_159 hw)) (by decide) (backOf (W := 0) (own_rm26 l Z a0 hw [] r2 (4 : Int32) h0 n0 Z0 G_n E_r2) hZ (hw_160 hw) (hw_72 hw) (by decide) (by decide)) q145a q145c (g := (mkF m 10 #[rv a1, rv r2, .val .null, rv vb, .unset] [(.ref r2)])) rfl (by rw [hml]; rfl) (Steps.refl _) (argsL := []) (rest := []) (lenOf pd_5 rfl) rfl own_z0 (hb hby d24_10) (fun _ _ => ⟨rfl, e144, (by decide : 0 + 0 ≤ _), (by decide : 0 + 0 ≤ _)⟩)
  dsimp only [Pt.U, Pt.locs, Pt.cells, Pt.slots] at X145 l145 y145 z145 st145 hQ145
  subst l145 y145 z145
  obtain ⟨rfl, Nq145, e145⟩ := hQ145
  have N145 := Fr.app N144 Nq145
  refine own_jump (g' := (mkF m 13 #[rv a1, rv r2, .val .null, rv vb, .unset] [(.int 4)])) st145 ?_
  refine own_st _ (own_istore 15 #[rv a1, rv r2, .val .null, rv vb, iv 4] X145 hx hby d24_13) ?_
  refine own_st _ (own_aloadN 16 X145 hx hby d24_15) ?_
  obtain ⟨cq146, kq146, q146a, q146b, q146c⟩ := isOf hZ e145 E_r2
  obtain ⟨_, _, ⟨T146, L146, k146, n146⟩, -, X146, ⟨Lc146, hQ146, l146, y146, z146⟩, st146⟩ := X145.virtualBack hx (y := mn_9) (z := mn_9) hown (mvT hZ (hw_163 hw)) (mvT hZ (hw_164 hw)) (notFace_of_selects (args := #[]) (mvT hZ (hw_166 hw))) (mvT hZ (hw_166 hw)) (mvT hZ (hw_165 hw)) (by decide) (backOf (W := 0) (own_rm28 l Z a0 hw [] r2 wc wD kD h0 n0 Z0 O0 SS G_c) hZ (hw_167 hw) (hw_80 hw) (by decide) (by decide)) q146a q146c (g := (mkF m 16 #[rv a1, rv r2, .val .null, rv vb, iv 4] [(.ref r2)])) rfl (by rw [hml]; rfl) (Steps.refl _) (argsL := []) (rest := []) (lenOf pd_17 rfl) rfl own_z0 (hb hby d24_16) (fun _ _ => ⟨rfl, e145, (by decide : 0 + 0 ≤ _), (by decide : 0 + 0 ≤ _)⟩)
  dsimp only [Pt.U, Pt.locs, Pt.cells, Pt.slots] at X146 l146 y146 z146 st146 hQ146
  subst l146 y146 z146
  obtain ⟨rfl, Nq146, e146⟩ := hQ146
  have N146 := Fr.app N145 Nq146
  refine own_jump (g' := (mkF m 19 #[rv a1, rv r2, .val .null, rv vb, iv 4] [(.int 1)])) st146 ?_
  refine own_st _ (own_ifNo 22 X146 hx hby d24_19 ((if0 _ _).trans (feq (by decide : ¬ ((1 : Int32) = (0 : Int32)))).1)) ?_
  refine own_st _ (own_aloadN 23 X146 hx hby d24_22) ?_
  refine own_st _ (own_iconst 24 0 X146 hx hby d24_23) ?_
  obtain ⟨T147, h147, X147, e147, W147, st147⟩ := putFN X146 hx hZ hown (hw_63 hw) Via.refl e146 F_c E_a1 (Or.inr ⟨(hw_64 hw), rfl, hnm⟩) (hw_51 hw) (ty := .byte) (v' := (.int (nar .byte (0 : Int32)))) (by decide) rfl (fits_nar_byte _) (g := (mkF m 24 #[rv a1, rv r2, .val .null, rv vb, iv 4] [(.int 0), (.ref a1)])) rfl rfl (hb hby d24_24)
  have u1 := E_a1.wr W147
  have u2 := F_v.other W147 (Or.inr (slot_ne (a0 := a0) (C := "java/lang/String") (Or.inr (hw_62 hw)) (Or.inr (hw_64 hw)) (by decide) (t := (.array .byte)) (t' := .byte) (by decide) (by decide)))
  have u7 := V0.other W147 (Ne.symm ne_1v)
  have fw147 : Fld Z h147 a1 "java/lang/String" "coder" "B" (.int (nar .byte (0 : Int32))) := F_c.same W147
  have Z147 : n0 ≤ h147.size := Nat.le_trans Z0 (Keep.of_wr W147).1
  have Kp147 : Keep h0 h147 [a1] := K0.wr W147 (Or.inl (List.mem_of_getElem? (i := 0) rfl))
  have N147 := Fr.snoc X147 N146 g_a1
  refine own_step (g' := (mkF m 27 #[rv a1, rv r2, .val .null, rv vb, iv 4] [])) st147 ?_
  have Fz : Fld Z h147 a1 "java/lang/String" "coder" "B" (.int 0) := own_nar0 ▸ fw147
  refine own_st _ (own_aloadN 28 X147 hx hby d24_27) ?_
  refine own_st _ (own_aloadN 29 X147 hx hby d24_28) ?_
  refine own_st _ (own_iconst 30 0 X147 hx hby d24_29) ?_
  refine own_st _ (own_iload 32 X147 hx hby d24_30) ?_
  obtain ⟨_, _, ⟨T148, L148, k148, n148⟩, -, X148, ⟨Lc148, hQ148, l148, y148, z148⟩, st148⟩ := Jvm.LawKit.callS X147 hx (y := mn_25) hown (mvT hZ (hw_168 hw)) (mvT hZ (hw_169 hw)) (mvT hZ (hw_170 hw)) (mvT hZ (hw_171 hw)) (by decide) (backOf (W := 1) (own_rm29_t4 l Z a0 hw [] vb kb es h147 n0 Z147 hes u7) hZ (hw_171 hw) (hw_170 hw) (by decide) (by decide)) (g := (mkF m 32 #[rv a1, rv r2, .val .null, rv vb, iv 4] [(.int 4), (.int 0), (.ref vb), (.ref a1)])) rfl (by rw [hml]; rfl) (argsL := [(.ref vb), (.int 0), (.int 4)]) (rest := [(.ref a1)]) (lenOf pd_15 rfl) rfl own_z0 (hb hby d24_32) (fun _ _ => ⟨rfl, e147, (by decide : 0 + 1 ≤ _), (by decide : 0 + 4 ≤ _)⟩)
  dsimp only [Pt.U, Pt.locs, Pt.cells, Pt.slots] at X148 l148 y148 z148 st148 hQ148
  subst l148 y148 z148
  obtain ⟨ba148, kb148, rfl, Nq148, K148, gb148, V148, Eb148⟩ := hQ148
  have N148 := Fr.app N147 Nq148
  have ne_a1_ba148 : a1 ≠ ba148 := Nat.ne_of_lt (Nat.lt_of_lt_of_le u1.lt gb148)
  have sz_ba148 : h0.size ≤ ba148 := Nat.le_trans Kp147.1 gb148
  have Kp148 : Keep h0 T148.heap [a1] := Kp147.trans K148 all0
  have u8 := u1.keep K148
  have u9 := u2.keep K148 nin0
  have u10 := Fz.keep K148 nin0
  refine own_step (g' := (mkF m 35 #[rv a1, rv r2, .val .null, rv vb, iv 4] [(.ref ba148), (.ref a1)])) st148 ?_
  obtain ⟨T149, h149, X149, e149, W149, st149⟩ := putF X148 hx hZ hown (host := "") (Or.inl (hw_61 hw)) Via.refl rfl u9 u8 (Or.inr ⟨(hw_62 hw), rfl, hnm⟩) (hw_51 hw) (ty := (.array .byte)) (by decide) rfl rfl (g := (mkF m 35 #[rv a1, rv r2, .val .null, rv vb, iv 4] [(.ref ba148), (.ref a1)])) rfl rfl (hb hby d24_35)
  have u16 := u8.wr W149
  have u17 := u10.other W149 (Or.inr (slot_ne (a0 := a0) (C := "java/lang/String") (Or.inr (hw_64 hw)) (Or.inr (hw_62 hw)) (by decide) (t := .byte) (t' := (.array .byte)) (by decide) (by decide)))
  have u23 := V148.other W149 (Ne.symm ne_a1_ba148)
  have fw149 : Fld Z h149 a1 "java/lang/String" "value" "[B" (.ref ba148) := u9.same W149
  have Kp149 : Keep h0 h149 [a1] := Kp148.wr W149 (Or.inl (List.mem_of_getElem? (i := 0) rfl))
  have N149 := Fr.snoc X149 N148 g_a1
  refine own_step (g' := (mkF m 38 #[rv a1, rv r2, .val .null, rv vb, iv 4] [])) st149 ?_
  refine own_st _ (own_goto 97 X149 hx hby d24_38) ?_
  refine own_ret X149 hlk (v := none) (fun _ => rfl) (fun fs hr => X149.returnOut hx hret (hb hby d24_97) hr) ?_ (by decide) (by decide)
  show own_Q24_t4 Z a1 r2 vb kb es wc wD kD h0 n0 _ T149.heap _
  rw [e149]
  exact ⟨ba148, kb148, rfl, N149, Kp149, sz_ba148, u16, fw149, u17, u23⟩
theorem d23_0 : own_D c_27 0 (.aload_n 0, 1) := by decide +kernel
theorem d23_1 : own_D c_27 1 (.aload_n 1, 1) := by decide +kernel
theorem d23_2 : own_D c_27 2 (.aconst_null, 1) := by decide +kernel
theorem d23_3 : own_D c_27 3 (.invokespecial 489, 3) := by decide +kernel
theorem hw_147 : own_H (.methodLink "java/lang/String" 489 mn_26) := own_h 147 rfl
theorem hw_149 : own_H (.code mn_26 jdk_42_method_150_code 5 none) := own_h 149 rfl
theorem pd_18 : parseMethodDescriptor "(Ljava/lang/AbstractStringBuilder;Ljava/lang/Void;)V" = some ⟨[(.object "java/lang/AbstractStringBuilder"), (.object "java/lang/Void")], none⟩ := by decide +kernel
theorem hw_148 : own_H (.instanceMethod mn_26) := own_h 148 rfl
theorem d23_6 : own_D c_27 6 (.return_, 1) := by decide +kernel
def own_Q23_t4 (Z : State) (a1 r2 vb : Addr) (kb : ClassId) (es : List Int32) (wc : Int32) (wD : Addr) (kD : ClassId) (h0 : Heap) (n0 : Nat) (v : Option Value) (h : Heap) (L : List Loc) : Prop := ∃ (ba : Addr) (kq : ClassId), v = none ∧ Fr n0 L ∧ Keep h0 h [a1] ∧ h0.size ≤ ba ∧ Exa Z h a1 "java/lang/String" ∧ Fld Z h a1 "java/lang/String" "value" "[B" (.ref ba) ∧ Fld Z h a1 "java/lang/String" "coder" "B" (.int 0) ∧ Arv Z h ba kq .byte (4 : Int32) ((es.take 4).map Value.int) (.int 0)
theorem own_rm23_t4 (l Z a0) (hw : own_W a0 Z) (ws) (a1 r2 vb : Addr) (kb : ClassId) (es : List Int32) (wc : Int32) (wD : Addr) (kD : ClassId) (h0 : Heap) (n0 : Nat) (Z0 : n0 ≤ h0.size) (O0 : Old Z n0 h0) (SS : own_St Z wc wD kD) (hes : es.length = 16) (E_a1 : Exa Z h0 a1 "java/lang/String") (F_v : Fld Z h0 a1 "java/lang/String" "value" "[B" .null) (F_c : Fld Z h0 a1 "java/lang/String" "coder" "B" (.int 0)) (E_r2 : Exa Z h0 r2 "java/lang/StringBuilder") (G_v : Fld Z h0 r2 "java/lang/AbstractStringBuilder" "value" "[B" (.ref vb)) (G_c : Fld Z h0 r2 "java/lang/AbstractStringBuilder" "coder" "B" (.int 0)) (G_n : Fld Z h0 r2 "java/lang/AbstractStringBuilder" "count" "I" (.int 4)) (V0 : Arv Z h0 vb kb .byte (16 : Int32) ((es).map Value.int) (.int 0)) (g_a1 : n0 ≤ a1) (ne_12 : a1 ≠ r2) (ne_1v : a1 ≠ vb) :
    own_M l Z ws mn_27 c_27 2 none rm_20 #[(.ref a1), (.ref r2)] h0 (own_Q23_t4 Z a1 r2 vb kb es wc wD kD h0 n0) := by
  refine own_body (plainFor_of_name pn_10) (fun m => own_ef20 m a1 r2) ?_
  intro p e s m below meth c T0 X0 hx hby hml hZ hown hnm hret hlk e0
  have hown : s.vm.findClass "java/lang/String" = some m.cls := hown
  have hnm : meth.name = "<init>" := hnm
  have N0 := Fr.nil n0
  have K0 : Keep h0 h0 [a1] := Keep.refl _ _
  refine own_st _ (own_aloadN 1 X0 hx hby d23_0) ?_
  refine own_st _ (own_aloadN 2 X0 hx hby d23_1) ?_
  refine own_st _ (own_aconstNull 3 X0 hx hby d23_2) ?_
  obtain ⟨_, _, ⟨T150, L150, k150, n150⟩, -, X150, ⟨Lc150, hQ150, l150, y150, z150⟩, st150⟩ := X0.specialBack hx (y := mn_26) rfl hown (mvT hZ (hw_147 hw)) (mvT hZ (hw_148 hw)) (mvT hZ (hw_149 hw)) (by decide) (backOf (W := 0) (own_rm24_t4 l Z a0 hw [] a1 r2 vb kb es wc wD kD h0 n0 Z0 O0 SS hes E_a1 F_v F_c E_r2 G_v G_c G_n V0 g_a1 ne_12 ne_1v) hZ (hw_149 hw) (hw_43 hw) (by decide) (by decide)) (g := (mkF m 3 #[rv a1, rv r2] [.null, (.ref r2), (.ref a1)])) rfl (by rw [hml]; rfl) (Steps.refl _) (a := a1) (argsL := [(.ref r2), .null]) (rest := []) (lenOf pd_18 rfl) rfl own_z0 (hb hby d23_3) (fun _ _ => ⟨rfl, e0, (by decide : 0 + 1 ≤ _), (by decide : 0 + 4 ≤ _)⟩)
  dsimp only [Pt.U, Pt.locs, Pt.cells, Pt.slots] at X150 l150 y150 z150 st150 hQ150
  subst l150 y150 z150
  obtain ⟨ba150, kb150, rfl, Nq150, K150, gb150, Ex150, Fv150, Fc150, V150⟩ := hQ150
  have N150 := Fr.app N0 Nq150
  have sz_ba150 : h0.size ≤ ba150 := Nat.le_trans K0.1 gb150
  have Kp150 : Keep h0 T150.heap [a1] := K0.trans K150 (allS (Or.inl (List.mem_of_getElem? (i := 0) rfl)) all0)
  refine own_jump (g' := (mkF m 6 #[rv a1, rv r2] [])) st150 ?_
  refine own_ret X150 hlk (v := none) (fun _ => rfl) (fun fs hr => X150.returnOut hx hret (hb hby d23_6) hr) ?_ (by decide) (by decide)
  show own_Q23_t4 Z a1 r2 vb kb es wc wD kD h0 n0 _ T150.heap _
  exact ⟨ba150, kb150, rfl, N150, Kp150, sz_ba150, Ex150, Fv150, Fc150, V150⟩
theorem d22_0 : own_D c_28 0 (.new 18, 3) := by decide +kernel
theorem hw_143 : own_H (.classLink "java/lang/StringBuilder" 18 "java/lang/String") := own_h 143 rfl
theorem d22_3 : own_D c_28 3 (.dup, 1) := by decide +kernel
theorem d22_4 : own_D c_28 4 (.aload_n 0, 1) := by decide +kernel
theorem d22_5 : own_D c_28 5 (.invokespecial 137, 3) := by decide +kernel
theorem hw_144 : own_H (.methodLink "java/lang/StringBuilder" 137 mn_27) := own_h 144 rfl
theorem hw_146 : own_H (.code mn_27 jdk_42_method_53_code 2 none) := own_h 146 rfl
theorem pd_19 : parseMethodDescriptor "(Ljava/lang/StringBuilder;)V" = some ⟨[(.object "java/lang/StringBuilder")], none⟩ := by decide +kernel
theorem hw_145 : own_H (.instanceMethod mn_27) := own_h 145 rfl
theorem d22_8 : own_D c_28 8 (.areturn, 1) := by decide +kernel
def own_Q22_t4 (Z : State) (a1 vb : Addr) (kb : ClassId) (es : List Int32) (wc : Int32) (wD : Addr) (kD : ClassId) (h0 : Heap) (n0 : Nat) (v : Option Value) (h : Heap) (L : List Loc) : Prop := ∃ (sa ba : Addr) (kb : ClassId), v = some (.ref sa) ∧ Fr n0 L ∧ Keep h0 h [] ∧ h0.size ≤ sa ∧ h0.size ≤ ba ∧ sa ≠ ba ∧ Exa Z h sa "java/lang/String" ∧ Fld Z h sa "java/lang/String" "value" "[B" (.ref ba) ∧ Fld Z h sa "java/lang/String" "coder" "B" (.int 0) ∧ Arv Z h ba kb .byte (4 : Int32) ((es.take 4).map Value.int) (.int 0)
theorem own_rm22_t4 (l Z a0) (hw : own_W a0 Z) (ws) (a1 vb : Addr) (kb : ClassId) (es : List Int32) (wc : Int32) (wD : Addr) (kD : ClassId) (h0 : Heap) (n0 : Nat) (Z0 : n0 ≤ h0.size) (O0 : Old Z n0 h0) (SS : own_St Z wc wD kD) (hes : es.length = 16) (E_a1 : Exa Z h0 a1 "java/lang/StringBuilder") (G_v : Fld Z h0 a1 "java/lang/AbstractStringBuilder" "value" "[B" (.ref vb)) (G_c : Fld Z h0 a1 "java/lang/AbstractStringBuilder" "coder" "B" (.int 0)) (G_n : Fld Z h0 a1 "java/lang/AbstractStringBuilder" "count" "I" (.int 4)) (V0 : Arv Z h0 vb kb .byte (16 : Int32) ((es).map Value.int) (.int 0)) :
    own_M l Z ws mn_28 c_28 1 (some (.object "java/lang/String")) rm_21 #[(.ref a1)] h0 (own_Q22_t4 Z a1 vb kb es wc wD kD h0 n0) := by
  refine own_body (plainFor_of_name pn_12) (fun m => own_ef17 m a1) ?_
  intro p e s m below meth c T0 X0 hx hby hml hZ hown hnm hret hlk e0
  have hown : s.vm.findClass "java/lang/StringBuilder" = some m.cls := hown
  have hnm : meth.name = "toString" := hnm
  have N0 := Fr.nil n0
  have K0 : Keep h0 h0 [] := Keep.refl _ _
  obtain ⟨T151, h151, X151, e151, E151, A151, D151, -, st151⟩ := newO X0 hx hZ hown (hw_143 hw) (hw_51 hw) (hw_43 hw) e0 (g := (mkF m 0 #[rv a1] [])) rfl (hb hby d22_0) (by decide) (by decide)
  obtain ⟨b151, g151⟩ : ∃ z, z = h0.size := ⟨_, rfl⟩
  rw [← g151] at A151 D151 st151
  have g_b151 : n0 ≤ b151 := Nat.le_trans Z0 (Nat.le_of_eq g151.symm)
  have ne_a1_b151 : a1 ≠ b151 := own_ne E_a1.lt g151
  have ne_vb_b151 : vb ≠ b151 := own_ne V0.lt g151
  have sz_b151 : h0.size ≤ b151 := Nat.le_trans K0.1 (Nat.le_of_eq g151.symm)
  have Kp151 : Keep h0 h151 [] := K0.ext E151
  have Z151 : n0 ≤ h151.size := Nat.le_trans Z0 E151.1
  have O151 : Old Z n0 h151 := O0.ext E151
  have u1 := E_a1.ext E151
  have u2 := G_v.ext E151
  have u3 := G_c.ext E151
  have u4 := G_n.ext E151
  have u5 := V0.ext E151
  have F_value_b151 : Fld Z h151 b151 "java/lang/String" "value" "[B" .null := D151 (Or.inr (hw_62 hw)) (ty := (.array .byte)) (by decide)
  have F_coder_b151 : Fld Z h151 b151 "java/lang/String" "coder" "B" (.int 0) := D151 (Or.inr (hw_64 hw)) (ty := .byte) (by decide)
  refine own_step (g' := (mkF m 3 #[rv a1] [(.ref b151)])) st151 ?_
  refine own_st _ (own_dup 4 X151 hx hby d22_3) ?_
  refine own_st _ (own_aloadN 5 X151 hx hby d22_4) ?_
  obtain ⟨_, _, ⟨T152, L152, k152, n152⟩, -, X152, ⟨Lc152, hQ152, l152, y152, z152⟩, st152⟩ := X151.specialBack hx (y := mn_27) rfl hown (mvT hZ (hw_144 hw)) (mvT hZ (hw_145 hw)) (mvT hZ (hw_146 hw)) (by decide) (backOf (W := 1) (own_rm23_t4 l Z a0 hw [] b151 a1 vb kb es wc wD kD h151 n0 Z151 O151 SS hes A151 F_value_b151 F_coder_b151 u1 u2 u3 u4 u5 g_b151 (Ne.symm ne_a1_b151) (Ne.symm ne_vb_b151)) hZ (hw_146 hw) (hw_43 hw) (by decide) (by decide)) (g := (mkF m 5 #[rv a1] [(.ref a1), (.ref b151), (.ref b151)])) rfl (by rw [hml]; rfl) (Steps.refl _) (a := b151) (argsL := [(.ref a1)]) (rest := [(.ref b151)]) (lenOf pd_19 rfl) rfl own_z0 (hb hby d22_5) (fun _ _ => ⟨rfl, e151, (by decide : 1 + 1 ≤ _), (by decide : 4 + 4 ≤ _)⟩)
  dsimp only [Pt.U, Pt.locs, Pt.cells, Pt.slots] at X152 l152 y152 z152 st152 hQ152
  subst l152 y152 z152
  obtain ⟨ba152, kb152, rfl, Nq152, K152, gb152, Ex152, Fv152, Fc152, V152⟩ := hQ152
  have N152 := Fr.app N0 Nq152
  have ne_b151_ba152 : b151 ≠ ba152 := Nat.ne_of_lt (Nat.lt_of_lt_of_le A151.lt gb152)
  have sz_ba152 : h0.size ≤ ba152 := Nat.le_trans Kp151.1 gb152
  have Kp152 : Keep h0 T152.heap [] := Kp151.trans K152 (allS (Or.inr sz_b151) all0)
  refine own_jump (g' := (mkF m 8 #[rv a1] [(.ref b151)])) st152 ?_
  refine own_ret X152 hlk (v := some (.ref b151)) (fun h => by rw [hret] at h; cases h) (fun fs hr => X152.areturnOut hx (w := (.ref b151)) rfl hret rfl (hb hby d22_8) hr) ?_ (by decide) (by decide)
  show own_Q22_t4 Z a1 vb kb es wc wD kD h0 n0 _ T152.heap _
  exact ⟨b151, ba152, kb152, rfl, N152, Kp152, sz_b151, sz_ba152, ne_b151_ba152, Ex152, Fv152, Fc152, V152⟩
theorem own_ef31_t20 (m : MethodId)  : entryFrame m #[(.int 0), (.int 20)] 2 = mkF m 0 #[iv 0, iv 20] [] := by first | (simp [entryFrame, mkF, argsToLocals, Value.category]; done) | rfl
def own_Q31_t20 (Z : State)  (h0 : Heap) (n0 : Nat) (v : Option Value) (h : Heap) (L : List Loc) : Prop := v = none ∧ Fr n0 L ∧ h = h0
theorem own_rm31_t20 (l Z a0) (hw : own_W a0 Z) (ws)  (h0 : Heap) (n0 : Nat) (Z0 : n0 ≤ h0.size) :
    own_M l Z ws mn_23 c_23 2 none rm_0 #[(.int 0), (.int 20)] h0 (own_Q31_t20 Z h0 n0) := by
  refine own_body (plainFor_of_name pn_58) (fun m => own_ef31_t20 m ) ?_
  intro p e s m below meth c T0 X0 hx hby hml hZ hown hnm hret hlk e0
  have hown : s.vm.findClass "java/util/Arrays" = some m.cls := hown
  have hnm : meth.name = "checkLength" := hnm
  have N0 := Fr.nil n0
  refine own_st _ (own_iloadN 1 X0 hx hby d31_0) ?_
  refine own_st _ (own_iloadN 2 X0 hx hby d31_1) ?_
  refine own_st _ (own_icmpYes 37 X0 hx hby d31_2 ((flt (by decide : ¬ ((20 : Int32) < (0 : Int32)))).2.1)) ?_
  refine own_ret X0 hlk (v := none) (fun _ => rfl) (fun fs hr => X0.returnOut hx hret (hb hby d31_37) hr) ?_ (by decide) (by decide)
  show own_Q31_t20 Z h0 n0 _ T0.heap _
  rw [e0]
  exact ⟨rfl, N0, rfl⟩
theorem own_ef30_t20 (m : MethodId) (r1 : Addr) : entryFrame m #[(.ref r1), (.int 0), (.int 20)] 5 = mkF m 0 #[rv r1, iv 0, iv 20, .unset, .unset] [] := by first | (simp [entryFrame, mkF, argsToLocals, Value.category]; done) | rfl
def own_Q30_t20 (Z : State) (r1 : Addr) (kb : ClassId) (es : List Int32) (h0 : Heap) (n0 : Nat) (v : Option Value) (h : Heap) (L : List Loc) : Prop := ∃ (ba : Addr) (kb : ClassId), v = some (.ref ba) ∧ Fr n0 L ∧ Keep h0 h [] ∧ h0.size ≤ ba ∧ Arv Z h ba kb .byte (20 : Int32) ((es.take 20).map Value.int) (.int 0) ∧ Exa Z h ba "[B"
theorem own_rm30_t20 (l Z a0) (hw : own_W a0 Z) (ws) (r1 : Addr) (kb : ClassId) (es : List Int32) (h0 : Heap) (n0 : Nat) (Z0 : n0 ≤ h0.size) (hes : es.length = 34) (V0 : Arv Z h0 r1 kb .byte (34 : Int32) ((es).map Value.int) (.int 0)) :
    own_M l Z ws mn_24 c_24 5 (some (.array .byte)) rm_22 #[(.ref r1), (.int 0), (.int 20)] h0 (own_Q30_t20 Z r1 kb es h0 n0) := by
  refine own_body (plainFor_of_name pn_58) (fun m => own_ef30_t20 m r1) ?_
  intro p e s m below meth c T0 X0 hx hby hml hZ hown hnm hret hlk e0
  have hown : s.vm.findClass "java/util/Arrays" = some m.cls := hown
  have hnm : meth.name = "copyOfRangeByte" := hnm
  have N0 := Fr.nil n0
  have K0 : Keep h0 h0 [] := Keep.refl _ _
  refine own_st _ (own_iloadN 1 X0 hx hby d30_0) ?_
  refine own_st _ (own_iloadN 2 X0 hx hby d30_1) ?_
  obtain ⟨_, _, ⟨T153, L153, k153, n153⟩, -, X153, ⟨Lc153, hQ153, l153, y153, z153⟩, st153⟩ := Jvm.LawKit.callS X0 hx (y := mn_23) hown (mvT hZ (hw_175 hw)) (mvT hZ (hw_176 hw)) (mvT hZ (hw_170 hw)) (mvT hZ (hw_177 hw)) (by decide) (backOf (W := 0) (own_rm31_t20 l Z a0 hw [] h0 n0 Z0) hZ (hw_177 hw) (hw_170 hw) (by decide) (by decide)) (g := (mkF m 2 #[rv r1, iv 0, iv 20, .unset, .unset] [(.int 20), (.int 0)])) rfl (by rw [hml]; rfl) (argsL := [(.int 0), (.int 20)]) (rest := []) (lenOf pd_14 rfl) rfl own_z0 (hb hby d30_2) (fun _ _ => ⟨rfl, e0, (by decide : 0 + 0 ≤ _), (by decide : 0 + 0 ≤ _)⟩)
  dsimp only [Pt.U, Pt.locs, Pt.cells, Pt.slots] at X153 l153 y153 z153 st153 hQ153
  subst l153 y153 z153
  obtain ⟨rfl, Nq153, e153⟩ := hQ153
  have N153 := Fr.app N0 Nq153
  refine own_step (g' := (mkF m 5 #[rv r1, iv 0, iv 20, .unset, .unset] [])) st153 ?_
  refine own_st _ (own_iloadN 6 X153 hx hby d30_5) ?_
  refine own_st _ (own_iloadN 7 X153 hx hby d30_6) ?_
  refine own_st _ (own_isub 8 X153 hx hby d30_7) ?_
  rw [show ((20 : Int32) - (0 : Int32)) = (20 : Int32) from by decide]
  refine own_st _ (own_istoreN 9 #[rv r1, iv 0, iv 20, iv 20, .unset] X153 hx hby d30_8) ?_
  refine own_st _ (own_iloadN 10 X153 hx hby d30_9) ?_
  obtain ⟨T154, h154, k154, X154, e154, E154, A154, B154, st154⟩ := newPE (aty := .byte) X153 hx hZ (hw_55 hw) e153 (g := (mkF m 10 #[rv r1, iv 0, iv 20, iv 20, .unset] [(.int 20)])) rfl (hb hby d30_10) rfl (by decide) (cap := 20) (by decide) (by decide) (by decide) (by decide) (ad := "[B") (by decide)
  obtain ⟨b154, g154⟩ : ∃ z, z = h0.size := ⟨_, rfl⟩
  rw [← g154] at A154 B154 st154
  have g_b154 : n0 ≤ b154 := Nat.le_trans Z0 (Nat.le_of_eq g154.symm)
  have sz_b154 : h0.size ≤ b154 := Nat.le_trans K0.1 (Nat.le_of_eq g154.symm)
  have Kp154 : Keep h0 h154 [] := K0.ext E154
  have Z154 : n0 ≤ h154.size := Nat.le_trans Z0 E154.1
  have u1 := V0.ext E154
  have V154 : Arv Z h154 b154 k154 .byte (20 : Int32) ((List.replicate 20 (0 : Int32)).map Value.int) (.int 0) := (Arv.new A154 (by decide)).pad (own_pad0 20)
  refine own_step (g' := (mkF m 12 #[rv r1, iv 0, iv 20, iv 20, .unset] [(.ref b154)])) st154 ?_
  refine own_st _ (own_astore 14 #[rv r1, iv 0, iv 20, iv 20, rv b154] X154 hx hby d30_12) ?_
  refine own_st _ (own_aloadN 15 X154 hx hby d30_14) ?_
  refine own_st _ (own_iloadN 16 X154 hx hby d30_15) ?_
  refine own_st _ (own_aload 18 X154 hx hby d30_16) ?_
  refine own_st _ (own_iconst 19 0 X154 hx hby d30_18) ?_
  refine own_st _ (own_aloadN 20 X154 hx hby d30_19) ?_
  obtain ⟨cl155, Ar155, -, S155, M155, -, -⟩ := id u1
  refine own_step (T' := T154) (g' := (mkF m 21 #[rv r1, iv 0, iv 20, iv 20, rv b154] [(.int cl155.slots.size.toInt32), (.int 0), (.ref b154), (.int 0), (.ref r1)])) (X154.arraylength hx (by rw [e154]; exact Ar155.1) (State.isArrayOf_alike hZ.alike Ar155.2.1) (g := (mkF m 20 #[rv r1, iv 0, iv 20, iv 20, rv b154] [(.ref r1), (.int 0), (.ref b154), (.int 0), (.ref r1)])) rfl rfl (hb hby d30_20)) ?_
  rw [len_of S155 M155]
  refine own_st _ (own_iloadN 22 X154 hx hby d30_21) ?_
  refine own_st _ (own_isub 23 X154 hx hby d30_22) ?_
  rw [show ((34 : Int32) - (0 : Int32)) = (34 : Int32) from by decide]
  refine own_st _ (own_iloadN 24 X154 hx hby d30_23) ?_
  obtain ⟨_, _, ⟨T156, L156, k156, n156⟩, -, X156, ⟨Lc156, hQ156, l156, y156, z156⟩, st156⟩ := Jvm.LawKit.callS X154 hx (y := mn_1) hown (mvT hZ (hw_178 hw)) (mvT hZ (hw_179 hw)) (mvT hZ (hw_180 hw)) (mvT hZ (hw_181 hw)) (by decide) (backOf (W := 4) (own_rm32 l Z a0 hw [] (34 : Int32) (20 : Int32) h154 n0 Z154) hZ (hw_181 hw) (hw_180 hw) (by decide) (by decide)) (g := (mkF m 24 #[rv r1, iv 0, iv 20, iv 20, rv b154] [(.int 20), (.int 34), (.int 0), (.ref b154), (.int 0), (.ref r1)])) rfl (by rw [hml]; rfl) (argsL := [(.int 34), (.int 20)]) (rest := [(.int 0), (.ref b154), (.int 0), (.ref r1)]) (lenOf pd_10 rfl) rfl own_z0 (hb hby d30_24) (fun _ _ => ⟨rfl, e154, (by decide : 1 + 0 ≤ _), (by decide : 20 + 0 ≤ _)⟩)
  dsimp only [Pt.U, Pt.locs, Pt.cells, Pt.slots] at X156 l156 y156 z156 st156 hQ156
  subst l156 y156 z156
  obtain ⟨rfl, Nq156, e156⟩ := hQ156
  have N156 := Fr.app N153 Nq156
  refine own_step (g' := (mkF m 27 #[rv r1, iv 0, iv 20, iv 20, rv b154] [(.int (own_min32 (34 : Int32) (20 : Int32))), (.int 0), (.ref b154), (.int 0), (.ref r1)])) st156 ?_
  rw [show (own_min32 (34 : Int32) (20 : Int32)) = (20 : Int32) from by decide]
  obtain ⟨T157, h157, Lc157, X157, e157, N157, K157, V157, st157⟩ := own_copy X156 hx hZ hown (hw_182 hw) (hw_134 hw) (hw_132 hw) (hw_133 hw) e156 u1 V154 20 (show (20 : Int32).toInt = ((20 : Nat) : Int) from rfl) (by rw [hes]; rfl) rfl (by omega) (by simp) (n0 := n0) N156 g_b154 (g := (mkF m 27 #[rv r1, iv 0, iv 20, iv 20, rv b154] [(.int 20), (.int 0), (.ref b154), (.int 0), (.ref r1)])) rfl (by rw [hml]; rfl) rfl (hb hby d30_27) (by decide) (W := 0) own_z0 (by decide)
  have Kp157 : Keep h0 h157 [] := Kp154.trans K157 (allS (Or.inr sz_b154) all0)
  have u3 := B154.keep K157
  refine own_step (g' := (mkF m 30 #[rv r1, iv 0, iv 20, iv 20, rv b154] [])) st157 ?_
  refine own_st _ (own_aload 32 X157 hx hby d30_30) ?_
  have Vz : Arv Z h157 b154 k154 .byte (20 : Int32) ((es.take 20).map Value.int) (.int 0) := by have q := V157; simpa using q
  refine own_ret X157 hlk (v := some (.ref b154)) (fun h => by rw [hret] at h; cases h) (fun fs hr => X157.areturnOut hx (w := (.ref b154)) rfl hret rfl (hb hby d30_32) hr) ?_ (by decide) (by decide)
  show own_Q30_t20 Z r1 kb es h0 n0 _ T157.heap _
  rw [e157]
  exact ⟨b154, k154, rfl, N157, Kp157, sz_b154, Vz, u3⟩
theorem own_ef29_t20 (m : MethodId) (r1 : Addr) : entryFrame m #[(.ref r1), (.int 0), (.int 20)] 3 = mkF m 0 #[rv r1, iv 0, iv 20] [] := by first | (simp [entryFrame, mkF, argsToLocals, Value.category]; done) | rfl
def own_Q29_t20 (Z : State) (r1 : Addr) (kb : ClassId) (es : List Int32) (h0 : Heap) (n0 : Nat) (v : Option Value) (h : Heap) (L : List Loc) : Prop := ∃ (ba : Addr) (kb : ClassId), v = some (.ref ba) ∧ Fr n0 L ∧ Keep h0 h [] ∧ h0.size ≤ ba ∧ Arv Z h ba kb .byte (20 : Int32) ((es.take 20).map Value.int) (.int 0) ∧ Exa Z h ba "[B"
theorem own_rm29_t20 (l Z a0) (hw : own_W a0 Z) (ws) (r1 : Addr) (kb : ClassId) (es : List Int32) (h0 : Heap) (n0 : Nat) (Z0 : n0 ≤ h0.size) (hes : es.length = 34) (V0 : Arv Z h0 r1 kb .byte (34 : Int32) ((es).map Value.int) (.int 0)) :
    own_M l Z ws mn_25 c_25 3 (some (.array .byte)) rm_23 #[(.ref r1), (.int 0), (.int 20)] h0 (own_Q29_t20 Z r1 kb es h0 n0) := by
  refine own_body (plainFor_of_name pn_58) (fun m => own_ef29_t20 m r1) ?_
  intro p e s m below meth c T0 X0 hx hby hml hZ hown hnm hret hlk e0
  have hown : s.vm.findClass "java/util/Arrays" = some m.cls := hown
  have hnm : meth.name = "copyOfRange" := hnm
  have N0 := Fr.nil n0
  have K0 : Keep h0 h0 [] := Keep.refl _ _
  refine own_st _ (own_iloadN 1 X0 hx hby d29_0) ?_
  refine own_st _ (own_ifNo 4 X0 hx hby d29_1 ((if0 _ _).trans (teq (by decide : (0 : Int32) = (0 : Int32))).2)) ?_
  refine own_st _ (own_iloadN 5 X0 hx hby d29_4) ?_
  refine own_st _ (own_aloadN 6 X0 hx hby d29_5) ?_
  obtain ⟨cl158, Ar158, -, S158, M158, -, -⟩ := id V0
  refine own_step (T' := T0) (g' := (mkF m 7 #[rv r1, iv 0, iv 20] [(.int cl158.slots.size.toInt32), (.int 20)])) (X0.arraylength hx (by rw [e0]; exact Ar158.1) (State.isArrayOf_alike hZ.alike Ar158.2.1) (g := (mkF m 6 #[rv r1, iv 0, iv 20] [(.ref r1), (.int 20)])) rfl rfl (hb hby d29_6)) ?_
  rw [len_of S158 M158]
  refine own_st _ (own_icmpNo 10 X0 hx hby d29_7 ((feq (by decide : ¬ ((20 : Int32) = (34 : Int32)))).1)) ?_
  refine own_st _ (own_aloadN 11 X0 hx hby d29_10) ?_
  refine own_st _ (own_iloadN 12 X0 hx hby d29_11) ?_
  refine own_st _ (own_iloadN 13 X0 hx hby d29_12) ?_
  obtain ⟨_, _, ⟨T159, L159, k159, n159⟩, -, X159, ⟨Lc159, hQ159, l159, y159, z159⟩, st159⟩ := Jvm.LawKit.callS X0 hx (y := mn_24) hown (mvT hZ (hw_172 hw)) (mvT hZ (hw_173 hw)) (mvT hZ (hw_170 hw)) (mvT hZ (hw_174 hw)) (by decide) (backOf (W := 0) (own_rm30_t20 l Z a0 hw [] r1 kb es h0 n0 Z0 hes V0) hZ (hw_174 hw) (hw_170 hw) (by decide) (by decide)) (g := (mkF m 13 #[rv r1, iv 0, iv 20] [(.int 20), (.int 0), (.ref r1)])) rfl (by rw [hml]; rfl) (argsL := [(.ref r1), (.int 0), (.int 20)]) (rest := []) (lenOf pd_15 rfl) rfl own_z0 (hb hby d29_13) (fun _ _ => ⟨rfl, e0, (by decide : 0 + 1 ≤ _), (by decide : 0 + 20 ≤ _)⟩)
  dsimp only [Pt.U, Pt.locs, Pt.cells, Pt.slots] at X159 l159 y159 z159 st159 hQ159
  subst l159 y159 z159
  obtain ⟨ba159, kb159, rfl, Nq159, K159, gb159, V159, Eb159⟩ := hQ159
  have N159 := Fr.app N0 Nq159
  have sz_ba159 : h0.size ≤ ba159 := Nat.le_trans K0.1 gb159
  have Kp159 : Keep h0 T159.heap [] := K0.trans K159 all0
  refine own_step (g' := (mkF m 16 #[rv r1, iv 0, iv 20] [(.ref ba159)])) st159 ?_
  refine own_ret X159 hlk (v := some (.ref ba159)) (fun h => by rw [hret] at h; cases h) (fun fs hr => X159.areturnOut hx (w := (.ref ba159)) rfl hret rfl (hb hby d29_16) hr) ?_ (by decide) (by decide)
  show own_Q29_t20 Z r1 kb es h0 n0 _ T159.heap _
  exact ⟨ba159, kb159, rfl, N159, Kp159, sz_ba159, V159, Eb159⟩
def own_Q24_t20 (Z : State) (a1 r2 vb : Addr) (kb : ClassId) (es : List Int32) (wc : Int32) (wD : Addr) (kD : ClassId) (h0 : Heap) (n0 : Nat) (v : Option Value) (h : Heap) (L : List Loc) : Prop := ∃ (ba : Addr) (kq : ClassId), v = none ∧ Fr n0 L ∧ Keep h0 h [a1] ∧ h0.size ≤ ba ∧ Exa Z h a1 "java/lang/String" ∧ Fld Z h a1 "java/lang/String" "value" "[B" (.ref ba) ∧ Fld Z h a1 "java/lang/String" "coder" "B" (.int 0) ∧ Arv Z h ba kq .byte (20 : Int32) ((es.take 20).map Value.int) (.int 0)
theorem own_rm24_t20 (l Z a0) (hw : own_W a0 Z) (ws) (a1 r2 vb : Addr) (kb : ClassId) (es : List Int32) (wc : Int32) (wD : Addr) (kD : ClassId) (h0 : Heap) (n0 : Nat) (Z0 : n0 ≤ h0.size) (O0 : Old Z n0 h0) (SS : own_St Z wc wD kD) (hes : es.length = 34) (E_a1 : Exa Z h0 a1 "java/lang/String") (F_v : Fld Z h0 a1 "java/lang/String" "value" "[B" .null) (F_c : Fld Z h0 a1 "java/lang/String" "coder" "B" (.int 0)) (E_r2 : Exa Z h0 r2 "java/lang/StringBuilder") (G_v : Fld Z h0 r2 "java/lang/AbstractStringBuilder" "value" "[B" (.ref vb)) (G_c : Fld Z h0 r2 "java/lang/AbstractStringBuilder" "coder" "B" (.int 0)) (G_n : Fld Z h0 r2 "java/lang/AbstractStringBuilder" "count" "I" (.int 20)) (V0 : Arv Z h0 vb kb .byte (34 : Int32) ((es).map Value.int) (.int 0)) (g_a1 : n0 ≤ a1) (ne_12 : a1 ≠ r2) (ne_1v : a1 ≠ vb) :
    own_M l Z ws mn_26 c_26 5 none rm_24 #[(.ref a1), (.ref r2), .null] h0 (own_Q24_t20 Z a1 r2 vb kb es wc wD kD h0 n0) := by
  refine own_body (plainFor_of_name pn_10) (fun m => own_ef24_t4 m a1 r2) ?_
  intro p e s m below meth c T0 X0 hx hby hml hZ hown hnm hret hlk e0
  have hown : s.vm.findClass "java/lang/String" = some m.cls := hown
  have hnm : meth.name = "<init>" := hnm
  have N0 := Fr.nil n0
  have K0 : Keep h0 h0 [a1] := Keep.refl _ _
  refine own_st _ (own_aloadN 1 X0 hx hby d24_0) ?_
  obtain ⟨T160, X160, e160, st160⟩ := initO X0 hx hZ hown (hw_60 hw) (hw_7 hw) (hw_8 hw) e0 (g := (mkF m 1 #[rv a1, rv r2, .val .null, .unset, .unset] [(.ref a1)])) rfl (by rw [hml]; rfl) rfl (hb hby d24_1) (by decide) (W := 0) own_z0 (by decide)
  refine own_step (g' := (mkF m 4 #[rv a1, rv r2, .val .null, .unset, .unset] [])) st160 ?_
  refine own_st _ (own_aloadN 5 X160 hx hby d24_4) ?_
  obtain ⟨cq161, kq161, q161a, q161b, q161c⟩ := isOf hZ e160 E_r2
  obtain ⟨_, _, ⟨T161, L161, k161, n161⟩, -, X161, ⟨Lc161, hQ161, l161, y161, z161⟩, st161⟩ := X160.virtualBack hx (y := mn_11) (z := mn_11) hown (mvT hZ (hw_150 hw)) (mvT hZ (hw_151 hw)) (notFace_of_selects (args := #[]) (mvT hZ (hw_153 hw))) (mvT hZ (hw_153 hw)) (mvT hZ (hw_152 hw)) (by decide) (backOf (W := 0) (own_rm25 l Z a0 hw [] r2 vb h0 n0 Z0 G_v) hZ (hw_154 hw) (hw_80 hw) (by decide) (by decide)) q161a q161c (g := (mkF m 5 #[rv a1, rv r2, .val .null, .unset, .unset] [(.ref r2)])) rfl (by rw [hml]; rfl) (Steps.refl _) (argsL := []) (rest := []) (lenOf pd_16 rfl) rfl own_z0 (hb hby d24_5) (fun _ _ => ⟨rfl, e160, (by decide : 0 + 0 ≤ _), (by decide : 0 + 0 ≤ _)⟩)
  dsimp only [Pt.U, Pt.locs, Pt.cells, Pt.slots] at X161 l161 y161 z161 st161 hQ161
  subst l161 y161 z161
  obtain ⟨rfl, Nq161, e161⟩ := hQ161
  have N161 := Fr.app N0 Nq161
  refine own_jump (g' := (mkF m 8 #[rv a1, rv r2, .val .null, .unset, .unset] [(.ref vb)])) st161 ?_
  refine own_st _ (own_astoreN 9 #[rv a1, rv r2, .val .null, rv vb, .unset] X161 hx hby d24_8) ?_
  refine own_st _ (own_aloadN 10 X161 hx hby d24_9) ?_
  obtain ⟨cq162, kq162, q162a, q162b, q162c⟩ := isOf hZ e161 E_r2
  obtain ⟨_, _, ⟨T162, L162, k162, n162⟩, -, X162, ⟨Lc162, hQ162, l162, y162, z162⟩, st162⟩ := X161.virtualBack hx (y := mn_12) (z := mn_13) hown (mvT hZ (hw_155 hw)) (mvT hZ (hw_156 hw)) (own_nf (y := mn_12) (y2 := mn_11) rfl (args := #[]) (mvT hZ (hw_153 hw))) (mvT hZ (hw_158 hw)) (mvT hZ (hw_159 hw)) (by decide) (backOf (W := 0) (own_rm26 l Z a0 hw [] r2 (20 : Int32) h0 n0 Z0 G_n E_r2) hZ (hw_160 hw) (hw_72 hw) (by decide) (by decide)) q162a q162c (g := (mkF m 10 #[rv a1, rv r2, .val .null, rv vb, .unset] [(.ref r2)])) rfl (by rw [hml]; rfl) (Steps.refl _) (argsL := []) (rest := []) (lenOf pd_5 rfl) rfl own_z0 (hb hby d24_10) (fun _ _ => ⟨rfl, e161, (by decide : 0 + 0 ≤ _), (by decide : 0 + 0 ≤ _)⟩)
  dsimp only [Pt.U, Pt.locs, Pt.cells, Pt.slots] at X162 l162 y162 z162 st162 hQ162
  subst l162 y162 z162
  obtain ⟨rfl, Nq162, e162⟩ := hQ162
  have N162 := Fr.app N161 Nq162
  refine own_jump (g' := (mkF m 13 #[rv a1, rv r2, .val .null, rv vb, .unset] [(.int 20)])) st162 ?_
  refine own_st _ (own_istore 15 #[rv a1, rv r2, .val .null, rv vb, iv 20] X162 hx hby d24_13) ?_
  refine own_st _ (own_aloadN 16 X162 hx hby d24_15) ?_
  obtain ⟨cq163, kq163, q163a, q163b, q163c⟩ := isOf hZ e162 E_r2
  obtain ⟨_, _, ⟨T163, L163, k163, n163⟩, -, X163, ⟨Lc163, hQ163, l163, y163, z163⟩, st163⟩ := X162.virtualBack hx (y := mn_9) (z := mn_9) hown (mvT hZ (hw_163 hw)) (mvT hZ (hw_164 hw)) (notFace_of_selects (args := #[]) (mvT hZ (hw_166 hw))) (mvT hZ (hw_166 hw)) (mvT hZ (hw_165 hw)) (by decide) (backOf (W := 0) (own_rm28 l Z a0 hw [] r2 wc wD kD h0 n0 Z0 O0 SS G_c) hZ (hw_167 hw) (hw_80 hw) (by decide) (by decide)) q163a q163c (g := (mkF m 16 #[rv a1, rv r2, .val .null, rv vb, iv 20] [(.ref r2)])) rfl (by rw [hml]; rfl) (Steps.refl _) (argsL := []) (rest := []) (lenOf pd_17 rfl) rfl own_z0 (hb hby d24_16) (fun _ _ => ⟨rfl, e162, (by decide : 0 + 0 ≤ _), (by decide : 0 + 0 ≤ _)⟩)
  dsimp only [Pt.U, Pt.locs, Pt.cells, Pt.slots] at X163 l163 y163 z163 st163 hQ163
  subst l163 y163 z163
  obtain ⟨rfl, Nq163, e163⟩ := hQ163
  have N163 := Fr.app N162 Nq163
  refine own_jump (g' := (mkF m 19 #[rv a1, rv r2, .val .null, rv vb, iv 20] [(.int 1)])) st163 ?_
  refine own_st _ (own_ifNo 22 X163 hx hby d24_19 ((if0 _ _).trans (feq (by decide : ¬ ((1 : Int32) = (0 : Int32)))).1)) ?_
  refine own_st _ (own_aloadN 23 X163 hx hby d24_22) ?_
  refine own_st _ (own_iconst 24 0 X163 hx hby d24_23) ?_
  obtain ⟨T164, h164, X164, e164, W164, st164⟩ := putFN X163 hx hZ hown (hw_63 hw) Via.refl e163 F_c E_a1 (Or.inr ⟨(hw_64 hw), rfl, hnm⟩) (hw_51 hw) (ty := .byte) (v' := (.int (nar .byte (0 : Int32)))) (by decide) rfl (fits_nar_byte _) (g := (mkF m 24 #[rv a1, rv r2, .val .null, rv vb, iv 20] [(.int 0), (.ref a1)])) rfl rfl (hb hby d24_24)
  have u1 := E_a1.wr W164
  have u2 := F_v.other W164 (Or.inr (slot_ne (a0 := a0) (C := "java/lang/String") (Or.inr (hw_62 hw)) (Or.inr (hw_64 hw)) (by decide) (t := (.array .byte)) (t' := .byte) (by decide) (by decide)))
  have u7 := V0.other W164 (Ne.symm ne_1v)
  have fw164 : Fld Z h164 a1 "java/lang/String" "coder" "B" (.int (nar .byte (0 : Int32))) := F_c.same W164
  have Z164 : n0 ≤ h164.size := Nat.le_trans Z0 (Keep.of_wr W164).1
  have Kp164 : Keep h0 h164 [a1] := K0.wr W164 (Or.inl (List.mem_of_getElem? (i := 0) rfl))
  have N164 := Fr.snoc X164 N163 g_a1
  refine own_step (g' := (mkF m 27 #[rv a1, rv r2, .val .null, rv vb, iv 20] [])) st164 ?_
  have Fz : Fld Z h164 a1 "java/lang/String" "coder" "B" (.int 0) := own_nar0 ▸ fw164
  refine own_st _ (own_aloadN 28 X164 hx hby d24_27) ?_
  refine own_st _ (own_aloadN 29 X164 hx hby d24_28) ?_
  refine own_st _ (own_iconst 30 0 X164 hx hby d24_29) ?_
  refine own_st _ (own_iload 32 X164 hx hby d24_30) ?_
  obtain ⟨_, _, ⟨T165, L165, k165, n165⟩, -, X165, ⟨Lc165, hQ165, l165, y165, z165⟩, st165⟩ := Jvm.LawKit.callS X164 hx (y := mn_25) hown (mvT hZ (hw_168 hw)) (mvT hZ (hw_169 hw)) (mvT hZ (hw_170 hw)) (mvT hZ (hw_171 hw)) (by decide) (backOf (W := 1) (own_rm29_t20 l Z a0 hw [] vb kb es h164 n0 Z164 hes u7) hZ (hw_171 hw) (hw_170 hw) (by decide) (by decide)) (g := (mkF m 32 #[rv a1, rv r2, .val .null, rv vb, iv 20] [(.int 20), (.int 0), (.ref vb), (.ref a1)])) rfl (by rw [hml]; rfl) (argsL := [(.ref vb), (.int 0), (.int 20)]) (rest := [(.ref a1)]) (lenOf pd_15 rfl) rfl own_z0 (hb hby d24_32) (fun _ _ => ⟨rfl, e164, (by decide : 0 + 1 ≤ _), (by decide : 0 + 20 ≤ _)⟩)
  dsimp only [Pt.U, Pt.locs, Pt.cells, Pt.slots] at X165 l165 y165 z165 st165 hQ165
  subst l165 y165 z165
  obtain ⟨ba165, kb165, rfl, Nq165, K165, gb165, V165, Eb165⟩ := hQ165
  have N165 := Fr.app N164 Nq165
  have ne_a1_ba165 : a1 ≠ ba165 := Nat.ne_of_lt (Nat.lt_of_lt_of_le u1.lt gb165)
  have sz_ba165 : h0.size ≤ ba165 := Nat.le_trans Kp164.1 gb165
  have Kp165 : Keep h0 T165.heap [a1] := Kp164.trans K165 all0
  have u8 := u1.keep K165
  have u9 := u2.keep K165 nin0
  have u10 := Fz.keep K165 nin0
  refine own_step (g' := (mkF m 35 #[rv a1, rv r2, .val .null, rv vb, iv 20] [(.ref ba165), (.ref a1)])) st165 ?_
  obtain ⟨T166, h166, X166, e166, W166, st166⟩ := putF X165 hx hZ hown (host := "") (Or.inl (hw_61 hw)) Via.refl rfl u9 u8 (Or.inr ⟨(hw_62 hw), rfl, hnm⟩) (hw_51 hw) (ty := (.array .byte)) (by decide) rfl rfl (g := (mkF m 35 #[rv a1, rv r2, .val .null, rv vb, iv 20] [(.ref ba165), (.ref a1)])) rfl rfl (hb hby d24_35)
  have u16 := u8.wr W166
  have u17 := u10.other W166 (Or.inr (slot_ne (a0 := a0) (C := "java/lang/String") (Or.inr (hw_64 hw)) (Or.inr (hw_62 hw)) (by decide) (t := .byte) (t' := (.array .byte)) (by decide) (by decide)))
  have u23 := V165.other W166 (Ne.symm ne_a1_ba165)
  have fw166 : Fld Z h166 a1 "java/lang/String" "value" "[B" (.ref ba165) := u9.same W166
  have Kp166 : Keep h0 h166 [a1] := Kp165.wr W166 (Or.inl (List.mem_of_getElem? (i := 0) rfl))
  have N166 := Fr.snoc X166 N165 g_a1
  refine own_step (g' := (mkF m 38 #[rv a1, rv r2, .val .null, rv vb, iv 20] [])) st166 ?_
  refine own_st _ (own_goto 97 X166 hx hby d24_38) ?_
  refine own_ret X166 hlk (v := none) (fun _ => rfl) (fun fs hr => X166.returnOut hx hret (hb hby d24_97) hr) ?_ (by decide) (by decide)
  show own_Q24_t20 Z a1 r2 vb kb es wc wD kD h0 n0 _ T166.heap _
  rw [e166]
  exact ⟨ba165, kb165, rfl, N166, Kp166, sz_ba165, u16, fw166, u17, u23⟩
def own_Q23_t20 (Z : State) (a1 r2 vb : Addr) (kb : ClassId) (es : List Int32) (wc : Int32) (wD : Addr) (kD : ClassId) (h0 : Heap) (n0 : Nat) (v : Option Value) (h : Heap) (L : List Loc) : Prop := ∃ (ba : Addr) (kq : ClassId), v = none ∧ Fr n0 L ∧ Keep h0 h [a1] ∧ h0.size ≤ ba ∧ Exa Z h a1 "java/lang/String" ∧ Fld Z h a1 "java/lang/String" "value" "[B" (.ref ba) ∧ Fld Z h a1 "java/lang/String" "coder" "B" (.int 0) ∧ Arv Z h ba kq .byte (20 : Int32) ((es.take 20).map Value.int) (.int 0)
theorem own_rm23_t20 (l Z a0) (hw : own_W a0 Z) (ws) (a1 r2 vb : Addr) (kb : ClassId) (es : List Int32) (wc : Int32) (wD : Addr) (kD : ClassId) (h0 : Heap) (n0 : Nat) (Z0 : n0 ≤ h0.size) (O0 : Old Z n0 h0) (SS : own_St Z wc wD kD) (hes : es.length = 34) (E_a1 : Exa Z h0 a1 "java/lang/String") (F_v : Fld Z h0 a1 "java/lang/String" "value" "[B" .null) (F_c : Fld Z h0 a1 "java/lang/String" "coder" "B" (.int 0)) (E_r2 : Exa Z h0 r2 "java/lang/StringBuilder") (G_v : Fld Z h0 r2 "java/lang/AbstractStringBuilder" "value" "[B" (.ref vb)) (G_c : Fld Z h0 r2 "java/lang/AbstractStringBuilder" "coder" "B" (.int 0)) (G_n : Fld Z h0 r2 "java/lang/AbstractStringBuilder" "count" "I" (.int 20)) (V0 : Arv Z h0 vb kb .byte (34 : Int32) ((es).map Value.int) (.int 0)) (g_a1 : n0 ≤ a1) (ne_12 : a1 ≠ r2) (ne_1v : a1 ≠ vb) :
    own_M l Z ws mn_27 c_27 2 none rm_25 #[(.ref a1), (.ref r2)] h0 (own_Q23_t20 Z a1 r2 vb kb es wc wD kD h0 n0) := by
  refine own_body (plainFor_of_name pn_10) (fun m => own_ef20 m a1 r2) ?_
  intro p e s m below meth c T0 X0 hx hby hml hZ hown hnm hret hlk e0
  have hown : s.vm.findClass "java/lang/String" = some m.cls := hown
  have hnm : meth.name = "<init>" := hnm
  have N0 := Fr.nil n0
  have K0 : Keep h0 h0 [a1] := Keep.refl _ _
  refine own_st _ (own_aloadN 1 X0 hx hby d23_0) ?_
  refine own_st _ (own_aloadN 2 X0 hx hby d23_1) ?_
  refine own_st _ (own_aconstNull 3 X0 hx hby d23_2) ?_
  obtain ⟨_, _, ⟨T167, L167, k167, n167⟩, -, X167, ⟨Lc167, hQ167, l167, y167, z167⟩, st167⟩ := X0.specialBack hx (y := mn_26) rfl hown (mvT hZ (hw_147 hw)) (mvT hZ (hw_148 hw)) (mvT hZ (hw_149 hw)) (by decide) (backOf (W := 0) (own_rm24_t20 l Z a0 hw [] a1 r2 vb kb es wc wD kD h0 n0 Z0 O0 SS hes E_a1 F_v F_c E_r2 G_v G_c G_n V0 g_a1 ne_12 ne_1v) hZ (hw_149 hw) (hw_43 hw) (by decide) (by decide)) (g := (mkF m 3 #[rv a1, rv r2] [.null, (.ref r2), (.ref a1)])) rfl (by rw [hml]; rfl) (Steps.refl _) (a := a1) (argsL := [(.ref r2), .null]) (rest := []) (lenOf pd_18 rfl) rfl own_z0 (hb hby d23_3) (fun _ _ => ⟨rfl, e0, (by decide : 0 + 1 ≤ _), (by decide : 0 + 20 ≤ _)⟩)
  dsimp only [Pt.U, Pt.locs, Pt.cells, Pt.slots] at X167 l167 y167 z167 st167 hQ167
  subst l167 y167 z167
  obtain ⟨ba167, kb167, rfl, Nq167, K167, gb167, Ex167, Fv167, Fc167, V167⟩ := hQ167
  have N167 := Fr.app N0 Nq167
  have sz_ba167 : h0.size ≤ ba167 := Nat.le_trans K0.1 gb167
  have Kp167 : Keep h0 T167.heap [a1] := K0.trans K167 (allS (Or.inl (List.mem_of_getElem? (i := 0) rfl)) all0)
  refine own_jump (g' := (mkF m 6 #[rv a1, rv r2] [])) st167 ?_
  refine own_ret X167 hlk (v := none) (fun _ => rfl) (fun fs hr => X167.returnOut hx hret (hb hby d23_6) hr) ?_ (by decide) (by decide)
  show own_Q23_t20 Z a1 r2 vb kb es wc wD kD h0 n0 _ T167.heap _
  exact ⟨ba167, kb167, rfl, N167, Kp167, sz_ba167, Ex167, Fv167, Fc167, V167⟩
def own_Q22_t20 (Z : State) (a1 vb : Addr) (kb : ClassId) (es : List Int32) (wc : Int32) (wD : Addr) (kD : ClassId) (h0 : Heap) (n0 : Nat) (v : Option Value) (h : Heap) (L : List Loc) : Prop := ∃ (sa ba : Addr) (kb : ClassId), v = some (.ref sa) ∧ Fr n0 L ∧ Keep h0 h [] ∧ h0.size ≤ sa ∧ h0.size ≤ ba ∧ sa ≠ ba ∧ Exa Z h sa "java/lang/String" ∧ Fld Z h sa "java/lang/String" "value" "[B" (.ref ba) ∧ Fld Z h sa "java/lang/String" "coder" "B" (.int 0) ∧ Arv Z h ba kb .byte (20 : Int32) ((es.take 20).map Value.int) (.int 0)
theorem own_rm22_t20 (l Z a0) (hw : own_W a0 Z) (ws) (a1 vb : Addr) (kb : ClassId) (es : List Int32) (wc : Int32) (wD : Addr) (kD : ClassId) (h0 : Heap) (n0 : Nat) (Z0 : n0 ≤ h0.size) (O0 : Old Z n0 h0) (SS : own_St Z wc wD kD) (hes : es.length = 34) (E_a1 : Exa Z h0 a1 "java/lang/StringBuilder") (G_v : Fld Z h0 a1 "java/lang/AbstractStringBuilder" "value" "[B" (.ref vb)) (G_c : Fld Z h0 a1 "java/lang/AbstractStringBuilder" "coder" "B" (.int 0)) (G_n : Fld Z h0 a1 "java/lang/AbstractStringBuilder" "count" "I" (.int 20)) (V0 : Arv Z h0 vb kb .byte (34 : Int32) ((es).map Value.int) (.int 0)) :
    own_M l Z ws mn_28 c_28 1 (some (.object "java/lang/String")) rm_26 #[(.ref a1)] h0 (own_Q22_t20 Z a1 vb kb es wc wD kD h0 n0) := by
  refine own_body (plainFor_of_name pn_12) (fun m => own_ef17 m a1) ?_
  intro p e s m below meth c T0 X0 hx hby hml hZ hown hnm hret hlk e0
  have hown : s.vm.findClass "java/lang/StringBuilder" = some m.cls := hown
  have hnm : meth.name = "toString" := hnm
  have N0 := Fr.nil n0
  have K0 : Keep h0 h0 [] := Keep.refl _ _
  obtain ⟨T168, h168, X168, e168, E168, A168, D168, -, st168⟩ := newO X0 hx hZ hown (hw_143 hw) (hw_51 hw) (hw_43 hw) e0 (g := (mkF m 0 #[rv a1] [])) rfl (hb hby d22_0) (by decide) (by decide)
  obtain ⟨b168, g168⟩ : ∃ z, z = h0.size := ⟨_, rfl⟩
  rw [← g168] at A168 D168 st168
  have g_b168 : n0 ≤ b168 := Nat.le_trans Z0 (Nat.le_of_eq g168.symm)
  have ne_a1_b168 : a1 ≠ b168 := own_ne E_a1.lt g168
  have ne_vb_b168 : vb ≠ b168 := own_ne V0.lt g168
  have sz_b168 : h0.size ≤ b168 := Nat.le_trans K0.1 (Nat.le_of_eq g168.symm)
  have Kp168 : Keep h0 h168 [] := K0.ext E168
  have Z168 : n0 ≤ h168.size := Nat.le_trans Z0 E168.1
  have O168 : Old Z n0 h168 := O0.ext E168
  have u1 := E_a1.ext E168
  have u2 := G_v.ext E168
  have u3 := G_c.ext E168
  have u4 := G_n.ext E168
  have u5 := V0.ext E168
  have F_value_b168 : Fld Z h168 b168 "java/lang/String" "value" "[B" .null := D168 (Or.inr (hw_62 hw)) (ty := (.array .byte)) (by decide)
  have F_coder_b168 : Fld Z h168 b168 "java/lang/String" "coder" "B" (.int 0) := D168 (Or.inr (hw_64 hw)) (ty := .byte) (by decide)
  refine own_step (g' := (mkF m 3 #[rv a1] [(.ref b168)])) st168 ?_
  refine own_st _ (own_dup 4 X168 hx hby d22_3) ?_
  refine own_st _ (own_aloadN 5 X168 hx hby d22_4) ?_
  obtain ⟨_, _, ⟨T169, L169, k169, n169⟩, -, X169, ⟨Lc169, hQ169, l169, y169, z169⟩, st169⟩ := X168.specialBack hx (y := mn_27) rfl hown (mvT hZ (hw_144 hw)) (mvT hZ (hw_145 hw)) (mvT hZ (hw_146 hw)) (by decide) (backOf (W := 1) (own_rm23_t20 l Z a0 hw [] b168 a1 vb kb es wc wD kD h168 n0 Z168 O168 SS hes A168 F_value_b168 F_coder_b168 u1 u2 u3 u4 u5 g_b168 (Ne.symm ne_a1_b168) (Ne.symm ne_vb_b168)) hZ (hw_146 hw) (hw_43 hw) (by decide) (by decide)) (g := (mkF m 5 #[rv a1] [(.ref a1), (.ref b168), (.ref b168)])) rfl (by rw [hml]; rfl) (Steps.refl _) (a := b168) (argsL := [(.ref a1)]) (rest := [(.ref b168)]) (lenOf pd_19 rfl) rfl own_z0 (hb hby d22_5) (fun _ _ => ⟨rfl, e168, (by decide : 1 + 1 ≤ _), (by decide : 4 + 20 ≤ _)⟩)
  dsimp only [Pt.U, Pt.locs, Pt.cells, Pt.slots] at X169 l169 y169 z169 st169 hQ169
  subst l169 y169 z169
  obtain ⟨ba169, kb169, rfl, Nq169, K169, gb169, Ex169, Fv169, Fc169, V169⟩ := hQ169
  have N169 := Fr.app N0 Nq169
  have ne_b168_ba169 : b168 ≠ ba169 := Nat.ne_of_lt (Nat.lt_of_lt_of_le A168.lt gb169)
  have sz_ba169 : h0.size ≤ ba169 := Nat.le_trans Kp168.1 gb169
  have Kp169 : Keep h0 T169.heap [] := Kp168.trans K169 (allS (Or.inr sz_b168) all0)
  refine own_jump (g' := (mkF m 8 #[rv a1] [(.ref b168)])) st169 ?_
  refine own_ret X169 hlk (v := some (.ref b168)) (fun h => by rw [hret] at h; cases h) (fun fs hr => X169.areturnOut hx (w := (.ref b168)) rfl hret rfl (hb hby d22_8) hr) ?_ (by decide) (by decide)
  show own_Q22_t20 Z a1 vb kb es wc wD kD h0 n0 _ T169.heap _
  exact ⟨b168, ba169, kb169, rfl, N169, Kp169, sz_b168, sz_ba169, ne_b168_ba169, Ex169, Fv169, Fc169, V169⟩
theorem d5_0 : own_D c_29 0 (.aload_n 0, 1) := by decide +kernel
theorem d5_1 : own_D c_29 1 (.invokespecial 1, 3) := by decide +kernel
theorem hw_27 : own_H (.methodLink "java/util/AbstractCollection" 1 mn_56) := own_h 27 rfl
theorem d5_4 : own_D c_29 4 (.return_, 1) := by decide +kernel
theorem pn_5 : plainName "java/util/AbstractCollection" = true := by first | (simp [plainName, overriddenIn]; done) | decide +kernel
def own_Q5 (Z : State) (a1 : Addr) (h0 : Heap) (n0 : Nat) (v : Option Value) (h : Heap) (L : List Loc) : Prop := v = none ∧ Fr n0 L ∧ h = h0
theorem own_rm5 (l Z a0) (hw : own_W a0 Z) (ws) (a1 : Addr) (h0 : Heap) (n0 : Nat) (Z0 : n0 ≤ h0.size) :
    own_M l Z ws mn_29 c_29 1 none rm_2 #[(.ref a1)] h0 (own_Q5 Z a1 h0 n0) := by
  refine own_body (plainFor_of_name pn_5) (fun m => own_ef17 m a1) ?_
  intro p e s m below meth c T0 X0 hx hby hml hZ hown hnm hret hlk e0
  have hown : s.vm.findClass "java/util/AbstractCollection" = some m.cls := hown
  have hnm : meth.name = "<init>" := hnm
  have N0 := Fr.nil n0
  refine own_st _ (own_aloadN 1 X0 hx hby d5_0) ?_
  obtain ⟨T170, X170, e170, st170⟩ := initO X0 hx hZ hown (hw_27 hw) (hw_7 hw) (hw_8 hw) e0 (g := (mkF m 1 #[rv a1] [(.ref a1)])) rfl (by rw [hml]; rfl) rfl (hb hby d5_1) (by decide) (W := 0) own_z0 (by decide)
  refine own_step (g' := (mkF m 4 #[rv a1] [])) st170 ?_
  refine own_ret X170 hlk (v := none) (fun _ => rfl) (fun fs hr => X170.returnOut hx hret (hb hby d5_4) hr) ?_ (by decide) (by decide)
  show own_Q5 Z a1 h0 n0 _ T170.heap _
  rw [e170]
  exact ⟨rfl, N0, rfl⟩
theorem d4_0 : own_D c_30 0 (.aload_n 0, 1) := by decide +kernel
theorem d4_1 : own_D c_30 1 (.invokespecial 1, 3) := by decide +kernel
theorem hw_21 : own_H (.methodLink "java/util/AbstractList" 1 mn_29) := own_h 21 rfl
theorem hw_26 : own_H (.code mn_29 jdk_22_method_1_code 1 none) := own_h 26 rfl
theorem hw_25 : own_H (.initialized "java/util/AbstractCollection") := own_h 25 rfl
theorem pd_20 : parseMethodDescriptor "()V" = some ⟨[], none⟩ := by decide +kernel
theorem hw_22 : own_H (.instanceMethod mn_29) := own_h 22 rfl
theorem d4_4 : own_D c_30 4 (.aload_n 0, 1) := by decide +kernel
theorem d4_5 : own_D c_30 5 (.iconst 0, 1) := by decide +kernel
theorem d4_6 : own_D c_30 6 (.putfield 7, 3) := by decide +kernel
theorem hw_28 : own_H (.fieldLink "java/util/AbstractList" 7 "java/util/AbstractList" "modCount" "I") := own_h 28 rfl
theorem hw_29 : own_H (.lays "java/util/ArrayList" "java/util/AbstractList" "modCount" "I") := own_h 29 rfl
theorem hw_10 : own_H (.instantiable "java/util/ArrayList" 3) := own_h 10 rfl
theorem hw_195 : own_H (.lays "java/util/ArrayList" "java/util/ArrayList" "size" "I") := own_h 195 rfl
theorem hw_32 : own_H (.lays "java/util/ArrayList" "java/util/ArrayList" "elementData" "[Ljava/lang/Object;") := own_h 32 rfl
theorem d4_9 : own_D c_30 9 (.return_, 1) := by decide +kernel
theorem pn_4 : plainName "java/util/AbstractList" = true := by first | (simp [plainName, overriddenIn]; done) | decide +kernel
def own_Q4 (Z : State) (a1 : Addr) (h0 : Heap) (n0 : Nat) (v : Option Value) (h : Heap) (L : List Loc) : Prop := v = none ∧ Fr n0 L ∧ Keep h0 h [a1] ∧ Exa Z h a1 "java/util/ArrayList" ∧ Fld Z h a1 "java/util/ArrayList" "size" "I" (.int 0) ∧ Fld Z h a1 "java/util/AbstractList" "modCount" "I" (.int 0) ∧ Fld Z h a1 "java/util/ArrayList" "elementData" "[Ljava/lang/Object;" .null
theorem own_rm4 (l Z a0) (hw : own_W a0 Z) (ws) (a1 : Addr) (h0 : Heap) (n0 : Nat) (Z0 : n0 ≤ h0.size) (E_a1 : Exa Z h0 a1 "java/util/ArrayList") (F_s : Fld Z h0 a1 "java/util/ArrayList" "size" "I" (.int 0)) (F_m : Fld Z h0 a1 "java/util/AbstractList" "modCount" "I" (.int 0)) (F_e : Fld Z h0 a1 "java/util/ArrayList" "elementData" "[Ljava/lang/Object;" .null) (g_a1 : n0 ≤ a1) :
    own_M l Z ws mn_30 c_30 1 none rm_27 #[(.ref a1)] h0 (own_Q4 Z a1 h0 n0) := by
  refine own_body (plainFor_of_name pn_4) (fun m => own_ef17 m a1) ?_
  intro p e s m below meth c T0 X0 hx hby hml hZ hown hnm hret hlk e0
  have hown : s.vm.findClass "java/util/AbstractList" = some m.cls := hown
  have hnm : meth.name = "<init>" := hnm
  have N0 := Fr.nil n0
  have K0 : Keep h0 h0 [a1] := Keep.refl _ _
  refine own_st _ (own_aloadN 1 X0 hx hby d4_0) ?_
  obtain ⟨_, _, ⟨T171, L171, k171, n171⟩, -, X171, ⟨Lc171, hQ171, l171, y171, z171⟩, st171⟩ := X0.specialBack hx (y := mn_29) rfl hown (mvT hZ (hw_21 hw)) (mvT hZ (hw_22 hw)) (mvT hZ (hw_26 hw)) (by decide) (backOf (W := 0) (own_rm5 l Z a0 hw [] a1 h0 n0 Z0) hZ (hw_26 hw) (hw_25 hw) (by decide) (by decide)) (g := (mkF m 1 #[rv a1] [(.ref a1)])) rfl (by rw [hml]; rfl) (Steps.refl _) (a := a1) (argsL := []) (rest := []) (lenOf pd_20 rfl) rfl own_z0 (hb hby d4_1) (fun _ _ => ⟨rfl, e0, (by decide : 0 + 0 ≤ _), (by decide : 0 + 0 ≤ _)⟩)
  dsimp only [Pt.U, Pt.locs, Pt.cells, Pt.slots] at X171 l171 y171 z171 st171 hQ171
  subst l171 y171 z171
  obtain ⟨rfl, Nq171, e171⟩ := hQ171
  have N171 := Fr.app N0 Nq171
  refine own_jump (g' := (mkF m 4 #[rv a1] [])) st171 ?_
  refine own_st _ (own_aloadN 5 X171 hx hby d4_4) ?_
  refine own_st _ (own_iconst 6 0 X171 hx hby d4_5) ?_
  obtain ⟨T172, h172, X172, e172, W172, st172⟩ := putF X171 hx hZ hown (host := "") (Or.inl (hw_28 hw)) Via.refl e171 F_m E_a1 (Or.inl (hw_29 hw)) (hw_10 hw) (ty := .int) (by decide) rfl rfl (g := (mkF m 6 #[rv a1] [(.int 0), (.ref a1)])) rfl rfl (hb hby d4_6)
  have u1 := E_a1.wr W172
  have u2 := F_s.other W172 (Or.inr (slot_ne (a0 := a0) (C := "java/util/ArrayList") (Or.inl (hw_195 hw)) (Or.inl (hw_29 hw)) (by decide) (t := .int) (t' := .int) (by decide) (by decide)))
  have u3 := F_e.other W172 (Or.inr (slot_ne (a0 := a0) (C := "java/util/ArrayList") (Or.inl (hw_32 hw)) (Or.inl (hw_29 hw)) (by decide) (t := (.array (.object "java/lang/Object"))) (t' := .int) (by decide) (by decide)))
  have fw172 : Fld Z h172 a1 "java/util/AbstractList" "modCount" "I" (.int 0) := F_m.same W172
  have Kp172 : Keep h0 h172 [a1] := K0.wr W172 (Or.inl (List.mem_of_getElem? (i := 0) rfl))
  have N172 := Fr.snoc X172 N171 g_a1
  refine own_step (g' := (mkF m 9 #[rv a1] [])) st172 ?_
  refine own_ret X172 hlk (v := none) (fun _ => rfl) (fun fs hr => X172.returnOut hx hret (hb hby d4_9) hr) ?_ (by decide) (by decide)
  show own_Q4 Z a1 h0 n0 _ T172.heap _
  rw [e172]
  exact ⟨rfl, N172, Kp172, u1, u2, fw172, u3⟩
theorem d3_0 : own_D c_31 0 (.aload_n 0, 1) := by decide +kernel
theorem d3_1 : own_D c_31 1 (.invokespecial 1, 3) := by decide +kernel
theorem hw_15 : own_H (.methodLink "java/util/ArrayList" 1 mn_30) := own_h 15 rfl
theorem hw_20 : own_H (.code mn_30 jdk_39_method_1_code 1 none) := own_h 20 rfl
theorem hw_19 : own_H (.initialized "java/util/AbstractList") := own_h 19 rfl
theorem hw_16 : own_H (.instanceMethod mn_30) := own_h 16 rfl
theorem d3_4 : own_D c_31 4 (.aload_n 0, 1) := by decide +kernel
theorem d3_5 : own_D c_31 5 (.getstatic 39, 3) := by decide +kernel
theorem hw_30 : own_H (.fieldLink "java/util/ArrayList" 39 "java/util/ArrayList" "DEFAULTCAPACITY_EMPTY_ELEMENTDATA" "[Ljava/lang/Object;") := own_h 30 rfl
theorem d3_8 : own_D c_31 8 (.putfield 9, 3) := by decide +kernel
theorem hw_31 : own_H (.fieldLink "java/util/ArrayList" 9 "java/util/ArrayList" "elementData" "[Ljava/lang/Object;") := own_h 31 rfl
theorem d3_11 : own_D c_31 11 (.return_, 1) := by decide +kernel
theorem pn_3 : plainName "java/util/ArrayList" = true := by first | (simp [plainName, overriddenIn]; done) | decide +kernel
def own_Q3 (Z : State) (a1 : Addr) (wc : Int32) (wD : Addr) (kD : ClassId) (h0 : Heap) (n0 : Nat) (v : Option Value) (h : Heap) (L : List Loc) : Prop := v = none ∧ Fr n0 L ∧ Keep h0 h [a1] ∧ Exa Z h a1 "java/util/ArrayList" ∧ Fld Z h a1 "java/util/ArrayList" "size" "I" (.int 0) ∧ Fld Z h a1 "java/util/AbstractList" "modCount" "I" (.int 0) ∧ Fld Z h a1 "java/util/ArrayList" "elementData" "[Ljava/lang/Object;" (.ref wD)
theorem own_rm3 (l Z a0) (hw : own_W a0 Z) (ws) (a1 : Addr) (wc : Int32) (wD : Addr) (kD : ClassId) (h0 : Heap) (n0 : Nat) (Z0 : n0 ≤ h0.size) (O0 : Old Z n0 h0) (SS : own_St Z wc wD kD) (E_a1 : Exa Z h0 a1 "java/util/ArrayList") (F_s : Fld Z h0 a1 "java/util/ArrayList" "size" "I" (.int 0)) (F_m : Fld Z h0 a1 "java/util/AbstractList" "modCount" "I" (.int 0)) (F_e : Fld Z h0 a1 "java/util/ArrayList" "elementData" "[Ljava/lang/Object;" .null) (g_a1 : n0 ≤ a1) :
    own_M l Z ws mn_31 c_31 1 none rm_28 #[(.ref a1)] h0 (own_Q3 Z a1 wc wD kD h0 n0) := by
  refine own_body (plainFor_of_name pn_3) (fun m => own_ef17 m a1) ?_
  intro p e s m below meth c T0 X0 hx hby hml hZ hown hnm hret hlk e0
  have hown : s.vm.findClass "java/util/ArrayList" = some m.cls := hown
  have hnm : meth.name = "<init>" := hnm
  have N0 := Fr.nil n0
  have K0 : Keep h0 h0 [a1] := Keep.refl _ _
  obtain ⟨S_wc, hwc, S_wD, V_wD⟩ := id SS
  refine own_st _ (own_aloadN 1 X0 hx hby d3_0) ?_
  obtain ⟨_, _, ⟨T173, L173, k173, n173⟩, -, X173, ⟨Lc173, hQ173, l173, y173, z173⟩, st173⟩ := X0.specialBack hx (y := mn_30) rfl hown (mvT hZ (hw_15 hw)) (mvT hZ (hw_16 hw)) (mvT hZ (hw_20 hw)) (by decide) (backOf (W := 0) (own_rm4 l Z a0 hw [] a1 h0 n0 Z0 E_a1 F_s F_m F_e g_a1) hZ (hw_20 hw) (hw_19 hw) (by decide) (by decide)) (g := (mkF m 1 #[rv a1] [(.ref a1)])) rfl (by rw [hml]; rfl) (Steps.refl _) (a := a1) (argsL := []) (rest := []) (lenOf pd_20 rfl) rfl own_z0 (hb hby d3_1) (fun _ _ => ⟨rfl, e0, (by decide : 0 + 0 ≤ _), (by decide : 0 + 0 ≤ _)⟩)
  dsimp only [Pt.U, Pt.locs, Pt.cells, Pt.slots] at X173 l173 y173 z173 st173 hQ173
  subst l173 y173 z173
  obtain ⟨rfl, Nq173, K173, Ex173, Fs173, Fm173, Fe173⟩ := hQ173
  have N173 := Fr.app N0 Nq173
  have O173 : Old Z n0 T173.heap := O0.keep K173 (allS g_a1 all0)
  have Kp173 : Keep h0 T173.heap [a1] := K0.trans K173 (allS (Or.inl (List.mem_of_getElem? (i := 0) rfl)) all0)
  refine own_jump (g' := (mkF m 4 #[rv a1] [])) st173 ?_
  refine own_st _ (own_aloadN 5 X173 hx hby d3_4) ?_
  obtain ⟨T174, X174, e174, st174⟩ := getS2 X173 hx hZ hown (host := "") (Or.inl (hw_30 hw)) Via.refl rfl (S_wD.ext O173.2) (g := (mkF m 5 #[rv a1] [(.ref a1)])) rfl (hb hby d3_5)
  refine own_step (g' := (mkF m 8 #[rv a1] [(.ref wD), (.ref a1)])) st174 ?_
  obtain ⟨T175, h175, X175, e175, W175, st175⟩ := putF X174 hx hZ hown (host := "") (Or.inl (hw_31 hw)) Via.refl e174 Fe173 Ex173 (Or.inl (hw_32 hw)) (hw_10 hw) (ty := (.array (.object "java/lang/Object"))) (by decide) rfl rfl (g := (mkF m 8 #[rv a1] [(.ref wD), (.ref a1)])) rfl rfl (hb hby d3_8)
  have u2 := Ex173.wr W175
  have u3 := Fs173.other W175 (Or.inr (slot_ne (a0 := a0) (C := "java/util/ArrayList") (Or.inl (hw_195 hw)) (Or.inl (hw_32 hw)) (by decide) (t := .int) (t' := (.array (.object "java/lang/Object"))) (by decide) (by decide)))
  have u4 := Fm173.other W175 (Or.inr (slot_ne (a0 := a0) (C := "java/util/ArrayList") (Or.inl (hw_29 hw)) (Or.inl (hw_32 hw)) (by decide) (t := .int) (t' := (.array (.object "java/lang/Object"))) (by decide) (by decide)))
  have fw175 : Fld Z h175 a1 "java/util/ArrayList" "elementData" "[Ljava/lang/Object;" (.ref wD) := Fe173.same W175
  have Kp175 : Keep h0 h175 [a1] := Kp173.wr W175 (Or.inl (List.mem_of_getElem? (i := 0) rfl))
  have N175 := Fr.snoc X175 N173 g_a1
  refine own_step (g' := (mkF m 11 #[rv a1] [])) st175 ?_
  refine own_ret X175 hlk (v := none) (fun _ => rfl) (fun fs hr => X175.returnOut hx hret (hb hby d3_11) hr) ?_ (by decide) (by decide)
  show own_Q3 Z a1 wc wD kD h0 n0 _ T175.heap _
  rw [e175]
  exact ⟨rfl, N175, Kp175, u2, u3, u4, fw175⟩
theorem d1_0 : own_D c_32 0 (.aload_n 0, 1) := by decide +kernel
theorem d1_1 : own_D c_32 1 (.invokespecial 1, 3) := by decide +kernel
theorem hw_6 : own_H (.methodLink "com/example/shaper/shaper/core/ConfigProblems" 1 mn_56) := own_h 6 rfl
theorem d1_4 : own_D c_32 4 (.aload_n 0, 1) := by decide +kernel
theorem d1_5 : own_D c_32 5 (.new 7, 3) := by decide +kernel
theorem hw_9 : own_H (.classLink "com/example/shaper/shaper/core/ConfigProblems" 7 "java/util/ArrayList") := own_h 9 rfl
theorem hw_11 : own_H (.initialized "java/util/ArrayList") := own_h 11 rfl
theorem d1_8 : own_D c_32 8 (.dup, 1) := by decide +kernel
theorem d1_9 : own_D c_32 9 (.invokespecial 9, 3) := by decide +kernel
theorem hw_12 : own_H (.methodLink "com/example/shaper/shaper/core/ConfigProblems" 9 mn_31) := own_h 12 rfl
theorem hw_14 : own_H (.code mn_31 jdk_38_method_2_code 1 none) := own_h 14 rfl
theorem hw_13 : own_H (.instanceMethod mn_31) := own_h 13 rfl
theorem d1_12 : own_D c_32 12 (.putfield 10, 3) := by decide +kernel
theorem hw_33 : own_H (.fieldLink "com/example/shaper/shaper/core/ConfigProblems" 10 "com/example/shaper/shaper/core/ConfigProblems" "violations" "Ljava/util/List;") := own_h 33 rfl
theorem hw_34 : own_H (.laysFinal "com/example/shaper/shaper/core/ConfigProblems" "com/example/shaper/shaper/core/ConfigProblems" "violations" "Ljava/util/List;") := own_h 34 rfl
theorem hw_1 : own_H (.instantiable "com/example/shaper/shaper/core/ConfigProblems" 2) := own_h 1 rfl
theorem hw_36 : own_H (.laysFinal "com/example/shaper/shaper/core/ConfigProblems" "com/example/shaper/shaper/core/ConfigProblems" "unsupported" "Ljava/util/List;") := own_h 36 rfl
theorem d1_15 : own_D c_32 15 (.aload_n 0, 1) := by decide +kernel
theorem d1_16 : own_D c_32 16 (.new 7, 3) := by decide +kernel
theorem d1_19 : own_D c_32 19 (.dup, 1) := by decide +kernel
theorem d1_20 : own_D c_32 20 (.invokespecial 9, 3) := by decide +kernel
theorem d1_23 : own_D c_32 23 (.putfield 16, 3) := by decide +kernel
theorem hw_35 : own_H (.fieldLink "com/example/shaper/shaper/core/ConfigProblems" 16 "com/example/shaper/shaper/core/ConfigProblems" "unsupported" "Ljava/util/List;") := own_h 35 rfl
theorem d1_26 : own_D c_32 26 (.return_, 1) := by decide +kernel
theorem pn_1 : plainName "com/example/shaper/shaper/core/ConfigProblems" = true := by first | (simp [plainName, overriddenIn]; done) | decide +kernel
def own_Q1 (Z : State) (a1 : Addr) (wc : Int32) (wD : Addr) (kD : ClassId) (h0 : Heap) (n0 : Nat) (v : Option Value) (h : Heap) (L : List Loc) : Prop := v = none ∧ Fr n0 L ∧ Keep h0 h [a1] ∧ own_CP Z wD h n0 a1 0 0 .null .null
theorem own_rm1 (l Z a0) (hw : own_W a0 Z) (ws) (a1 : Addr) (wc : Int32) (wD : Addr) (kD : ClassId) (h0 : Heap) (n0 : Nat) (Z0 : n0 ≤ h0.size) (O0 : Old Z n0 h0) (SS : own_St Z wc wD kD) (E_a1 : Exa Z h0 a1 "com/example/shaper/shaper/core/ConfigProblems") (F_vi : Fld Z h0 a1 "com/example/shaper/shaper/core/ConfigProblems" "violations" "Ljava/util/List;" .null) (F_un : Fld Z h0 a1 "com/example/shaper/shaper/core/ConfigProblems" "unsupported" "Ljava/util/List;" .null) (g_a1 : n0 ≤ a1) :
    own_M l Z ws mn_32 c_32 1 none rm_29 #[(.ref a1)] h0 (own_Q1 Z a1 wc wD kD h0 n0) := by
  refine own_body (plainFor_of_name pn_1) (fun m => own_ef17 m a1) ?_
  intro p e s m below meth c T0 X0 hx hby hml hZ hown hnm hret hlk e0
  have hown : s.vm.findClass "com/example/shaper/shaper/core/ConfigProblems" = some m.cls := hown
  have hnm : meth.name = "<init>" := hnm
  have N0 := Fr.nil n0
  have K0 : Keep h0 h0 [a1] := Keep.refl _ _
  refine own_st _ (own_aloadN 1 X0 hx hby d1_0) ?_
  obtain ⟨T176, X176, e176, st176⟩ := initO X0 hx hZ hown (hw_6 hw) (hw_7 hw) (hw_8 hw) e0 (g := (mkF m 1 #[rv a1] [(.ref a1)])) rfl (by rw [hml]; rfl) rfl (hb hby d1_1) (by decide) (W := 0) own_z0 (by decide)
  refine own_step (g' := (mkF m 4 #[rv a1] [])) st176 ?_
  refine own_st _ (own_aloadN 5 X176 hx hby d1_4) ?_
  obtain ⟨T177, h177, X177, e177, E177, A177, D177, -, st177⟩ := newO X176 hx hZ hown (hw_9 hw) (hw_10 hw) (hw_11 hw) e176 (g := (mkF m 5 #[rv a1] [(.ref a1)])) rfl (hb hby d1_5) (by decide) (by decide)
  obtain ⟨b177, g177⟩ : ∃ z, z = h0.size := ⟨_, rfl⟩
  rw [← g177] at A177 D177 st177
  have g_b177 : n0 ≤ b177 := Nat.le_trans Z0 (Nat.le_of_eq g177.symm)
  have ne_a1_b177 : a1 ≠ b177 := own_ne E_a1.lt g177
  have sz_b177 : h0.size ≤ b177 := Nat.le_trans K0.1 (Nat.le_of_eq g177.symm)
  have Kp177 : Keep h0 h177 [a1] := K0.ext E177
  have Z177 : n0 ≤ h177.size := Nat.le_trans Z0 E177.1
  have O177 : Old Z n0 h177 := O0.ext E177
  have u1 := E_a1.ext E177
  have u2 := F_vi.ext E177
  have u3 := F_un.ext E177
  have F_modCount_b177 : Fld Z h177 b177 "java/util/AbstractList" "modCount" "I" (.int 0) := D177 (Or.inl (hw_29 hw)) (ty := .int) (by decide)
  have F_elementData_b177 : Fld Z h177 b177 "java/util/ArrayList" "elementData" "[Ljava/lang/Object;" .null := D177 (Or.inl (hw_32 hw)) (ty := (.array (.object "java/lang/Object"))) (by decide)
  have F_size_b177 : Fld Z h177 b177 "java/util/ArrayList" "size" "I" (.int 0) := D177 (Or.inl (hw_195 hw)) (ty := .int) (by decide)
  refine own_step (g' := (mkF m 8 #[rv a1] [(.ref b177), (.ref a1)])) st177 ?_
  refine own_st _ (own_dup 9 X177 hx hby d1_8) ?_
  obtain ⟨_, _, ⟨T178, L178, k178, n178⟩, -, X178, ⟨Lc178, hQ178, l178, y178, z178⟩, st178⟩ := X177.specialBack hx (y := mn_31) rfl hown (mvT hZ (hw_12 hw)) (mvT hZ (hw_13 hw)) (mvT hZ (hw_14 hw)) (by decide) (backOf (W := 2) (own_rm3 l Z a0 hw [] b177 wc wD kD h177 n0 Z177 O177 SS A177 F_size_b177 F_modCount_b177 F_elementData_b177 g_b177) hZ (hw_14 hw) (hw_11 hw) (by decide) (by decide)) (g := (mkF m 9 #[rv a1] [(.ref b177), (.ref b177), (.ref a1)])) rfl (by rw [hml]; rfl) (Steps.refl _) (a := b177) (argsL := []) (rest := [(.ref b177), (.ref a1)]) (lenOf pd_20 rfl) rfl own_z0 (hb hby d1_9) (fun _ _ => ⟨rfl, e177, (by decide : 1 + 0 ≤ _), (by decide : 3 + 0 ≤ _)⟩)
  dsimp only [Pt.U, Pt.locs, Pt.cells, Pt.slots] at X178 l178 y178 z178 st178 hQ178
  subst l178 y178 z178
  obtain ⟨rfl, Nq178, K178, Ex178, Fs178, Fm178, Fe178⟩ := hQ178
  have N178 := Fr.app N0 Nq178
  have Z178 : n0 ≤ T178.heap.size := Nat.le_trans Z177 K178.1
  have O178 : Old Z n0 T178.heap := O177.keep K178 (allS g_b177 all0)
  have Kp178 : Keep h0 T178.heap [a1] := Kp177.trans K178 (allS (Or.inr sz_b177) all0)
  have u4 := u1.keep K178
  have u5 := u2.keep K178 (ninS ne_a1_b177 nin0)
  have u6 := u3.keep K178 (ninS ne_a1_b177 nin0)
  refine own_jump (g' := (mkF m 12 #[rv a1] [(.ref b177), (.ref a1)])) st178 ?_
  obtain ⟨T179, h179, X179, e179, W179, st179⟩ := putF X178 hx hZ hown (host := "") (Or.inl (hw_33 hw)) Via.refl rfl u5 u4 (Or.inr ⟨(hw_34 hw), rfl, hnm⟩) (hw_1 hw) (ty := (.object "java/util/List")) (by decide) rfl rfl (g := (mkF m 12 #[rv a1] [(.ref b177), (.ref a1)])) rfl rfl (hb hby d1_12)
  have u8 := u4.wr W179
  have u9 := u6.other W179 (Or.inr (slot_ne (a0 := a0) (C := "com/example/shaper/shaper/core/ConfigProblems") (Or.inr (hw_36 hw)) (Or.inr (hw_34 hw)) (by decide) (t := (.object "java/util/List")) (t' := (.object "java/util/List")) (by decide) (by decide)))
  have u10 := Ex178.wr W179
  have u11 := Fs178.other W179 (Or.inl (Ne.symm ne_a1_b177))
  have u12 := Fm178.other W179 (Or.inl (Ne.symm ne_a1_b177))
  have u13 := Fe178.other W179 (Or.inl (Ne.symm ne_a1_b177))
  have fw179 : Fld Z h179 a1 "com/example/shaper/shaper/core/ConfigProblems" "violations" "Ljava/util/List;" (.ref b177) := u5.same W179
  have Z179 : n0 ≤ h179.size := Nat.le_trans Z178 (Keep.of_wr W179).1
  have Kp179 : Keep h0 h179 [a1] := Kp178.wr W179 (Or.inl (List.mem_of_getElem? (i := 0) rfl))
  have O179 : Old Z n0 h179 := O178.wr W179 g_a1
  have N179 := Fr.snoc X179 N178 g_a1
  refine own_step (g' := (mkF m 15 #[rv a1] [])) st179 ?_
  refine own_st _ (own_aloadN 16 X179 hx hby d1_15) ?_
  obtain ⟨T180, h180, X180, e180, E180, A180, D180, -, st180⟩ := newO X179 hx hZ hown (hw_9 hw) (hw_10 hw) (hw_11 hw) e179 (g := (mkF m 16 #[rv a1] [(.ref a1)])) rfl (hb hby d1_16) (by decide) (by decide)
  obtain ⟨b180, g180⟩ : ∃ z, z = h179.size := ⟨_, rfl⟩
  rw [← g180] at A180 D180 st180
  have g_b180 : n0 ≤ b180 := Nat.le_trans Z179 (Nat.le_of_eq g180.symm)
  have ne_a1_b180 : a1 ≠ b180 := own_ne u8.lt g180
  have ne_b177_b180 : b177 ≠ b180 := own_ne u10.lt g180
  have sz_b180 : h0.size ≤ b180 := Nat.le_trans Kp179.1 (Nat.le_of_eq g180.symm)
  have Kp180 : Keep h0 h180 [a1] := Kp179.ext E180
  have Z180 : n0 ≤ h180.size := Nat.le_trans Z179 E180.1
  have O180 : Old Z n0 h180 := O179.ext E180
  have u14 := u8.ext E180
  have u15 := fw179.ext E180
  have u16 := u9.ext E180
  have u17 := u10.ext E180
  have u18 := u11.ext E180
  have u19 := u12.ext E180
  have u20 := u13.ext E180
  have F_modCount_b180 : Fld Z h180 b180 "java/util/AbstractList" "modCount" "I" (.int 0) := D180 (Or.inl (hw_29 hw)) (ty := .int) (by decide)
  have F_elementData_b180 : Fld Z h180 b180 "java/util/ArrayList" "elementData" "[Ljava/lang/Object;" .null := D180 (Or.inl (hw_32 hw)) (ty := (.array (.object "java/lang/Object"))) (by decide)
  have F_size_b180 : Fld Z h180 b180 "java/util/ArrayList" "size" "I" (.int 0) := D180 (Or.inl (hw_195 hw)) (ty := .int) (by decide)
  refine own_step (g' := (mkF m 19 #[rv a1] [(.ref b180), (.ref a1)])) st180 ?_
  refine own_st _ (own_dup 20 X180 hx hby d1_19) ?_
  obtain ⟨_, _, ⟨T181, L181, k181, n181⟩, -, X181, ⟨Lc181, hQ181, l181, y181, z181⟩, st181⟩ := X180.specialBack hx (y := mn_31) rfl hown (mvT hZ (hw_12 hw)) (mvT hZ (hw_13 hw)) (mvT hZ (hw_14 hw)) (by decide) (backOf (W := 2) (own_rm3 l Z a0 hw [] b180 wc wD kD h180 n0 Z180 O180 SS A180 F_size_b180 F_modCount_b180 F_elementData_b180 g_b180) hZ (hw_14 hw) (hw_11 hw) (by decide) (by decide)) (g := (mkF m 20 #[rv a1] [(.ref b180), (.ref b180), (.ref a1)])) rfl (by rw [hml]; rfl) (Steps.refl _) (a := b180) (argsL := []) (rest := [(.ref b180), (.ref a1)]) (lenOf pd_20 rfl) rfl own_z0 (hb hby d1_20) (fun _ _ => ⟨rfl, e180, (by decide : 2 + 0 ≤ _), (by decide : 6 + 0 ≤ _)⟩)
  dsimp only [Pt.U, Pt.locs, Pt.cells, Pt.slots] at X181 l181 y181 z181 st181 hQ181
  subst l181 y181 z181
  obtain ⟨rfl, Nq181, K181, Ex181, Fs181, Fm181, Fe181⟩ := hQ181
  have N181 := Fr.app N179 Nq181
  have Kp181 : Keep h0 T181.heap [a1] := Kp180.trans K181 (allS (Or.inr sz_b180) all0)
  have u21 := u14.keep K181
  have u22 := u15.keep K181 (ninS ne_a1_b180 nin0)
  have u23 := u16.keep K181 (ninS ne_a1_b180 nin0)
  have u24 := u17.keep K181
  have u25 := u18.keep K181 (ninS ne_b177_b180 nin0)
  have u26 := u19.keep K181 (ninS ne_b177_b180 nin0)
  have u27 := u20.keep K181 (ninS ne_b177_b180 nin0)
  refine own_jump (g' := (mkF m 23 #[rv a1] [(.ref b180), (.ref a1)])) st181 ?_
  obtain ⟨T182, h182, X182, e182, W182, st182⟩ := putF X181 hx hZ hown (host := "") (Or.inl (hw_35 hw)) Via.refl rfl u23 u21 (Or.inr ⟨(hw_36 hw), rfl, hnm⟩) (hw_1 hw) (ty := (.object "java/util/List")) (by decide) rfl rfl (g := (mkF m 23 #[rv a1] [(.ref b180), (.ref a1)])) rfl rfl (hb hby d1_23)
  have u29 := u21.wr W182
  have u30 := u22.other W182 (Or.inr (slot_ne (a0 := a0) (C := "com/example/shaper/shaper/core/ConfigProblems") (Or.inr (hw_34 hw)) (Or.inr (hw_36 hw)) (by decide) (t := (.object "java/util/List")) (t' := (.object "java/util/List")) (by decide) (by decide)))
  have u31 := u24.wr W182
  have u32 := u25.other W182 (Or.inl (Ne.symm ne_a1_b177))
  have u33 := u26.other W182 (Or.inl (Ne.symm ne_a1_b177))
  have u34 := u27.other W182 (Or.inl (Ne.symm ne_a1_b177))
  have u35 := Ex181.wr W182
  have u36 := Fs181.other W182 (Or.inl (Ne.symm ne_a1_b180))
  have u37 := Fm181.other W182 (Or.inl (Ne.symm ne_a1_b180))
  have u38 := Fe181.other W182 (Or.inl (Ne.symm ne_a1_b180))
  have fw182 : Fld Z h182 a1 "com/example/shaper/shaper/core/ConfigProblems" "unsupported" "Ljava/util/List;" (.ref b180) := u23.same W182
  have Kp182 : Keep h0 h182 [a1] := Kp181.wr W182 (Or.inl (List.mem_of_getElem? (i := 0) rfl))
  have N182 := Fr.snoc X182 N181 g_a1
  refine own_step (g' := (mkF m 26 #[rv a1] [])) st182 ?_
  refine own_ret X182 hlk (v := none) (fun _ => rfl) (fun fs hr => X182.returnOut hx hret (hb hby d1_26) hr) ?_ (by decide) (by decide)
  show own_Q1 Z a1 wc wD kD h0 n0 _ T182.heap _
  rw [e182]
  exact ⟨rfl, N182, Kp182, ⟨b177, b177, b180, b180, g_a1, u29, u30, fw182, ⟨g_b177, g_b177, u31, u32, ⟨_, u33⟩, Or.inl ⟨rfl, rfl, u34⟩⟩, ⟨g_b180, g_b180, u35, u36, ⟨_, u37⟩, Or.inl ⟨rfl, rfl, u38⟩⟩, ne_a1_b177, ne_a1_b177, ne_a1_b180, ne_a1_b180, ne_b177_b180, ne_b177_b180, ne_b177_b180, ne_b177_b180⟩⟩
theorem d36_0 : own_D c_33 0 (.aload_n 0, 1) := by decide +kernel
theorem d36_1 : own_D c_33 1 (.getfield 9, 3) := by decide +kernel
theorem d36_4 : own_D c_33 4 (.arraylength, 1) := by decide +kernel
theorem d36_5 : own_D c_33 5 (.istore_n 2, 1) := by decide +kernel
theorem d36_6 : own_D c_33 6 (.iload_n 2, 1) := by decide +kernel
theorem d36_7 : own_D c_33 7 (.ifCond .gt 13, 3) := by decide +kernel
theorem d36_10 : own_D c_33 10 (.aload_n 0, 1) := by decide +kernel
theorem d36_11 : own_D c_33 11 (.getfield 9, 3) := by decide +kernel
theorem d36_14 : own_D c_33 14 (.getstatic 39, 3) := by decide +kernel
theorem d36_17 : own_D c_33 17 (.if_acmp .eq 28, 3) := by decide +kernel
theorem d36_45 : own_D c_33 45 (.aload_n 0, 1) := by decide +kernel
theorem d36_46 : own_D c_33 46 (.bipush 10, 2) := by decide +kernel
theorem d36_48 : own_D c_33 48 (.iload_n 1, 1) := by decide +kernel
theorem d36_49 : own_D c_33 49 (.invokestatic 79, 3) := by decide +kernel
theorem hw_211 : own_H (.methodLink "java/util/ArrayList" 79 mn_0) := own_h 211 rfl
theorem d36_52 : own_D c_33 52 (.anewarray 7, 3) := by decide +kernel
theorem hw_214 : own_H (.classLink "java/util/ArrayList" 7 "java/lang/Object") := own_h 214 rfl
theorem hw_215 : own_H (.arrayOver (.object "java/lang/Object")) := own_h 215 rfl
theorem d36_55 : own_D c_33 55 (.dup_x1, 1) := by decide +kernel
theorem d36_56 : own_D c_33 56 (.putfield 9, 3) := by decide +kernel
theorem d36_59 : own_D c_33 59 (.areturn, 1) := by decide +kernel
theorem own_ef36 (m : MethodId) (a1 : Addr) : entryFrame m #[(.ref a1), (.int 1)] 4 = mkF m 0 #[rv a1, iv 1, .unset, .unset] [] := by first | (simp [entryFrame, mkF, argsToLocals, Value.category]; done) | rfl
def own_Q36 (Z : State) (a1 : Addr) (md wc : Int32) (wD : Addr) (kD : ClassId) (h0 : Heap) (n0 : Nat) (v : Option Value) (h : Heap) (L : List Loc) : Prop := ∃ (d : Addr) (kk : ClassId), v = some (.ref d) ∧ Fr n0 L ∧ Keep h0 h [a1] ∧ h0.size ≤ d ∧ a1 ≠ d ∧ Exa Z h a1 "java/util/ArrayList" ∧ Fld Z h a1 "java/util/ArrayList" "size" "I" (.int 0) ∧ Fld Z h a1 "java/util/AbstractList" "modCount" "I" (.int md) ∧ Fld Z h a1 "java/util/ArrayList" "elementData" "[Ljava/lang/Object;" (.ref d) ∧ Arv Z h d kk (.object "java/lang/Object") (10 : Int32) [.null, .null, .null, .null, .null, .null, .null, .null, .null, .null] .null ∧ Ovr Z kk "java/lang/Object"
theorem own_rm36 (l Z a0) (hw : own_W a0 Z) (ws) (a1 : Addr) (md wc : Int32) (wD : Addr) (kD : ClassId) (h0 : Heap) (n0 : Nat) (Z0 : n0 ≤ h0.size) (O0 : Old Z n0 h0) (SS : own_St Z wc wD kD) (E_a1 : Exa Z h0 a1 "java/util/ArrayList") (F_s : Fld Z h0 a1 "java/util/ArrayList" "size" "I" (.int 0)) (F_m : Fld Z h0 a1 "java/util/AbstractList" "modCount" "I" (.int md)) (F_e : Fld Z h0 a1 "java/util/ArrayList" "elementData" "[Ljava/lang/Object;" (.ref wD)) (g_a1 : n0 ≤ a1) :
    own_M l Z ws mn_33 c_33 4 (some (.array (.object "java/lang/Object"))) rm_30 #[(.ref a1), (.int 1)] h0 (own_Q36 Z a1 md wc wD kD h0 n0) := by
  refine own_body (plainFor_of_name pn_3) (fun m => own_ef36 m a1) ?_
  intro p e s m below meth c T0 X0 hx hby hml hZ hown hnm hret hlk e0
  have hown : s.vm.findClass "java/util/ArrayList" = some m.cls := hown
  have hnm : meth.name = "grow" := hnm
  have N0 := Fr.nil n0
  have K0 : Keep h0 h0 [a1] := Keep.refl _ _
  obtain ⟨S_wc, hwc, S_wD, V_wD⟩ := id SS
  refine own_st _ (own_aloadN 1 X0 hx hby d36_0) ?_
  obtain ⟨T183, X183, e183, st183⟩ := getF X0 hx hZ hown (host := "") (Or.inl (hw_31 hw)) Via.refl e0 F_e (g := (mkF m 1 #[rv a1, iv 1, .unset, .unset] [(.ref a1)])) rfl rfl (hb hby d36_1)
  refine own_step (g' := (mkF m 4 #[rv a1, iv 1, .unset, .unset] [(.ref wD)])) st183 ?_
  obtain ⟨cl184, Ar184, -, S184, M184, -, -⟩ := id (V_wD.ext O0.2)
  refine own_step (T' := T183) (g' := (mkF m 5 #[rv a1, iv 1, .unset, .unset] [(.int cl184.slots.size.toInt32)])) (X183.arraylength hx (by rw [e183]; exact Ar184.1) (State.isArrayOf_alike hZ.alike Ar184.2.1) (g := (mkF m 4 #[rv a1, iv 1, .unset, .unset] [(.ref wD)])) rfl rfl (hb hby d36_4)) ?_
  rw [len_of S184 M184]
  refine own_st _ (own_istoreN 6 #[rv a1, iv 1, iv 0, .unset] X183 hx hby d36_5) ?_
  refine own_st _ (own_iloadN 7 X183 hx hby d36_6) ?_
  refine own_st _ (own_ifNo 10 X183 hx hby d36_7 ((if0 _ _).trans (flt (by decide : ¬ ((0 : Int32) < (0 : Int32)))).2.2.1)) ?_
  refine own_st _ (own_aloadN 11 X183 hx hby d36_10) ?_
  obtain ⟨T185, X185, e185, st185⟩ := getF X183 hx hZ hown (host := "") (Or.inl (hw_31 hw)) Via.refl e183 F_e (g := (mkF m 11 #[rv a1, iv 1, iv 0, .unset] [(.ref a1)])) rfl rfl (hb hby d36_11)
  refine own_step (g' := (mkF m 14 #[rv a1, iv 1, iv 0, .unset] [(.ref wD)])) st185 ?_
  obtain ⟨T186, X186, e186, st186⟩ := getS2 X185 hx hZ hown (host := "") (Or.inl (hw_30 hw)) Via.refl e185 (S_wD.ext O0.2) (g := (mkF m 14 #[rv a1, iv 1, iv 0, .unset] [(.ref wD)])) rfl (hb hby d36_14)
  refine own_step (g' := (mkF m 17 #[rv a1, iv 1, iv 0, .unset] [(.ref wD), (.ref wD)])) st186 ?_
  refine own_st (mkF m 45 #[rv a1, iv 1, iv 0, .unset] []) (fun t k => Jvm.RoadKit.acmp (g := (mkF m 17 #[rv a1, iv 1, iv 0, .unset] [(.ref wD), (.ref wD)])) X186 hx rfl rfl rfl (pc0 := 17) (pc' := 45) (same := true) rfl (hb hby d36_17) rfl (decide_eq_true rfl) (by decide) (by decide) k) ?_
  refine own_st _ (own_aloadN 46 X186 hx hby d36_45) ?_
  refine own_st _ (own_bipush 48 10 X186 hx hby d36_46) ?_
  refine own_st _ (own_iloadN 49 X186 hx hby d36_48) ?_
  obtain ⟨_, _, ⟨T187, L187, k187, n187⟩, -, X187, ⟨Lc187, hQ187, l187, y187, z187⟩, st187⟩ := Jvm.LawKit.callS X186 hx (y := mn_0) hown (mvT hZ (hw_211 hw)) (mvT hZ (hw_212 hw)) (mvT hZ (hw_180 hw)) (mvT hZ (hw_213 hw)) (by decide) (backOf (W := 1) (own_rm37 l Z a0 hw [] (10 : Int32) (1 : Int32) h0 n0 Z0) hZ (hw_213 hw) (hw_180 hw) (by decide) (by decide)) (g := (mkF m 49 #[rv a1, iv 1, iv 0, .unset] [(.int 1), (.int 10), (.ref a1)])) rfl (by rw [hml]; rfl) (argsL := [(.int 10), (.int 1)]) (rest := [(.ref a1)]) (lenOf pd_10 rfl) rfl own_z0 (hb hby d36_49) (fun _ _ => ⟨rfl, e186, (by decide : 0 + 0 ≤ _), (by decide : 0 + 0 ≤ _)⟩)
  dsimp only [Pt.U, Pt.locs, Pt.cells, Pt.slots] at X187 l187 y187 z187 st187 hQ187
  subst l187 y187 z187
  obtain ⟨rfl, Nq187, e187⟩ := hQ187
  have N187 := Fr.app N0 Nq187
  refine own_step (g' := (mkF m 52 #[rv a1, iv 1, iv 0, .unset] [(.int (own_max32 (10 : Int32) (1 : Int32))), (.ref a1)])) st187 ?_
  rw [show (own_max32 (10 : Int32) (1 : Int32)) = (10 : Int32) from by decide]
  obtain ⟨T188, h188, k188, X188, e188, E188, A188, O188v, st188⟩ := newR X187 hx hZ hown (hw_214 hw) (hw_215 hw) e187 (g := (mkF m 52 #[rv a1, iv 1, iv 0, .unset] [(.int 10), (.ref a1)])) rfl (hb hby d36_52) rfl (by decide) (cap := 10) (by decide) (by decide) (by decide) (by decide)
  obtain ⟨b188, g188⟩ : ∃ z, z = h0.size := ⟨_, rfl⟩
  rw [← g188] at A188 st188
  have ne_a1_b188 : a1 ≠ b188 := own_ne E_a1.lt g188
  have sz_b188 : h0.size ≤ b188 := Nat.le_trans K0.1 (Nat.le_of_eq g188.symm)
  have Kp188 : Keep h0 h188 [a1] := K0.ext E188
  have u1 := E_a1.ext E188
  have u2 := F_s.ext E188
  have u3 := F_m.ext E188
  have u4 := F_e.ext E188
  have V188 : Arv Z h188 b188 k188 (.object "java/lang/Object") (10 : Int32) [.null, .null, .null, .null, .null, .null, .null, .null, .null, .null] .null := (Arv.new A188 (by decide)).pad (pad_rep [] .null 10)
  refine own_step (g' := (mkF m 55 #[rv a1, iv 1, iv 0, .unset] [(.ref b188), (.ref a1)])) st188 ?_
  refine own_st _ (own_dupX1 56 X188 hx hby d36_55) ?_
  obtain ⟨T189, h189, X189, e189, W189, st189⟩ := putF X188 hx hZ hown (host := "") (Or.inl (hw_31 hw)) Via.refl e188 u4 u1 (Or.inl (hw_32 hw)) (hw_10 hw) (ty := (.array (.object "java/lang/Object"))) (by decide) rfl rfl (g := (mkF m 56 #[rv a1, iv 1, iv 0, .unset] [(.ref b188), (.ref a1), (.ref b188)])) rfl rfl (hb hby d36_56)
  have u5 := u1.wr W189
  have u6 := u2.other W189 (Or.inr (slot_ne (a0 := a0) (C := "java/util/ArrayList") (Or.inl (hw_195 hw)) (Or.inl (hw_32 hw)) (by decide) (t := .int) (t' := (.array (.object "java/lang/Object"))) (by decide) (by decide)))
  have u7 := u3.other W189 (Or.inr (slot_ne (a0 := a0) (C := "java/util/ArrayList") (Or.inl (hw_29 hw)) (Or.inl (hw_32 hw)) (by decide) (t := .int) (t' := (.array (.object "java/lang/Object"))) (by decide) (by decide)))
  have u8 := V188.other W189 (Ne.symm ne_a1_b188)
  have fw189 : Fld Z h189 a1 "java/util/ArrayList" "elementData" "[Ljava/lang/Object;" (.ref b188) := u4.same W189
  have Kp189 : Keep h0 h189 [a1] := Kp188.wr W189 (Or.inl (List.mem_of_getElem? (i := 0) rfl))
  have N189 := Fr.snoc X189 N187 g_a1
  refine own_step (g' := (mkF m 59 #[rv a1, iv 1, iv 0, .unset] [(.ref b188)])) st189 ?_
  refine own_ret X189 hlk (v := some (.ref b188)) (fun h => by rw [hret] at h; cases h) (fun fs hr => X189.areturnOut hx (w := (.ref b188)) rfl hret rfl (hb hby d36_59) hr) ?_ (by decide) (by decide)
  show own_Q36 Z a1 md wc wD kD h0 n0 _ T189.heap _
  rw [e189]
  exact ⟨b188, k188, rfl, N189, Kp189, sz_b188, ne_a1_b188, u5, u6, u7, fw189, u8, O188v⟩
theorem d35_0 : own_D c_34 0 (.aload_n 0, 1) := by decide +kernel
theorem d35_1 : own_D c_34 1 (.aload_n 0, 1) := by decide +kernel
theorem d35_2 : own_D c_34 2 (.getfield 48, 3) := by decide +kernel
theorem hw_194 : own_H (.fieldLink "java/util/ArrayList" 48 "java/util/ArrayList" "size" "I") := own_h 194 rfl
theorem d35_5 : own_D c_34 5 (.iconst 1, 1) := by decide +kernel
theorem d35_6 : own_D c_34 6 (.iadd, 1) := by decide +kernel
theorem d35_7 : own_D c_34 7 (.invokevirtual 69, 3) := by decide +kernel
theorem hw_206 : own_H (.methodLink "java/util/ArrayList" 69 mn_33) := own_h 206 rfl
theorem hw_210 : own_H (.code mn_33 jdk_38_method_6_code 4 (some (.array (.object "java/lang/Object")))) := own_h 210 rfl
theorem pd_21 : parseMethodDescriptor "(I)[Ljava/lang/Object;" = some ⟨[.int], some (.array (.object "java/lang/Object"))⟩ := by decide +kernel
theorem hw_209 : own_H (.selects "java/util/ArrayList" mn_33 mn_33) := own_h 209 rfl
theorem hw_207 : own_H (.instanceMethod mn_33) := own_h 207 rfl
theorem d35_10 : own_D c_34 10 (.areturn, 1) := by decide +kernel
def own_Q35 (Z : State) (a1 : Addr) (md wc : Int32) (wD : Addr) (kD : ClassId) (h0 : Heap) (n0 : Nat) (v : Option Value) (h : Heap) (L : List Loc) : Prop := ∃ (d : Addr) (kk : ClassId), v = some (.ref d) ∧ Fr n0 L ∧ Keep h0 h [a1] ∧ h0.size ≤ d ∧ a1 ≠ d ∧ Exa Z h a1 "java/util/ArrayList" ∧ Fld Z h a1 "java/util/ArrayList" "size" "I" (.int 0) ∧ Fld Z h a1 "java/util/AbstractList" "modCount" "I" (.int md) ∧ Fld Z h a1 "java/util/ArrayList" "elementData" "[Ljava/lang/Object;" (.ref d) ∧ Arv Z h d kk (.object "java/lang/Object") (10 : Int32) [.null, .null, .null, .null, .null, .null, .null, .null, .null, .null] .null ∧ Ovr Z kk "java/lang/Object"
theorem own_rm35 (l Z a0) (hw : own_W a0 Z) (ws) (a1 : Addr) (md wc : Int32) (wD : Addr) (kD : ClassId) (h0 : Heap) (n0 : Nat) (Z0 : n0 ≤ h0.size) (O0 : Old Z n0 h0) (SS : own_St Z wc wD kD) (E_a1 : Exa Z h0 a1 "java/util/ArrayList") (F_s : Fld Z h0 a1 "java/util/ArrayList" "size" "I" (.int 0)) (F_m : Fld Z h0 a1 "java/util/AbstractList" "modCount" "I" (.int md)) (F_e : Fld Z h0 a1 "java/util/ArrayList" "elementData" "[Ljava/lang/Object;" (.ref wD)) (g_a1 : n0 ≤ a1) :
    own_M l Z ws mn_34 c_34 1 (some (.array (.object "java/lang/Object"))) rm_31 #[(.ref a1)] h0 (own_Q35 Z a1 md wc wD kD h0 n0) := by
  refine own_body (plainFor_of_name pn_3) (fun m => own_ef17 m a1) ?_
  intro p e s m below meth c T0 X0 hx hby hml hZ hown hnm hret hlk e0
  have hown : s.vm.findClass "java/util/ArrayList" = some m.cls := hown
  have hnm : meth.name = "grow" := hnm
  have N0 := Fr.nil n0
  have K0 : Keep h0 h0 [a1] := Keep.refl _ _
  obtain ⟨S_wc, hwc, S_wD, V_wD⟩ := id SS
  refine own_st _ (own_aloadN 1 X0 hx hby d35_0) ?_
  refine own_st _ (own_aloadN 2 X0 hx hby d35_1) ?_
  obtain ⟨T190, X190, e190, st190⟩ := getF X0 hx hZ hown (host := "") (Or.inl (hw_194 hw)) Via.refl e0 F_s (g := (mkF m 2 #[rv a1] [(.ref a1), (.ref a1)])) rfl rfl (hb hby d35_2)
  refine own_step (g' := (mkF m 5 #[rv a1] [(.int 0), (.ref a1)])) st190 ?_
  refine own_st _ (own_iconst 6 1 X190 hx hby d35_5) ?_
  refine own_st _ (own_iadd 7 X190 hx hby d35_6) ?_
  rw [show ((0 : Int32) + (1 : Int32)) = (1 : Int32) from by decide]
  obtain ⟨cq191, kq191, q191a, q191b, q191c⟩ := isOf hZ e190 E_a1
  obtain ⟨_, _, ⟨T191, L191, k191, n191⟩, -, X191, ⟨Lc191, hQ191, l191, y191, z191⟩, st191⟩ := X190.virtualBack hx (y := mn_33) (z := mn_33) hown (mvT hZ (hw_206 hw)) (mvT hZ (own_declares (hw_207 hw) (hw_210 hw))) (notFace_of_selects (args := #[]) (mvT hZ (hw_209 hw))) (mvT hZ (hw_209 hw)) (mvT hZ (hw_207 hw)) (by decide) (backOf (W := 0) (own_rm36 l Z a0 hw [] a1 md wc wD kD h0 n0 Z0 O0 SS E_a1 F_s F_m F_e g_a1) hZ (hw_210 hw) (hw_11 hw) (by decide) (by decide)) q191a q191c (g := (mkF m 7 #[rv a1] [(.int 1), (.ref a1)])) rfl (by rw [hml]; rfl) (Steps.refl _) (argsL := [(.int 1)]) (rest := []) (lenOf pd_21 rfl) rfl own_z0 (hb hby d35_7) (fun _ _ => ⟨rfl, e190, (by decide : 0 + 1 ≤ _), (by decide : 0 + 10 ≤ _)⟩)
  dsimp only [Pt.U, Pt.locs, Pt.cells, Pt.slots] at X191 l191 y191 z191 st191 hQ191
  subst l191 y191 z191
  obtain ⟨d191, kk191, rfl, Nq191, K191, gd191, nd191, Ex191, Fs191, Fm191, Fe191, V191, Ov191⟩ := hQ191
  have N191 := Fr.app N0 Nq191
  have sz_d191 : h0.size ≤ d191 := Nat.le_trans K0.1 gd191
  have Kp191 : Keep h0 T191.heap [a1] := K0.trans K191 (allS (Or.inl (List.mem_of_getElem? (i := 0) rfl)) all0)
  refine own_jump (g' := (mkF m 10 #[rv a1] [(.ref d191)])) st191 ?_
  refine own_ret X191 hlk (v := some (.ref d191)) (fun h => by rw [hret] at h; cases h) (fun fs hr => X191.areturnOut hx (w := (.ref d191)) rfl hret rfl (hb hby d35_10) hr) ?_ (by decide) (by decide)
  show own_Q35 Z a1 md wc wD kD h0 n0 _ T191.heap _
  exact ⟨d191, kk191, rfl, N191, Kp191, sz_d191, nd191, Ex191, Fs191, Fm191, Fe191, V191, Ov191⟩
theorem d34_0 : own_D c_35 0 (.iload_n 3, 1) := by decide +kernel
theorem d34_1 : own_D c_35 1 (.aload_n 2, 1) := by decide +kernel
theorem d34_2 : own_D c_35 2 (.arraylength, 1) := by decide +kernel
theorem d34_3 : own_D c_35 3 (.if_icmp .ne 8, 3) := by decide +kernel
theorem d34_6 : own_D c_35 6 (.aload_n 0, 1) := by decide +kernel
theorem d34_7 : own_D c_35 7 (.invokevirtual 129, 3) := by decide +kernel
theorem hw_201 : own_H (.methodLink "java/util/ArrayList" 129 mn_34) := own_h 201 rfl
theorem hw_205 : own_H (.code mn_34 jdk_38_method_7_code 1 (some (.array (.object "java/lang/Object")))) := own_h 205 rfl
theorem pd_22 : parseMethodDescriptor "()[Ljava/lang/Object;" = some ⟨[], some (.array (.object "java/lang/Object"))⟩ := by decide +kernel
theorem hw_204 : own_H (.selects "java/util/ArrayList" mn_34 mn_34) := own_h 204 rfl
theorem hw_202 : own_H (.instanceMethod mn_34) := own_h 202 rfl
theorem d34_10 : own_D c_35 10 (.astore_n 2, 1) := by decide +kernel
theorem d34_11 : own_D c_35 11 (.aload_n 2, 1) := by decide +kernel
theorem d34_12 : own_D c_35 12 (.iload_n 3, 1) := by decide +kernel
theorem d34_13 : own_D c_35 13 (.aload_n 1, 1) := by decide +kernel
theorem d34_14 : own_D c_35 14 (.aastore, 1) := by decide +kernel
theorem hw_216 : own_H (.castable "java/lang/String" "java/lang/Object") := own_h 216 rfl
theorem d34_15 : own_D c_35 15 (.aload_n 0, 1) := by decide +kernel
theorem d34_16 : own_D c_35 16 (.iload_n 3, 1) := by decide +kernel
theorem d34_17 : own_D c_35 17 (.iconst 1, 1) := by decide +kernel
theorem d34_18 : own_D c_35 18 (.iadd, 1) := by decide +kernel
theorem d34_19 : own_D c_35 19 (.putfield 48, 3) := by decide +kernel
theorem d34_22 : own_D c_35 22 (.return_, 1) := by decide +kernel
theorem own_ef34_a (m : MethodId) (a1 r2 : Addr) : entryFrame m #[(.ref a1), (.ref r2), (.ref wD), (.int 0)] 4 = mkF m 0 #[rv a1, rv r2, rv wD, iv 0] [] := by first | (simp [entryFrame, mkF, argsToLocals, Value.category]; done) | rfl
def own_Q34_a (Z : State) (a1 r2 : Addr) (md wc : Int32) (wD : Addr) (kD : ClassId) (h0 : Heap) (n0 : Nat) (v : Option Value) (h : Heap) (L : List Loc) : Prop := ∃ (d : Addr) (kk : ClassId), v = none ∧ Fr n0 L ∧ Keep h0 h [a1] ∧ h0.size ≤ d ∧ a1 ≠ d ∧ Exa Z h a1 "java/util/ArrayList" ∧ Fld Z h a1 "java/util/ArrayList" "size" "I" (.int 1) ∧ Fld Z h a1 "java/util/AbstractList" "modCount" "I" (.int md) ∧ Fld Z h a1 "java/util/ArrayList" "elementData" "[Ljava/lang/Object;" (.ref d) ∧ Arv Z h d kk (.object "java/lang/Object") (10 : Int32) [(.ref r2), .null, .null, .null, .null, .null, .null, .null, .null, .null] .null ∧ Ovr Z kk "java/lang/Object"
theorem own_rm34_a (l Z a0) (hw : own_W a0 Z) (ws) (a1 r2 : Addr) (md wc : Int32) (wD : Addr) (kD : ClassId) (h0 : Heap) (n0 : Nat) (Z0 : n0 ≤ h0.size) (O0 : Old Z n0 h0) (SS : own_St Z wc wD kD) (E_a1 : Exa Z h0 a1 "java/util/ArrayList") (F_s : Fld Z h0 a1 "java/util/ArrayList" "size" "I" (.int 0)) (F_m : Fld Z h0 a1 "java/util/AbstractList" "modCount" "I" (.int md)) (F_e : Fld Z h0 a1 "java/util/ArrayList" "elementData" "[Ljava/lang/Object;" (.ref wD)) (E_r2 : Exa Z h0 r2 "java/lang/String") (g_a1 : n0 ≤ a1) :
    own_M l Z ws mn_35 c_35 4 none rm_32 #[(.ref a1), (.ref r2), (.ref wD), (.int 0)] h0 (own_Q34_a Z a1 r2 md wc wD kD h0 n0) := by
  refine own_body (plainFor_of_name pn_3) (fun m => own_ef34_a m a1 r2) ?_
  intro p e s m below meth c T0 X0 hx hby hml hZ hown hnm hret hlk e0
  have hown : s.vm.findClass "java/util/ArrayList" = some m.cls := hown
  have hnm : meth.name = "add" := hnm
  have N0 := Fr.nil n0
  have K0 : Keep h0 h0 [a1] := Keep.refl _ _
  obtain ⟨S_wc, hwc, S_wD, V_wD⟩ := id SS
  refine own_st _ (own_iloadN 1 X0 hx hby d34_0) ?_
  refine own_st _ (own_aloadN 2 X0 hx hby d34_1) ?_
  obtain ⟨cl192, Ar192, -, S192, M192, -, -⟩ := id (V_wD.ext O0.2)
  refine own_step (T' := T0) (g' := (mkF m 3 #[rv a1, rv r2, rv wD, iv 0] [(.int cl192.slots.size.toInt32), (.int 0)])) (X0.arraylength hx (by rw [e0]; exact Ar192.1) (State.isArrayOf_alike hZ.alike Ar192.2.1) (g := (mkF m 2 #[rv a1, rv r2, rv wD, iv 0] [(.ref wD), (.int 0)])) rfl rfl (hb hby d34_2)) ?_
  rw [len_of S192 M192]
  refine own_st _ (own_icmpNo 6 X0 hx hby d34_3 ((teq (by decide : (0 : Int32) = (0 : Int32))).2)) ?_
  refine own_st _ (own_aloadN 7 X0 hx hby d34_6) ?_
  obtain ⟨cq193, kq193, q193a, q193b, q193c⟩ := isOf hZ e0 E_a1
  obtain ⟨_, _, ⟨T193, L193, k193, n193⟩, -, X193, ⟨Lc193, hQ193, l193, y193, z193⟩, st193⟩ := X0.virtualBack hx (y := mn_34) (z := mn_34) hown (mvT hZ (hw_201 hw)) (mvT hZ (own_declares (hw_202 hw) (hw_205 hw))) (notFace_of_selects (args := #[]) (mvT hZ (hw_204 hw))) (mvT hZ (hw_204 hw)) (mvT hZ (hw_202 hw)) (by decide) (backOf (W := 0) (own_rm35 l Z a0 hw [] a1 md wc wD kD h0 n0 Z0 O0 SS E_a1 F_s F_m F_e g_a1) hZ (hw_205 hw) (hw_11 hw) (by decide) (by decide)) q193a q193c (g := (mkF m 7 #[rv a1, rv r2, rv wD, iv 0] [(.ref a1)])) rfl (by rw [hml]; rfl) (Steps.refl _) (argsL := []) (rest := []) (lenOf pd_22 rfl) rfl own_z0 (hb hby d34_7) (fun _ _ => ⟨rfl, e0, (by decide : 0 + 1 ≤ _), (by decide : 0 + 10 ≤ _)⟩)
  dsimp only [Pt.U, Pt.locs, Pt.cells, Pt.slots] at X193 l193 y193 z193 st193 hQ193
  subst l193 y193 z193
  obtain ⟨d193, kk193, rfl, Nq193, K193, gd193, nd193, Ex193, Fs193, Fm193, Fe193, V193, Ov193⟩ := hQ193
  have N193 := Fr.app N0 Nq193
  have g_d193 : n0 ≤ d193 := Nat.le_trans Z0 gd193
  have sz_d193 : h0.size ≤ d193 := Nat.le_trans K0.1 gd193
  have Kp193 : Keep h0 T193.heap [a1] := K0.trans K193 (allS (Or.inl (List.mem_of_getElem? (i := 0) rfl)) all0)
  have u2 := E_r2.keep K193
  refine own_jump (g' := (mkF m 10 #[rv a1, rv r2, rv wD, iv 0] [(.ref d193)])) st193 ?_
  refine own_st _ (own_astoreN 11 #[rv a1, rv r2, rv d193, iv 0] X193 hx hby d34_10) ?_
  refine own_st _ (own_aloadN 12 X193 hx hby d34_11) ?_
  refine own_st _ (own_iloadN 13 X193 hx hby d34_12) ?_
  refine own_st _ (own_aloadN 14 X193 hx hby d34_13) ?_
  obtain ⟨cl194, Ar194, q194, S194, M194, H194, G194⟩ := id V193
  have hin194 : ¬ ((0 : Int32) < 0 ∨ cl194.slots.size ≤ ((0 : Int32)).toNatClampNeg) := inb_of S194 ⟨by decide, by decide⟩
  obtain ⟨T195, h195, X195, e195, W195, st195⟩ := stR X193 hx hZ rfl Ar194 (j := 0) hin194 rfl (Sto.ofV Ar194 q194 Ov193 (Ins.of_exa u2 (hw_216 hw))) (g := (mkF m 14 #[rv a1, rv r2, rv d193, iv 0] [(.ref r2), (.int 0), (.ref d193)])) rfl rfl (hb hby d34_14)
  have u3 := Ex193.wr W195
  have u5 := Fs193.other W195 (Or.inl nd193)
  have u6 := Fm193.other W195 (Or.inl nd193)
  have u7 := Fe193.other W195 (Or.inl nd193)
  have V195 : Arv Z h195 d193 kk193 (.object "java/lang/Object") (10 : Int32) [(.ref r2), .null, .null, .null, .null, .null, .null, .null, .null, .null] .null := Arv.set Ar194 q194 S194 M194 H194 G194 rfl W195 0 rfl (Nat.le_of_ble_eq_true rfl)
  have Kp195 : Keep h0 h195 [a1] := Kp193.wr W195 (Or.inr sz_d193)
  have N195 := Fr.snoc X195 N193 g_d193
  refine own_step (g' := (mkF m 15 #[rv a1, rv r2, rv d193, iv 0] [])) st195 ?_
  refine own_st _ (own_aloadN 16 X195 hx hby d34_15) ?_
  refine own_st _ (own_iloadN 17 X195 hx hby d34_16) ?_
  refine own_st _ (own_iconst 18 1 X195 hx hby d34_17) ?_
  refine own_st _ (own_iadd 19 X195 hx hby d34_18) ?_
  rw [show ((0 : Int32) + (1 : Int32)) = (1 : Int32) from by decide]
  obtain ⟨T196, h196, X196, e196, W196, st196⟩ := putF X195 hx hZ hown (host := "") (Or.inl (hw_194 hw)) Via.refl e195 u5 u3 (Or.inl (hw_195 hw)) (hw_10 hw) (ty := .int) (by decide) rfl rfl (g := (mkF m 19 #[rv a1, rv r2, rv d193, iv 0] [(.int 1), (.ref a1)])) rfl rfl (hb hby d34_19)
  have u8 := u3.wr W196
  have u10 := V195.other W196 (Ne.symm nd193)
  have u11 := u6.other W196 (Or.inr (slot_ne (a0 := a0) (C := "java/util/ArrayList") (Or.inl (hw_29 hw)) (Or.inl (hw_195 hw)) (by decide) (t := .int) (t' := .int) (by decide) (by decide)))
  have u12 := u7.other W196 (Or.inr (slot_ne (a0 := a0) (C := "java/util/ArrayList") (Or.inl (hw_32 hw)) (Or.inl (hw_195 hw)) (by decide) (t := (.array (.object "java/lang/Object"))) (t' := .int) (by decide) (by decide)))
  have fw196 : Fld Z h196 a1 "java/util/ArrayList" "size" "I" (.int 1) := u5.same W196
  have Kp196 : Keep h0 h196 [a1] := Kp195.wr W196 (Or.inl (List.mem_of_getElem? (i := 0) rfl))
  have N196 := Fr.snoc X196 N195 g_a1
  refine own_step (g' := (mkF m 22 #[rv a1, rv r2, rv d193, iv 0] [])) st196 ?_
  refine own_ret X196 hlk (v := none) (fun _ => rfl) (fun fs hr => X196.returnOut hx hret (hb hby d34_22) hr) ?_ (by decide) (by decide)
  show own_Q34_a Z a1 r2 md wc wD kD h0 n0 _ T196.heap _
  rw [e196]
  exact ⟨d193, kk193, rfl, N196, Kp196, sz_d193, nd193, u8, fw196, u11, u12, u10, Ov193⟩
theorem own_ef34_b (m : MethodId) (a1 r2 dd : Addr) (p4 : Int32) : entryFrame m #[(.ref a1), (.ref r2), (.ref dd), (.int p4)] 4 = mkF m 0 #[rv a1, rv r2, rv dd, iv p4] [] := by first | (simp [entryFrame, mkF, argsToLocals, Value.category]; done) | rfl
def own_Q34_b (Z : State) (a1 r2 dd : Addr) (p4 md : Int32) (k : Nat) (kk : ClassId) (vs : List Value) (h0 : Heap) (n0 : Nat) (v : Option Value) (h : Heap) (L : List Loc) : Prop := v = none ∧ Fr n0 L ∧ Keep h0 h [a1, dd] ∧ Exa Z h a1 "java/util/ArrayList" ∧ Fld Z h a1 "java/util/ArrayList" "size" "I" (.int (p4 + (1 : Int32))) ∧ Fld Z h a1 "java/util/AbstractList" "modCount" "I" (.int md) ∧ Fld Z h a1 "java/util/ArrayList" "elementData" "[Ljava/lang/Object;" (.ref dd) ∧ Arv Z h dd kk (.object "java/lang/Object") (10 : Int32) (vs.set k (.ref r2)) .null
theorem own_rm34_b (l Z a0) (hw : own_W a0 Z) (ws) (a1 r2 dd : Addr) (p4 md : Int32) (k : Nat) (kk : ClassId) (vs : List Value) (h0 : Heap) (n0 : Nat) (Z0 : n0 ≤ h0.size) (hp : p4.toInt = (k : Int)) (h1 : 1 ≤ k) (h8 : k ≤ 8) (hvl : vs.length = 10) (hov : Ovr Z kk "java/lang/Object") (E_a1 : Exa Z h0 a1 "java/util/ArrayList") (F_s : Fld Z h0 a1 "java/util/ArrayList" "size" "I" (.int p4)) (F_m : Fld Z h0 a1 "java/util/AbstractList" "modCount" "I" (.int md)) (F_e : Fld Z h0 a1 "java/util/ArrayList" "elementData" "[Ljava/lang/Object;" (.ref dd)) (V0 : Arv Z h0 dd kk (.object "java/lang/Object") (10 : Int32) vs .null) (E_r2 : Exa Z h0 r2 "java/lang/String") (g_a1 : n0 ≤ a1) (g_dd : n0 ≤ dd) (ne_ad : a1 ≠ dd) :
    own_M l Z ws mn_35 c_35 4 none rm_0 #[(.ref a1), (.ref r2), (.ref dd), (.int p4)] h0 (own_Q34_b Z a1 r2 dd p4 md k kk vs h0 n0) := by
  refine own_body (plainFor_of_name pn_3) (fun m => own_ef34_b m a1 r2 dd p4) ?_
  intro p e s m below meth c T0 X0 hx hby hml hZ hown hnm hret hlk e0
  have hown : s.vm.findClass "java/util/ArrayList" = some m.cls := hown
  have hnm : meth.name = "add" := hnm
  have N0 := Fr.nil n0
  have K0 : Keep h0 h0 [a1, dd] := Keep.refl _ _
  have hne : ¬ p4 = (10 : Int32) := fun q => by rw [q] at hp; have e : (10 : Int32).toInt = 10 := rfl; omega
  refine own_st _ (own_iloadN 1 X0 hx hby d34_0) ?_
  refine own_st _ (own_aloadN 2 X0 hx hby d34_1) ?_
  obtain ⟨cl197, Ar197, -, S197, M197, -, -⟩ := id V0
  refine own_step (T' := T0) (g' := (mkF m 3 #[rv a1, rv r2, rv dd, iv p4] [(.int cl197.slots.size.toInt32), (.int p4)])) (X0.arraylength hx (by rw [e0]; exact Ar197.1) (State.isArrayOf_alike hZ.alike Ar197.2.1) (g := (mkF m 2 #[rv a1, rv r2, rv dd, iv p4] [(.ref dd), (.int p4)])) rfl rfl (hb hby d34_2)) ?_
  rw [len_of S197 M197]
  refine own_st _ (own_icmpYes 11 X0 hx hby d34_3 ((feq hne).2)) ?_
  refine own_st _ (own_aloadN 12 X0 hx hby d34_11) ?_
  refine own_st _ (own_iloadN 13 X0 hx hby d34_12) ?_
  refine own_st _ (own_aloadN 14 X0 hx hby d34_13) ?_
  obtain ⟨cl198, Ar198, q198, S198, M198, H198, G198⟩ := id V0
  have hin198 : ¬ (p4 < 0 ∨ cl198.slots.size ≤ (p4).toNatClampNeg) := inb_of S198 (own_lt32 hp (k := 10) rfl (by omega))
  obtain ⟨T199, h199, X199, e199, W199, st199⟩ := stR X0 hx hZ e0 Ar198 (j := p4) hin198 rfl (Sto.ofV Ar198 q198 hov (Ins.of_exa E_r2 (hw_216 hw))) (g := (mkF m 14 #[rv a1, rv r2, rv dd, iv p4] [(.ref r2), (.int p4), (.ref dd)])) rfl rfl (hb hby d34_14)
  have u1 := E_a1.wr W199
  have u2 := F_s.other W199 (Or.inl ne_ad)
  have u3 := F_m.other W199 (Or.inl ne_ad)
  have u4 := F_e.other W199 (Or.inl ne_ad)
  have V199 : Arv Z h199 dd kk (.object "java/lang/Object") (10 : Int32) (vs.set k (.ref r2)) .null := Arv.set Ar198 q198 S198 M198 H198 G198 rfl W199 k (own_i32 hp) (by omega)
  have Kp199 : Keep h0 h199 [a1, dd] := K0.wr W199 (Or.inl (List.mem_of_getElem? (i := 1) rfl))
  have N199 := Fr.snoc X199 N0 g_dd
  refine own_step (g' := (mkF m 15 #[rv a1, rv r2, rv dd, iv p4] [])) st199 ?_
  refine own_st _ (own_aloadN 16 X199 hx hby d34_15) ?_
  refine own_st _ (own_iloadN 17 X199 hx hby d34_16) ?_
  refine own_st _ (own_iconst 18 1 X199 hx hby d34_17) ?_
  refine own_st _ (own_iadd 19 X199 hx hby d34_18) ?_
  obtain ⟨T200, h200, X200, e200, W200, st200⟩ := putF X199 hx hZ hown (host := "") (Or.inl (hw_194 hw)) Via.refl e199 u2 u1 (Or.inl (hw_195 hw)) (hw_10 hw) (ty := .int) (by decide) rfl rfl (g := (mkF m 19 #[rv a1, rv r2, rv dd, iv p4] [(.int (p4 + (1 : Int32))), (.ref a1)])) rfl rfl (hb hby d34_19)
  have u6 := u1.wr W200
  have u7 := u3.other W200 (Or.inr (slot_ne (a0 := a0) (C := "java/util/ArrayList") (Or.inl (hw_29 hw)) (Or.inl (hw_195 hw)) (by decide) (t := .int) (t' := .int) (by decide) (by decide)))
  have u8 := u4.other W200 (Or.inr (slot_ne (a0 := a0) (C := "java/util/ArrayList") (Or.inl (hw_32 hw)) (Or.inl (hw_195 hw)) (by decide) (t := (.array (.object "java/lang/Object"))) (t' := .int) (by decide) (by decide)))
  have u9 := V199.other W200 (Ne.symm ne_ad)
  have fw200 : Fld Z h200 a1 "java/util/ArrayList" "size" "I" (.int (p4 + (1 : Int32))) := u2.same W200
  have Kp200 : Keep h0 h200 [a1, dd] := Kp199.wr W200 (Or.inl (List.mem_of_getElem? (i := 0) rfl))
  have N200 := Fr.snoc X200 N199 g_a1
  refine own_step (g' := (mkF m 22 #[rv a1, rv r2, rv dd, iv p4] [])) st200 ?_
  refine own_ret X200 hlk (v := none) (fun _ => rfl) (fun fs hr => X200.returnOut hx hret (hb hby d34_22) hr) ?_ (by decide) (by decide)
  show own_Q34_b Z a1 r2 dd p4 md k kk vs h0 n0 _ T200.heap _
  rw [e200]
  exact ⟨rfl, N200, Kp200, u6, fw200, u7, u8, u9⟩
theorem d33_0 : own_D c_36 0 (.aload_n 0, 1) := by decide +kernel
theorem d33_1 : own_D c_36 1 (.dup, 1) := by decide +kernel
theorem d33_2 : own_D c_36 2 (.getfield 63, 3) := by decide +kernel
theorem hw_192 : own_H (.fieldLink "java/util/ArrayList" 63 "java/util/ArrayList" "modCount" "I") := own_h 192 rfl
theorem hw_193 : own_H (.sameField "java/util/ArrayList" "java/util/AbstractList" "modCount" "I") := own_h 193 rfl
theorem d33_5 : own_D c_36 5 (.iconst 1, 1) := by decide +kernel
theorem d33_6 : own_D c_36 6 (.iadd, 1) := by decide +kernel
theorem d33_7 : own_D c_36 7 (.putfield 63, 3) := by decide +kernel
theorem d33_10 : own_D c_36 10 (.aload_n 0, 1) := by decide +kernel
theorem d33_11 : own_D c_36 11 (.aload_n 1, 1) := by decide +kernel
theorem d33_12 : own_D c_36 12 (.aload_n 0, 1) := by decide +kernel
theorem d33_13 : own_D c_36 13 (.getfield 9, 3) := by decide +kernel
theorem d33_16 : own_D c_36 16 (.aload_n 0, 1) := by decide +kernel
theorem d33_17 : own_D c_36 17 (.getfield 48, 3) := by decide +kernel
theorem d33_20 : own_D c_36 20 (.invokevirtual 131, 3) := by decide +kernel
theorem hw_196 : own_H (.methodLink "java/util/ArrayList" 131 mn_35) := own_h 196 rfl
theorem hw_200 : own_H (.code mn_35 jdk_38_method_24_code 4 none) := own_h 200 rfl
theorem pd_23 : parseMethodDescriptor "(Ljava/lang/Object;[Ljava/lang/Object;I)V" = some ⟨[(.object "java/lang/Object"), (.array (.object "java/lang/Object")), .int], none⟩ := by decide +kernel
theorem hw_199 : own_H (.selects "java/util/ArrayList" mn_35 mn_35) := own_h 199 rfl
theorem hw_197 : own_H (.instanceMethod mn_35) := own_h 197 rfl
theorem d33_23 : own_D c_36 23 (.iconst 1, 1) := by decide +kernel
theorem d33_24 : own_D c_36 24 (.ireturn, 1) := by decide +kernel
def own_Q33 (Z : State) (a1 r2 : Addr) (k : Nat) (dd : Addr) (f : Value) (wc : Int32) (wD : Addr) (kD : ClassId) (h0 : Heap) (n0 : Nat) (v : Option Value) (h : Heap) (L : List Loc) : Prop := ∃ dn : Addr, v = some (.int 1) ∧ Fr n0 L ∧ Keep h0 h [a1, dd] ∧ own_AL Z wD h n0 a1 (k + 1) dn (own_fst k r2 f) ∧ (dn = dd ∨ h0.size ≤ dn)
theorem own_rm33 (l Z a0) (hw : own_W a0 Z) (ws) (a1 r2 : Addr) (k : Nat) (dd : Addr) (f : Value) (wc : Int32) (wD : Addr) (kD : ClassId) (h0 : Heap) (n0 : Nat) (Z0 : n0 ≤ h0.size) (O0 : Old Z n0 h0) (SS : own_St Z wc wD kD) (h8 : k ≤ 8) (A0 : own_AL Z wD h0 n0 a1 k dd f) (E_r2 : Exa Z h0 r2 "java/lang/String") :
    own_M l Z ws mn_36 c_36 2 (some .boolean) rm_33 #[(.ref a1), (.ref r2)] h0 (own_Q33 Z a1 r2 k dd f wc wD kD h0 n0) := by
  refine own_body (plainFor_of_name pn_3) (fun m => own_ef20 m a1 r2) ?_
  intro p e s m below meth c T0 X0 hx hby hml hZ hown hnm hret hlk e0
  have hown : s.vm.findClass "java/util/ArrayList" = some m.cls := hown
  have hnm : meth.name = "add" := hnm
  have N0 := Fr.nil n0
  have K0 : Keep h0 h0 [a1, dd] := Keep.refl _ _
  obtain ⟨g_a1, g_dd, E_a1, F_s, ⟨md, F_m⟩, HA⟩ := id A0
  rcases HA with ⟨hk0, hdd, F_e⟩ | ⟨hk1, ne_ad, F_e, kk, vs, V0, hvl, hov, hf⟩
  · have F_s : Fld Z h0 a1 "java/util/ArrayList" "size" "I" (.int 0) := by rw [hk0] at F_s; exact F_s
    refine own_st _ (own_aloadN 1 X0 hx hby d33_0) ?_
    refine own_st _ (own_dup 2 X0 hx hby d33_1) ?_
    obtain ⟨T201, X201, e201, st201⟩ := getF X0 hx hZ hown (host := "") (Or.inl (hw_192 hw)) (Via.of (hw_193 hw)) e0 F_m (g := (mkF m 2 #[rv a1, rv r2] [(.ref a1), (.ref a1)])) rfl rfl (hb hby d33_2)
    refine own_step (g' := (mkF m 5 #[rv a1, rv r2] [(.int md), (.ref a1)])) st201 ?_
    refine own_st _ (own_iconst 6 1 X201 hx hby d33_5) ?_
    refine own_st _ (own_iadd 7 X201 hx hby d33_6) ?_
    obtain ⟨T202, h202, X202, e202, W202, st202⟩ := putF X201 hx hZ hown (host := "") (Or.inl (hw_192 hw)) (Via.of (hw_193 hw)) e201 F_m E_a1 (Or.inl (hw_29 hw)) (hw_10 hw) (ty := .int) (by decide) rfl rfl (g := (mkF m 7 #[rv a1, rv r2] [(.int (md + (1 : Int32))), (.ref a1)])) rfl rfl (hb hby d33_7)
    have u1 := E_r2.wr W202
    have u2 := E_a1.wr W202
    have u3 := F_s.other W202 (Or.inr (slot_ne (a0 := a0) (C := "java/util/ArrayList") (Or.inl (hw_195 hw)) (Or.inl (hw_29 hw)) (by decide) (t := .int) (t' := .int) (by decide) (by decide)))
    have u4 := F_e.other W202 (Or.inr (slot_ne (a0 := a0) (C := "java/util/ArrayList") (Or.inl (hw_32 hw)) (Or.inl (hw_29 hw)) (by decide) (t := (.array (.object "java/lang/Object"))) (t' := .int) (by decide) (by decide)))
    have fw202 : Fld Z h202 a1 "java/util/AbstractList" "modCount" "I" (.int (md + (1 : Int32))) := F_m.same W202
    have Z202 : n0 ≤ h202.size := Nat.le_trans Z0 (Keep.of_wr W202).1
    have Kp202 : Keep h0 h202 [a1, dd] := K0.wr W202 (Or.inl (List.mem_of_getElem? (i := 0) rfl))
    have O202 : Old Z n0 h202 := O0.wr W202 g_a1
    have N202 := Fr.snoc X202 N0 g_a1
    refine own_step (g' := (mkF m 10 #[rv a1, rv r2] [])) st202 ?_
    refine own_st _ (own_aloadN 11 X202 hx hby d33_10) ?_
    refine own_st _ (own_aloadN 12 X202 hx hby d33_11) ?_
    refine own_st _ (own_aloadN 13 X202 hx hby d33_12) ?_
    obtain ⟨T203, X203, e203, st203⟩ := getF X202 hx hZ hown (host := "") (Or.inl (hw_31 hw)) Via.refl e202 u4 (g := (mkF m 13 #[rv a1, rv r2] [(.ref a1), (.ref r2), (.ref a1)])) rfl rfl (hb hby d33_13)
    refine own_step (g' := (mkF m 16 #[rv a1, rv r2] [(.ref wD), (.ref r2), (.ref a1)])) st203 ?_
    refine own_st _ (own_aloadN 17 X203 hx hby d33_16) ?_
    obtain ⟨T204, X204, e204, st204⟩ := getF X203 hx hZ hown (host := "") (Or.inl (hw_194 hw)) Via.refl e203 u3 (g := (mkF m 17 #[rv a1, rv r2] [(.ref a1), (.ref wD), (.ref r2), (.ref a1)])) rfl rfl (hb hby d33_17)
    refine own_step (g' := (mkF m 20 #[rv a1, rv r2] [(.int 0), (.ref wD), (.ref r2), (.ref a1)])) st204 ?_
    obtain ⟨cq205, kq205, q205a, q205b, q205c⟩ := isOf hZ e204 u2
    obtain ⟨_, _, ⟨T205, L205, k205, n205⟩, -, X205, ⟨Lc205, hQ205, l205, y205, z205⟩, st205⟩ := X204.virtualBack hx (y := mn_35) (z := mn_35) hown (mvT hZ (hw_196 hw)) (mvT hZ (own_declares (hw_197 hw) (hw_200 hw))) (notFace_of_selects (args := #[]) (mvT hZ (hw_199 hw))) (mvT hZ (hw_199 hw)) (mvT hZ (hw_197 hw)) (by decide) (backOf (W := 0) (own_rm34_a l Z a0 hw [] a1 r2 (md + (1 : Int32)) wc wD kD h202 n0 Z202 O202 SS u2 u3 fw202 u4 u1 g_a1) hZ (hw_200 hw) (hw_11 hw) (by decide) (by decide)) q205a q205c (g := (mkF m 20 #[rv a1, rv r2] [(.int 0), (.ref wD), (.ref r2), (.ref a1)])) rfl (by rw [hml]; rfl) (Steps.refl _) (argsL := [(.ref r2), (.ref wD), (.int 0)]) (rest := []) (lenOf pd_23 rfl) rfl own_z0 (hb hby d33_20) (fun _ _ => ⟨rfl, e204, (by decide : 0 + 1 ≤ _), (by decide : 0 + 10 ≤ _)⟩)
    dsimp only [Pt.U, Pt.locs, Pt.cells, Pt.slots] at X205 l205 y205 z205 st205 hQ205
    subst l205 y205 z205
    obtain ⟨d205, kk205, rfl, Nq205, K205, gd205, nd205, Ex205, Fs205, Fm205, Fe205, V205, Ov205⟩ := hQ205
    have N205 := Fr.app N202 Nq205
    have g_d205 : n0 ≤ d205 := Nat.le_trans Z202 gd205
    have sz_d205 : h0.size ≤ d205 := Nat.le_trans Kp202.1 gd205
    have Kp205 : Keep h0 T205.heap [a1, dd] := Kp202.trans K205 (allS (Or.inl (List.mem_of_getElem? (i := 0) rfl)) all0)
    refine own_jump (g' := (mkF m 23 #[rv a1, rv r2] [])) st205 ?_
    refine own_st _ (own_iconst 24 1 X205 hx hby d33_23) ?_
    refine own_ret X205 hlk (v := some (.int 1)) (fun h => by rw [hret] at h; cases h) (fun fs hr => retN X205 hx (t := .boolean) hret (by simp) (hb hby d33_24) hr) ?_ (by decide) (by decide)
    show own_Q33 Z a1 r2 k dd f wc wD kD h0 n0 _ T205.heap _
    exact ⟨d205, rfl, N205, Kp205, by rw [hk0]; exact ⟨g_a1, g_d205, Ex205, Fs205, ⟨_, Fm205⟩, Or.inr ⟨Nat.le_refl 1, nd205, Fe205, _, _, V205, rfl, Ov205, rfl⟩⟩, Or.inr sz_d205⟩
  · refine own_st _ (own_aloadN 1 X0 hx hby d33_0) ?_
    refine own_st _ (own_dup 2 X0 hx hby d33_1) ?_
    obtain ⟨T206, X206, e206, st206⟩ := getF X0 hx hZ hown (host := "") (Or.inl (hw_192 hw)) (Via.of (hw_193 hw)) e0 F_m (g := (mkF m 2 #[rv a1, rv r2] [(.ref a1), (.ref a1)])) rfl rfl (hb hby d33_2)
    refine own_step (g' := (mkF m 5 #[rv a1, rv r2] [(.int md), (.ref a1)])) st206 ?_
    refine own_st _ (own_iconst 6 1 X206 hx hby d33_5) ?_
    refine own_st _ (own_iadd 7 X206 hx hby d33_6) ?_
    obtain ⟨T207, h207, X207, e207, W207, st207⟩ := putF X206 hx hZ hown (host := "") (Or.inl (hw_192 hw)) (Via.of (hw_193 hw)) e206 F_m E_a1 (Or.inl (hw_29 hw)) (hw_10 hw) (ty := .int) (by decide) rfl rfl (g := (mkF m 7 #[rv a1, rv r2] [(.int (md + (1 : Int32))), (.ref a1)])) rfl rfl (hb hby d33_7)
    have u7 := E_r2.wr W207
    have u8 := V0.other W207 (Ne.symm ne_ad)
    have u9 := E_a1.wr W207
    have u10 := F_s.other W207 (Or.inr (slot_ne (a0 := a0) (C := "java/util/ArrayList") (Or.inl (hw_195 hw)) (Or.inl (hw_29 hw)) (by decide) (t := .int) (t' := .int) (by decide) (by decide)))
    have u11 := F_e.other W207 (Or.inr (slot_ne (a0 := a0) (C := "java/util/ArrayList") (Or.inl (hw_32 hw)) (Or.inl (hw_29 hw)) (by decide) (t := (.array (.object "java/lang/Object"))) (t' := .int) (by decide) (by decide)))
    have fw207 : Fld Z h207 a1 "java/util/AbstractList" "modCount" "I" (.int (md + (1 : Int32))) := F_m.same W207
    have Z207 : n0 ≤ h207.size := Nat.le_trans Z0 (Keep.of_wr W207).1
    have Kp207 : Keep h0 h207 [a1, dd] := K0.wr W207 (Or.inl (List.mem_of_getElem? (i := 0) rfl))
    have N207 := Fr.snoc X207 N0 g_a1
    refine own_step (g' := (mkF m 10 #[rv a1, rv r2] [])) st207 ?_
    refine own_st _ (own_aloadN 11 X207 hx hby d33_10) ?_
    refine own_st _ (own_aloadN 12 X207 hx hby d33_11) ?_
    refine own_st _ (own_aloadN 13 X207 hx hby d33_12) ?_
    obtain ⟨T208, X208, e208, st208⟩ := getF X207 hx hZ hown (host := "") (Or.inl (hw_31 hw)) Via.refl e207 u11 (g := (mkF m 13 #[rv a1, rv r2] [(.ref a1), (.ref r2), (.ref a1)])) rfl rfl (hb hby d33_13)
    refine own_step (g' := (mkF m 16 #[rv a1, rv r2] [(.ref dd), (.ref r2), (.ref a1)])) st208 ?_
    refine own_st _ (own_aloadN 17 X208 hx hby d33_16) ?_
    obtain ⟨T209, X209, e209, st209⟩ := getF X208 hx hZ hown (host := "") (Or.inl (hw_194 hw)) Via.refl e208 u10 (g := (mkF m 17 #[rv a1, rv r2] [(.ref a1), (.ref dd), (.ref r2), (.ref a1)])) rfl rfl (hb hby d33_17)
    refine own_step (g' := (mkF m 20 #[rv a1, rv r2] [(.int (Int32.ofNat k)), (.ref dd), (.ref r2), (.ref a1)])) st209 ?_
    obtain ⟨cq210, kq210, q210a, q210b, q210c⟩ := isOf hZ e209 u9
    obtain ⟨_, _, ⟨T210, L210, k210, n210⟩, -, X210, ⟨Lc210, hQ210, l210, y210, z210⟩, st210⟩ := X209.virtualBack hx (y := mn_35) (z := mn_35) hown (mvT hZ (hw_196 hw)) (mvT hZ (own_declares (hw_197 hw) (hw_200 hw))) (notFace_of_selects (args := #[]) (mvT hZ (hw_199 hw))) (mvT hZ (hw_199 hw)) (mvT hZ (hw_197 hw)) (by decide) (backOf (W := 0) (own_rm34_b l Z a0 hw [] a1 r2 dd (Int32.ofNat k) (md + (1 : Int32)) k kk vs h207 n0 Z207 (own_ofnat (by omega)) hk1 h8 hvl hov u9 u10 fw207 u11 u8 u7 g_a1 g_dd ne_ad) hZ (hw_200 hw) (hw_11 hw) (by decide) (by decide)) q210a q210c (g := (mkF m 20 #[rv a1, rv r2] [(.int (Int32.ofNat k)), (.ref dd), (.ref r2), (.ref a1)])) rfl (by rw [hml]; rfl) (Steps.refl _) (argsL := [(.ref r2), (.ref dd), (.int (Int32.ofNat k))]) (rest := []) (lenOf pd_23 rfl) rfl own_z0 (hb hby d33_20) (fun _ _ => ⟨rfl, e209, (by decide : 0 + 0 ≤ _), (by decide : 0 + 0 ≤ _)⟩)
    dsimp only [Pt.U, Pt.locs, Pt.cells, Pt.slots] at X210 l210 y210 z210 st210 hQ210
    subst l210 y210 z210
    obtain ⟨rfl, Nq210, K210, Ex210, Fs210, Fm210, Fe210, V210⟩ := hQ210
    have N210 := Fr.app N207 Nq210
    have Kp210 : Keep h0 T210.heap [a1, dd] := Kp207.trans K210 (allS (Or.inl (List.mem_of_getElem? (i := 0) rfl)) (allS (Or.inl (List.mem_of_getElem? (i := 1) rfl)) all0))
    refine own_jump (g' := (mkF m 23 #[rv a1, rv r2] [])) st210 ?_
    refine own_st _ (own_iconst 24 1 X210 hx hby d33_23) ?_
    refine own_ret X210 hlk (v := some (.int 1)) (fun h => by rw [hret] at h; cases h) (fun fs hr => retN X210 hx (t := .boolean) hret (by simp) (hb hby d33_24) hr) ?_ (by decide) (by decide)
    show own_Q33 Z a1 r2 k dd f wc wD kD h0 n0 _ T210.heap _
    exact ⟨dd, rfl, N210, Kp210, ⟨g_a1, g_dd, Ex210, (by have q := Fs210; rw [show Int32.ofNat k + (1 : Int32) = Int32.ofNat (k + 1) from own_addN k 1] at q; exact q), ⟨_, Fm210⟩, Or.inr ⟨by omega, ne_ad, Fe210, _, _, V210, by rw [List.length_set]; exact hvl, hov, by rw [own_set0 hk1, own_fst1 hk1]; exact hf⟩⟩, Or.inl rfl⟩
/-- the first element f of a list of k: a String at s, her bytes t at b (nothing is said where k is 0) -/
def own_SX (Z : State) (h : Heap) (k : Nat) (f : Value) (t : List Int32) (s b : Addr) : Prop :=
  s < h.size ∧ b < h.size ∧ (1 ≤ k → f = .ref s ∧ Exa Z h s "java/lang/String" ∧ Fld Z h s "java/lang/String" "value" "[B" (.ref b) ∧ Fld Z h s "java/lang/String" "coder" "B" (.int 0) ∧ ∃ kb : ClassId, Arv Z h b kb .byte (Int32.ofNat t.length) (t.map Value.int) (.int 0))
theorem own_SXext {Z : State} {h h' : Heap} {k : Nat} {f : Value} {t : List Int32} {s b : Addr} (A : own_SX Z h k f t s b) (E : Ext h h') : own_SX Z h' k f t s b :=
  ⟨Nat.lt_of_lt_of_le A.1 E.1, Nat.lt_of_lt_of_le A.2.1 E.1, fun q => by
    obtain ⟨a1, a2, a3, a4, kb, a5⟩ := A.2.2 q
    exact ⟨a1, a2.ext E, a3.ext E, a4.ext E, kb, a5.ext E⟩⟩
theorem own_SXkeep {Z : State} {h h' : Heap} {ws : List Addr} {k : Nat} {f : Value} {t : List Int32} {s b : Addr} (A : own_SX Z h k f t s b) (K : Keep h h' ws) (q1 : s ∉ ws) (q2 : b ∉ ws) : own_SX Z h' k f t s b :=
  ⟨Nat.lt_of_lt_of_le A.1 K.1, Nat.lt_of_lt_of_le A.2.1 K.1, fun q => by
    obtain ⟨a1, a2, a3, a4, kb, a5⟩ := A.2.2 q
    exact ⟨a1, a2.keep K, a3.keep K q1, a4.keep K q1, kb, a5.keep K q2⟩⟩
theorem own_SXl1 {Z : State} {h : Heap} {k : Nat} {f : Value} {t : List Int32} {s b : Addr} (A : own_SX Z h k f t s b) : own_Lt s h := A.1
theorem own_SXl2 {Z : State} {h : Heap} {k : Nat} {f : Value} {t : List Int32} {s b : Addr} (A : own_SX Z h k f t s b) : own_Lt b h := A.2.1
/-- the first text of a list that had k and has got the text t' -/
def own_t (k : Nat) (t' t : List Int32) : List Int32 := match k with
  | 0 => t'
  | _ + 1 => t
theorem own_SXup {Z : State} {h : Heap} {k : Nat} {f : Value} {t t' : List Int32} {s b r : Addr} (hk : 1 ≤ k) (A : own_SX Z h k f t s b) : own_SX Z h (k + 1) (own_fst k r f) (own_t k t' t) s b := by
  obtain ⟨j, rfl⟩ : ∃ j, k = j + 1 := ⟨k - 1, by omega⟩
  exact ⟨A.1, A.2.1, fun _ => A.2.2 hk⟩
def own_n4 (x a b c d : Addr) : Prop := x ≠ a ∧ x ≠ b ∧ x ≠ c ∧ x ≠ d
def own_CPS (Z : State) (wD : Addr) (h : Heap) (n0 : Nat) (p : Addr) (k1 k2 : Nat) (t1 t2 : List Int32) : Prop :=
  ∃ (al1 dd1 al2 dd2 : Addr) (f1 f2 : Value) (s1 b1 s2 b2 : Addr), n0 ≤ p ∧ Exa Z h p "com/example/shaper/shaper/core/ConfigProblems" ∧ Fld Z h p "com/example/shaper/shaper/core/ConfigProblems" "violations" "Ljava/util/List;" (.ref al1) ∧ Fld Z h p "com/example/shaper/shaper/core/ConfigProblems" "unsupported" "Ljava/util/List;" (.ref al2) ∧
    own_AL Z wD h n0 al1 k1 dd1 f1 ∧ own_AL Z wD h n0 al2 k2 dd2 f2 ∧ p ≠ al1 ∧ p ≠ dd1 ∧ p ≠ al2 ∧ p ≠ dd2 ∧ al1 ≠ al2 ∧ al1 ≠ dd2 ∧ dd1 ≠ al2 ∧ dd1 ≠ dd2 ∧
    own_SX Z h k1 f1 t1 s1 b1 ∧ own_SX Z h k2 f2 t2 s2 b2 ∧ own_n4 s1 al1 dd1 al2 dd2 ∧ own_n4 b1 al1 dd1 al2 dd2 ∧ own_n4 s2 al1 dd1 al2 dd2 ∧ own_n4 b2 al1 dd1 al2 dd2
theorem own_CPSext {Z : State} {wD : Addr} {h h' : Heap} {n0 : Nat} {p : Addr} {k1 k2 : Nat} {t1 t2 : List Int32} (A : own_CPS Z wD h n0 p k1 k2 t1 t2) (E : Ext h h') : own_CPS Z wD h' n0 p k1 k2 t1 t2 := by
  obtain ⟨al1, dd1, al2, dd2, f1, f2, s1, b1, s2, b2, a1, a2, a3, a4, a5, a6, q1, q2, q3, q4, q5, q6, q7, q8, c1, c2, r⟩ := A
  exact ⟨al1, dd1, al2, dd2, f1, f2, s1, b1, s2, b2, a1, a2.ext E, a3.ext E, a4.ext E, own_ALext a5 E, own_ALext a6 E, q1, q2, q3, q4, q5, q6, q7, q8, own_SXext c1 E, own_SXext c2 E, r⟩
theorem own_CPSkeep {Z : State} {wD : Addr} {h h' : Heap} {n0 : Nat} {p : Addr} {k1 k2 : Nat} {t1 t2 : List Int32} (A : own_CPS Z wD h n0 p k1 k2 t1 t2) (K : Keep h h' []) : own_CPS Z wD h' n0 p k1 k2 t1 t2 := by
  obtain ⟨al1, dd1, al2, dd2, f1, f2, s1, b1, s2, b2, a1, a2, a3, a4, a5, a6, q1, q2, q3, q4, q5, q6, q7, q8, c1, c2, r⟩ := A
  exact ⟨al1, dd1, al2, dd2, f1, f2, s1, b1, s2, b2, a1, a2.keep K, a3.keep K nin0, a4.keep K nin0, own_ALkeep a5 K nin0 nin0, own_ALkeep a6 K nin0 nin0, q1, q2, q3, q4, q5, q6, q7, q8, own_SXkeep c1 K nin0 nin0, own_SXkeep c2 K nin0 nin0, r⟩
theorem own_CPSexa {Z : State} {wD : Addr} {h : Heap} {n0 : Nat} {p : Addr} {k1 k2 : Nat} {t1 t2 : List Int32} (A : own_CPS Z wD h n0 p k1 k2 t1 t2) : Exa Z h p "com/example/shaper/shaper/core/ConfigProblems" := by
  obtain ⟨al1, dd1, al2, dd2, f1, f2, s1, b1, s2, b2, a1, a2, r⟩ := A
  exact a2
/-- a new one: its lists are empty: whatever texts -/
theorem own_CPS0 {Z : State} {wD : Addr} {h : Heap} {n0 : Nat} {p : Addr} {f1 f2 : Value} (t1 t2 : List Int32) (A : own_CP Z wD h n0 p 0 0 f1 f2) : own_CPS Z wD h n0 p 0 0 t1 t2 := by
  obtain ⟨al1, dd1, al2, dd2, a1, a2, a3, a4, a5, a6, q1, q2, q3, q4, q5, q6, q7, q8⟩ := A
  have n4 : own_n4 p al1 dd1 al2 dd2 := ⟨q1, q2, q3, q4⟩
  have sx : ∀ (f : Value) (t : List Int32), own_SX Z h 0 f t p p := fun f t => ⟨a2.lt, a2.lt, fun q => by omega⟩
  exact ⟨al1, dd1, al2, dd2, f1, f2, p, p, p, p, a1, a2, a3, a4, a5, a6, q1, q2, q3, q4, q5, q6, q7, q8, sx _ _, sx _ _, n4, n4, n4, n4⟩
theorem own_ALpos {Z : State} {wD : Addr} {h : Heap} {n0 : Nat} {al : Addr} {k : Nat} {dd : Addr} {f : Value} (A : own_AL Z wD h n0 al k dd f) (hk : 1 ≤ k) : Fld Z h al "java/util/ArrayList" "elementData" "[Ljava/lang/Object;" (.ref dd) ∧ ∃ (kk : ClassId) (vs : List Value), Arv Z h dd kk (.object "java/lang/Object") (10 : Int32) vs .null ∧ vs.getD 0 .null = f := by
  obtain ⟨-, -, -, -, -, a6⟩ := A
  rcases a6 with ⟨b1, -⟩ | ⟨-, -, b3, kk, vs, b4, -, -, b5⟩
  · omega
  · exact ⟨b3, kk, vs, b4, b5⟩
theorem own_tk {bs2 bs3 : List Int32} {n r : Nat} (h : (bs2 ++ [58, 32] ++ bs3).length = n) : (((([] ++ bs2) ++ [58, 32]) ++ bs3) ++ List.replicate r (0 : Int32)).take n = bs2 ++ [58, 32] ++ bs3 := by
  rw [List.nil_append]; exact List.take_left' h
theorem own_vt {Z : State} {h : Heap} {b : Addr} {kb : ClassId} {z : Int32} {d : Value} {bs2 bs3 : List Int32} {n r : Nat} (V : Arv Z h b kb .byte z (((((([] ++ bs2) ++ [58, 32]) ++ bs3) ++ List.replicate r (0 : Int32)).take n).map Value.int) d) (hn : (bs2 ++ [58, 32] ++ bs3).length = n) (hz : z = Int32.ofNat n) :
    Arv Z h b kb .byte (Int32.ofNat (bs2 ++ [58, 32] ++ bs3).length) ((bs2 ++ [58, 32] ++ bs3).map Value.int) d := by
  rw [own_tk hn] at V; rw [hn, ← hz]; exact V
theorem own_n4D {x a b c d dn : Addr} {n : Nat} (m : own_n4 x a b c d) (hd : dn = b ∨ n ≤ dn) (lt : x < n) : own_n4 x a dn c d := ⟨m.1, own_neD hd m.2.1 lt, m.2.2.1, m.2.2.2⟩
theorem own_n4E {x a b c d dn : Addr} {n : Nat} (m : own_n4 x a b c d) (hd : dn = d ∨ n ≤ dn) (lt : x < n) : own_n4 x a b c dn := ⟨m.1, m.2.1, m.2.2.1, own_neD hd m.2.2.2 lt⟩
theorem own_CPSadd1 {Z : State} {wD : Addr} {h : Heap} {n0 : Nat} {p al1 dn al2 dd2 sa ba s1 b1 s2 b2 : Addr} {k1 k2 : Nat} {f1 f2 : Value} {t1 t2 tt : List Int32} (gp : n0 ≤ p) (Ep : Exa Z h p "com/example/shaper/shaper/core/ConfigProblems") (F1 : Fld Z h p "com/example/shaper/shaper/core/ConfigProblems" "violations" "Ljava/util/List;" (.ref al1)) (F2 : Fld Z h p "com/example/shaper/shaper/core/ConfigProblems" "unsupported" "Ljava/util/List;" (.ref al2))
    (A1 : own_AL Z wD h n0 al1 (k1 + 1) dn (own_fst k1 sa f1)) (A2 : own_AL Z wD h n0 al2 k2 dd2 f2) (q : p ≠ al1 ∧ p ≠ dn ∧ p ≠ al2 ∧ p ≠ dd2 ∧ al1 ≠ al2 ∧ al1 ≠ dd2 ∧ dn ≠ al2 ∧ dn ≠ dd2) (S1 : own_SX Z h k1 f1 t1 s1 b1) (S2 : own_SX Z h k2 f2 t2 s2 b2) (SN : own_SX Z h 1 (.ref sa) tt sa ba)
    (m1 : own_n4 s1 al1 dn al2 dd2) (m2 : own_n4 b1 al1 dn al2 dd2) (m3 : own_n4 s2 al1 dn al2 dd2) (m4 : own_n4 b2 al1 dn al2 dd2) (m5 : own_n4 sa al1 dn al2 dd2) (m6 : own_n4 ba al1 dn al2 dd2) : own_CPS Z wD h n0 p (k1 + 1) k2 (own_t k1 tt t1) t2 := by
  obtain ⟨q1, q2, q3, q4, q5, q6, q7, q8⟩ := q
  rcases Nat.eq_zero_or_pos k1 with rfl | hk
  · exact ⟨al1, dn, al2, dd2, _, f2, sa, ba, s2, b2, gp, Ep, F1, F2, A1, A2, q1, q2, q3, q4, q5, q6, q7, q8, SN, S2, m5, m6, m3, m4⟩
  · exact ⟨al1, dn, al2, dd2, _, f2, s1, b1, s2, b2, gp, Ep, F1, F2, A1, A2, q1, q2, q3, q4, q5, q6, q7, q8, own_SXup hk S1, S2, m1, m2, m3, m4⟩
theorem own_CPSadd2 {Z : State} {wD : Addr} {h : Heap} {n0 : Nat} {p al1 dd1 al2 dn sa ba s1 b1 s2 b2 : Addr} {k1 k2 : Nat} {f1 f2 : Value} {t1 t2 tt : List Int32} (gp : n0 ≤ p) (Ep : Exa Z h p "com/example/shaper/shaper/core/ConfigProblems") (F1 : Fld Z h p "com/example/shaper/shaper/core/ConfigProblems" "violations" "Ljava/util/List;" (.ref al1)) (F2 : Fld Z h p "com/example/shaper/shaper/core/ConfigProblems" "unsupported" "Ljava/util/List;" (.ref al2))
    (A1 : own_AL Z wD h n0 al1 k1 dd1 f1) (A2 : own_AL Z wD h n0 al2 (k2 + 1) dn (own_fst k2 sa f2)) (q : p ≠ al1 ∧ p ≠ dd1 ∧ p ≠ al2 ∧ p ≠ dn ∧ al1 ≠ al2 ∧ al1 ≠ dn ∧ dd1 ≠ al2 ∧ dd1 ≠ dn) (S1 : own_SX Z h k1 f1 t1 s1 b1) (S2 : own_SX Z h k2 f2 t2 s2 b2) (SN : own_SX Z h 1 (.ref sa) tt sa ba)
    (m1 : own_n4 s1 al1 dd1 al2 dn) (m2 : own_n4 b1 al1 dd1 al2 dn) (m3 : own_n4 s2 al1 dd1 al2 dn) (m4 : own_n4 b2 al1 dd1 al2 dn) (m5 : own_n4 sa al1 dd1 al2 dn) (m6 : own_n4 ba al1 dd1 al2 dn) : own_CPS Z wD h n0 p k1 (k2 + 1) t1 (own_t k2 tt t2) := by
  obtain ⟨q1, q2, q3, q4, q5, q6, q7, q8⟩ := q
  rcases Nat.eq_zero_or_pos k2 with rfl | hk
  · exact ⟨al1, dd1, al2, dn, f1, _, s1, b1, sa, ba, gp, Ep, F1, F2, A1, A2, q1, q2, q3, q4, q5, q6, q7, q8, S1, SN, m1, m2, m5, m6⟩
  · exact ⟨al1, dd1, al2, dn, f1, _, s1, b1, s2, b2, gp, Ep, F1, F2, A1, A2, q1, q2, q3, q4, q5, q6, q7, q8, S1, own_SXup hk S2, m1, m2, m3, m4⟩
/-- a char by its low byte, and what stands in a byte[] of it -/
def own_ch (x : Int32) : Int32 := (x &&& 255).toUInt32.toUInt16.toUInt32.toInt32
def own_sh (x k : Int32) : Int32 := (x.toUInt32 >>> (k &&& 31).toUInt32).toInt32
def own_b8 (c : Int32) : Int32 := c.toInt8.toInt32
theorem own_nb8 (c : Int32) : nar .byte (c.toInt8.toInt32) = own_b8 c := by
  show (c.toInt8.toInt32).toInt8.toInt32 = c.toInt8.toInt32
  rw [Int8.toInt8_toInt32]
/-- what a '+' of two chars and what one char and the default reason spell -/
def own_tv (c d : Int32) : List Int32 := [own_b8 c, 58, 32, own_b8 d]
def own_td (c : Int32) : List Int32 := [own_b8 c, 58, 32, 110, 111, 116, 32, 115, 117, 112, 112, 111, 114, 116, 101, 100, 32, 121, 101, 116]
theorem own_lt12 {x : Int32} (h : x < (1 : Int32)) : x < (2 : Int32) := by
  rw [Int32.lt_iff_toInt_lt] at *
  have e1 : (1 : Int32).toInt = 1 := rfl
  have e2 : (2 : Int32).toInt = 2 := rfl
  omega
def own_ie (x : Int32) : Int32 := if x = (0 : Int32) then 1 else 0
theorem own_ie0 {j : Nat} (h1 : 1 ≤ j) (h2 : j ≤ 2) : own_ie (Int32.ofNat j) = (0 : Int32) := by
  obtain rfl | rfl : j = 1 ∨ j = 2 := by omega
  · decide
  · decide
theorem own_ie1 {j : Nat} (h : j = 0) : ¬ own_ie (Int32.ofNat j) = (0 : Int32) := by subst h; decide
theorem own_0lt {j : Nat} (h1 : 1 ≤ j) (h2 : j ≤ 2) : (0 : Int32) < Int32.ofNat j := by
  obtain rfl | rfl : j = 1 ∨ j = 2 := by omega
  · decide
  · decide
theorem own_chok (x : Int32) : ¬ own_ch x < (0 : Int32) ∧ ¬ (255 : Int32) < own_ch x := by
  refine ⟨?_, own_chle x⟩
  rw [Int32.lt_iff_toInt_lt]
  have e : (0 : Int32).toInt = 0 := rfl
  have h1 : (x &&& 255).toBitVec.toNat < 256 := by
    rw [Int32.toBitVec_and, BitVec.toNat_and]
    exact Nat.lt_of_le_of_lt Nat.and_le_right (by decide)
  have h2 : (own_ch x).toInt = ((x &&& 255).toBitVec.toNat : Int) := by
    show (x &&& 255).toUInt32.toUInt16.toUInt32.toInt32.toInt = _
    generalize x &&& 255 = y at h1
    have h3 : y.toUInt32.toUInt16.toUInt32.toInt32 = y := by
      apply Int32.toBitVec_inj.mp
      apply BitVec.eq_of_toNat_eq
      show (BitVec.setWidth 32 (BitVec.setWidth 16 y.toBitVec)).toNat = y.toBitVec.toNat
      simp only [BitVec.toNat_setWidth]
      omega
    rw [h3]
    show y.toBitVec.toInt = _
    rw [BitVec.toInt_eq_toNat_of_lt (by omega)]
  omega
theorem own_narch {c : Int32} (h : ¬ c < (0 : Int32) ∧ ¬ (255 : Int32) < c) : nar .char c = c := by
  show c.toUInt32.toUInt16.toUInt32.toInt32 = c
  have e0 : (0 : Int32).toInt = 0 := rfl
  have e1 : (255 : Int32).toInt = 255 := rfl
  obtain ⟨h1, h2⟩ := h
  rw [Int32.lt_iff_toInt_lt] at h1 h2
  have h4 : c.toBitVec.toNat < 65536 := by
    have h5 : c.toInt = c.toBitVec.toInt := rfl
    have h6 := c.toBitVec.isLt
    rw [h5] at h1 h2
    rw [BitVec.toInt_eq_toNat_cond] at h1 h2
    split at h1 <;> split at h2 <;> omega
  apply Int32.toBitVec_inj.mp
  apply BitVec.eq_of_toNat_eq
  show (BitVec.setWidth 32 (BitVec.setWidth 16 c.toBitVec)).toNat = c.toBitVec.toNat
  simp only [BitVec.toNat_setWidth]
  omega
def own_ok (c : Int32) : Prop := ¬ c < (0 : Int32) ∧ ¬ (255 : Int32) < c
theorem own_all2 {P : Int32 → Prop} {c d : Int32} (hc : P c) (hd : P d) (h1 : P 58) (h2 : P 32) : ∀ x ∈ [c, 58, 32, d], P x := by
  intro x hx
  simp only [List.mem_cons, List.not_mem_nil, or_false] at hx
  rcases hx with rfl | rfl | rfl | rfl
  · exact hc
  · exact h1
  · exact h2
  · exact hd
def own_dc : List Int32 := [58, 32, 110, 111, 116, 32, 115, 117, 112, 112, 111, 114, 116, 101, 100, 32, 121, 101, 116]
theorem own_dcok : ∀ x ∈ own_dc, ¬ x < (0 : Int32) ∧ ¬ (255 : Int32) < x := by decide
theorem own_allD {P : Int32 → Prop} {c : Int32} (hc : P c) (h : ∀ x ∈ own_dc, P x) : ∀ x ∈ c :: own_dc, P x := by
  intro x hx
  rcases List.mem_cons.mp hx with rfl | hx
  · exact hc
  · exact h x hx
theorem own_hi {x : Int32} (h : ¬ x < (0 : Int32) ∧ ¬ (255 : Int32) < x) : ¬ x < (0 : Int32) ∧ ¬ (65535 : Int32) < x := ⟨h.1, fun q => h.2 (by
  rw [Int32.lt_iff_toInt_lt] at *
  have e1 : (255 : Int32).toInt = 255 := rfl
  have e2 : (65535 : Int32).toInt = 65535 := rfl
  omega)⟩

theorem d11_0 : own_D c_37 0 (.aload_n 0, 1) := by decide +kernel
theorem d11_1 : own_D c_37 1 (.getfield 10, 3) := by decide +kernel
theorem d11_4 : own_D c_37 4 (.new 19, 3) := by decide +kernel
theorem hw_70 : own_H (.classLink "com/example/shaper/shaper/core/ConfigProblems" 19 "java/lang/StringBuilder") := own_h 70 rfl
theorem d11_7 : own_D c_37 7 (.dup, 1) := by decide +kernel
theorem d11_8 : own_D c_37 8 (.invokespecial 21, 3) := by decide +kernel
theorem hw_73 : own_H (.methodLink "com/example/shaper/shaper/core/ConfigProblems" 21 mn_8) := own_h 73 rfl
theorem hw_75 : own_H (.code mn_8 jdk_67_method_1_code 1 none) := own_h 75 rfl
theorem hw_74 : own_H (.instanceMethod mn_8) := own_h 74 rfl
theorem d11_11 : own_D c_37 11 (.aload_n 1, 1) := by decide +kernel
theorem d11_12 : own_D c_37 12 (.invokevirtual 22, 3) := by decide +kernel
theorem hw_88 : own_H (.methodLink "com/example/shaper/shaper/core/ConfigProblems" 22 mn_19) := own_h 88 rfl
theorem hw_92 : own_H (.code mn_19 jdk_67_method_7_code 2 (some (.object "java/lang/StringBuilder"))) := own_h 92 rfl
theorem pd_24 : parseMethodDescriptor "(Ljava/lang/String;)Ljava/lang/StringBuilder;" = some ⟨[(.object "java/lang/String")], some (.object "java/lang/StringBuilder")⟩ := by decide +kernel
theorem hw_91 : own_H (.selects "java/lang/StringBuilder" mn_19 mn_19) := own_h 91 rfl
theorem hw_89 : own_H (.declares mn_19) := own_h 89 rfl
theorem hw_90 : own_H (.instanceMethod mn_19) := own_h 90 rfl
theorem d11_15 : own_D c_37 15 (.ldc 26, 2) := by decide +kernel
theorem hw_135 : own_H (.stringLink "com/example/shaper/shaper/core/ConfigProblems" 26 ": ") := own_h 135 rfl
theorem d11_17 : own_D c_37 17 (.invokevirtual 22, 3) := by decide +kernel
theorem d11_20 : own_D c_37 20 (.aload_n 2, 1) := by decide +kernel
theorem d11_21 : own_D c_37 21 (.invokevirtual 22, 3) := by decide +kernel
theorem d11_24 : own_D c_37 24 (.invokevirtual 28, 3) := by decide +kernel
theorem hw_138 : own_H (.methodLink "com/example/shaper/shaper/core/ConfigProblems" 28 mn_28) := own_h 138 rfl
theorem hw_142 : own_H (.code mn_28 jdk_67_method_42_code 1 (some (.object "java/lang/String"))) := own_h 142 rfl
theorem pd_25 : parseMethodDescriptor "()Ljava/lang/String;" = some ⟨[], some (.object "java/lang/String")⟩ := by decide +kernel
theorem hw_141 : own_H (.selects "java/lang/StringBuilder" mn_28 mn_28) := own_h 141 rfl
theorem hw_139 : own_H (.declares mn_28) := own_h 139 rfl
theorem hw_140 : own_H (.instanceMethod mn_28) := own_h 140 rfl
theorem d11_27 : own_D c_37 27 (.invokeinterface 32 2, 5) := by decide +kernel
theorem hw_183 : own_H (.methodLink "com/example/shaper/shaper/core/ConfigProblems" 32 mn_38) := own_h 183 rfl
theorem hw_191 : own_H (.code mn_36 jdk_38_method_25_code 2 (some .boolean)) := own_h 191 rfl
theorem pd_26 : parseMethodDescriptor "(Ljava/lang/Object;)Z" = some ⟨[(.object "java/lang/Object")], some .boolean⟩ := by decide +kernel
theorem hw_186 : own_H (.selects "java/util/ArrayList" mn_38 mn_36) := own_h 186 rfl
theorem hw_184 : own_H (.declares mn_38) := own_h 184 rfl
theorem hw_185 : own_H (.interfaceMethod "java/util/List" "java/util/List" "add" "(Ljava/lang/Object;)Z") := own_h 185 rfl
theorem hw_187 : own_H (.instanceMethod mn_36) := own_h 187 rfl
theorem hw_188 : own_H (.publicMethod mn_36) := own_h 188 rfl
theorem hw_189 : own_H (.unhidden "java/util/ArrayList" "add" "(Ljava/lang/Object;)Z") := own_h 189 rfl
theorem hw_190 : own_H (.castable "java/util/ArrayList" "java/util/List") := own_h 190 rfl
theorem d11_32 : own_D c_37 32 (.pop, 1) := by decide +kernel
theorem d11_33 : own_D c_37 33 (.return_, 1) := by decide +kernel
theorem own_ef11 (m : MethodId) (a1 r2 r3 : Addr) : entryFrame m #[(.ref a1), (.ref r2), (.ref r3)] 3 = mkF m 0 #[rv a1, rv r2, rv r3] [] := by first | (simp [entryFrame, mkF, argsToLocals, Value.category]; done) | rfl
def own_Q11 (Z : State) (a1 r2 r3 : Addr) (k1 k2 : Nat) (t1 t2 : List Int32) (b_2 : Addr) (kb2 : ClassId) (bs2 : List Int32) (b_3 : Addr) (kb3 : ClassId) (bs3 : List Int32) (wc : Int32) (wD : Addr) (kD : ClassId) (h0 : Heap) (n0 : Nat) (v : Option Value) (h : Heap) (L : List Loc) : Prop := v = none ∧ Fr n0 L ∧ Old Z n0 h ∧ own_CPS Z wD h n0 a1 (k1 + 1) k2 (own_t k1 (bs2 ++ [58, 32] ++ bs3) t1) t2
theorem own_rm11 (l Z a0) (hw : own_W a0 Z) (ws) (a1 r2 r3 : Addr) (k1 k2 : Nat) (t1 t2 : List Int32) (b_2 : Addr) (kb2 : ClassId) (bs2 : List Int32) (b_3 : Addr) (kb3 : ClassId) (bs3 : List Int32) (wc : Int32) (wD : Addr) (kD : ClassId) (h0 : Heap) (n0 : Nat) (Z0 : n0 ≤ h0.size) (O0 : Old Z n0 h0) (SS : own_St Z wc wD kD) (hEL : EW Z a0 own_EL) (hk : k1 + k2 ≤ 7) (hb2 : bs2.length = 1) (hb3 : bs3.length = 1) (P0 : own_CPS Z wD h0 n0 a1 k1 k2 t1 t2) (S2e : Exa Z h0 r2 "java/lang/String") (S2v : Fld Z h0 r2 "java/lang/String" "value" "[B" (.ref b_2)) (S2c : Fld Z h0 r2 "java/lang/String" "coder" "B" (.int 0)) (S2a : Arv Z h0 b_2 kb2 .byte (1 : Int32) ((bs2).map Value.int) (.int 0)) (S3e : Exa Z h0 r3 "java/lang/String") (S3v : Fld Z h0 r3 "java/lang/String" "value" "[B" (.ref b_3)) (S3c : Fld Z h0 r3 "java/lang/String" "coder" "B" (.int 0)) (S3a : Arv Z h0 b_3 kb3 .byte (1 : Int32) ((bs3).map Value.int) (.int 0)) :
    own_MH l Z ws mn_37 c_37 3 none rm_34 #[(.ref a1), (.ref r2), (.ref r3)] h0 (own_Q11 Z a1 r2 r3 k1 k2 t1 t2 b_2 kb2 bs2 b_3 kb3 bs3 wc wD kD h0 n0) := by
  refine own_bodyH (plainFor_of_name pn_1) (fun m => own_ef11 m a1 r2 r3) ?_
  intro p e s m below meth c T0 X0 hx hby hml hZ hown hnm hret hlk e0 hs0 S0 CH0
  have hown : (s.setVm s.vm).vm.findClass "com/example/shaper/shaper/core/ConfigProblems" = some m.cls := hown
  have CR0 := CHr.refl CH0
  have kz0 : h0.size ≤ h0.size := Nat.le_refl _
  have hnm : meth.name = "invalid" := hnm
  have N0 := Fr.nil n0
  obtain ⟨al1, dd1, al2, dd2, f1, f2, s1, b1, s2, b2, gp, Ep, Fvi, Fun, A1, A2, q1, q2, q3, q4, q5, q6, q7, q8, X1, X2, m1, m2, m3, m4⟩ := id P0
  have Eal := A1.2.2.1
  refine own_stH _ (own_aloadN 1 X0 hx hby d11_0) ?_
  obtain ⟨T211, X211, e211, st211⟩ := getF X0 hx hZ hown (host := "") (Or.inl (hw_33 hw)) Via.refl e0 Fvi (g := (mkF m 1 #[rv a1, rv r2, rv r3] [(.ref a1)])) rfl rfl (hb hby d11_1)
  refine own_stepH (g' := (mkF m 4 #[rv a1, rv r2, rv r3] [(.ref al1)])) st211 ?_
  obtain ⟨T212, h212, X212, e212, E212, A212, D212, -, st212⟩ := newO X211 hx hZ hown (hw_70 hw) (hw_71 hw) (hw_72 hw) e211 (g := (mkF m 4 #[rv a1, rv r2, rv r3] [(.ref al1)])) rfl (hb hby d11_4) (by decide) (by decide)
  obtain ⟨b212, g212⟩ : ∃ z, z = h0.size := ⟨_, rfl⟩
  rw [← g212] at A212 D212 st212
  have g_b212 : n0 ≤ b212 := Nat.le_trans Z0 (Nat.le_of_eq g212.symm)
  have ne_a1_b212 : a1 ≠ b212 := own_ne Ep.lt g212
  have ne_al1_b212 : al1 ≠ b212 := own_ne (own_ALl1 A1).lt g212
  have ne_dd1_b212 : dd1 ≠ b212 := own_ne (own_ALl2 A1).lt g212
  have ne_al2_b212 : al2 ≠ b212 := own_ne (own_ALl1 A2).lt g212
  have ne_dd2_b212 : dd2 ≠ b212 := own_ne (own_ALl2 A2).lt g212
  have ne_s1_b212 : s1 ≠ b212 := own_ne (own_SXl1 X1).lt g212
  have ne_b1_b212 : b1 ≠ b212 := own_ne (own_SXl2 X1).lt g212
  have ne_s2_b212 : s2 ≠ b212 := own_ne (own_SXl1 X2).lt g212
  have ne_b2_b212 : b2 ≠ b212 := own_ne (own_SXl2 X2).lt g212
  have ne_r2_b212 : r2 ≠ b212 := own_ne S2e.lt g212
  have ne_b_2_b212 : b_2 ≠ b212 := own_ne S2a.lt g212
  have ne_r3_b212 : r3 ≠ b212 := own_ne S3e.lt g212
  have ne_b_3_b212 : b_3 ≠ b212 := own_ne S3a.lt g212
  have Z212 : n0 ≤ h212.size := Nat.le_trans Z0 E212.1
  have C212 : CHr Z own_EL s.vm h0 s.vm h212 := CHr.ext E212 CR0.1
  have CR212 := CR0.trans C212
  have kz212 : _ ≤ h212.size := Nat.le_trans kz0 E212.1
  have O212 : Old Z n0 h212 := O0.ext E212
  have u1 := Ep.ext E212
  have u2 := Fvi.ext E212
  have u3 := Fun.ext E212
  have u4 := own_ALext A1 E212
  have u5 := own_ALext A2 E212
  have u6 := own_SXext X1 E212
  have u7 := own_SXext X2 E212
  have u8 := Eal.ext E212
  have u9 := S2e.ext E212
  have u10 := S2v.ext E212
  have u11 := S2c.ext E212
  have u12 := S2a.ext E212
  have u13 := S3e.ext E212
  have u14 := S3v.ext E212
  have u15 := S3c.ext E212
  have u16 := S3a.ext E212
  have F_value_b212 : Fld Z h212 b212 "java/lang/AbstractStringBuilder" "value" "[B" .null := D212 (Or.inl (hw_85 hw)) (ty := (.array .byte)) (by decide)
  have F_coder_b212 : Fld Z h212 b212 "java/lang/AbstractStringBuilder" "coder" "B" (.int 0) := D212 (Or.inl (hw_87 hw)) (ty := .byte) (by decide)
  have F_count_b212 : Fld Z h212 b212 "java/lang/AbstractStringBuilder" "count" "I" (.int 0) := D212 (Or.inl (hw_109 hw)) (ty := .int) (by decide)
  refine own_stepH (g' := (mkF m 7 #[rv a1, rv r2, rv r3] [(.ref b212), (.ref al1)])) st212 ?_
  refine own_stH _ (own_dup 8 X212 hx hby d11_7) ?_
  obtain ⟨_, _, ⟨T213, L213, k213, n213⟩, -, X213, ⟨Lc213, hQ213, l213, y213, z213⟩, st213⟩ := X212.specialBack hx (y := mn_8) rfl hown (mvT hZ (hw_73 hw)) (mvT hZ (hw_74 hw)) (mvT hZ (hw_75 hw)) (by decide) (backOf (W := 2) (own_rm12 l Z a0 hw [] b212 wc wD kD h212 n0 Z212 O212 SS A212 F_value_b212 F_coder_b212 F_count_b212 g_b212) hZ (hw_75 hw) (hw_72 hw) (by decide) (by decide)) (g := (mkF m 8 #[rv a1, rv r2, rv r3] [(.ref b212), (.ref b212), (.ref al1)])) rfl (by rw [hml]; rfl) (Steps.refl _) (a := b212) (argsL := []) (rest := [(.ref b212), (.ref al1)]) (lenOf pd_20 rfl) rfl own_z0 (hb hby d11_8) (fun _ _ => ⟨rfl, e212, (by decide : 1 + 1 ≤ _), (by decide : 4 + 16 ≤ _)⟩)
  dsimp only [Pt.U, Pt.locs, Pt.cells, Pt.slots] at X213 l213 y213 z213 st213 hQ213
  subst l213 y213 z213
  obtain ⟨vb213, kb213, rfl, Nq213, K213, gb213, Ex213, Fv213, Fc213, Fn213, V213⟩ := hQ213
  have N213 := Fr.app N0 Nq213
  have g_vb213 : n0 ≤ vb213 := Nat.le_trans Z212 gb213
  have ne_a1_vb213 : a1 ≠ vb213 := Nat.ne_of_lt (Nat.lt_of_lt_of_le u1.lt gb213)
  have ne_al1_vb213 : al1 ≠ vb213 := Nat.ne_of_lt (Nat.lt_of_lt_of_le (own_ALl1 u4).lt gb213)
  have ne_dd1_vb213 : dd1 ≠ vb213 := Nat.ne_of_lt (Nat.lt_of_lt_of_le (own_ALl2 u4).lt gb213)
  have ne_al2_vb213 : al2 ≠ vb213 := Nat.ne_of_lt (Nat.lt_of_lt_of_le (own_ALl1 u5).lt gb213)
  have ne_dd2_vb213 : dd2 ≠ vb213 := Nat.ne_of_lt (Nat.lt_of_lt_of_le (own_ALl2 u5).lt gb213)
  have ne_s1_vb213 : s1 ≠ vb213 := Nat.ne_of_lt (Nat.lt_of_lt_of_le (own_SXl1 u6).lt gb213)
  have ne_b1_vb213 : b1 ≠ vb213 := Nat.ne_of_lt (Nat.lt_of_lt_of_le (own_SXl2 u6).lt gb213)
  have ne_s2_vb213 : s2 ≠ vb213 := Nat.ne_of_lt (Nat.lt_of_lt_of_le (own_SXl1 u7).lt gb213)
  have ne_b2_vb213 : b2 ≠ vb213 := Nat.ne_of_lt (Nat.lt_of_lt_of_le (own_SXl2 u7).lt gb213)
  have ne_r2_vb213 : r2 ≠ vb213 := Nat.ne_of_lt (Nat.lt_of_lt_of_le u9.lt gb213)
  have ne_b_2_vb213 : b_2 ≠ vb213 := Nat.ne_of_lt (Nat.lt_of_lt_of_le u12.lt gb213)
  have ne_r3_vb213 : r3 ≠ vb213 := Nat.ne_of_lt (Nat.lt_of_lt_of_le u13.lt gb213)
  have ne_b_3_vb213 : b_3 ≠ vb213 := Nat.ne_of_lt (Nat.lt_of_lt_of_le u16.lt gb213)
  have ne_b212_vb213 : b212 ≠ vb213 := Nat.ne_of_lt (Nat.lt_of_lt_of_le A212.lt gb213)
  have C213 : CHr Z own_EL s.vm h212 s.vm T213.heap := CHr.keep K213 (sfS (Safe.exa hZ.alike A212 (by decide) (by decide)) sf0) CR212.1
  have CR213 := CR212.trans C213
  have kz213 : _ ≤ T213.heap.size := Nat.le_trans kz212 K213.1
  have Z213 : n0 ≤ T213.heap.size := Nat.le_trans Z212 K213.1
  have O213 : Old Z n0 T213.heap := O212.keep K213 (allS g_b212 all0)
  have u17 := u1.keep K213
  have u18 := u2.keep K213 (ninS ne_a1_b212 nin0)
  have u19 := u3.keep K213 (ninS ne_a1_b212 nin0)
  have u20 := own_ALkeep u4 K213 (ninS ne_al1_b212 nin0) (ninS ne_dd1_b212 nin0)
  have u21 := own_ALkeep u5 K213 (ninS ne_al2_b212 nin0) (ninS ne_dd2_b212 nin0)
  have u22 := own_SXkeep u6 K213 (ninS ne_s1_b212 nin0) (ninS ne_b1_b212 nin0)
  have u23 := own_SXkeep u7 K213 (ninS ne_s2_b212 nin0) (ninS ne_b2_b212 nin0)
  have u24 := u8.keep K213
  have u25 := u9.keep K213
  have u26 := u10.keep K213 (ninS ne_r2_b212 nin0)
  have u27 := u11.keep K213 (ninS ne_r2_b212 nin0)
  have u28 := u12.keep K213 (ninS ne_b_2_b212 nin0)
  have u29 := u13.keep K213
  have u30 := u14.keep K213 (ninS ne_r3_b212 nin0)
  have u31 := u15.keep K213 (ninS ne_r3_b212 nin0)
  have u32 := u16.keep K213 (ninS ne_b_3_b212 nin0)
  have Sf_vb213 : Safe Z own_EL s.vm T213.heap vb213 := Safe.keep K213 (sfS (Safe.exa hZ.alike A212 (by decide) (by decide)) sf0) CR212.1 (Safe.new gb213)
  refine own_jumpH (g' := (mkF m 11 #[rv a1, rv r2, rv r3] [(.ref b212), (.ref al1)])) st213 ?_
  refine own_stH _ (own_aloadN 12 X213 hx hby d11_11) ?_
  obtain ⟨cq214, kq214, q214a, q214b, q214c⟩ := isOf hZ rfl Ex213
  obtain ⟨_, _, ⟨T214, L214, k214, n214⟩, -, X214, ⟨Lc214, hQ214, l214, y214, z214⟩, st214⟩ := X213.virtualBack hx (y := mn_19) (z := mn_19) hown (mvT hZ (hw_88 hw)) (mvT hZ (hw_89 hw)) (notFace_of_selects (args := #[]) (mvT hZ (hw_91 hw))) (mvT hZ (hw_91 hw)) (mvT hZ (hw_90 hw)) (by decide) (backOf (W := 1) (own_rm14_0_1 l Z a0 hw [] b212 r2 vb213 kb213 b_2 bs2 kb2 [] wc wD kD T213.heap n0 Z213 O213 SS rfl hb2 Ex213 Fv213 Fc213 Fn213 V213 u25 u26 u27 u28 g_b212 ne_b212_vb213 (Ne.symm ne_r2_b212) (Ne.symm ne_b_2_b212) ne_r2_vb213 ne_b_2_vb213 g_vb213) hZ (hw_92 hw) (hw_72 hw) (by decide) (by decide)) q214a q214c (g := (mkF m 12 #[rv a1, rv r2, rv r3] [(.ref r2), (.ref b212), (.ref al1)])) rfl (by rw [hml]; rfl) (Steps.refl _) (argsL := [(.ref r2)]) (rest := [(.ref al1)]) (lenOf pd_24 rfl) rfl own_z0 (hb hby d11_12) (fun _ _ => ⟨rfl, rfl, (by decide : 2 + 0 ≤ _), (by decide : 20 + 0 ≤ _)⟩)
  dsimp only [Pt.U, Pt.locs, Pt.cells, Pt.slots] at X214 l214 y214 z214 st214 hQ214
  subst l214 y214 z214
  obtain ⟨rfl, Nq214, K214, Ex214, Fv214, Fc214, Fn214, V214⟩ := hQ214
  have N214 := Fr.app N213 Nq214
  have C214 : CHr Z own_EL s.vm T213.heap s.vm T214.heap := CHr.keep K214 (sfS (Safe.exa hZ.alike Ex213 (by decide) (by decide)) (sfS Sf_vb213 sf0)) CR213.1
  have CR214 := CR213.trans C214
  have kz214 : _ ≤ T214.heap.size := Nat.le_trans kz213 K214.1
  have Z214 : n0 ≤ T214.heap.size := Nat.le_trans Z213 K214.1
  have O214 : Old Z n0 T214.heap := O213.keep K214 (allS g_b212 (allS g_vb213 all0))
  have u34 := u17.keep K214
  have u35 := u18.keep K214 (ninS ne_a1_b212 (ninS ne_a1_vb213 nin0))
  have u36 := u19.keep K214 (ninS ne_a1_b212 (ninS ne_a1_vb213 nin0))
  have u37 := own_ALkeep u20 K214 (ninS ne_al1_b212 (ninS ne_al1_vb213 nin0)) (ninS ne_dd1_b212 (ninS ne_dd1_vb213 nin0))
  have u38 := own_ALkeep u21 K214 (ninS ne_al2_b212 (ninS ne_al2_vb213 nin0)) (ninS ne_dd2_b212 (ninS ne_dd2_vb213 nin0))
  have u39 := own_SXkeep u22 K214 (ninS ne_s1_b212 (ninS ne_s1_vb213 nin0)) (ninS ne_b1_b212 (ninS ne_b1_vb213 nin0))
  have u40 := own_SXkeep u23 K214 (ninS ne_s2_b212 (ninS ne_s2_vb213 nin0)) (ninS ne_b2_b212 (ninS ne_b2_vb213 nin0))
  have u41 := u24.keep K214
  have u46 := u29.keep K214
  have u47 := u30.keep K214 (ninS ne_r3_b212 (ninS ne_r3_vb213 nin0))
  have u48 := u31.keep K214 (ninS ne_r3_b212 (ninS ne_r3_vb213 nin0))
  have u49 := u32.keep K214 (ninS ne_b_3_b212 (ninS ne_b_3_vb213 nin0))
  have u51 := C214.safe V213.lt Sf_vb213
  refine own_jumpH (g' := (mkF m 15 #[rv a1, rv r2, rv r3] [(.ref b212), (.ref al1)])) st214 ?_
  obtain ⟨la215, T215, h215, kk215, lb215, kb215, X215, e215, E215, S215, kz215, hZ, hown, Ex215, Fc215, Fv215, V215, lta215, ltb215, C215, -, nl215, st215⟩ := ldcCH (vm0 := s.vm) (EL := own_EL) X214 hx hZ hown (hw_135 hw) (own_wS hw) rfl S0 kz214 hEL own_mem26 CR214.1 (vs := ([58, 32] : List Int32).map Value.int) (z := (2 : Int32)) own_txt26 (by decide) rfl (g := (mkF m 15 #[rv a1, rv r2, rv r3] [(.ref b212), (.ref al1)])) rfl (hb hby d11_15) (n := 8) own_tln26 (by decide) (by decide) (by decide)
  have CR215 := CR214.trans C215
  have Z215 : n0 ≤ h215.size := Nat.le_trans Z214 E215.1
  have O215 : Old Z n0 h215 := O214.ext E215
  have u52 := u34.ext E215
  have u53 := u35.ext E215
  have u54 := u36.ext E215
  have u55 := own_ALext u37 E215
  have u56 := own_ALext u38 E215
  have u57 := own_SXext u39 E215
  have u58 := own_SXext u40 E215
  have u59 := u41.ext E215
  have u64 := u46.ext E215
  have u65 := u47.ext E215
  have u66 := u48.ext E215
  have u67 := u49.ext E215
  have u68 := Ex214.ext E215
  have u69 := C215.safe V214.lt u51
  have u70 := Fv214.ext E215
  have u71 := Fc214.ext E215
  have u72 := Fn214.ext E215
  have u73 := V214.ext E215
  obtain ⟨ne_b212_la215, ne_b212_lb215⟩ := nl215 b212 (Safe.exa hZ.alike u68 (by decide) (by decide))
  obtain ⟨ne_vb213_la215, ne_vb213_lb215⟩ := nl215 vb213 u69
  refine own_stepH (g' := (mkF m 17 #[rv a1, rv r2, rv r3] [(.ref la215), (.ref b212), (.ref al1)])) st215 ?_
  obtain ⟨cq216, kq216, q216a, q216b, q216c⟩ := isOf hZ e215 u68
  obtain ⟨_, _, ⟨T216, L216, k216, n216⟩, -, X216, ⟨Lc216, hQ216, l216, y216, z216⟩, st216⟩ := X215.virtualBack hx (y := mn_19) (z := mn_19) hown (mvT hZ (hw_88 hw)) (mvT hZ (hw_89 hw)) (notFace_of_selects (args := #[]) (mvT hZ (hw_91 hw))) (mvT hZ (hw_91 hw)) (mvT hZ (hw_90 hw)) (by decide) (backOf (W := 1) (own_rm14_1_2 l Z a0 hw [] b212 la215 vb213 kb213 lb215 ([58, 32] : List Int32) kb215 ([] ++ bs2) wc wD kD h215 n0 Z215 O215 SS (by simp [hb2]) rfl u68 u70 u71 u72 u73 Ex215 Fv215 Fc215 V215 g_b212 ne_b212_vb213 ne_b212_la215 ne_b212_lb215 (Ne.symm ne_vb213_la215) (Ne.symm ne_vb213_lb215) g_vb213) hZ (hw_92 hw) (hw_72 hw) (by decide) (by decide)) q216a q216c (g := (mkF m 17 #[rv a1, rv r2, rv r3] [(.ref la215), (.ref b212), (.ref al1)])) rfl (by rw [hml]; rfl) (Steps.refl _) (argsL := [(.ref la215)]) (rest := [(.ref al1)]) (lenOf pd_24 rfl) rfl own_z0 (hb hby d11_17) (fun _ _ => ⟨rfl, e215, (by decide : 4 + 0 ≤ _), (by decide : 32 + 0 ≤ _)⟩)
  dsimp only [Pt.U, Pt.locs, Pt.cells, Pt.slots] at X216 l216 y216 z216 st216 hQ216
  subst l216 y216 z216
  obtain ⟨rfl, Nq216, K216, Ex216, Fv216, Fc216, Fn216, V216⟩ := hQ216
  have N216 := Fr.app N214 Nq216
  have C216 : CHr Z own_EL T215.vm h215 T215.vm T216.heap := CHr.keep K216 (sfS (Safe.exa hZ.alike u68 (by decide) (by decide)) (sfS u69 sf0)) CR215.1
  have CR216 := CR215.trans C216
  have kz216 : _ ≤ T216.heap.size := Nat.le_trans kz215 K216.1
  have Z216 : n0 ≤ T216.heap.size := Nat.le_trans Z215 K216.1
  have O216 : Old Z n0 T216.heap := O215.keep K216 (allS g_b212 (allS g_vb213 all0))
  have u74 := u52.keep K216
  have u75 := u53.keep K216 (ninS ne_a1_b212 (ninS ne_a1_vb213 nin0))
  have u76 := u54.keep K216 (ninS ne_a1_b212 (ninS ne_a1_vb213 nin0))
  have u77 := own_ALkeep u55 K216 (ninS ne_al1_b212 (ninS ne_al1_vb213 nin0)) (ninS ne_dd1_b212 (ninS ne_dd1_vb213 nin0))
  have u78 := own_ALkeep u56 K216 (ninS ne_al2_b212 (ninS ne_al2_vb213 nin0)) (ninS ne_dd2_b212 (ninS ne_dd2_vb213 nin0))
  have u79 := own_SXkeep u57 K216 (ninS ne_s1_b212 (ninS ne_s1_vb213 nin0)) (ninS ne_b1_b212 (ninS ne_b1_vb213 nin0))
  have u80 := own_SXkeep u58 K216 (ninS ne_s2_b212 (ninS ne_s2_vb213 nin0)) (ninS ne_b2_b212 (ninS ne_b2_vb213 nin0))
  have u81 := u59.keep K216
  have u86 := u64.keep K216
  have u87 := u65.keep K216 (ninS ne_r3_b212 (ninS ne_r3_vb213 nin0))
  have u88 := u66.keep K216 (ninS ne_r3_b212 (ninS ne_r3_vb213 nin0))
  have u89 := u67.keep K216 (ninS ne_b_3_b212 (ninS ne_b_3_vb213 nin0))
  have u91 := C216.safe u73.lt u69
  refine own_jumpH (g' := (mkF m 20 #[rv a1, rv r2, rv r3] [(.ref b212), (.ref al1)])) st216 ?_
  refine own_stH _ (own_aloadN 21 X216 hx hby d11_20) ?_
  obtain ⟨cq217, kq217, q217a, q217b, q217c⟩ := isOf hZ rfl Ex216
  obtain ⟨_, _, ⟨T217, L217, k217, n217⟩, -, X217, ⟨Lc217, hQ217, l217, y217, z217⟩, st217⟩ := X216.virtualBack hx (y := mn_19) (z := mn_19) hown (mvT hZ (hw_88 hw)) (mvT hZ (hw_89 hw)) (notFace_of_selects (args := #[]) (mvT hZ (hw_91 hw))) (mvT hZ (hw_91 hw)) (mvT hZ (hw_90 hw)) (by decide) (backOf (W := 1) (own_rm14_3_1 l Z a0 hw [] b212 r3 vb213 kb213 b_3 bs3 kb3 (([] ++ bs2) ++ [58, 32]) wc wD kD T216.heap n0 Z216 O216 SS (by simp [hb2]) hb3 Ex216 Fv216 Fc216 Fn216 V216 u86 u87 u88 u89 g_b212 ne_b212_vb213 (Ne.symm ne_r3_b212) (Ne.symm ne_b_3_b212) ne_r3_vb213 ne_b_3_vb213 g_vb213) hZ (hw_92 hw) (hw_72 hw) (by decide) (by decide)) q217a q217c (g := (mkF m 21 #[rv a1, rv r2, rv r3] [(.ref r3), (.ref b212), (.ref al1)])) rfl (by rw [hml]; rfl) (Steps.refl _) (argsL := [(.ref r3)]) (rest := [(.ref al1)]) (lenOf pd_24 rfl) rfl own_z0 (hb hby d11_21) (fun _ _ => ⟨rfl, rfl, (by decide : 4 + 0 ≤ _), (by decide : 32 + 0 ≤ _)⟩)
  dsimp only [Pt.U, Pt.locs, Pt.cells, Pt.slots] at X217 l217 y217 z217 st217 hQ217
  subst l217 y217 z217
  obtain ⟨rfl, Nq217, K217, Ex217, Fv217, Fc217, Fn217, V217⟩ := hQ217
  have N217 := Fr.app N216 Nq217
  have C217 : CHr Z own_EL T215.vm T216.heap T215.vm T217.heap := CHr.keep K217 (sfS (Safe.exa hZ.alike Ex216 (by decide) (by decide)) (sfS u91 sf0)) CR216.1
  have CR217 := CR216.trans C217
  have kz217 : _ ≤ T217.heap.size := Nat.le_trans kz216 K217.1
  have Z217 : n0 ≤ T217.heap.size := Nat.le_trans Z216 K217.1
  have O217 : Old Z n0 T217.heap := O216.keep K217 (allS g_b212 (allS g_vb213 all0))
  have u96 := u74.keep K217
  have u97 := u75.keep K217 (ninS ne_a1_b212 (ninS ne_a1_vb213 nin0))
  have u98 := u76.keep K217 (ninS ne_a1_b212 (ninS ne_a1_vb213 nin0))
  have u99 := own_ALkeep u77 K217 (ninS ne_al1_b212 (ninS ne_al1_vb213 nin0)) (ninS ne_dd1_b212 (ninS ne_dd1_vb213 nin0))
  have u100 := own_ALkeep u78 K217 (ninS ne_al2_b212 (ninS ne_al2_vb213 nin0)) (ninS ne_dd2_b212 (ninS ne_dd2_vb213 nin0))
  have u101 := own_SXkeep u79 K217 (ninS ne_s1_b212 (ninS ne_s1_vb213 nin0)) (ninS ne_b1_b212 (ninS ne_b1_vb213 nin0))
  have u102 := own_SXkeep u80 K217 (ninS ne_s2_b212 (ninS ne_s2_vb213 nin0)) (ninS ne_b2_b212 (ninS ne_b2_vb213 nin0))
  have u103 := u81.keep K217
  refine own_jumpH (g' := (mkF m 24 #[rv a1, rv r2, rv r3] [(.ref b212), (.ref al1)])) st217 ?_
  obtain ⟨cq218, kq218, q218a, q218b, q218c⟩ := isOf hZ rfl Ex217
  obtain ⟨_, _, ⟨T218, L218, k218, n218⟩, -, X218, ⟨Lc218, hQ218, l218, y218, z218⟩, st218⟩ := X217.virtualBack hx (y := mn_28) (z := mn_28) hown (mvT hZ (hw_138 hw)) (mvT hZ (hw_139 hw)) (notFace_of_selects (args := #[]) (mvT hZ (hw_141 hw))) (mvT hZ (hw_141 hw)) (mvT hZ (hw_140 hw)) (by decide) (backOf (W := 1) (own_rm22_t4 l Z a0 hw [] b212 vb213 kb213 ((((([] ++ bs2) ++ [58, 32])) ++ bs3) ++ List.replicate 12 (0 : Int32)) wc wD kD T217.heap n0 Z217 O217 SS (by simp [hb2, hb3]) Ex217 Fv217 Fc217 Fn217 V217) hZ (hw_142 hw) (hw_72 hw) (by decide) (by decide)) q218a q218c (g := (mkF m 24 #[rv a1, rv r2, rv r3] [(.ref b212), (.ref al1)])) rfl (by rw [hml]; rfl) (Steps.refl _) (argsL := []) (rest := [(.ref al1)]) (lenOf pd_25 rfl) rfl own_z0 (hb hby d11_24) (fun _ _ => ⟨rfl, rfl, (by decide : 4 + 2 ≤ _), (by decide : 32 + 8 ≤ _)⟩)
  dsimp only [Pt.U, Pt.locs, Pt.cells, Pt.slots] at X218 l218 y218 z218 st218 hQ218
  subst l218 y218 z218
  obtain ⟨sa218, ba218, kb218, rfl, Nq218, K218, ga218, gb218, ne218, Ex218, Fv218, Fc218, V218⟩ := hQ218
  have N218 := Fr.app N217 Nq218
  have ne_al1_sa218 : al1 ≠ sa218 := Nat.ne_of_lt (Nat.lt_of_lt_of_le (own_ALl1 u99).lt ga218)
  have ne_dd1_sa218 : dd1 ≠ sa218 := Nat.ne_of_lt (Nat.lt_of_lt_of_le (own_ALl2 u99).lt ga218)
  have ne_al2_sa218 : al2 ≠ sa218 := Nat.ne_of_lt (Nat.lt_of_lt_of_le (own_ALl1 u100).lt ga218)
  have ne_dd2_sa218 : dd2 ≠ sa218 := Nat.ne_of_lt (Nat.lt_of_lt_of_le (own_ALl2 u100).lt ga218)
  have ne_al1_ba218 : al1 ≠ ba218 := Nat.ne_of_lt (Nat.lt_of_lt_of_le (own_ALl1 u99).lt gb218)
  have ne_dd1_ba218 : dd1 ≠ ba218 := Nat.ne_of_lt (Nat.lt_of_lt_of_le (own_ALl2 u99).lt gb218)
  have ne_al2_ba218 : al2 ≠ ba218 := Nat.ne_of_lt (Nat.lt_of_lt_of_le (own_ALl1 u100).lt gb218)
  have ne_dd2_ba218 : dd2 ≠ ba218 := Nat.ne_of_lt (Nat.lt_of_lt_of_le (own_ALl2 u100).lt gb218)
  have C218 : CHr Z own_EL T215.vm T217.heap T215.vm T218.heap := CHr.keep K218 sf0 CR217.1
  have CR218 := CR217.trans C218
  have kz218 : _ ≤ T218.heap.size := Nat.le_trans kz217 K218.1
  have Z218 : n0 ≤ T218.heap.size := Nat.le_trans Z217 K218.1
  have O218 : Old Z n0 T218.heap := O217.keep K218 all0
  have u110 := u96.keep K218
  have u111 := u97.keep K218 nin0
  have u112 := u98.keep K218 nin0
  have u113 := own_ALkeep u99 K218 nin0 nin0
  have u114 := own_ALkeep u100 K218 nin0 nin0
  have u115 := own_SXkeep u101 K218 nin0 nin0
  have u116 := own_SXkeep u102 K218 nin0 nin0
  have u117 := u103.keep K218
  refine own_jumpH (g' := (mkF m 27 #[rv a1, rv r2, rv r3] [(.ref sa218), (.ref al1)])) st218 ?_
  obtain ⟨cq219, kq219, q219a, q219b, q219c⟩ := isOf hZ rfl u117
  obtain ⟨_, _, ⟨T219, L219, k219, n219⟩, -, X219, ⟨Lc219, hQ219, l219, y219, z219⟩, st219⟩ := X218.interfaceBack hx (xi := mn_38) (y := mn_36) hown (mvT hZ (hw_183 hw)) (mvT hZ (hw_184 hw)) (mvT hZ (hw_185 hw)) (mvT hZ (hw_186 hw)) (mvT hZ (hw_187 hw)) (mvT hZ (hw_188 hw)) (mvT hZ (hw_189 hw)) (mvT hZ (hw_190 hw)) (by decide) (backOf (W := 0) (own_rm33 l Z a0 hw [] al1 sa218 k1 dd1 f1 wc wD kD T218.heap n0 Z218 O218 SS (by omega) u113 Ex218) hZ (hw_191 hw) (hw_11 hw) (by decide) (by decide)) q219a q219b q219c (g := (mkF m 27 #[rv a1, rv r2, rv r3] [(.ref sa218), (.ref al1)])) rfl (by rw [hml]; rfl) (Steps.refl _) (argsL := [(.ref sa218)]) (rest := []) (lenOf pd_26 rfl) rfl own_z0 (hb hby d11_27) (fun _ _ => ⟨rfl, rfl, (by decide : 6 + 1 ≤ _), (by decide : 40 + 10 ≤ _)⟩)
  dsimp only [Pt.U, Pt.locs, Pt.cells, Pt.slots] at X219 l219 y219 z219 st219 hQ219
  subst l219 y219 z219
  obtain ⟨dn219, rfl, Nq219, K219, A219, hd219⟩ := hQ219
  have N219 := Fr.app N218 Nq219
  have lp := u110.lt
  have lo1 := (own_ALl1 u114).lt
  have lo2 := (own_ALl2 u114).lt
  have ls1 := u115.1
  have lb1 := u115.2.1
  have ls2 := u116.1
  have lb2 := u116.2.1
  have lsa := Ex218.lt
  have lba := V218.lt
  have C219 : CHr Z own_EL T215.vm T218.heap T215.vm T219.heap := CHr.keep K219 (sfS (Safe.exa hZ.alike u117 (by decide) (by decide)) (sfS (own_ALsafe hZ.alike u113) sf0)) CR218.1
  have CR219 := CR218.trans C219
  have kz219 : _ ≤ T219.heap.size := Nat.le_trans kz218 K219.1
  have O219 : Old Z n0 T219.heap := O218.keep K219 (allS A1.1 (allS A1.2.1 all0))
  have u128 := u110.keep K219
  have u129 := u111.keep K219 (ninS q1 (ninS q2 nin0))
  have u130 := u112.keep K219 (ninS q1 (ninS q2 nin0))
  have u131 := own_ALkeep u114 K219 (ninS (Ne.symm q5) (ninS (Ne.symm q7) nin0)) (ninS (Ne.symm q6) (ninS (Ne.symm q8) nin0))
  have u132 := own_SXkeep u115 K219 (ninS m1.1 (ninS m1.2.1 nin0)) (ninS m2.1 (ninS m2.2.1 nin0))
  have u133 := own_SXkeep u116 K219 (ninS m3.1 (ninS m3.2.1 nin0)) (ninS m4.1 (ninS m4.2.1 nin0))
  have u135 := Ex218.keep K219
  have u136 := Fv218.keep K219 (ninS (Ne.symm ne_al1_sa218) (ninS (Ne.symm ne_dd1_sa218) nin0))
  have u137 := Fc218.keep K219 (ninS (Ne.symm ne_al1_sa218) (ninS (Ne.symm ne_dd1_sa218) nin0))
  have u138 := V218.keep K219 (ninS (Ne.symm ne_al1_ba218) (ninS (Ne.symm ne_dd1_ba218) nin0))
  refine own_jumpH (g' := (mkF m 32 #[rv a1, rv r2, rv r3] [(.int 1)])) st219 ?_
  refine own_stH _ (own_pop 33 X219 hx hby d11_32) ?_
  refine own_retH X219 hlk S215 (own_leE rfl kz219) (v := none) (fun _ => rfl) (fun fs hr => X219.returnOut hx hret (hb hby d11_33) hr) ?_ (own_CHend hs0 rfl CR219 (CHv.at X219 hZ hEL CR219.1)) (by decide) (by decide)
  show own_Q11 Z a1 r2 r3 k1 k2 t1 t2 b_2 kb2 bs2 b_3 kb3 bs3 wc wD kD h0 n0 _ T219.heap _
  have hln : (bs2 ++ [58, 32] ++ bs3).length = 4 := by simp [hb2, hb3]
  have Vt := own_vt u138 hln rfl
  have SN : own_SX Z T219.heap 1 (.ref sa218) (bs2 ++ [58, 32] ++ bs3) sa218 ba218 := ⟨u135.lt, u138.lt, fun _ => ⟨rfl, u135, u136, u137, _, Vt⟩⟩
  have c1 := own_n4D (show own_n4 s1 al1 dd1 al2 dd2 from m1) hd219 ls1
  have c2 := own_n4D (show own_n4 b1 al1 dd1 al2 dd2 from m2) hd219 lb1
  have c3 := own_n4D (show own_n4 s2 al1 dd1 al2 dd2 from m3) hd219 ls2
  have c4 := own_n4D (show own_n4 b2 al1 dd1 al2 dd2 from m4) hd219 lb2
  have c5 := own_n4D (show own_n4 sa218 al1 dd1 al2 dd2 from ⟨(Ne.symm ne_al1_sa218), (Ne.symm ne_dd1_sa218), (Ne.symm ne_al2_sa218), (Ne.symm ne_dd2_sa218)⟩) hd219 lsa
  have c6 := own_n4D (show own_n4 ba218 al1 dd1 al2 dd2 from ⟨(Ne.symm ne_al1_ba218), (Ne.symm ne_dd1_ba218), (Ne.symm ne_al2_ba218), (Ne.symm ne_dd2_ba218)⟩) hd219 lba
  exact ⟨rfl, N219, O219, own_CPSadd1 gp u128 u129 u130 A219 u131 ⟨q1, (own_neD hd219 q2 lp), q3, q4, q5, q6, (Ne.symm (own_neD hd219 (Ne.symm q7) lo1)), (Ne.symm (own_neD hd219 (Ne.symm q8) lo2))⟩ u132 u133 SN c1 c2 c3 c4 c5 c6⟩
theorem d54_0 : own_D c_38 0 (.aload_n 0, 1) := by decide +kernel
theorem d54_1 : own_D c_38 1 (.getfield 16, 3) := by decide +kernel
theorem d54_4 : own_D c_38 4 (.new 19, 3) := by decide +kernel
theorem d54_7 : own_D c_38 7 (.dup, 1) := by decide +kernel
theorem d54_8 : own_D c_38 8 (.invokespecial 21, 3) := by decide +kernel
theorem d54_11 : own_D c_38 11 (.aload_n 1, 1) := by decide +kernel
theorem d54_12 : own_D c_38 12 (.invokevirtual 22, 3) := by decide +kernel
theorem d54_15 : own_D c_38 15 (.ldc 26, 2) := by decide +kernel
theorem d54_17 : own_D c_38 17 (.invokevirtual 22, 3) := by decide +kernel
theorem d54_20 : own_D c_38 20 (.aload_n 2, 1) := by decide +kernel
theorem d54_21 : own_D c_38 21 (.invokevirtual 22, 3) := by decide +kernel
theorem d54_24 : own_D c_38 24 (.invokevirtual 28, 3) := by decide +kernel
theorem d54_27 : own_D c_38 27 (.invokeinterface 32 2, 5) := by decide +kernel
theorem d54_32 : own_D c_38 32 (.pop, 1) := by decide +kernel
theorem d54_33 : own_D c_38 33 (.return_, 1) := by decide +kernel
def own_Q54_1 (Z : State) (a1 r2 r3 : Addr) (k1 k2 : Nat) (t1 t2 : List Int32) (b_2 : Addr) (kb2 : ClassId) (bs2 : List Int32) (b_3 : Addr) (kb3 : ClassId) (bs3 : List Int32) (wc : Int32) (wD : Addr) (kD : ClassId) (h0 : Heap) (n0 : Nat) (v : Option Value) (h : Heap) (L : List Loc) : Prop := v = none ∧ Fr n0 L ∧ Old Z n0 h ∧ own_CPS Z wD h n0 a1 k1 (k2 + 1) t1 (own_t k2 (bs2 ++ [58, 32] ++ bs3) t2)
theorem own_rm54_1 (l Z a0) (hw : own_W a0 Z) (ws) (a1 r2 r3 : Addr) (k1 k2 : Nat) (t1 t2 : List Int32) (b_2 : Addr) (kb2 : ClassId) (bs2 : List Int32) (b_3 : Addr) (kb3 : ClassId) (bs3 : List Int32) (wc : Int32) (wD : Addr) (kD : ClassId) (h0 : Heap) (n0 : Nat) (Z0 : n0 ≤ h0.size) (O0 : Old Z n0 h0) (SS : own_St Z wc wD kD) (hEL : EW Z a0 own_EL) (hk : k1 + k2 ≤ 7) (hb2 : bs2.length = 1) (hb3 : bs3.length = 1) (P0 : own_CPS Z wD h0 n0 a1 k1 k2 t1 t2) (S2e : Exa Z h0 r2 "java/lang/String") (S2v : Fld Z h0 r2 "java/lang/String" "value" "[B" (.ref b_2)) (S2c : Fld Z h0 r2 "java/lang/String" "coder" "B" (.int 0)) (S2a : Arv Z h0 b_2 kb2 .byte (1 : Int32) ((bs2).map Value.int) (.int 0)) (S3e : Exa Z h0 r3 "java/lang/String") (S3v : Fld Z h0 r3 "java/lang/String" "value" "[B" (.ref b_3)) (S3c : Fld Z h0 r3 "java/lang/String" "coder" "B" (.int 0)) (S3a : Arv Z h0 b_3 kb3 .byte (1 : Int32) ((bs3).map Value.int) (.int 0)) :
    own_MH l Z ws mn_39 c_38 3 none rm_34 #[(.ref a1), (.ref r2), (.ref r3)] h0 (own_Q54_1 Z a1 r2 r3 k1 k2 t1 t2 b_2 kb2 bs2 b_3 kb3 bs3 wc wD kD h0 n0) := by
  refine own_bodyH (plainFor_of_name pn_1) (fun m => own_ef11 m a1 r2 r3) ?_
  intro p e s m below meth c T0 X0 hx hby hml hZ hown hnm hret hlk e0 hs0 S0 CH0
  have hown : (s.setVm s.vm).vm.findClass "com/example/shaper/shaper/core/ConfigProblems" = some m.cls := hown
  have CR0 := CHr.refl CH0
  have kz0 : h0.size ≤ h0.size := Nat.le_refl _
  have hnm : meth.name = "unsupported" := hnm
  have N0 := Fr.nil n0
  obtain ⟨al1, dd1, al2, dd2, f1, f2, s1, b1, s2, b2, gp, Ep, Fvi, Fun, A1, A2, q1, q2, q3, q4, q5, q6, q7, q8, X1, X2, m1, m2, m3, m4⟩ := id P0
  have Eal := A2.2.2.1
  refine own_stH _ (own_aloadN 1 X0 hx hby d54_0) ?_
  obtain ⟨T220, X220, e220, st220⟩ := getF X0 hx hZ hown (host := "") (Or.inl (hw_35 hw)) Via.refl e0 Fun (g := (mkF m 1 #[rv a1, rv r2, rv r3] [(.ref a1)])) rfl rfl (hb hby d54_1)
  refine own_stepH (g' := (mkF m 4 #[rv a1, rv r2, rv r3] [(.ref al2)])) st220 ?_
  obtain ⟨T221, h221, X221, e221, E221, A221, D221, -, st221⟩ := newO X220 hx hZ hown (hw_70 hw) (hw_71 hw) (hw_72 hw) e220 (g := (mkF m 4 #[rv a1, rv r2, rv r3] [(.ref al2)])) rfl (hb hby d54_4) (by decide) (by decide)
  obtain ⟨b221, g221⟩ : ∃ z, z = h0.size := ⟨_, rfl⟩
  rw [← g221] at A221 D221 st221
  have g_b221 : n0 ≤ b221 := Nat.le_trans Z0 (Nat.le_of_eq g221.symm)
  have ne_a1_b221 : a1 ≠ b221 := own_ne Ep.lt g221
  have ne_al1_b221 : al1 ≠ b221 := own_ne (own_ALl1 A1).lt g221
  have ne_dd1_b221 : dd1 ≠ b221 := own_ne (own_ALl2 A1).lt g221
  have ne_al2_b221 : al2 ≠ b221 := own_ne (own_ALl1 A2).lt g221
  have ne_dd2_b221 : dd2 ≠ b221 := own_ne (own_ALl2 A2).lt g221
  have ne_s1_b221 : s1 ≠ b221 := own_ne (own_SXl1 X1).lt g221
  have ne_b1_b221 : b1 ≠ b221 := own_ne (own_SXl2 X1).lt g221
  have ne_s2_b221 : s2 ≠ b221 := own_ne (own_SXl1 X2).lt g221
  have ne_b2_b221 : b2 ≠ b221 := own_ne (own_SXl2 X2).lt g221
  have ne_r2_b221 : r2 ≠ b221 := own_ne S2e.lt g221
  have ne_b_2_b221 : b_2 ≠ b221 := own_ne S2a.lt g221
  have ne_r3_b221 : r3 ≠ b221 := own_ne S3e.lt g221
  have ne_b_3_b221 : b_3 ≠ b221 := own_ne S3a.lt g221
  have Z221 : n0 ≤ h221.size := Nat.le_trans Z0 E221.1
  have C221 : CHr Z own_EL s.vm h0 s.vm h221 := CHr.ext E221 CR0.1
  have CR221 := CR0.trans C221
  have kz221 : _ ≤ h221.size := Nat.le_trans kz0 E221.1
  have O221 : Old Z n0 h221 := O0.ext E221
  have u1 := Ep.ext E221
  have u2 := Fvi.ext E221
  have u3 := Fun.ext E221
  have u4 := own_ALext A1 E221
  have u5 := own_ALext A2 E221
  have u6 := own_SXext X1 E221
  have u7 := own_SXext X2 E221
  have u8 := Eal.ext E221
  have u9 := S2e.ext E221
  have u10 := S2v.ext E221
  have u11 := S2c.ext E221
  have u12 := S2a.ext E221
  have u13 := S3e.ext E221
  have u14 := S3v.ext E221
  have u15 := S3c.ext E221
  have u16 := S3a.ext E221
  have F_value_b221 : Fld Z h221 b221 "java/lang/AbstractStringBuilder" "value" "[B" .null := D221 (Or.inl (hw_85 hw)) (ty := (.array .byte)) (by decide)
  have F_coder_b221 : Fld Z h221 b221 "java/lang/AbstractStringBuilder" "coder" "B" (.int 0) := D221 (Or.inl (hw_87 hw)) (ty := .byte) (by decide)
  have F_count_b221 : Fld Z h221 b221 "java/lang/AbstractStringBuilder" "count" "I" (.int 0) := D221 (Or.inl (hw_109 hw)) (ty := .int) (by decide)
  refine own_stepH (g' := (mkF m 7 #[rv a1, rv r2, rv r3] [(.ref b221), (.ref al2)])) st221 ?_
  refine own_stH _ (own_dup 8 X221 hx hby d54_7) ?_
  obtain ⟨_, _, ⟨T222, L222, k222, n222⟩, -, X222, ⟨Lc222, hQ222, l222, y222, z222⟩, st222⟩ := X221.specialBack hx (y := mn_8) rfl hown (mvT hZ (hw_73 hw)) (mvT hZ (hw_74 hw)) (mvT hZ (hw_75 hw)) (by decide) (backOf (W := 2) (own_rm12 l Z a0 hw [] b221 wc wD kD h221 n0 Z221 O221 SS A221 F_value_b221 F_coder_b221 F_count_b221 g_b221) hZ (hw_75 hw) (hw_72 hw) (by decide) (by decide)) (g := (mkF m 8 #[rv a1, rv r2, rv r3] [(.ref b221), (.ref b221), (.ref al2)])) rfl (by rw [hml]; rfl) (Steps.refl _) (a := b221) (argsL := []) (rest := [(.ref b221), (.ref al2)]) (lenOf pd_20 rfl) rfl own_z0 (hb hby d54_8) (fun _ _ => ⟨rfl, e221, (by decide : 1 + 1 ≤ _), (by decide : 4 + 16 ≤ _)⟩)
  dsimp only [Pt.U, Pt.locs, Pt.cells, Pt.slots] at X222 l222 y222 z222 st222 hQ222
  subst l222 y222 z222
  obtain ⟨vb222, kb222, rfl, Nq222, K222, gb222, Ex222, Fv222, Fc222, Fn222, V222⟩ := hQ222
  have N222 := Fr.app N0 Nq222
  have g_vb222 : n0 ≤ vb222 := Nat.le_trans Z221 gb222
  have ne_a1_vb222 : a1 ≠ vb222 := Nat.ne_of_lt (Nat.lt_of_lt_of_le u1.lt gb222)
  have ne_al1_vb222 : al1 ≠ vb222 := Nat.ne_of_lt (Nat.lt_of_lt_of_le (own_ALl1 u4).lt gb222)
  have ne_dd1_vb222 : dd1 ≠ vb222 := Nat.ne_of_lt (Nat.lt_of_lt_of_le (own_ALl2 u4).lt gb222)
  have ne_al2_vb222 : al2 ≠ vb222 := Nat.ne_of_lt (Nat.lt_of_lt_of_le (own_ALl1 u5).lt gb222)
  have ne_dd2_vb222 : dd2 ≠ vb222 := Nat.ne_of_lt (Nat.lt_of_lt_of_le (own_ALl2 u5).lt gb222)
  have ne_s1_vb222 : s1 ≠ vb222 := Nat.ne_of_lt (Nat.lt_of_lt_of_le (own_SXl1 u6).lt gb222)
  have ne_b1_vb222 : b1 ≠ vb222 := Nat.ne_of_lt (Nat.lt_of_lt_of_le (own_SXl2 u6).lt gb222)
  have ne_s2_vb222 : s2 ≠ vb222 := Nat.ne_of_lt (Nat.lt_of_lt_of_le (own_SXl1 u7).lt gb222)
  have ne_b2_vb222 : b2 ≠ vb222 := Nat.ne_of_lt (Nat.lt_of_lt_of_le (own_SXl2 u7).lt gb222)
  have ne_r2_vb222 : r2 ≠ vb222 := Nat.ne_of_lt (Nat.lt_of_lt_of_le u9.lt gb222)
  have ne_b_2_vb222 : b_2 ≠ vb222 := Nat.ne_of_lt (Nat.lt_of_lt_of_le u12.lt gb222)
  have ne_r3_vb222 : r3 ≠ vb222 := Nat.ne_of_lt (Nat.lt_of_lt_of_le u13.lt gb222)
  have ne_b_3_vb222 : b_3 ≠ vb222 := Nat.ne_of_lt (Nat.lt_of_lt_of_le u16.lt gb222)
  have ne_b221_vb222 : b221 ≠ vb222 := Nat.ne_of_lt (Nat.lt_of_lt_of_le A221.lt gb222)
  have C222 : CHr Z own_EL s.vm h221 s.vm T222.heap := CHr.keep K222 (sfS (Safe.exa hZ.alike A221 (by decide) (by decide)) sf0) CR221.1
  have CR222 := CR221.trans C222
  have kz222 : _ ≤ T222.heap.size := Nat.le_trans kz221 K222.1
  have Z222 : n0 ≤ T222.heap.size := Nat.le_trans Z221 K222.1
  have O222 : Old Z n0 T222.heap := O221.keep K222 (allS g_b221 all0)
  have u17 := u1.keep K222
  have u18 := u2.keep K222 (ninS ne_a1_b221 nin0)
  have u19 := u3.keep K222 (ninS ne_a1_b221 nin0)
  have u20 := own_ALkeep u4 K222 (ninS ne_al1_b221 nin0) (ninS ne_dd1_b221 nin0)
  have u21 := own_ALkeep u5 K222 (ninS ne_al2_b221 nin0) (ninS ne_dd2_b221 nin0)
  have u22 := own_SXkeep u6 K222 (ninS ne_s1_b221 nin0) (ninS ne_b1_b221 nin0)
  have u23 := own_SXkeep u7 K222 (ninS ne_s2_b221 nin0) (ninS ne_b2_b221 nin0)
  have u24 := u8.keep K222
  have u25 := u9.keep K222
  have u26 := u10.keep K222 (ninS ne_r2_b221 nin0)
  have u27 := u11.keep K222 (ninS ne_r2_b221 nin0)
  have u28 := u12.keep K222 (ninS ne_b_2_b221 nin0)
  have u29 := u13.keep K222
  have u30 := u14.keep K222 (ninS ne_r3_b221 nin0)
  have u31 := u15.keep K222 (ninS ne_r3_b221 nin0)
  have u32 := u16.keep K222 (ninS ne_b_3_b221 nin0)
  have Sf_vb222 : Safe Z own_EL s.vm T222.heap vb222 := Safe.keep K222 (sfS (Safe.exa hZ.alike A221 (by decide) (by decide)) sf0) CR221.1 (Safe.new gb222)
  refine own_jumpH (g' := (mkF m 11 #[rv a1, rv r2, rv r3] [(.ref b221), (.ref al2)])) st222 ?_
  refine own_stH _ (own_aloadN 12 X222 hx hby d54_11) ?_
  obtain ⟨cq223, kq223, q223a, q223b, q223c⟩ := isOf hZ rfl Ex222
  obtain ⟨_, _, ⟨T223, L223, k223, n223⟩, -, X223, ⟨Lc223, hQ223, l223, y223, z223⟩, st223⟩ := X222.virtualBack hx (y := mn_19) (z := mn_19) hown (mvT hZ (hw_88 hw)) (mvT hZ (hw_89 hw)) (notFace_of_selects (args := #[]) (mvT hZ (hw_91 hw))) (mvT hZ (hw_91 hw)) (mvT hZ (hw_90 hw)) (by decide) (backOf (W := 1) (own_rm14_0_1 l Z a0 hw [] b221 r2 vb222 kb222 b_2 bs2 kb2 [] wc wD kD T222.heap n0 Z222 O222 SS rfl hb2 Ex222 Fv222 Fc222 Fn222 V222 u25 u26 u27 u28 g_b221 ne_b221_vb222 (Ne.symm ne_r2_b221) (Ne.symm ne_b_2_b221) ne_r2_vb222 ne_b_2_vb222 g_vb222) hZ (hw_92 hw) (hw_72 hw) (by decide) (by decide)) q223a q223c (g := (mkF m 12 #[rv a1, rv r2, rv r3] [(.ref r2), (.ref b221), (.ref al2)])) rfl (by rw [hml]; rfl) (Steps.refl _) (argsL := [(.ref r2)]) (rest := [(.ref al2)]) (lenOf pd_24 rfl) rfl own_z0 (hb hby d54_12) (fun _ _ => ⟨rfl, rfl, (by decide : 2 + 0 ≤ _), (by decide : 20 + 0 ≤ _)⟩)
  dsimp only [Pt.U, Pt.locs, Pt.cells, Pt.slots] at X223 l223 y223 z223 st223 hQ223
  subst l223 y223 z223
  obtain ⟨rfl, Nq223, K223, Ex223, Fv223, Fc223, Fn223, V223⟩ := hQ223
  have N223 := Fr.app N222 Nq223
  have C223 : CHr Z own_EL s.vm T222.heap s.vm T223.heap := CHr.keep K223 (sfS (Safe.exa hZ.alike Ex222 (by decide) (by decide)) (sfS Sf_vb222 sf0)) CR222.1
  have CR223 := CR222.trans C223
  have kz223 : _ ≤ T223.heap.size := Nat.le_trans kz222 K223.1
  have Z223 : n0 ≤ T223.heap.size := Nat.le_trans Z222 K223.1
  have O223 : Old Z n0 T223.heap := O222.keep K223 (allS g_b221 (allS g_vb222 all0))
  have u34 := u17.keep K223
  have u35 := u18.keep K223 (ninS ne_a1_b221 (ninS ne_a1_vb222 nin0))
  have u36 := u19.keep K223 (ninS ne_a1_b221 (ninS ne_a1_vb222 nin0))
  have u37 := own_ALkeep u20 K223 (ninS ne_al1_b221 (ninS ne_al1_vb222 nin0)) (ninS ne_dd1_b221 (ninS ne_dd1_vb222 nin0))
  have u38 := own_ALkeep u21 K223 (ninS ne_al2_b221 (ninS ne_al2_vb222 nin0)) (ninS ne_dd2_b221 (ninS ne_dd2_vb222 nin0))
  have u39 := own_SXkeep u22 K223 (ninS ne_s1_b221 (ninS ne_s1_vb222 nin0)) (ninS ne_b1_b221 (ninS ne_b1_vb222 nin0))
  have u40 := own_SXkeep u23 K223 (ninS ne_s2_b221 (ninS ne_s2_vb222 nin0)) (ninS ne_b2_b221 (ninS ne_b2_vb222 nin0))
  have u41 := u24.keep K223
  have u46 := u29.keep K223
  have u47 := u30.keep K223 (ninS ne_r3_b221 (ninS ne_r3_vb222 nin0))
  have u48 := u31.keep K223 (ninS ne_r3_b221 (ninS ne_r3_vb222 nin0))
  have u49 := u32.keep K223 (ninS ne_b_3_b221 (ninS ne_b_3_vb222 nin0))
  have u51 := C223.safe V222.lt Sf_vb222
  refine own_jumpH (g' := (mkF m 15 #[rv a1, rv r2, rv r3] [(.ref b221), (.ref al2)])) st223 ?_
  obtain ⟨la224, T224, h224, kk224, lb224, kb224, X224, e224, E224, S224, kz224, hZ, hown, Ex224, Fc224, Fv224, V224, lta224, ltb224, C224, -, nl224, st224⟩ := ldcCH (vm0 := s.vm) (EL := own_EL) X223 hx hZ hown (hw_135 hw) (own_wS hw) rfl S0 kz223 hEL own_mem26 CR223.1 (vs := ([58, 32] : List Int32).map Value.int) (z := (2 : Int32)) own_txt26 (by decide) rfl (g := (mkF m 15 #[rv a1, rv r2, rv r3] [(.ref b221), (.ref al2)])) rfl (hb hby d54_15) (n := 8) own_tln26 (by decide) (by decide) (by decide)
  have CR224 := CR223.trans C224
  have Z224 : n0 ≤ h224.size := Nat.le_trans Z223 E224.1
  have O224 : Old Z n0 h224 := O223.ext E224
  have u52 := u34.ext E224
  have u53 := u35.ext E224
  have u54 := u36.ext E224
  have u55 := own_ALext u37 E224
  have u56 := own_ALext u38 E224
  have u57 := own_SXext u39 E224
  have u58 := own_SXext u40 E224
  have u59 := u41.ext E224
  have u64 := u46.ext E224
  have u65 := u47.ext E224
  have u66 := u48.ext E224
  have u67 := u49.ext E224
  have u68 := Ex223.ext E224
  have u69 := C224.safe V223.lt u51
  have u70 := Fv223.ext E224
  have u71 := Fc223.ext E224
  have u72 := Fn223.ext E224
  have u73 := V223.ext E224
  obtain ⟨ne_b221_la224, ne_b221_lb224⟩ := nl224 b221 (Safe.exa hZ.alike u68 (by decide) (by decide))
  obtain ⟨ne_vb222_la224, ne_vb222_lb224⟩ := nl224 vb222 u69
  refine own_stepH (g' := (mkF m 17 #[rv a1, rv r2, rv r3] [(.ref la224), (.ref b221), (.ref al2)])) st224 ?_
  obtain ⟨cq225, kq225, q225a, q225b, q225c⟩ := isOf hZ e224 u68
  obtain ⟨_, _, ⟨T225, L225, k225, n225⟩, -, X225, ⟨Lc225, hQ225, l225, y225, z225⟩, st225⟩ := X224.virtualBack hx (y := mn_19) (z := mn_19) hown (mvT hZ (hw_88 hw)) (mvT hZ (hw_89 hw)) (notFace_of_selects (args := #[]) (mvT hZ (hw_91 hw))) (mvT hZ (hw_91 hw)) (mvT hZ (hw_90 hw)) (by decide) (backOf (W := 1) (own_rm14_1_2 l Z a0 hw [] b221 la224 vb222 kb222 lb224 ([58, 32] : List Int32) kb224 ([] ++ bs2) wc wD kD h224 n0 Z224 O224 SS (by simp [hb2]) rfl u68 u70 u71 u72 u73 Ex224 Fv224 Fc224 V224 g_b221 ne_b221_vb222 ne_b221_la224 ne_b221_lb224 (Ne.symm ne_vb222_la224) (Ne.symm ne_vb222_lb224) g_vb222) hZ (hw_92 hw) (hw_72 hw) (by decide) (by decide)) q225a q225c (g := (mkF m 17 #[rv a1, rv r2, rv r3] [(.ref la224), (.ref b221), (.ref al2)])) rfl (by rw [hml]; rfl) (Steps.refl _) (argsL := [(.ref la224)]) (rest := [(.ref al2)]) (lenOf pd_24 rfl) rfl own_z0 (hb hby d54_17) (fun _ _ => ⟨rfl, e224, (by decide : 4 + 0 ≤ _), (by decide : 32 + 0 ≤ _)⟩)
  dsimp only [Pt.U, Pt.locs, Pt.cells, Pt.slots] at X225 l225 y225 z225 st225 hQ225
  subst l225 y225 z225
  obtain ⟨rfl, Nq225, K225, Ex225, Fv225, Fc225, Fn225, V225⟩ := hQ225
  have N225 := Fr.app N223 Nq225
  have C225 : CHr Z own_EL T224.vm h224 T224.vm T225.heap := CHr.keep K225 (sfS (Safe.exa hZ.alike u68 (by decide) (by decide)) (sfS u69 sf0)) CR224.1
  have CR225 := CR224.trans C225
  have kz225 : _ ≤ T225.heap.size := Nat.le_trans kz224 K225.1
  have Z225 : n0 ≤ T225.heap.size := Nat.le_trans Z224 K225.1
  have O225 : Old Z n0 T225.heap := O224.keep K225 (allS g_b221 (allS g_vb222 all0))
  have u74 := u52.keep K225
  have u75 := u53.keep K225 (ninS ne_a1_b221 (ninS ne_a1_vb222 nin0))
  have u76 := u54.keep K225 (ninS ne_a1_b221 (ninS ne_a1_vb222 nin0))
  have u77 := own_ALkeep u55 K225 (ninS ne_al1_b221 (ninS ne_al1_vb222 nin0)) (ninS ne_dd1_b221 (ninS ne_dd1_vb222 nin0))
  have u78 := own_ALkeep u56 K225 (ninS ne_al2_b221 (ninS ne_al2_vb222 nin0)) (ninS ne_dd2_b221 (ninS ne_dd2_vb222 nin0))
  have u79 := own_SXkeep u57 K225 (ninS ne_s1_b221 (ninS ne_s1_vb222 nin0)) (ninS ne_b1_b221 (ninS ne_b1_vb222 nin0))
  have u80 := own_SXkeep u58 K225 (ninS ne_s2_b221 (ninS ne_s2_vb222 nin0)) (ninS ne_b2_b221 (ninS ne_b2_vb222 nin0))
  have u81 := u59.keep K225
  have u86 := u64.keep K225
  have u87 := u65.keep K225 (ninS ne_r3_b221 (ninS ne_r3_vb222 nin0))
  have u88 := u66.keep K225 (ninS ne_r3_b221 (ninS ne_r3_vb222 nin0))
  have u89 := u67.keep K225 (ninS ne_b_3_b221 (ninS ne_b_3_vb222 nin0))
  have u91 := C225.safe u73.lt u69
  refine own_jumpH (g' := (mkF m 20 #[rv a1, rv r2, rv r3] [(.ref b221), (.ref al2)])) st225 ?_
  refine own_stH _ (own_aloadN 21 X225 hx hby d54_20) ?_
  obtain ⟨cq226, kq226, q226a, q226b, q226c⟩ := isOf hZ rfl Ex225
  obtain ⟨_, _, ⟨T226, L226, k226, n226⟩, -, X226, ⟨Lc226, hQ226, l226, y226, z226⟩, st226⟩ := X225.virtualBack hx (y := mn_19) (z := mn_19) hown (mvT hZ (hw_88 hw)) (mvT hZ (hw_89 hw)) (notFace_of_selects (args := #[]) (mvT hZ (hw_91 hw))) (mvT hZ (hw_91 hw)) (mvT hZ (hw_90 hw)) (by decide) (backOf (W := 1) (own_rm14_3_1 l Z a0 hw [] b221 r3 vb222 kb222 b_3 bs3 kb3 (([] ++ bs2) ++ [58, 32]) wc wD kD T225.heap n0 Z225 O225 SS (by simp [hb2]) hb3 Ex225 Fv225 Fc225 Fn225 V225 u86 u87 u88 u89 g_b221 ne_b221_vb222 (Ne.symm ne_r3_b221) (Ne.symm ne_b_3_b221) ne_r3_vb222 ne_b_3_vb222 g_vb222) hZ (hw_92 hw) (hw_72 hw) (by decide) (by decide)) q226a q226c (g := (mkF m 21 #[rv a1, rv r2, rv r3] [(.ref r3), (.ref b221), (.ref al2)])) rfl (by rw [hml]; rfl) (Steps.refl _) (argsL := [(.ref r3)]) (rest := [(.ref al2)]) (lenOf pd_24 rfl) rfl own_z0 (hb hby d54_21) (fun _ _ => ⟨rfl, rfl, (by decide : 4 + 0 ≤ _), (by decide : 32 + 0 ≤ _)⟩)
  dsimp only [Pt.U, Pt.locs, Pt.cells, Pt.slots] at X226 l226 y226 z226 st226 hQ226
  subst l226 y226 z226
  obtain ⟨rfl, Nq226, K226, Ex226, Fv226, Fc226, Fn226, V226⟩ := hQ226
  have N226 := Fr.app N225 Nq226
  have C226 : CHr Z own_EL T224.vm T225.heap T224.vm T226.heap := CHr.keep K226 (sfS (Safe.exa hZ.alike Ex225 (by decide) (by decide)) (sfS u91 sf0)) CR225.1
  have CR226 := CR225.trans C226
  have kz226 : _ ≤ T226.heap.size := Nat.le_trans kz225 K226.1
  have Z226 : n0 ≤ T226.heap.size := Nat.le_trans Z225 K226.1
  have O226 : Old Z n0 T226.heap := O225.keep K226 (allS g_b221 (allS g_vb222 all0))
  have u96 := u74.keep K226
  have u97 := u75.keep K226 (ninS ne_a1_b221 (ninS ne_a1_vb222 nin0))
  have u98 := u76.keep K226 (ninS ne_a1_b221 (ninS ne_a1_vb222 nin0))
  have u99 := own_ALkeep u77 K226 (ninS ne_al1_b221 (ninS ne_al1_vb222 nin0)) (ninS ne_dd1_b221 (ninS ne_dd1_vb222 nin0))
  have u100 := own_ALkeep u78 K226 (ninS ne_al2_b221 (ninS ne_al2_vb222 nin0)) (ninS ne_dd2_b221 (ninS ne_dd2_vb222 nin0))
  have u101 := own_SXkeep u79 K226 (ninS ne_s1_b221 (ninS ne_s1_vb222 nin0)) (ninS ne_b1_b221 (ninS ne_b1_vb222 nin0))
  have u102 := own_SXkeep u80 K226 (ninS ne_s2_b221 (ninS ne_s2_vb222 nin0)) (ninS ne_b2_b221 (ninS ne_b2_vb222 nin0))
  have u103 := u81.keep K226
  refine own_jumpH (g' := (mkF m 24 #[rv a1, rv r2, rv r3] [(.ref b221), (.ref al2)])) st226 ?_
  obtain ⟨cq227, kq227, q227a, q227b, q227c⟩ := isOf hZ rfl Ex226
  obtain ⟨_, _, ⟨T227, L227, k227, n227⟩, -, X227, ⟨Lc227, hQ227, l227, y227, z227⟩, st227⟩ := X226.virtualBack hx (y := mn_28) (z := mn_28) hown (mvT hZ (hw_138 hw)) (mvT hZ (hw_139 hw)) (notFace_of_selects (args := #[]) (mvT hZ (hw_141 hw))) (mvT hZ (hw_141 hw)) (mvT hZ (hw_140 hw)) (by decide) (backOf (W := 1) (own_rm22_t4 l Z a0 hw [] b221 vb222 kb222 ((((([] ++ bs2) ++ [58, 32])) ++ bs3) ++ List.replicate 12 (0 : Int32)) wc wD kD T226.heap n0 Z226 O226 SS (by simp [hb2, hb3]) Ex226 Fv226 Fc226 Fn226 V226) hZ (hw_142 hw) (hw_72 hw) (by decide) (by decide)) q227a q227c (g := (mkF m 24 #[rv a1, rv r2, rv r3] [(.ref b221), (.ref al2)])) rfl (by rw [hml]; rfl) (Steps.refl _) (argsL := []) (rest := [(.ref al2)]) (lenOf pd_25 rfl) rfl own_z0 (hb hby d54_24) (fun _ _ => ⟨rfl, rfl, (by decide : 4 + 2 ≤ _), (by decide : 32 + 8 ≤ _)⟩)
  dsimp only [Pt.U, Pt.locs, Pt.cells, Pt.slots] at X227 l227 y227 z227 st227 hQ227
  subst l227 y227 z227
  obtain ⟨sa227, ba227, kb227, rfl, Nq227, K227, ga227, gb227, ne227, Ex227, Fv227, Fc227, V227⟩ := hQ227
  have N227 := Fr.app N226 Nq227
  have ne_al1_sa227 : al1 ≠ sa227 := Nat.ne_of_lt (Nat.lt_of_lt_of_le (own_ALl1 u99).lt ga227)
  have ne_dd1_sa227 : dd1 ≠ sa227 := Nat.ne_of_lt (Nat.lt_of_lt_of_le (own_ALl2 u99).lt ga227)
  have ne_al2_sa227 : al2 ≠ sa227 := Nat.ne_of_lt (Nat.lt_of_lt_of_le (own_ALl1 u100).lt ga227)
  have ne_dd2_sa227 : dd2 ≠ sa227 := Nat.ne_of_lt (Nat.lt_of_lt_of_le (own_ALl2 u100).lt ga227)
  have ne_al1_ba227 : al1 ≠ ba227 := Nat.ne_of_lt (Nat.lt_of_lt_of_le (own_ALl1 u99).lt gb227)
  have ne_dd1_ba227 : dd1 ≠ ba227 := Nat.ne_of_lt (Nat.lt_of_lt_of_le (own_ALl2 u99).lt gb227)
  have ne_al2_ba227 : al2 ≠ ba227 := Nat.ne_of_lt (Nat.lt_of_lt_of_le (own_ALl1 u100).lt gb227)
  have ne_dd2_ba227 : dd2 ≠ ba227 := Nat.ne_of_lt (Nat.lt_of_lt_of_le (own_ALl2 u100).lt gb227)
  have C227 : CHr Z own_EL T224.vm T226.heap T224.vm T227.heap := CHr.keep K227 sf0 CR226.1
  have CR227 := CR226.trans C227
  have kz227 : _ ≤ T227.heap.size := Nat.le_trans kz226 K227.1
  have Z227 : n0 ≤ T227.heap.size := Nat.le_trans Z226 K227.1
  have O227 : Old Z n0 T227.heap := O226.keep K227 all0
  have u110 := u96.keep K227
  have u111 := u97.keep K227 nin0
  have u112 := u98.keep K227 nin0
  have u113 := own_ALkeep u99 K227 nin0 nin0
  have u114 := own_ALkeep u100 K227 nin0 nin0
  have u115 := own_SXkeep u101 K227 nin0 nin0
  have u116 := own_SXkeep u102 K227 nin0 nin0
  have u117 := u103.keep K227
  refine own_jumpH (g' := (mkF m 27 #[rv a1, rv r2, rv r3] [(.ref sa227), (.ref al2)])) st227 ?_
  obtain ⟨cq228, kq228, q228a, q228b, q228c⟩ := isOf hZ rfl u117
  obtain ⟨_, _, ⟨T228, L228, k228, n228⟩, -, X228, ⟨Lc228, hQ228, l228, y228, z228⟩, st228⟩ := X227.interfaceBack hx (xi := mn_38) (y := mn_36) hown (mvT hZ (hw_183 hw)) (mvT hZ (hw_184 hw)) (mvT hZ (hw_185 hw)) (mvT hZ (hw_186 hw)) (mvT hZ (hw_187 hw)) (mvT hZ (hw_188 hw)) (mvT hZ (hw_189 hw)) (mvT hZ (hw_190 hw)) (by decide) (backOf (W := 0) (own_rm33 l Z a0 hw [] al2 sa227 k2 dd2 f2 wc wD kD T227.heap n0 Z227 O227 SS (by omega) u114 Ex227) hZ (hw_191 hw) (hw_11 hw) (by decide) (by decide)) q228a q228b q228c (g := (mkF m 27 #[rv a1, rv r2, rv r3] [(.ref sa227), (.ref al2)])) rfl (by rw [hml]; rfl) (Steps.refl _) (argsL := [(.ref sa227)]) (rest := []) (lenOf pd_26 rfl) rfl own_z0 (hb hby d54_27) (fun _ _ => ⟨rfl, rfl, (by decide : 6 + 1 ≤ _), (by decide : 40 + 10 ≤ _)⟩)
  dsimp only [Pt.U, Pt.locs, Pt.cells, Pt.slots] at X228 l228 y228 z228 st228 hQ228
  subst l228 y228 z228
  obtain ⟨dn228, rfl, Nq228, K228, A228, hd228⟩ := hQ228
  have N228 := Fr.app N227 Nq228
  have lp := u110.lt
  have lo1 := (own_ALl1 u113).lt
  have lo2 := (own_ALl2 u113).lt
  have ls1 := u115.1
  have lb1 := u115.2.1
  have ls2 := u116.1
  have lb2 := u116.2.1
  have lsa := Ex227.lt
  have lba := V227.lt
  have C228 : CHr Z own_EL T224.vm T227.heap T224.vm T228.heap := CHr.keep K228 (sfS (Safe.exa hZ.alike u117 (by decide) (by decide)) (sfS (own_ALsafe hZ.alike u114) sf0)) CR227.1
  have CR228 := CR227.trans C228
  have kz228 : _ ≤ T228.heap.size := Nat.le_trans kz227 K228.1
  have O228 : Old Z n0 T228.heap := O227.keep K228 (allS A2.1 (allS A2.2.1 all0))
  have u128 := u110.keep K228
  have u129 := u111.keep K228 (ninS q3 (ninS q4 nin0))
  have u130 := u112.keep K228 (ninS q3 (ninS q4 nin0))
  have u131 := own_ALkeep u113 K228 (ninS q5 (ninS q6 nin0)) (ninS q7 (ninS q8 nin0))
  have u132 := own_SXkeep u115 K228 (ninS m1.2.2.1 (ninS m1.2.2.2 nin0)) (ninS m2.2.2.1 (ninS m2.2.2.2 nin0))
  have u133 := own_SXkeep u116 K228 (ninS m3.2.2.1 (ninS m3.2.2.2 nin0)) (ninS m4.2.2.1 (ninS m4.2.2.2 nin0))
  have u135 := Ex227.keep K228
  have u136 := Fv227.keep K228 (ninS (Ne.symm ne_al2_sa227) (ninS (Ne.symm ne_dd2_sa227) nin0))
  have u137 := Fc227.keep K228 (ninS (Ne.symm ne_al2_sa227) (ninS (Ne.symm ne_dd2_sa227) nin0))
  have u138 := V227.keep K228 (ninS (Ne.symm ne_al2_ba227) (ninS (Ne.symm ne_dd2_ba227) nin0))
  refine own_jumpH (g' := (mkF m 32 #[rv a1, rv r2, rv r3] [(.int 1)])) st228 ?_
  refine own_stH _ (own_pop 33 X228 hx hby d54_32) ?_
  refine own_retH X228 hlk S224 (own_leE rfl kz228) (v := none) (fun _ => rfl) (fun fs hr => X228.returnOut hx hret (hb hby d54_33) hr) ?_ (own_CHend hs0 rfl CR228 (CHv.at X228 hZ hEL CR228.1)) (by decide) (by decide)
  show own_Q54_1 Z a1 r2 r3 k1 k2 t1 t2 b_2 kb2 bs2 b_3 kb3 bs3 wc wD kD h0 n0 _ T228.heap _
  have hln : (bs2 ++ [58, 32] ++ bs3).length = 4 := by simp [hb2, hb3]
  have Vt := own_vt u138 hln rfl
  have SN : own_SX Z T228.heap 1 (.ref sa227) (bs2 ++ [58, 32] ++ bs3) sa227 ba227 := ⟨u135.lt, u138.lt, fun _ => ⟨rfl, u135, u136, u137, _, Vt⟩⟩
  have c1 := own_n4E (show own_n4 s1 al1 dd1 al2 dd2 from m1) hd228 ls1
  have c2 := own_n4E (show own_n4 b1 al1 dd1 al2 dd2 from m2) hd228 lb1
  have c3 := own_n4E (show own_n4 s2 al1 dd1 al2 dd2 from m3) hd228 ls2
  have c4 := own_n4E (show own_n4 b2 al1 dd1 al2 dd2 from m4) hd228 lb2
  have c5 := own_n4E (show own_n4 sa227 al1 dd1 al2 dd2 from ⟨(Ne.symm ne_al1_sa227), (Ne.symm ne_dd1_sa227), (Ne.symm ne_al2_sa227), (Ne.symm ne_dd2_sa227)⟩) hd228 lsa
  have c6 := own_n4E (show own_n4 ba227 al1 dd1 al2 dd2 from ⟨(Ne.symm ne_al1_ba227), (Ne.symm ne_dd1_ba227), (Ne.symm ne_al2_ba227), (Ne.symm ne_dd2_ba227)⟩) hd228 lba
  exact ⟨rfl, N228, O228, own_CPSadd2 gp u128 u129 u130 u131 A228 ⟨q1, q2, q3, (own_neD hd228 q4 lp), q5, (own_neD hd228 q6 lo1), q7, (own_neD hd228 q8 lo2)⟩ u132 u133 SN c1 c2 c3 c4 c5 c6⟩
def own_Q54_17 (Z : State) (a1 r2 r3 : Addr) (k1 k2 : Nat) (t1 t2 : List Int32) (b_2 : Addr) (kb2 : ClassId) (bs2 : List Int32) (b_3 : Addr) (kb3 : ClassId) (bs3 : List Int32) (wc : Int32) (wD : Addr) (kD : ClassId) (h0 : Heap) (n0 : Nat) (v : Option Value) (h : Heap) (L : List Loc) : Prop := v = none ∧ Fr n0 L ∧ Old Z n0 h ∧ own_CPS Z wD h n0 a1 k1 (k2 + 1) t1 (own_t k2 (bs2 ++ [58, 32] ++ bs3) t2)
theorem own_rm54_17 (l Z a0) (hw : own_W a0 Z) (ws) (a1 r2 r3 : Addr) (k1 k2 : Nat) (t1 t2 : List Int32) (b_2 : Addr) (kb2 : ClassId) (bs2 : List Int32) (b_3 : Addr) (kb3 : ClassId) (bs3 : List Int32) (wc : Int32) (wD : Addr) (kD : ClassId) (h0 : Heap) (n0 : Nat) (Z0 : n0 ≤ h0.size) (O0 : Old Z n0 h0) (SS : own_St Z wc wD kD) (hEL : EW Z a0 own_EL) (hk : k1 + k2 ≤ 7) (hb2 : bs2.length = 1) (hb3 : bs3.length = 17) (P0 : own_CPS Z wD h0 n0 a1 k1 k2 t1 t2) (S2e : Exa Z h0 r2 "java/lang/String") (S2v : Fld Z h0 r2 "java/lang/String" "value" "[B" (.ref b_2)) (S2c : Fld Z h0 r2 "java/lang/String" "coder" "B" (.int 0)) (S2a : Arv Z h0 b_2 kb2 .byte (1 : Int32) ((bs2).map Value.int) (.int 0)) (S3e : Exa Z h0 r3 "java/lang/String") (S3v : Fld Z h0 r3 "java/lang/String" "value" "[B" (.ref b_3)) (S3c : Fld Z h0 r3 "java/lang/String" "coder" "B" (.int 0)) (S3a : Arv Z h0 b_3 kb3 .byte (17 : Int32) ((bs3).map Value.int) (.int 0)) :
    own_MH l Z ws mn_39 c_38 3 none rm_35 #[(.ref a1), (.ref r2), (.ref r3)] h0 (own_Q54_17 Z a1 r2 r3 k1 k2 t1 t2 b_2 kb2 bs2 b_3 kb3 bs3 wc wD kD h0 n0) := by
  refine own_bodyH (plainFor_of_name pn_1) (fun m => own_ef11 m a1 r2 r3) ?_
  intro p e s m below meth c T0 X0 hx hby hml hZ hown hnm hret hlk e0 hs0 S0 CH0
  have hown : (s.setVm s.vm).vm.findClass "com/example/shaper/shaper/core/ConfigProblems" = some m.cls := hown
  have CR0 := CHr.refl CH0
  have kz0 : h0.size ≤ h0.size := Nat.le_refl _
  have hnm : meth.name = "unsupported" := hnm
  have N0 := Fr.nil n0
  obtain ⟨al1, dd1, al2, dd2, f1, f2, s1, b1, s2, b2, gp, Ep, Fvi, Fun, A1, A2, q1, q2, q3, q4, q5, q6, q7, q8, X1, X2, m1, m2, m3, m4⟩ := id P0
  have Eal := A2.2.2.1
  refine own_stH _ (own_aloadN 1 X0 hx hby d54_0) ?_
  obtain ⟨T229, X229, e229, st229⟩ := getF X0 hx hZ hown (host := "") (Or.inl (hw_35 hw)) Via.refl e0 Fun (g := (mkF m 1 #[rv a1, rv r2, rv r3] [(.ref a1)])) rfl rfl (hb hby d54_1)
  refine own_stepH (g' := (mkF m 4 #[rv a1, rv r2, rv r3] [(.ref al2)])) st229 ?_
  obtain ⟨T230, h230, X230, e230, E230, A230, D230, -, st230⟩ := newO X229 hx hZ hown (hw_70 hw) (hw_71 hw) (hw_72 hw) e229 (g := (mkF m 4 #[rv a1, rv r2, rv r3] [(.ref al2)])) rfl (hb hby d54_4) (by decide) (by decide)
  obtain ⟨b230, g230⟩ : ∃ z, z = h0.size := ⟨_, rfl⟩
  rw [← g230] at A230 D230 st230
  have g_b230 : n0 ≤ b230 := Nat.le_trans Z0 (Nat.le_of_eq g230.symm)
  have ne_a1_b230 : a1 ≠ b230 := own_ne Ep.lt g230
  have ne_al1_b230 : al1 ≠ b230 := own_ne (own_ALl1 A1).lt g230
  have ne_dd1_b230 : dd1 ≠ b230 := own_ne (own_ALl2 A1).lt g230
  have ne_al2_b230 : al2 ≠ b230 := own_ne (own_ALl1 A2).lt g230
  have ne_dd2_b230 : dd2 ≠ b230 := own_ne (own_ALl2 A2).lt g230
  have ne_s1_b230 : s1 ≠ b230 := own_ne (own_SXl1 X1).lt g230
  have ne_b1_b230 : b1 ≠ b230 := own_ne (own_SXl2 X1).lt g230
  have ne_s2_b230 : s2 ≠ b230 := own_ne (own_SXl1 X2).lt g230
  have ne_b2_b230 : b2 ≠ b230 := own_ne (own_SXl2 X2).lt g230
  have ne_r2_b230 : r2 ≠ b230 := own_ne S2e.lt g230
  have ne_b_2_b230 : b_2 ≠ b230 := own_ne S2a.lt g230
  have ne_r3_b230 : r3 ≠ b230 := own_ne S3e.lt g230
  have ne_b_3_b230 : b_3 ≠ b230 := own_ne S3a.lt g230
  have Z230 : n0 ≤ h230.size := Nat.le_trans Z0 E230.1
  have C230 : CHr Z own_EL s.vm h0 s.vm h230 := CHr.ext E230 CR0.1
  have CR230 := CR0.trans C230
  have kz230 : _ ≤ h230.size := Nat.le_trans kz0 E230.1
  have O230 : Old Z n0 h230 := O0.ext E230
  have u1 := Ep.ext E230
  have u2 := Fvi.ext E230
  have u3 := Fun.ext E230
  have u4 := own_ALext A1 E230
  have u5 := own_ALext A2 E230
  have u6 := own_SXext X1 E230
  have u7 := own_SXext X2 E230
  have u8 := Eal.ext E230
  have u9 := S2e.ext E230
  have u10 := S2v.ext E230
  have u11 := S2c.ext E230
  have u12 := S2a.ext E230
  have u13 := S3e.ext E230
  have u14 := S3v.ext E230
  have u15 := S3c.ext E230
  have u16 := S3a.ext E230
  have F_value_b230 : Fld Z h230 b230 "java/lang/AbstractStringBuilder" "value" "[B" .null := D230 (Or.inl (hw_85 hw)) (ty := (.array .byte)) (by decide)
  have F_coder_b230 : Fld Z h230 b230 "java/lang/AbstractStringBuilder" "coder" "B" (.int 0) := D230 (Or.inl (hw_87 hw)) (ty := .byte) (by decide)
  have F_count_b230 : Fld Z h230 b230 "java/lang/AbstractStringBuilder" "count" "I" (.int 0) := D230 (Or.inl (hw_109 hw)) (ty := .int) (by decide)
  refine own_stepH (g' := (mkF m 7 #[rv a1, rv r2, rv r3] [(.ref b230), (.ref al2)])) st230 ?_
  refine own_stH _ (own_dup 8 X230 hx hby d54_7) ?_
  obtain ⟨_, _, ⟨T231, L231, k231, n231⟩, -, X231, ⟨Lc231, hQ231, l231, y231, z231⟩, st231⟩ := X230.specialBack hx (y := mn_8) rfl hown (mvT hZ (hw_73 hw)) (mvT hZ (hw_74 hw)) (mvT hZ (hw_75 hw)) (by decide) (backOf (W := 2) (own_rm12 l Z a0 hw [] b230 wc wD kD h230 n0 Z230 O230 SS A230 F_value_b230 F_coder_b230 F_count_b230 g_b230) hZ (hw_75 hw) (hw_72 hw) (by decide) (by decide)) (g := (mkF m 8 #[rv a1, rv r2, rv r3] [(.ref b230), (.ref b230), (.ref al2)])) rfl (by rw [hml]; rfl) (Steps.refl _) (a := b230) (argsL := []) (rest := [(.ref b230), (.ref al2)]) (lenOf pd_20 rfl) rfl own_z0 (hb hby d54_8) (fun _ _ => ⟨rfl, e230, (by decide : 1 + 1 ≤ _), (by decide : 4 + 16 ≤ _)⟩)
  dsimp only [Pt.U, Pt.locs, Pt.cells, Pt.slots] at X231 l231 y231 z231 st231 hQ231
  subst l231 y231 z231
  obtain ⟨vb231, kb231, rfl, Nq231, K231, gb231, Ex231, Fv231, Fc231, Fn231, V231⟩ := hQ231
  have N231 := Fr.app N0 Nq231
  have g_vb231 : n0 ≤ vb231 := Nat.le_trans Z230 gb231
  have ne_a1_vb231 : a1 ≠ vb231 := Nat.ne_of_lt (Nat.lt_of_lt_of_le u1.lt gb231)
  have ne_al1_vb231 : al1 ≠ vb231 := Nat.ne_of_lt (Nat.lt_of_lt_of_le (own_ALl1 u4).lt gb231)
  have ne_dd1_vb231 : dd1 ≠ vb231 := Nat.ne_of_lt (Nat.lt_of_lt_of_le (own_ALl2 u4).lt gb231)
  have ne_al2_vb231 : al2 ≠ vb231 := Nat.ne_of_lt (Nat.lt_of_lt_of_le (own_ALl1 u5).lt gb231)
  have ne_dd2_vb231 : dd2 ≠ vb231 := Nat.ne_of_lt (Nat.lt_of_lt_of_le (own_ALl2 u5).lt gb231)
  have ne_s1_vb231 : s1 ≠ vb231 := Nat.ne_of_lt (Nat.lt_of_lt_of_le (own_SXl1 u6).lt gb231)
  have ne_b1_vb231 : b1 ≠ vb231 := Nat.ne_of_lt (Nat.lt_of_lt_of_le (own_SXl2 u6).lt gb231)
  have ne_s2_vb231 : s2 ≠ vb231 := Nat.ne_of_lt (Nat.lt_of_lt_of_le (own_SXl1 u7).lt gb231)
  have ne_b2_vb231 : b2 ≠ vb231 := Nat.ne_of_lt (Nat.lt_of_lt_of_le (own_SXl2 u7).lt gb231)
  have ne_r2_vb231 : r2 ≠ vb231 := Nat.ne_of_lt (Nat.lt_of_lt_of_le u9.lt gb231)
  have ne_b_2_vb231 : b_2 ≠ vb231 := Nat.ne_of_lt (Nat.lt_of_lt_of_le u12.lt gb231)
  have ne_r3_vb231 : r3 ≠ vb231 := Nat.ne_of_lt (Nat.lt_of_lt_of_le u13.lt gb231)
  have ne_b_3_vb231 : b_3 ≠ vb231 := Nat.ne_of_lt (Nat.lt_of_lt_of_le u16.lt gb231)
  have ne_b230_vb231 : b230 ≠ vb231 := Nat.ne_of_lt (Nat.lt_of_lt_of_le A230.lt gb231)
  have C231 : CHr Z own_EL s.vm h230 s.vm T231.heap := CHr.keep K231 (sfS (Safe.exa hZ.alike A230 (by decide) (by decide)) sf0) CR230.1
  have CR231 := CR230.trans C231
  have kz231 : _ ≤ T231.heap.size := Nat.le_trans kz230 K231.1
  have Z231 : n0 ≤ T231.heap.size := Nat.le_trans Z230 K231.1
  have O231 : Old Z n0 T231.heap := O230.keep K231 (allS g_b230 all0)
  have u17 := u1.keep K231
  have u18 := u2.keep K231 (ninS ne_a1_b230 nin0)
  have u19 := u3.keep K231 (ninS ne_a1_b230 nin0)
  have u20 := own_ALkeep u4 K231 (ninS ne_al1_b230 nin0) (ninS ne_dd1_b230 nin0)
  have u21 := own_ALkeep u5 K231 (ninS ne_al2_b230 nin0) (ninS ne_dd2_b230 nin0)
  have u22 := own_SXkeep u6 K231 (ninS ne_s1_b230 nin0) (ninS ne_b1_b230 nin0)
  have u23 := own_SXkeep u7 K231 (ninS ne_s2_b230 nin0) (ninS ne_b2_b230 nin0)
  have u24 := u8.keep K231
  have u25 := u9.keep K231
  have u26 := u10.keep K231 (ninS ne_r2_b230 nin0)
  have u27 := u11.keep K231 (ninS ne_r2_b230 nin0)
  have u28 := u12.keep K231 (ninS ne_b_2_b230 nin0)
  have u29 := u13.keep K231
  have u30 := u14.keep K231 (ninS ne_r3_b230 nin0)
  have u31 := u15.keep K231 (ninS ne_r3_b230 nin0)
  have u32 := u16.keep K231 (ninS ne_b_3_b230 nin0)
  have Sf_vb231 : Safe Z own_EL s.vm T231.heap vb231 := Safe.keep K231 (sfS (Safe.exa hZ.alike A230 (by decide) (by decide)) sf0) CR230.1 (Safe.new gb231)
  refine own_jumpH (g' := (mkF m 11 #[rv a1, rv r2, rv r3] [(.ref b230), (.ref al2)])) st231 ?_
  refine own_stH _ (own_aloadN 12 X231 hx hby d54_11) ?_
  obtain ⟨cq232, kq232, q232a, q232b, q232c⟩ := isOf hZ rfl Ex231
  obtain ⟨_, _, ⟨T232, L232, k232, n232⟩, -, X232, ⟨Lc232, hQ232, l232, y232, z232⟩, st232⟩ := X231.virtualBack hx (y := mn_19) (z := mn_19) hown (mvT hZ (hw_88 hw)) (mvT hZ (hw_89 hw)) (notFace_of_selects (args := #[]) (mvT hZ (hw_91 hw))) (mvT hZ (hw_91 hw)) (mvT hZ (hw_90 hw)) (by decide) (backOf (W := 1) (own_rm14_0_1 l Z a0 hw [] b230 r2 vb231 kb231 b_2 bs2 kb2 [] wc wD kD T231.heap n0 Z231 O231 SS rfl hb2 Ex231 Fv231 Fc231 Fn231 V231 u25 u26 u27 u28 g_b230 ne_b230_vb231 (Ne.symm ne_r2_b230) (Ne.symm ne_b_2_b230) ne_r2_vb231 ne_b_2_vb231 g_vb231) hZ (hw_92 hw) (hw_72 hw) (by decide) (by decide)) q232a q232c (g := (mkF m 12 #[rv a1, rv r2, rv r3] [(.ref r2), (.ref b230), (.ref al2)])) rfl (by rw [hml]; rfl) (Steps.refl _) (argsL := [(.ref r2)]) (rest := [(.ref al2)]) (lenOf pd_24 rfl) rfl own_z0 (hb hby d54_12) (fun _ _ => ⟨rfl, rfl, (by decide : 2 + 0 ≤ _), (by decide : 20 + 0 ≤ _)⟩)
  dsimp only [Pt.U, Pt.locs, Pt.cells, Pt.slots] at X232 l232 y232 z232 st232 hQ232
  subst l232 y232 z232
  obtain ⟨rfl, Nq232, K232, Ex232, Fv232, Fc232, Fn232, V232⟩ := hQ232
  have N232 := Fr.app N231 Nq232
  have C232 : CHr Z own_EL s.vm T231.heap s.vm T232.heap := CHr.keep K232 (sfS (Safe.exa hZ.alike Ex231 (by decide) (by decide)) (sfS Sf_vb231 sf0)) CR231.1
  have CR232 := CR231.trans C232
  have kz232 : _ ≤ T232.heap.size := Nat.le_trans kz231 K232.1
  have Z232 : n0 ≤ T232.heap.size := Nat.le_trans Z231 K232.1
  have O232 : Old Z n0 T232.heap := O231.keep K232 (allS g_b230 (allS g_vb231 all0))
  have u34 := u17.keep K232
  have u35 := u18.keep K232 (ninS ne_a1_b230 (ninS ne_a1_vb231 nin0))
  have u36 := u19.keep K232 (ninS ne_a1_b230 (ninS ne_a1_vb231 nin0))
  have u37 := own_ALkeep u20 K232 (ninS ne_al1_b230 (ninS ne_al1_vb231 nin0)) (ninS ne_dd1_b230 (ninS ne_dd1_vb231 nin0))
  have u38 := own_ALkeep u21 K232 (ninS ne_al2_b230 (ninS ne_al2_vb231 nin0)) (ninS ne_dd2_b230 (ninS ne_dd2_vb231 nin0))
  have u39 := own_SXkeep u22 K232 (ninS ne_s1_b230 (ninS ne_s1_vb231 nin0)) (ninS ne_b1_b230 (ninS ne_b1_vb231 nin0))
  have u40 := own_SXkeep u23 K232 (ninS ne_s2_b230 (ninS ne_s2_vb231 nin0)) (ninS ne_b2_b230 (ninS ne_b2_vb231 nin0))
  have u41 := u24.keep K232
  have u46 := u29.keep K232
  have u47 := u30.keep K232 (ninS ne_r3_b230 (ninS ne_r3_vb231 nin0))
  have u48 := u31.keep K232 (ninS ne_r3_b230 (ninS ne_r3_vb231 nin0))
  have u49 := u32.keep K232 (ninS ne_b_3_b230 (ninS ne_b_3_vb231 nin0))
  have u51 := C232.safe V231.lt Sf_vb231
  refine own_jumpH (g' := (mkF m 15 #[rv a1, rv r2, rv r3] [(.ref b230), (.ref al2)])) st232 ?_
  obtain ⟨la233, T233, h233, kk233, lb233, kb233, X233, e233, E233, S233, kz233, hZ, hown, Ex233, Fc233, Fv233, V233, lta233, ltb233, C233, -, nl233, st233⟩ := ldcCH (vm0 := s.vm) (EL := own_EL) X232 hx hZ hown (hw_135 hw) (own_wS hw) rfl S0 kz232 hEL own_mem26 CR232.1 (vs := ([58, 32] : List Int32).map Value.int) (z := (2 : Int32)) own_txt26 (by decide) rfl (g := (mkF m 15 #[rv a1, rv r2, rv r3] [(.ref b230), (.ref al2)])) rfl (hb hby d54_15) (n := 8) own_tln26 (by decide) (by decide) (by decide)
  have CR233 := CR232.trans C233
  have Z233 : n0 ≤ h233.size := Nat.le_trans Z232 E233.1
  have O233 : Old Z n0 h233 := O232.ext E233
  have u52 := u34.ext E233
  have u53 := u35.ext E233
  have u54 := u36.ext E233
  have u55 := own_ALext u37 E233
  have u56 := own_ALext u38 E233
  have u57 := own_SXext u39 E233
  have u58 := own_SXext u40 E233
  have u59 := u41.ext E233
  have u64 := u46.ext E233
  have u65 := u47.ext E233
  have u66 := u48.ext E233
  have u67 := u49.ext E233
  have u68 := Ex232.ext E233
  have u69 := C233.safe V232.lt u51
  have u70 := Fv232.ext E233
  have u71 := Fc232.ext E233
  have u72 := Fn232.ext E233
  have u73 := V232.ext E233
  obtain ⟨ne_b230_la233, ne_b230_lb233⟩ := nl233 b230 (Safe.exa hZ.alike u68 (by decide) (by decide))
  obtain ⟨ne_vb231_la233, ne_vb231_lb233⟩ := nl233 vb231 u69
  refine own_stepH (g' := (mkF m 17 #[rv a1, rv r2, rv r3] [(.ref la233), (.ref b230), (.ref al2)])) st233 ?_
  obtain ⟨cq234, kq234, q234a, q234b, q234c⟩ := isOf hZ e233 u68
  obtain ⟨_, _, ⟨T234, L234, k234, n234⟩, -, X234, ⟨Lc234, hQ234, l234, y234, z234⟩, st234⟩ := X233.virtualBack hx (y := mn_19) (z := mn_19) hown (mvT hZ (hw_88 hw)) (mvT hZ (hw_89 hw)) (notFace_of_selects (args := #[]) (mvT hZ (hw_91 hw))) (mvT hZ (hw_91 hw)) (mvT hZ (hw_90 hw)) (by decide) (backOf (W := 1) (own_rm14_1_2 l Z a0 hw [] b230 la233 vb231 kb231 lb233 ([58, 32] : List Int32) kb233 ([] ++ bs2) wc wD kD h233 n0 Z233 O233 SS (by simp [hb2]) rfl u68 u70 u71 u72 u73 Ex233 Fv233 Fc233 V233 g_b230 ne_b230_vb231 ne_b230_la233 ne_b230_lb233 (Ne.symm ne_vb231_la233) (Ne.symm ne_vb231_lb233) g_vb231) hZ (hw_92 hw) (hw_72 hw) (by decide) (by decide)) q234a q234c (g := (mkF m 17 #[rv a1, rv r2, rv r3] [(.ref la233), (.ref b230), (.ref al2)])) rfl (by rw [hml]; rfl) (Steps.refl _) (argsL := [(.ref la233)]) (rest := [(.ref al2)]) (lenOf pd_24 rfl) rfl own_z0 (hb hby d54_17) (fun _ _ => ⟨rfl, e233, (by decide : 4 + 0 ≤ _), (by decide : 32 + 0 ≤ _)⟩)
  dsimp only [Pt.U, Pt.locs, Pt.cells, Pt.slots] at X234 l234 y234 z234 st234 hQ234
  subst l234 y234 z234
  obtain ⟨rfl, Nq234, K234, Ex234, Fv234, Fc234, Fn234, V234⟩ := hQ234
  have N234 := Fr.app N232 Nq234
  have C234 : CHr Z own_EL T233.vm h233 T233.vm T234.heap := CHr.keep K234 (sfS (Safe.exa hZ.alike u68 (by decide) (by decide)) (sfS u69 sf0)) CR233.1
  have CR234 := CR233.trans C234
  have kz234 : _ ≤ T234.heap.size := Nat.le_trans kz233 K234.1
  have Z234 : n0 ≤ T234.heap.size := Nat.le_trans Z233 K234.1
  have O234 : Old Z n0 T234.heap := O233.keep K234 (allS g_b230 (allS g_vb231 all0))
  have u74 := u52.keep K234
  have u75 := u53.keep K234 (ninS ne_a1_b230 (ninS ne_a1_vb231 nin0))
  have u76 := u54.keep K234 (ninS ne_a1_b230 (ninS ne_a1_vb231 nin0))
  have u77 := own_ALkeep u55 K234 (ninS ne_al1_b230 (ninS ne_al1_vb231 nin0)) (ninS ne_dd1_b230 (ninS ne_dd1_vb231 nin0))
  have u78 := own_ALkeep u56 K234 (ninS ne_al2_b230 (ninS ne_al2_vb231 nin0)) (ninS ne_dd2_b230 (ninS ne_dd2_vb231 nin0))
  have u79 := own_SXkeep u57 K234 (ninS ne_s1_b230 (ninS ne_s1_vb231 nin0)) (ninS ne_b1_b230 (ninS ne_b1_vb231 nin0))
  have u80 := own_SXkeep u58 K234 (ninS ne_s2_b230 (ninS ne_s2_vb231 nin0)) (ninS ne_b2_b230 (ninS ne_b2_vb231 nin0))
  have u81 := u59.keep K234
  have u86 := u64.keep K234
  have u87 := u65.keep K234 (ninS ne_r3_b230 (ninS ne_r3_vb231 nin0))
  have u88 := u66.keep K234 (ninS ne_r3_b230 (ninS ne_r3_vb231 nin0))
  have u89 := u67.keep K234 (ninS ne_b_3_b230 (ninS ne_b_3_vb231 nin0))
  refine own_jumpH (g' := (mkF m 20 #[rv a1, rv r2, rv r3] [(.ref b230), (.ref al2)])) st234 ?_
  refine own_stH _ (own_aloadN 21 X234 hx hby d54_20) ?_
  obtain ⟨cq235, kq235, q235a, q235b, q235c⟩ := isOf hZ rfl Ex234
  obtain ⟨_, _, ⟨T235, L235, k235, n235⟩, -, X235, ⟨Lc235, hQ235, l235, y235, z235⟩, st235⟩ := X234.virtualBack hx (y := mn_19) (z := mn_19) hown (mvT hZ (hw_88 hw)) (mvT hZ (hw_89 hw)) (notFace_of_selects (args := #[]) (mvT hZ (hw_91 hw))) (mvT hZ (hw_91 hw)) (mvT hZ (hw_90 hw)) (by decide) (backOf (W := 1) (own_rm14_3_17 l Z a0 hw [] b230 r3 vb231 kb231 b_3 bs3 kb3 (([] ++ bs2) ++ [58, 32]) wc wD kD T234.heap n0 Z234 O234 SS (by simp [hb2]) hb3 Ex234 Fv234 Fc234 Fn234 V234 u86 u87 u88 u89 g_b230 ne_b230_vb231 (Ne.symm ne_r3_b230) (Ne.symm ne_b_3_b230)) hZ (hw_92 hw) (hw_72 hw) (by decide) (by decide)) q235a q235c (g := (mkF m 21 #[rv a1, rv r2, rv r3] [(.ref r3), (.ref b230), (.ref al2)])) rfl (by rw [hml]; rfl) (Steps.refl _) (argsL := [(.ref r3)]) (rest := [(.ref al2)]) (lenOf pd_24 rfl) rfl own_z0 (hb hby d54_21) (fun _ _ => ⟨rfl, rfl, (by decide : 4 + 1 ≤ _), (by decide : 32 + 34 ≤ _)⟩)
  dsimp only [Pt.U, Pt.locs, Pt.cells, Pt.slots] at X235 l235 y235 z235 st235 hQ235
  subst l235 y235 z235
  obtain ⟨vb235, kb235, rfl, Nq235, K235, gb235, Ex235, Fv235, Fc235, Fn235, V235⟩ := hQ235
  have N235 := Fr.app N234 Nq235
  have C235 : CHr Z own_EL T233.vm T234.heap T233.vm T235.heap := CHr.keep K235 (sfS (Safe.exa hZ.alike Ex234 (by decide) (by decide)) sf0) CR234.1
  have CR235 := CR234.trans C235
  have kz235 : _ ≤ T235.heap.size := Nat.le_trans kz234 K235.1
  have Z235 : n0 ≤ T235.heap.size := Nat.le_trans Z234 K235.1
  have O235 : Old Z n0 T235.heap := O234.keep K235 (allS g_b230 all0)
  have u96 := u74.keep K235
  have u97 := u75.keep K235 (ninS ne_a1_b230 nin0)
  have u98 := u76.keep K235 (ninS ne_a1_b230 nin0)
  have u99 := own_ALkeep u77 K235 (ninS ne_al1_b230 nin0) (ninS ne_dd1_b230 nin0)
  have u100 := own_ALkeep u78 K235 (ninS ne_al2_b230 nin0) (ninS ne_dd2_b230 nin0)
  have u101 := own_SXkeep u79 K235 (ninS ne_s1_b230 nin0) (ninS ne_b1_b230 nin0)
  have u102 := own_SXkeep u80 K235 (ninS ne_s2_b230 nin0) (ninS ne_b2_b230 nin0)
  have u103 := u81.keep K235
  refine own_jumpH (g' := (mkF m 24 #[rv a1, rv r2, rv r3] [(.ref b230), (.ref al2)])) st235 ?_
  obtain ⟨cq236, kq236, q236a, q236b, q236c⟩ := isOf hZ rfl Ex235
  obtain ⟨_, _, ⟨T236, L236, k236, n236⟩, -, X236, ⟨Lc236, hQ236, l236, y236, z236⟩, st236⟩ := X235.virtualBack hx (y := mn_28) (z := mn_28) hown (mvT hZ (hw_138 hw)) (mvT hZ (hw_139 hw)) (notFace_of_selects (args := #[]) (mvT hZ (hw_141 hw))) (mvT hZ (hw_141 hw)) (mvT hZ (hw_140 hw)) (by decide) (backOf (W := 1) (own_rm22_t20 l Z a0 hw [] b230 vb235 kb235 ((((([] ++ bs2) ++ [58, 32])) ++ bs3) ++ List.replicate 14 (0 : Int32)) wc wD kD T235.heap n0 Z235 O235 SS (by simp [hb2, hb3]) Ex235 Fv235 Fc235 Fn235 V235) hZ (hw_142 hw) (hw_72 hw) (by decide) (by decide)) q236a q236c (g := (mkF m 24 #[rv a1, rv r2, rv r3] [(.ref b230), (.ref al2)])) rfl (by rw [hml]; rfl) (Steps.refl _) (argsL := []) (rest := [(.ref al2)]) (lenOf pd_25 rfl) rfl own_z0 (hb hby d54_24) (fun _ _ => ⟨rfl, rfl, (by decide : 5 + 2 ≤ _), (by decide : 66 + 24 ≤ _)⟩)
  dsimp only [Pt.U, Pt.locs, Pt.cells, Pt.slots] at X236 l236 y236 z236 st236 hQ236
  subst l236 y236 z236
  obtain ⟨sa236, ba236, kb236, rfl, Nq236, K236, ga236, gb236, ne236, Ex236, Fv236, Fc236, V236⟩ := hQ236
  have N236 := Fr.app N235 Nq236
  have ne_al1_sa236 : al1 ≠ sa236 := Nat.ne_of_lt (Nat.lt_of_lt_of_le (own_ALl1 u99).lt ga236)
  have ne_dd1_sa236 : dd1 ≠ sa236 := Nat.ne_of_lt (Nat.lt_of_lt_of_le (own_ALl2 u99).lt ga236)
  have ne_al2_sa236 : al2 ≠ sa236 := Nat.ne_of_lt (Nat.lt_of_lt_of_le (own_ALl1 u100).lt ga236)
  have ne_dd2_sa236 : dd2 ≠ sa236 := Nat.ne_of_lt (Nat.lt_of_lt_of_le (own_ALl2 u100).lt ga236)
  have ne_al1_ba236 : al1 ≠ ba236 := Nat.ne_of_lt (Nat.lt_of_lt_of_le (own_ALl1 u99).lt gb236)
  have ne_dd1_ba236 : dd1 ≠ ba236 := Nat.ne_of_lt (Nat.lt_of_lt_of_le (own_ALl2 u99).lt gb236)
  have ne_al2_ba236 : al2 ≠ ba236 := Nat.ne_of_lt (Nat.lt_of_lt_of_le (own_ALl1 u100).lt gb236)
  have ne_dd2_ba236 : dd2 ≠ ba236 := Nat.ne_of_lt (Nat.lt_of_lt_of_le (own_ALl2 u100).lt gb236)
  have C236 : CHr Z own_EL T233.vm T235.heap T233.vm T236.heap := CHr.keep K236 sf0 CR235.1
  have CR236 := CR235.trans C236
  have kz236 : _ ≤ T236.heap.size := Nat.le_trans kz235 K236.1
  have Z236 : n0 ≤ T236.heap.size := Nat.le_trans Z235 K236.1
  have O236 : Old Z n0 T236.heap := O235.keep K236 all0
  have u111 := u96.keep K236
  have u112 := u97.keep K236 nin0
  have u113 := u98.keep K236 nin0
  have u114 := own_ALkeep u99 K236 nin0 nin0
  have u115 := own_ALkeep u100 K236 nin0 nin0
  have u116 := own_SXkeep u101 K236 nin0 nin0
  have u117 := own_SXkeep u102 K236 nin0 nin0
  have u118 := u103.keep K236
  refine own_jumpH (g' := (mkF m 27 #[rv a1, rv r2, rv r3] [(.ref sa236), (.ref al2)])) st236 ?_
  obtain ⟨cq237, kq237, q237a, q237b, q237c⟩ := isOf hZ rfl u118
  obtain ⟨_, _, ⟨T237, L237, k237, n237⟩, -, X237, ⟨Lc237, hQ237, l237, y237, z237⟩, st237⟩ := X236.interfaceBack hx (xi := mn_38) (y := mn_36) hown (mvT hZ (hw_183 hw)) (mvT hZ (hw_184 hw)) (mvT hZ (hw_185 hw)) (mvT hZ (hw_186 hw)) (mvT hZ (hw_187 hw)) (mvT hZ (hw_188 hw)) (mvT hZ (hw_189 hw)) (mvT hZ (hw_190 hw)) (by decide) (backOf (W := 0) (own_rm33 l Z a0 hw [] al2 sa236 k2 dd2 f2 wc wD kD T236.heap n0 Z236 O236 SS (by omega) u115 Ex236) hZ (hw_191 hw) (hw_11 hw) (by decide) (by decide)) q237a q237b q237c (g := (mkF m 27 #[rv a1, rv r2, rv r3] [(.ref sa236), (.ref al2)])) rfl (by rw [hml]; rfl) (Steps.refl _) (argsL := [(.ref sa236)]) (rest := []) (lenOf pd_26 rfl) rfl own_z0 (hb hby d54_27) (fun _ _ => ⟨rfl, rfl, (by decide : 7 + 1 ≤ _), (by decide : 90 + 10 ≤ _)⟩)
  dsimp only [Pt.U, Pt.locs, Pt.cells, Pt.slots] at X237 l237 y237 z237 st237 hQ237
  subst l237 y237 z237
  obtain ⟨dn237, rfl, Nq237, K237, A237, hd237⟩ := hQ237
  have N237 := Fr.app N236 Nq237
  have lp := u111.lt
  have lo1 := (own_ALl1 u114).lt
  have lo2 := (own_ALl2 u114).lt
  have ls1 := u116.1
  have lb1 := u116.2.1
  have ls2 := u117.1
  have lb2 := u117.2.1
  have lsa := Ex236.lt
  have lba := V236.lt
  have C237 : CHr Z own_EL T233.vm T236.heap T233.vm T237.heap := CHr.keep K237 (sfS (Safe.exa hZ.alike u118 (by decide) (by decide)) (sfS (own_ALsafe hZ.alike u115) sf0)) CR236.1
  have CR237 := CR236.trans C237
  have kz237 : _ ≤ T237.heap.size := Nat.le_trans kz236 K237.1
  have O237 : Old Z n0 T237.heap := O236.keep K237 (allS A2.1 (allS A2.2.1 all0))
  have u131 := u111.keep K237
  have u132 := u112.keep K237 (ninS q3 (ninS q4 nin0))
  have u133 := u113.keep K237 (ninS q3 (ninS q4 nin0))
  have u134 := own_ALkeep u114 K237 (ninS q5 (ninS q6 nin0)) (ninS q7 (ninS q8 nin0))
  have u135 := own_SXkeep u116 K237 (ninS m1.2.2.1 (ninS m1.2.2.2 nin0)) (ninS m2.2.2.1 (ninS m2.2.2.2 nin0))
  have u136 := own_SXkeep u117 K237 (ninS m3.2.2.1 (ninS m3.2.2.2 nin0)) (ninS m4.2.2.1 (ninS m4.2.2.2 nin0))
  have u138 := Ex236.keep K237
  have u139 := Fv236.keep K237 (ninS (Ne.symm ne_al2_sa236) (ninS (Ne.symm ne_dd2_sa236) nin0))
  have u140 := Fc236.keep K237 (ninS (Ne.symm ne_al2_sa236) (ninS (Ne.symm ne_dd2_sa236) nin0))
  have u141 := V236.keep K237 (ninS (Ne.symm ne_al2_ba236) (ninS (Ne.symm ne_dd2_ba236) nin0))
  refine own_jumpH (g' := (mkF m 32 #[rv a1, rv r2, rv r3] [(.int 1)])) st237 ?_
  refine own_stH _ (own_pop 33 X237 hx hby d54_32) ?_
  refine own_retH X237 hlk S233 (own_leE rfl kz237) (v := none) (fun _ => rfl) (fun fs hr => X237.returnOut hx hret (hb hby d54_33) hr) ?_ (own_CHend hs0 rfl CR237 (CHv.at X237 hZ hEL CR237.1)) (by decide) (by decide)
  show own_Q54_17 Z a1 r2 r3 k1 k2 t1 t2 b_2 kb2 bs2 b_3 kb3 bs3 wc wD kD h0 n0 _ T237.heap _
  have hln : (bs2 ++ [58, 32] ++ bs3).length = 20 := by simp [hb2, hb3]
  have Vt := own_vt u141 hln rfl
  have SN : own_SX Z T237.heap 1 (.ref sa236) (bs2 ++ [58, 32] ++ bs3) sa236 ba236 := ⟨u138.lt, u141.lt, fun _ => ⟨rfl, u138, u139, u140, _, Vt⟩⟩
  have c1 := own_n4E (show own_n4 s1 al1 dd1 al2 dd2 from m1) hd237 ls1
  have c2 := own_n4E (show own_n4 b1 al1 dd1 al2 dd2 from m2) hd237 lb1
  have c3 := own_n4E (show own_n4 s2 al1 dd1 al2 dd2 from m3) hd237 ls2
  have c4 := own_n4E (show own_n4 b2 al1 dd1 al2 dd2 from m4) hd237 lb2
  have c5 := own_n4E (show own_n4 sa236 al1 dd1 al2 dd2 from ⟨(Ne.symm ne_al1_sa236), (Ne.symm ne_dd1_sa236), (Ne.symm ne_al2_sa236), (Ne.symm ne_dd2_sa236)⟩) hd237 lsa
  have c6 := own_n4E (show own_n4 ba236 al1 dd1 al2 dd2 from ⟨(Ne.symm ne_al1_ba236), (Ne.symm ne_dd1_ba236), (Ne.symm ne_al2_ba236), (Ne.symm ne_dd2_ba236)⟩) hd237 lba
  exact ⟨rfl, N237, O237, own_CPSadd2 gp u131 u132 u133 u134 A237 ⟨q1, q2, q3, (own_neD hd237 q4 lp), q5, (own_neD hd237 q6 lo1), q7, (own_neD hd237 q8 lo2)⟩ u135 u136 SN c1 c2 c3 c4 c5 c6⟩
theorem d55_0 : own_D c_39 0 (.aload_n 0, 1) := by decide +kernel
theorem d55_1 : own_D c_39 1 (.aload_n 1, 1) := by decide +kernel
theorem d55_2 : own_D c_39 2 (.ldc 38, 2) := by decide +kernel
theorem hw_298 : own_H (.stringLink "com/example/shaper/shaper/core/ConfigProblems" 38 "not supported yet") := own_h 298 rfl
theorem d55_4 : own_D c_39 4 (.invokevirtual 40, 3) := by decide +kernel
theorem hw_299 : own_H (.methodLink "com/example/shaper/shaper/core/ConfigProblems" 40 mn_39) := own_h 299 rfl
theorem hw_292 : own_H (.code mn_39 prog_4_method_4_code 3 none) := own_h 292 rfl
theorem hw_2 : own_H (.initialized "com/example/shaper/shaper/core/ConfigProblems") := own_h 2 rfl
theorem pd_27 : parseMethodDescriptor "(Ljava/lang/String;Ljava/lang/String;)V" = some ⟨[(.object "java/lang/String"), (.object "java/lang/String")], none⟩ := by decide +kernel
theorem hw_291 : own_H (.selects "com/example/shaper/shaper/core/ConfigProblems" mn_39 mn_39) := own_h 291 rfl
theorem hw_289 : own_H (.declares mn_39) := own_h 289 rfl
theorem hw_290 : own_H (.instanceMethod mn_39) := own_h 290 rfl
theorem d55_7 : own_D c_39 7 (.return_, 1) := by decide +kernel
def own_Q55 (Z : State) (a1 r2 : Addr) (k1 k2 : Nat) (t1 t2 : List Int32) (b_2 : Addr) (kb2 : ClassId) (bs2 : List Int32) (wc : Int32) (wD : Addr) (kD : ClassId) (h0 : Heap) (n0 : Nat) (v : Option Value) (h : Heap) (L : List Loc) : Prop := v = none ∧ Fr n0 L ∧ Old Z n0 h ∧ own_CPS Z wD h n0 a1 k1 (k2 + 1) t1 (own_t k2 (bs2 ++ [58, 32] ++ [110, 111, 116, 32, 115, 117, 112, 112, 111, 114, 116, 101, 100, 32, 121, 101, 116]) t2)
theorem own_rm55 (l Z a0) (hw : own_W a0 Z) (ws) (a1 r2 : Addr) (k1 k2 : Nat) (t1 t2 : List Int32) (b_2 : Addr) (kb2 : ClassId) (bs2 : List Int32) (wc : Int32) (wD : Addr) (kD : ClassId) (h0 : Heap) (n0 : Nat) (Z0 : n0 ≤ h0.size) (O0 : Old Z n0 h0) (SS : own_St Z wc wD kD) (hEL : EW Z a0 own_EL) (hk : k1 + k2 ≤ 7) (hb2 : bs2.length = 1) (P0 : own_CPS Z wD h0 n0 a1 k1 k2 t1 t2) (S2e : Exa Z h0 r2 "java/lang/String") (S2v : Fld Z h0 r2 "java/lang/String" "value" "[B" (.ref b_2)) (S2c : Fld Z h0 r2 "java/lang/String" "coder" "B" (.int 0)) (S2a : Arv Z h0 b_2 kb2 .byte (1 : Int32) ((bs2).map Value.int) (.int 0)) :
    own_MH l Z ws mn_40 c_39 2 none rm_36 #[(.ref a1), (.ref r2)] h0 (own_Q55 Z a1 r2 k1 k2 t1 t2 b_2 kb2 bs2 wc wD kD h0 n0) := by
  refine own_bodyH (plainFor_of_name pn_1) (fun m => own_ef20 m a1 r2) ?_
  intro p e s m below meth c T0 X0 hx hby hml hZ hown hnm hret hlk e0 hs0 S0 CH0
  have hown : (s.setVm s.vm).vm.findClass "com/example/shaper/shaper/core/ConfigProblems" = some m.cls := hown
  have CR0 := CHr.refl CH0
  have kz0 : h0.size ≤ h0.size := Nat.le_refl _
  have hnm : meth.name = "unsupported" := hnm
  have N0 := Fr.nil n0
  have Ecp := own_CPSexa P0
  refine own_stH _ (own_aloadN 1 X0 hx hby d55_0) ?_
  refine own_stH _ (own_aloadN 2 X0 hx hby d55_1) ?_
  obtain ⟨la238, T238, h238, kk238, lb238, kb238, X238, e238, E238, S238, kz238, hZ, hown, Ex238, Fc238, Fv238, V238, lta238, ltb238, C238, -, nl238, st238⟩ := ldcCH (vm0 := s.vm) (EL := own_EL) X0 hx hZ hown (hw_298 hw) (own_wS hw) e0 S0 kz0 hEL own_mem38 CR0.1 (vs := ([110, 111, 116, 32, 115, 117, 112, 112, 111, 114, 116, 101, 100, 32, 121, 101, 116] : List Int32).map Value.int) (z := (17 : Int32)) own_txt38 (by decide) rfl (g := (mkF m 2 #[rv a1, rv r2] [(.ref r2), (.ref a1)])) rfl (hb hby d55_2) (n := 68) own_tln38 (by decide) (by decide) (by decide)
  have CR238 := CR0.trans C238
  have Z238 : n0 ≤ h238.size := Nat.le_trans Z0 E238.1
  have O238 : Old Z n0 h238 := O0.ext E238
  have u1 := own_CPSext P0 E238
  have u2 := Ecp.ext E238
  have u3 := S2e.ext E238
  have u4 := S2v.ext E238
  have u5 := S2c.ext E238
  have u6 := S2a.ext E238
  refine own_stepH (g' := (mkF m 4 #[rv a1, rv r2] [(.ref la238), (.ref r2), (.ref a1)])) st238 ?_
  obtain ⟨cq239, kq239, q239a, q239b, q239c⟩ := isOf hZ e238 u2
  obtain ⟨_, _, ⟨T239, L239, k239, n239⟩, -, X239, S239, G239, ⟨Lc239, hQ239, l239, y239, z239, C239⟩, st239⟩ := X238.virtualBackS hx (y := mn_39) (z := mn_39) hown (mvT hZ (hw_299 hw)) (mvT hZ (hw_289 hw)) (notFace_of_selects (args := #[]) (mvT hZ (hw_291 hw))) (mvT hZ (hw_291 hw)) (mvT hZ (hw_290 hw)) (by decide) (backOfSH (s := s) (vm0 := T238.vm) (W := 0) (own_rm54_17 l Z a0 hw [] a1 r2 la238 k1 k2 t1 t2 b_2 kb2 bs2 lb238 kb238 ([110, 111, 116, 32, 115, 117, 112, 112, 111, 114, 116, 101, 100, 32, 121, 101, 116] : List Int32) wc wD kD h238 n0 Z238 O238 SS hEL hk hb2 rfl u1 u3 u4 u5 u6 Ex238 Fv238 Fc238 V238) hZ (hw_292 hw) (hw_2 hw) (by decide) (by decide) hEL CR238.1) q239a q239c (g := (mkF m 4 #[rv a1, rv r2] [(.ref la238), (.ref r2), (.ref a1)])) rfl (by rw [hml]; rfl) (Steps.refl _) (argsL := [(.ref r2), (.ref la238)]) (rest := []) (lenOf pd_27 rfl) rfl own_z0 (hb hby d55_4) (fun _ _ => ⟨rfl, e238, (by decide : 2 + 8 ≤ _), (by decide : 72 + 100 ≤ _)⟩)
  dsimp only [Pt.U, Pt.locs, Pt.cells, Pt.slots] at X239 l239 y239 z239 st239 hQ239 S239 G239 C239
  subst l239 y239 z239
  obtain ⟨X239, S239, hZ, hown⟩ := rebS S238 kz238 X239 S239 (show h238.size ≤ T239.heap.size from e238 ▸ G239) hZ hown
  have CR239 := CR238.trans C239
  have gr239 : h238.size ≤ T239.heap.size := C239.2.1
  obtain ⟨rfl, Nq239, O239, P239⟩ := hQ239
  have N239 := Fr.app N0 Nq239
  refine own_jumpH (g' := (mkF m 7 #[rv a1, rv r2] [])) st239 ?_
  refine own_retH X239 hlk S239 (own_leE rfl (Nat.le_refl T239.heap.size)) (v := none) (fun _ => rfl) (fun fs hr => X239.returnOut hx hret (hb hby d55_7) hr) ?_ (own_CHend hs0 rfl CR239 (CHv.at X239 hZ hEL CR239.1)) (by decide) (by decide)
  show own_Q55 Z a1 r2 k1 k2 t1 t2 b_2 kb2 bs2 wc wD kD h0 n0 _ T239.heap _
  exact ⟨rfl, N239, O239, P239⟩
theorem d6_0 : own_D method_4_code 0 (.iload_n 1, 1) := by decide +kernel
theorem d6_1 : own_D method_4_code 1 (.iconst 1, 1) := by decide +kernel
theorem d6_2 : own_D method_4_code 2 (.if_icmp .lt 28, 3) := by decide +kernel
theorem d6_30 : own_D method_4_code 30 (.iload_n 1, 1) := by decide +kernel
theorem d6_31 : own_D method_4_code 31 (.iconst 2, 1) := by decide +kernel
theorem d6_32 : own_D method_4_code 32 (.if_icmp .lt 31, 3) := by decide +kernel
theorem d6_63 : own_D method_4_code 63 (.return_, 1) := by decide +kernel
theorem d6_5 : own_D method_4_code 5 (.aload_n 0, 1) := by decide +kernel
theorem d6_6 : own_D method_4_code 6 (.iload_n 2, 1) := by decide +kernel
theorem d6_7 : own_D method_4_code 7 (.sipush 255, 3) := by decide +kernel
theorem d6_10 : own_D method_4_code 10 (.iand, 1) := by decide +kernel
theorem d6_11 : own_D method_4_code 11 (.i2c, 1) := by decide +kernel
theorem d6_12 : own_D method_4_code 12 (.invokestatic 12, 3) := by decide +kernel
theorem hw_41 : own_H (.methodLink "com/example/shaper/shaper/core/ConfigProblemsFirstPinLaw" 12 mn_5) := own_h 41 rfl
theorem hw_44 : own_H (.code mn_5 jdk_42_method_139_code 1 (some (.object "java/lang/String"))) := own_h 44 rfl
theorem pd_28 : parseMethodDescriptor "(C)Ljava/lang/String;" = some ⟨[.char], some (.object "java/lang/String")⟩ := by decide +kernel
theorem hw_42 : own_H (.static mn_5) := own_h 42 rfl
theorem d6_15 : own_D method_4_code 15 (.iload_n 2, 1) := by decide +kernel
theorem d6_16 : own_D method_4_code 16 (.bipush 8, 2) := by decide +kernel
theorem d6_18 : own_D method_4_code 18 (.iushr, 1) := by decide +kernel
theorem d6_19 : own_D method_4_code 19 (.sipush 255, 3) := by decide +kernel
theorem d6_22 : own_D method_4_code 22 (.iand, 1) := by decide +kernel
theorem d6_23 : own_D method_4_code 23 (.i2c, 1) := by decide +kernel
theorem d6_24 : own_D method_4_code 24 (.invokestatic 12, 3) := by decide +kernel
theorem d6_27 : own_D method_4_code 27 (.invokevirtual 16, 3) := by decide +kernel
theorem hw_65 : own_H (.methodLink "com/example/shaper/shaper/core/ConfigProblemsFirstPinLaw" 16 mn_37) := own_h 65 rfl
theorem hw_69 : own_H (.code mn_37 prog_4_method_2_code 3 none) := own_h 69 rfl
theorem hw_68 : own_H (.selects "com/example/shaper/shaper/core/ConfigProblems" mn_37 mn_37) := own_h 68 rfl
theorem hw_66 : own_H (.declares mn_37) := own_h 66 rfl
theorem hw_67 : own_H (.instanceMethod mn_37) := own_h 67 rfl
theorem d6_35 : own_D method_4_code 35 (.aload_n 0, 1) := by decide +kernel
theorem d6_36 : own_D method_4_code 36 (.iload_n 2, 1) := by decide +kernel
theorem d6_37 : own_D method_4_code 37 (.bipush 16, 2) := by decide +kernel
theorem d6_39 : own_D method_4_code 39 (.iushr, 1) := by decide +kernel
theorem d6_40 : own_D method_4_code 40 (.sipush 255, 3) := by decide +kernel
theorem d6_43 : own_D method_4_code 43 (.iand, 1) := by decide +kernel
theorem d6_44 : own_D method_4_code 44 (.i2c, 1) := by decide +kernel
theorem d6_45 : own_D method_4_code 45 (.invokestatic 12, 3) := by decide +kernel
theorem d6_48 : own_D method_4_code 48 (.iload_n 2, 1) := by decide +kernel
theorem d6_49 : own_D method_4_code 49 (.bipush 24, 2) := by decide +kernel
theorem d6_51 : own_D method_4_code 51 (.iushr, 1) := by decide +kernel
theorem d6_52 : own_D method_4_code 52 (.sipush 255, 3) := by decide +kernel
theorem d6_55 : own_D method_4_code 55 (.iand, 1) := by decide +kernel
theorem d6_56 : own_D method_4_code 56 (.i2c, 1) := by decide +kernel
theorem d6_57 : own_D method_4_code 57 (.invokestatic 12, 3) := by decide +kernel
theorem d6_60 : own_D method_4_code 60 (.invokevirtual 16, 3) := by decide +kernel
theorem pn_6 : plainName "com/example/shaper/shaper/core/ConfigProblemsFirstPinLaw" = true := by first | (simp [plainName, overriddenIn]; done) | decide +kernel
theorem own_ef6 (m : MethodId) (a1 : Addr) (p2 p3 : Int32) : entryFrame m #[(.ref a1), (.int p2), (.int p3)] 3 = mkF m 0 #[rv a1, iv p2, iv p3] [] := by first | (simp [entryFrame, mkF, argsToLocals, Value.category]; done) | rfl
def own_Q6 (Z : State) (a1 : Addr) (p2 p3 : Int32) (k2 : Nat) (t2 : List Int32) (wc : Int32) (wD : Addr) (kD : ClassId) (h0 : Heap) (n0 : Nat) (v : Option Value) (h : Heap) (L : List Loc) : Prop := ∃ j : Nat, v = none ∧ Fr n0 L ∧ Old Z n0 h ∧ own_CPS Z wD h n0 a1 j k2 (own_tv (own_ch p3) (own_ch (own_sh p3 8))) t2 ∧ ((p2 < (1 : Int32) ∧ j = 0) ∨ (¬ p2 < (1 : Int32) ∧ 1 ≤ j ∧ j ≤ 2))
theorem own_rm6 (l Z a0) (hw : own_W a0 Z) (ws) (a1 : Addr) (p2 p3 : Int32) (k2 : Nat) (t2 : List Int32) (wc : Int32) (wD : Addr) (kD : ClassId) (h0 : Heap) (n0 : Nat) (Z0 : n0 ≤ h0.size) (O0 : Old Z n0 h0) (SS : own_St Z wc wD kD) (hEL : EW Z a0 own_EL) (hk2 : k2 ≤ 3) (P0 : own_CPS Z wD h0 n0 a1 0 k2 (own_tv (own_ch p3) (own_ch (own_sh p3 8))) t2) :
    own_MH l Z ws mn_41 method_4_code 3 none rm_37 #[(.ref a1), (.int p2), (.int p3)] h0 (own_Q6 Z a1 p2 p3 k2 t2 wc wD kD h0 n0) := by
  refine own_bodyH (plainFor_of_name pn_6) (fun m => own_ef6 m a1 p2 p3) ?_
  intro p e s m below meth c T0 X0 hx hby hml hZ hown hnm hret hlk e0 hs0 S0 CH0
  have hown : (s.setVm s.vm).vm.findClass "com/example/shaper/shaper/core/ConfigProblemsFirstPinLaw" = some m.cls := hown
  have CR0 := CHr.refl CH0
  have kz0 : h0.size ≤ h0.size := Nat.le_refl _
  have hnm : meth.name = "addViolations" := hnm
  have N0 := Fr.nil n0
  have Ecp := own_CPSexa P0
  refine own_stH _ (own_iloadN 1 X0 hx hby d6_0) ?_
  refine own_stH _ (own_iconst 2 1 X0 hx hby d6_1) ?_
  by_cases hc240 : p2 < (1 : Int32)
  · refine own_stH _ (own_icmpYes 30 X0 hx hby d6_2 ((tlt hc240).1)) ?_
    refine own_stH _ (own_iloadN 31 X0 hx hby d6_30) ?_
    refine own_stH _ (own_iconst 32 2 X0 hx hby d6_31) ?_
    refine own_stH _ (own_icmpYes 63 X0 hx hby d6_32 ((tlt (own_lt12 hc240)).1)) ?_
    refine own_retH X0 hlk S0 (own_leE e0 kz0) (v := none) (fun _ => rfl) (fun fs hr => X0.returnOut hx hret (hb hby d6_63) hr) ?_ (own_CHend hs0 e0 CR0 (CHv.at X0 hZ hEL CR0.1)) (by decide) (by decide)
    show own_Q6 Z a1 p2 p3 k2 t2 wc wD kD h0 n0 _ T0.heap _
    rw [e0]
    exact ⟨0, rfl, N0, O0, P0, Or.inl ⟨hc240, rfl⟩⟩
  · refine own_stH _ (own_icmpNo 5 X0 hx hby d6_2 ((flt hc240).1)) ?_
    refine own_stH _ (own_aloadN 6 X0 hx hby d6_5) ?_
    refine own_stH _ (own_iloadN 7 X0 hx hby d6_6) ?_
    refine own_stH _ (own_sipush 10 255 X0 hx hby d6_7) ?_
    refine own_stH _ (own_iand 11 X0 hx hby d6_10) ?_
    refine own_stH _ (own_i2c 12 X0 hx hby d6_11) ?_
    rw [show ((p3 &&& 255).toUInt32.toUInt16.toUInt32.toInt32) = own_ch p3 from rfl]
    obtain ⟨_, _, ⟨T241, L241, k241, n241⟩, -, X241, ⟨Lc241, hQ241, l241, y241, z241⟩, st241⟩ := Jvm.LawKit.callS X0 hx (y := mn_5) hown (mvT hZ (hw_41 hw)) (mvT hZ (hw_42 hw)) (mvT hZ (hw_43 hw)) (mvT hZ (hw_44 hw)) (by decide) (backOf (W := 1) (own_rm7 l Z a0 hw [] (own_ch p3) wc wD kD h0 n0 Z0 O0 SS (own_chle p3)) hZ (hw_44 hw) (hw_43 hw) (by decide) (by decide)) (g := (mkF m 12 #[rv a1, iv p2, iv p3] [(.int (own_ch p3)), (.ref a1)])) rfl (by rw [hml]; rfl) (argsL := [(.int (own_ch p3))]) (rest := [(.ref a1)]) (lenOf pd_28 rfl) rfl own_z0 (hb hby d6_12) (fun _ _ => ⟨rfl, e0, (by decide : 0 + 2 ≤ _), (by decide : 0 + 5 ≤ _)⟩)
    dsimp only [Pt.U, Pt.locs, Pt.cells, Pt.slots] at X241 l241 y241 z241 st241 hQ241
    subst l241 y241 z241
    obtain ⟨sa241, ba241, kb241, rfl, Nq241, K241, ga241, gb241, ne241, Ex241, Fv241, Fc241, V241⟩ := hQ241
    have N241 := Fr.app N0 Nq241
    have C241 : CHr Z own_EL s.vm h0 s.vm T241.heap := CHr.keep K241 sf0 CR0.1
    have CR241 := CR0.trans C241
    have kz241 : _ ≤ T241.heap.size := Nat.le_trans kz0 K241.1
    have Z241 : n0 ≤ T241.heap.size := Nat.le_trans Z0 K241.1
    have O241 : Old Z n0 T241.heap := O0.keep K241 all0
    have u1 := own_CPSkeep P0 K241
    have u2 := Ecp.keep K241
    refine own_stepH (g' := (mkF m 15 #[rv a1, iv p2, iv p3] [(.ref sa241), (.ref a1)])) st241 ?_
    refine own_stH _ (own_iloadN 16 X241 hx hby d6_15) ?_
    refine own_stH _ (own_bipush 18 8 X241 hx hby d6_16) ?_
    refine own_stH _ (own_iushr 19 X241 hx hby d6_18) ?_
    rw [show ((p3.toUInt32 >>> ((8 : Int32) &&& 31).toUInt32).toInt32) = own_sh p3 8 from rfl]
    refine own_stH _ (own_sipush 22 255 X241 hx hby d6_19) ?_
    refine own_stH _ (own_iand 23 X241 hx hby d6_22) ?_
    refine own_stH _ (own_i2c 24 X241 hx hby d6_23) ?_
    rw [show (((own_sh p3 8) &&& 255).toUInt32.toUInt16.toUInt32.toInt32) = own_ch (own_sh p3 8) from rfl]
    obtain ⟨_, _, ⟨T242, L242, k242, n242⟩, -, X242, ⟨Lc242, hQ242, l242, y242, z242⟩, st242⟩ := Jvm.LawKit.callS X241 hx (y := mn_5) hown (mvT hZ (hw_41 hw)) (mvT hZ (hw_42 hw)) (mvT hZ (hw_43 hw)) (mvT hZ (hw_44 hw)) (by decide) (backOf (W := 2) (own_rm7 l Z a0 hw [] (own_ch (own_sh p3 8)) wc wD kD T241.heap n0 Z241 O241 SS (own_chle (own_sh p3 8))) hZ (hw_44 hw) (hw_43 hw) (by decide) (by decide)) (g := (mkF m 24 #[rv a1, iv p2, iv p3] [(.int (own_ch (own_sh p3 8))), (.ref sa241), (.ref a1)])) rfl (by rw [hml]; rfl) (argsL := [(.int (own_ch (own_sh p3 8)))]) (rest := [(.ref sa241), (.ref a1)]) (lenOf pd_28 rfl) rfl own_z0 (hb hby d6_24) (fun _ _ => ⟨rfl, rfl, (by decide : 2 + 2 ≤ _), (by decide : 5 + 5 ≤ _)⟩)
    dsimp only [Pt.U, Pt.locs, Pt.cells, Pt.slots] at X242 l242 y242 z242 st242 hQ242
    subst l242 y242 z242
    obtain ⟨sa242, ba242, kb242, rfl, Nq242, K242, ga242, gb242, ne242, Ex242, Fv242, Fc242, V242⟩ := hQ242
    have N242 := Fr.app N241 Nq242
    have C242 : CHr Z own_EL s.vm T241.heap s.vm T242.heap := CHr.keep K242 sf0 CR241.1
    have CR242 := CR241.trans C242
    have kz242 : _ ≤ T242.heap.size := Nat.le_trans kz241 K242.1
    have Z242 : n0 ≤ T242.heap.size := Nat.le_trans Z241 K242.1
    have O242 : Old Z n0 T242.heap := O241.keep K242 all0
    have u3 := own_CPSkeep u1 K242
    have u4 := u2.keep K242
    have u5 := Ex241.keep K242
    have u6 := Fv241.keep K242 nin0
    have u7 := Fc241.keep K242 nin0
    have u8 := V241.keep K242 nin0
    refine own_stepH (g' := (mkF m 27 #[rv a1, iv p2, iv p3] [(.ref sa242), (.ref sa241), (.ref a1)])) st242 ?_
    obtain ⟨cq243, kq243, q243a, q243b, q243c⟩ := isOf hZ rfl u4
    obtain ⟨_, _, ⟨T243, L243, k243, n243⟩, -, X243, S243, G243, ⟨Lc243, hQ243, l243, y243, z243, C243⟩, st243⟩ := X242.virtualBackS hx (y := mn_37) (z := mn_37) hown (mvT hZ (hw_65 hw)) (mvT hZ (hw_66 hw)) (notFace_of_selects (args := #[]) (mvT hZ (hw_68 hw))) (mvT hZ (hw_68 hw)) (mvT hZ (hw_67 hw)) (by decide) (backOfSH (s := s) (vm0 := s.vm) (W := 0) (own_rm11 l Z a0 hw [] a1 sa241 sa242 0 k2 (own_tv (own_ch p3) (own_ch (own_sh p3 8))) t2 ba241 kb241 ([(nar .byte ((own_ch p3).toInt8.toInt32))]) ba242 kb242 ([(nar .byte ((own_ch (own_sh p3 8)).toInt8.toInt32))]) wc wD kD T242.heap n0 Z242 O242 SS hEL (by omega) rfl rfl u3 u5 u6 u7 u8 Ex242 Fv242 Fc242 V242) hZ (hw_69 hw) (hw_2 hw) (by decide) (by decide) hEL CR242.1) q243a q243c (g := (mkF m 27 #[rv a1, iv p2, iv p3] [(.ref sa242), (.ref sa241), (.ref a1)])) rfl (by rw [hml]; rfl) (Steps.refl _) (argsL := [(.ref sa241), (.ref sa242)]) (rest := []) (lenOf pd_27 rfl) rfl own_z0 (hb hby d6_27) (fun _ _ => ⟨rfl, rfl, (by decide : 4 + 7 ≤ _), (by decide : 10 + 50 ≤ _)⟩)
    dsimp only [Pt.U, Pt.locs, Pt.cells, Pt.slots] at X243 l243 y243 z243 st243 hQ243 S243 G243 C243
    subst l243 y243 z243
    obtain ⟨X243, S243, hZ, hown⟩ := rebS S0 kz242 X243 S243 (show T242.heap.size ≤ T243.heap.size from G243) hZ hown
    have CR243 := CR242.trans C243
    have gr243 : T242.heap.size ≤ T243.heap.size := C243.2.1
    obtain ⟨rfl, Nq243, O243, P243⟩ := hQ243
    have N243 := Fr.app N242 Nq243
    have Z243 : n0 ≤ T243.heap.size := Nat.le_trans Z242 gr243
    refine own_jumpH (g' := (mkF m 30 #[rv a1, iv p2, iv p3] [])) st243 ?_
    have Pn244 : own_CPS Z wD T243.heap n0 a1 1 k2 (own_tv (own_ch p3) (own_ch (own_sh p3 8))) t2 := by have q := P243; rw [show (own_t 0 ((([(nar .byte ((own_ch p3).toInt8.toInt32))])) ++ [58, 32] ++ (([(nar .byte ((own_ch (own_sh p3 8)).toInt8.toInt32))]))) (own_tv (own_ch p3) (own_ch (own_sh p3 8)))) = (own_tv (own_ch p3) (own_ch (own_sh p3 8))) from by simp [own_t, own_tv, own_td, own_nb8]] at q; exact q
    refine own_stH _ (own_iloadN 31 X243 hx hby d6_30) ?_
    refine own_stH _ (own_iconst 32 2 X243 hx hby d6_31) ?_
    by_cases hc245 : p2 < (2 : Int32)
    · refine own_stH _ (own_icmpYes 63 X243 hx hby d6_32 ((tlt hc245).1)) ?_
      refine own_retH X243 hlk S243 (own_leE rfl (Nat.le_refl T243.heap.size)) (v := none) (fun _ => rfl) (fun fs hr => X243.returnOut hx hret (hb hby d6_63) hr) ?_ (own_CHend hs0 rfl CR243 (CHv.at X243 hZ hEL CR243.1)) (by decide) (by decide)
      show own_Q6 Z a1 p2 p3 k2 t2 wc wD kD h0 n0 _ T243.heap _
      exact ⟨1, rfl, N243, O243, Pn244, Or.inr ⟨hc240, by decide, by decide⟩⟩
    · refine own_stH _ (own_icmpNo 35 X243 hx hby d6_32 ((flt hc245).1)) ?_
      refine own_stH _ (own_aloadN 36 X243 hx hby d6_35) ?_
      refine own_stH _ (own_iloadN 37 X243 hx hby d6_36) ?_
      refine own_stH _ (own_bipush 39 16 X243 hx hby d6_37) ?_
      refine own_stH _ (own_iushr 40 X243 hx hby d6_39) ?_
      rw [show ((p3.toUInt32 >>> ((16 : Int32) &&& 31).toUInt32).toInt32) = own_sh p3 16 from rfl]
      refine own_stH _ (own_sipush 43 255 X243 hx hby d6_40) ?_
      refine own_stH _ (own_iand 44 X243 hx hby d6_43) ?_
      refine own_stH _ (own_i2c 45 X243 hx hby d6_44) ?_
      rw [show (((own_sh p3 16) &&& 255).toUInt32.toUInt16.toUInt32.toInt32) = own_ch (own_sh p3 16) from rfl]
      obtain ⟨_, _, ⟨T246, L246, k246, n246⟩, -, X246, ⟨Lc246, hQ246, l246, y246, z246⟩, st246⟩ := Jvm.LawKit.callS X243 hx (y := mn_5) hown (mvT hZ (hw_41 hw)) (mvT hZ (hw_42 hw)) (mvT hZ (hw_43 hw)) (mvT hZ (hw_44 hw)) (by decide) (backOf (W := 1) (own_rm7 l Z a0 hw [] (own_ch (own_sh p3 16)) wc wD kD T243.heap n0 Z243 O243 SS (own_chle (own_sh p3 16))) hZ (hw_44 hw) (hw_43 hw) (by decide) (by decide)) (g := (mkF m 45 #[rv a1, iv p2, iv p3] [(.int (own_ch (own_sh p3 16))), (.ref a1)])) rfl (by rw [hml]; rfl) (argsL := [(.int (own_ch (own_sh p3 16)))]) (rest := [(.ref a1)]) (lenOf pd_28 rfl) rfl own_z0 (hb hby d6_45) (fun _ _ => ⟨rfl, rfl, (by decide : 11 + 2 ≤ _), (by decide : 60 + 5 ≤ _)⟩)
      dsimp only [Pt.U, Pt.locs, Pt.cells, Pt.slots] at X246 l246 y246 z246 st246 hQ246
      subst l246 y246 z246
      obtain ⟨sa246, ba246, kb246, rfl, Nq246, K246, ga246, gb246, ne246, Ex246, Fv246, Fc246, V246⟩ := hQ246
      have N246 := Fr.app N243 Nq246
      have C246 : CHr Z own_EL T243.vm T243.heap T243.vm T246.heap := CHr.keep K246 sf0 CR243.1
      have CR246 := CR243.trans C246
      have kz246 : _ ≤ T246.heap.size := Nat.le_trans (Nat.le_refl T243.heap.size) K246.1
      have Z246 : n0 ≤ T246.heap.size := Nat.le_trans Z243 K246.1
      have O246 : Old Z n0 T246.heap := O243.keep K246 all0
      have u9 := own_CPSkeep Pn244 K246
      have u10 := (own_CPSexa Pn244).keep K246
      refine own_stepH (g' := (mkF m 48 #[rv a1, iv p2, iv p3] [(.ref sa246), (.ref a1)])) st246 ?_
      refine own_stH _ (own_iloadN 49 X246 hx hby d6_48) ?_
      refine own_stH _ (own_bipush 51 24 X246 hx hby d6_49) ?_
      refine own_stH _ (own_iushr 52 X246 hx hby d6_51) ?_
      rw [show ((p3.toUInt32 >>> ((24 : Int32) &&& 31).toUInt32).toInt32) = own_sh p3 24 from rfl]
      refine own_stH _ (own_sipush 55 255 X246 hx hby d6_52) ?_
      refine own_stH _ (own_iand 56 X246 hx hby d6_55) ?_
      refine own_stH _ (own_i2c 57 X246 hx hby d6_56) ?_
      rw [show (((own_sh p3 24) &&& 255).toUInt32.toUInt16.toUInt32.toInt32) = own_ch (own_sh p3 24) from rfl]
      obtain ⟨_, _, ⟨T247, L247, k247, n247⟩, -, X247, ⟨Lc247, hQ247, l247, y247, z247⟩, st247⟩ := Jvm.LawKit.callS X246 hx (y := mn_5) hown (mvT hZ (hw_41 hw)) (mvT hZ (hw_42 hw)) (mvT hZ (hw_43 hw)) (mvT hZ (hw_44 hw)) (by decide) (backOf (W := 2) (own_rm7 l Z a0 hw [] (own_ch (own_sh p3 24)) wc wD kD T246.heap n0 Z246 O246 SS (own_chle (own_sh p3 24))) hZ (hw_44 hw) (hw_43 hw) (by decide) (by decide)) (g := (mkF m 57 #[rv a1, iv p2, iv p3] [(.int (own_ch (own_sh p3 24))), (.ref sa246), (.ref a1)])) rfl (by rw [hml]; rfl) (argsL := [(.int (own_ch (own_sh p3 24)))]) (rest := [(.ref sa246), (.ref a1)]) (lenOf pd_28 rfl) rfl own_z0 (hb hby d6_57) (fun _ _ => ⟨rfl, rfl, (by decide : 13 + 2 ≤ _), (by decide : 65 + 5 ≤ _)⟩)
      dsimp only [Pt.U, Pt.locs, Pt.cells, Pt.slots] at X247 l247 y247 z247 st247 hQ247
      subst l247 y247 z247
      obtain ⟨sa247, ba247, kb247, rfl, Nq247, K247, ga247, gb247, ne247, Ex247, Fv247, Fc247, V247⟩ := hQ247
      have N247 := Fr.app N246 Nq247
      have C247 : CHr Z own_EL T243.vm T246.heap T243.vm T247.heap := CHr.keep K247 sf0 CR246.1
      have CR247 := CR246.trans C247
      have kz247 : _ ≤ T247.heap.size := Nat.le_trans kz246 K247.1
      have Z247 : n0 ≤ T247.heap.size := Nat.le_trans Z246 K247.1
      have O247 : Old Z n0 T247.heap := O246.keep K247 all0
      have u11 := own_CPSkeep u9 K247
      have u12 := u10.keep K247
      have u13 := Ex246.keep K247
      have u14 := Fv246.keep K247 nin0
      have u15 := Fc246.keep K247 nin0
      have u16 := V246.keep K247 nin0
      refine own_stepH (g' := (mkF m 60 #[rv a1, iv p2, iv p3] [(.ref sa247), (.ref sa246), (.ref a1)])) st247 ?_
      obtain ⟨cq248, kq248, q248a, q248b, q248c⟩ := isOf hZ rfl u12
      obtain ⟨_, _, ⟨T248, L248, k248, n248⟩, -, X248, S248, G248, ⟨Lc248, hQ248, l248, y248, z248, C248⟩, st248⟩ := X247.virtualBackS hx (y := mn_37) (z := mn_37) hown (mvT hZ (hw_65 hw)) (mvT hZ (hw_66 hw)) (notFace_of_selects (args := #[]) (mvT hZ (hw_68 hw))) (mvT hZ (hw_68 hw)) (mvT hZ (hw_67 hw)) (by decide) (backOfSH (s := s) (vm0 := T243.vm) (W := 0) (own_rm11 l Z a0 hw [] a1 sa246 sa247 1 k2 (own_tv (own_ch p3) (own_ch (own_sh p3 8))) t2 ba246 kb246 ([(nar .byte ((own_ch (own_sh p3 16)).toInt8.toInt32))]) ba247 kb247 ([(nar .byte ((own_ch (own_sh p3 24)).toInt8.toInt32))]) wc wD kD T247.heap n0 Z247 O247 SS hEL (by omega) rfl rfl u11 u13 u14 u15 u16 Ex247 Fv247 Fc247 V247) hZ (hw_69 hw) (hw_2 hw) (by decide) (by decide) hEL CR247.1) q248a q248c (g := (mkF m 60 #[rv a1, iv p2, iv p3] [(.ref sa247), (.ref sa246), (.ref a1)])) rfl (by rw [hml]; rfl) (Steps.refl _) (argsL := [(.ref sa246), (.ref sa247)]) (rest := []) (lenOf pd_27 rfl) rfl own_z0 (hb hby d6_60) (fun _ _ => ⟨rfl, rfl, (by decide : 15 + 7 ≤ _), (by decide : 70 + 50 ≤ _)⟩)
      dsimp only [Pt.U, Pt.locs, Pt.cells, Pt.slots] at X248 l248 y248 z248 st248 hQ248 S248 G248 C248
      subst l248 y248 z248
      obtain ⟨X248, S248, hZ, hown⟩ := rebS S243 kz247 X248 S248 (show T247.heap.size ≤ T248.heap.size from G248) hZ hown
      have CR248 := CR247.trans C248
      have gr248 : T247.heap.size ≤ T248.heap.size := C248.2.1
      obtain ⟨rfl, Nq248, O248, P248⟩ := hQ248
      have N248 := Fr.app N247 Nq248
      refine own_jumpH (g' := (mkF m 63 #[rv a1, iv p2, iv p3] [])) st248 ?_
      refine own_retH X248 hlk S248 (own_leE rfl (Nat.le_refl T248.heap.size)) (v := none) (fun _ => rfl) (fun fs hr => X248.returnOut hx hret (hb hby d6_63) hr) ?_ (own_CHend hs0 rfl CR248 (CHv.at X248 hZ hEL CR248.1)) (by decide) (by decide)
      show own_Q6 Z a1 p2 p3 k2 t2 wc wD kD h0 n0 _ T248.heap _
      exact ⟨(1 + 1), rfl, N248, O248, P248, Or.inr ⟨hc240, by decide, by decide⟩⟩
theorem d38_0 : own_D method_5_code 0 (.iload_n 1, 1) := by decide +kernel
theorem d38_1 : own_D method_5_code 1 (.iconst 1, 1) := by decide +kernel
theorem d38_2 : own_D method_5_code 2 (.if_icmp .lt 48, 3) := by decide +kernel
theorem d38_50 : own_D method_5_code 50 (.iload_n 1, 1) := by decide +kernel
theorem d38_51 : own_D method_5_code 51 (.iconst 2, 1) := by decide +kernel
theorem d38_52 : own_D method_5_code 52 (.if_icmp .lt 31, 3) := by decide +kernel
theorem d38_83 : own_D method_5_code 83 (.return_, 1) := by decide +kernel
theorem d38_5 : own_D method_5_code 5 (.iload_n 2, 1) := by decide +kernel
theorem d38_6 : own_D method_5_code 6 (.ifCond .eq 19, 3) := by decide +kernel
theorem d38_25 : own_D method_5_code 25 (.aload_n 0, 1) := by decide +kernel
theorem d38_26 : own_D method_5_code 26 (.iload_n 3, 1) := by decide +kernel
theorem d38_27 : own_D method_5_code 27 (.sipush 255, 3) := by decide +kernel
theorem d38_30 : own_D method_5_code 30 (.iand, 1) := by decide +kernel
theorem d38_31 : own_D method_5_code 31 (.i2c, 1) := by decide +kernel
theorem d38_32 : own_D method_5_code 32 (.invokestatic 12, 3) := by decide +kernel
theorem d38_35 : own_D method_5_code 35 (.iload_n 3, 1) := by decide +kernel
theorem d38_36 : own_D method_5_code 36 (.bipush 8, 2) := by decide +kernel
theorem d38_38 : own_D method_5_code 38 (.iushr, 1) := by decide +kernel
theorem d38_39 : own_D method_5_code 39 (.sipush 255, 3) := by decide +kernel
theorem d38_42 : own_D method_5_code 42 (.iand, 1) := by decide +kernel
theorem d38_43 : own_D method_5_code 43 (.i2c, 1) := by decide +kernel
theorem d38_44 : own_D method_5_code 44 (.invokestatic 12, 3) := by decide +kernel
theorem d38_47 : own_D method_5_code 47 (.invokevirtual 26, 3) := by decide +kernel
theorem hw_288 : own_H (.methodLink "com/example/shaper/shaper/core/ConfigProblemsFirstPinLaw" 26 mn_39) := own_h 288 rfl
theorem d38_55 : own_D method_5_code 55 (.aload_n 0, 1) := by decide +kernel
theorem d38_56 : own_D method_5_code 56 (.iload_n 3, 1) := by decide +kernel
theorem d38_57 : own_D method_5_code 57 (.bipush 16, 2) := by decide +kernel
theorem d38_59 : own_D method_5_code 59 (.iushr, 1) := by decide +kernel
theorem d38_60 : own_D method_5_code 60 (.sipush 255, 3) := by decide +kernel
theorem d38_63 : own_D method_5_code 63 (.iand, 1) := by decide +kernel
theorem d38_64 : own_D method_5_code 64 (.i2c, 1) := by decide +kernel
theorem d38_65 : own_D method_5_code 65 (.invokestatic 12, 3) := by decide +kernel
theorem d38_68 : own_D method_5_code 68 (.iload_n 3, 1) := by decide +kernel
theorem d38_69 : own_D method_5_code 69 (.bipush 24, 2) := by decide +kernel
theorem d38_71 : own_D method_5_code 71 (.iushr, 1) := by decide +kernel
theorem d38_72 : own_D method_5_code 72 (.sipush 255, 3) := by decide +kernel
theorem d38_75 : own_D method_5_code 75 (.iand, 1) := by decide +kernel
theorem d38_76 : own_D method_5_code 76 (.i2c, 1) := by decide +kernel
theorem d38_77 : own_D method_5_code 77 (.invokestatic 12, 3) := by decide +kernel
theorem d38_80 : own_D method_5_code 80 (.invokevirtual 26, 3) := by decide +kernel
theorem own_ef38_0 (m : MethodId) (a1 : Addr) (p2 p4 : Int32) : entryFrame m #[(.ref a1), (.int p2), (.int 0), (.int p4)] 4 = mkF m 0 #[rv a1, iv p2, iv 0, iv p4] [] := by first | (simp [entryFrame, mkF, argsToLocals, Value.category]; done) | rfl
def own_Q38_0 (Z : State) (a1 : Addr) (p2 p4 : Int32) (k1 : Nat) (t1 : List Int32) (wc : Int32) (wD : Addr) (kD : ClassId) (h0 : Heap) (n0 : Nat) (v : Option Value) (h : Heap) (L : List Loc) : Prop := ∃ j : Nat, v = none ∧ Fr n0 L ∧ Old Z n0 h ∧ own_CPS Z wD h n0 a1 k1 j t1 (own_tv (own_ch p4) (own_ch (own_sh p4 8))) ∧ ((p2 < (1 : Int32) ∧ j = 0) ∨ (¬ p2 < (1 : Int32) ∧ 1 ≤ j ∧ j ≤ 2))
theorem own_rm38_0 (l Z a0) (hw : own_W a0 Z) (ws) (a1 : Addr) (p2 p4 : Int32) (k1 : Nat) (t1 : List Int32) (wc : Int32) (wD : Addr) (kD : ClassId) (h0 : Heap) (n0 : Nat) (Z0 : n0 ≤ h0.size) (O0 : Old Z n0 h0) (SS : own_St Z wc wD kD) (hEL : EW Z a0 own_EL) (hk1 : k1 ≤ 3) (P0 : own_CPS Z wD h0 n0 a1 k1 0 t1 (own_tv (own_ch p4) (own_ch (own_sh p4 8)))) :
    own_MH l Z ws mn_42 method_5_code 4 none rm_37 #[(.ref a1), (.int p2), (.int 0), (.int p4)] h0 (own_Q38_0 Z a1 p2 p4 k1 t1 wc wD kD h0 n0) := by
  refine own_bodyH (plainFor_of_name pn_6) (fun m => own_ef38_0 m a1 p2 p4) ?_
  intro p e s m below meth c T0 X0 hx hby hml hZ hown hnm hret hlk e0 hs0 S0 CH0
  have hown : (s.setVm s.vm).vm.findClass "com/example/shaper/shaper/core/ConfigProblemsFirstPinLaw" = some m.cls := hown
  have CR0 := CHr.refl CH0
  have kz0 : h0.size ≤ h0.size := Nat.le_refl _
  have hnm : meth.name = "addUnsupported" := hnm
  have N0 := Fr.nil n0
  have Ecp := own_CPSexa P0
  refine own_stH _ (own_iloadN 1 X0 hx hby d38_0) ?_
  refine own_stH _ (own_iconst 2 1 X0 hx hby d38_1) ?_
  by_cases hc249 : p2 < (1 : Int32)
  · refine own_stH _ (own_icmpYes 50 X0 hx hby d38_2 ((tlt hc249).1)) ?_
    refine own_stH _ (own_iloadN 51 X0 hx hby d38_50) ?_
    refine own_stH _ (own_iconst 52 2 X0 hx hby d38_51) ?_
    refine own_stH _ (own_icmpYes 83 X0 hx hby d38_52 ((tlt (own_lt12 hc249)).1)) ?_
    refine own_retH X0 hlk S0 (own_leE e0 kz0) (v := none) (fun _ => rfl) (fun fs hr => X0.returnOut hx hret (hb hby d38_83) hr) ?_ (own_CHend hs0 e0 CR0 (CHv.at X0 hZ hEL CR0.1)) (by decide) (by decide)
    show own_Q38_0 Z a1 p2 p4 k1 t1 wc wD kD h0 n0 _ T0.heap _
    rw [e0]
    exact ⟨0, rfl, N0, O0, P0, Or.inl ⟨hc249, rfl⟩⟩
  · refine own_stH _ (own_icmpNo 5 X0 hx hby d38_2 ((flt hc249).1)) ?_
    refine own_stH _ (own_iloadN 6 X0 hx hby d38_5) ?_
    refine own_stH _ (own_ifYes 25 X0 hx hby d38_6 ((if0 _ _).trans (teq (by decide : (0 : Int32) = (0 : Int32))).1)) ?_
    refine own_stH _ (own_aloadN 26 X0 hx hby d38_25) ?_
    refine own_stH _ (own_iloadN 27 X0 hx hby d38_26) ?_
    refine own_stH _ (own_sipush 30 255 X0 hx hby d38_27) ?_
    refine own_stH _ (own_iand 31 X0 hx hby d38_30) ?_
    refine own_stH _ (own_i2c 32 X0 hx hby d38_31) ?_
    rw [show ((p4 &&& 255).toUInt32.toUInt16.toUInt32.toInt32) = own_ch p4 from rfl]
    obtain ⟨_, _, ⟨T250, L250, k250, n250⟩, -, X250, ⟨Lc250, hQ250, l250, y250, z250⟩, st250⟩ := Jvm.LawKit.callS X0 hx (y := mn_5) hown (mvT hZ (hw_41 hw)) (mvT hZ (hw_42 hw)) (mvT hZ (hw_43 hw)) (mvT hZ (hw_44 hw)) (by decide) (backOf (W := 1) (own_rm7 l Z a0 hw [] (own_ch p4) wc wD kD h0 n0 Z0 O0 SS (own_chle p4)) hZ (hw_44 hw) (hw_43 hw) (by decide) (by decide)) (g := (mkF m 32 #[rv a1, iv p2, iv 0, iv p4] [(.int (own_ch p4)), (.ref a1)])) rfl (by rw [hml]; rfl) (argsL := [(.int (own_ch p4))]) (rest := [(.ref a1)]) (lenOf pd_28 rfl) rfl own_z0 (hb hby d38_32) (fun _ _ => ⟨rfl, e0, (by decide : 0 + 2 ≤ _), (by decide : 0 + 5 ≤ _)⟩)
    dsimp only [Pt.U, Pt.locs, Pt.cells, Pt.slots] at X250 l250 y250 z250 st250 hQ250
    subst l250 y250 z250
    obtain ⟨sa250, ba250, kb250, rfl, Nq250, K250, ga250, gb250, ne250, Ex250, Fv250, Fc250, V250⟩ := hQ250
    have N250 := Fr.app N0 Nq250
    have C250 : CHr Z own_EL s.vm h0 s.vm T250.heap := CHr.keep K250 sf0 CR0.1
    have CR250 := CR0.trans C250
    have kz250 : _ ≤ T250.heap.size := Nat.le_trans kz0 K250.1
    have Z250 : n0 ≤ T250.heap.size := Nat.le_trans Z0 K250.1
    have O250 : Old Z n0 T250.heap := O0.keep K250 all0
    have u1 := own_CPSkeep P0 K250
    have u2 := Ecp.keep K250
    refine own_stepH (g' := (mkF m 35 #[rv a1, iv p2, iv 0, iv p4] [(.ref sa250), (.ref a1)])) st250 ?_
    refine own_stH _ (own_iloadN 36 X250 hx hby d38_35) ?_
    refine own_stH _ (own_bipush 38 8 X250 hx hby d38_36) ?_
    refine own_stH _ (own_iushr 39 X250 hx hby d38_38) ?_
    rw [show ((p4.toUInt32 >>> ((8 : Int32) &&& 31).toUInt32).toInt32) = own_sh p4 8 from rfl]
    refine own_stH _ (own_sipush 42 255 X250 hx hby d38_39) ?_
    refine own_stH _ (own_iand 43 X250 hx hby d38_42) ?_
    refine own_stH _ (own_i2c 44 X250 hx hby d38_43) ?_
    rw [show (((own_sh p4 8) &&& 255).toUInt32.toUInt16.toUInt32.toInt32) = own_ch (own_sh p4 8) from rfl]
    obtain ⟨_, _, ⟨T251, L251, k251, n251⟩, -, X251, ⟨Lc251, hQ251, l251, y251, z251⟩, st251⟩ := Jvm.LawKit.callS X250 hx (y := mn_5) hown (mvT hZ (hw_41 hw)) (mvT hZ (hw_42 hw)) (mvT hZ (hw_43 hw)) (mvT hZ (hw_44 hw)) (by decide) (backOf (W := 2) (own_rm7 l Z a0 hw [] (own_ch (own_sh p4 8)) wc wD kD T250.heap n0 Z250 O250 SS (own_chle (own_sh p4 8))) hZ (hw_44 hw) (hw_43 hw) (by decide) (by decide)) (g := (mkF m 44 #[rv a1, iv p2, iv 0, iv p4] [(.int (own_ch (own_sh p4 8))), (.ref sa250), (.ref a1)])) rfl (by rw [hml]; rfl) (argsL := [(.int (own_ch (own_sh p4 8)))]) (rest := [(.ref sa250), (.ref a1)]) (lenOf pd_28 rfl) rfl own_z0 (hb hby d38_44) (fun _ _ => ⟨rfl, rfl, (by decide : 2 + 2 ≤ _), (by decide : 5 + 5 ≤ _)⟩)
    dsimp only [Pt.U, Pt.locs, Pt.cells, Pt.slots] at X251 l251 y251 z251 st251 hQ251
    subst l251 y251 z251
    obtain ⟨sa251, ba251, kb251, rfl, Nq251, K251, ga251, gb251, ne251, Ex251, Fv251, Fc251, V251⟩ := hQ251
    have N251 := Fr.app N250 Nq251
    have C251 : CHr Z own_EL s.vm T250.heap s.vm T251.heap := CHr.keep K251 sf0 CR250.1
    have CR251 := CR250.trans C251
    have kz251 : _ ≤ T251.heap.size := Nat.le_trans kz250 K251.1
    have Z251 : n0 ≤ T251.heap.size := Nat.le_trans Z250 K251.1
    have O251 : Old Z n0 T251.heap := O250.keep K251 all0
    have u3 := own_CPSkeep u1 K251
    have u4 := u2.keep K251
    have u5 := Ex250.keep K251
    have u6 := Fv250.keep K251 nin0
    have u7 := Fc250.keep K251 nin0
    have u8 := V250.keep K251 nin0
    refine own_stepH (g' := (mkF m 47 #[rv a1, iv p2, iv 0, iv p4] [(.ref sa251), (.ref sa250), (.ref a1)])) st251 ?_
    obtain ⟨cq252, kq252, q252a, q252b, q252c⟩ := isOf hZ rfl u4
    obtain ⟨_, _, ⟨T252, L252, k252, n252⟩, -, X252, S252, G252, ⟨Lc252, hQ252, l252, y252, z252, C252⟩, st252⟩ := X251.virtualBackS hx (y := mn_39) (z := mn_39) hown (mvT hZ (hw_288 hw)) (mvT hZ (hw_289 hw)) (notFace_of_selects (args := #[]) (mvT hZ (hw_291 hw))) (mvT hZ (hw_291 hw)) (mvT hZ (hw_290 hw)) (by decide) (backOfSH (s := s) (vm0 := s.vm) (W := 0) (own_rm54_1 l Z a0 hw [] a1 sa250 sa251 k1 0 t1 (own_tv (own_ch p4) (own_ch (own_sh p4 8))) ba250 kb250 ([(nar .byte ((own_ch p4).toInt8.toInt32))]) ba251 kb251 ([(nar .byte ((own_ch (own_sh p4 8)).toInt8.toInt32))]) wc wD kD T251.heap n0 Z251 O251 SS hEL (by omega) rfl rfl u3 u5 u6 u7 u8 Ex251 Fv251 Fc251 V251) hZ (hw_292 hw) (hw_2 hw) (by decide) (by decide) hEL CR251.1) q252a q252c (g := (mkF m 47 #[rv a1, iv p2, iv 0, iv p4] [(.ref sa251), (.ref sa250), (.ref a1)])) rfl (by rw [hml]; rfl) (Steps.refl _) (argsL := [(.ref sa250), (.ref sa251)]) (rest := []) (lenOf pd_27 rfl) rfl own_z0 (hb hby d38_47) (fun _ _ => ⟨rfl, rfl, (by decide : 4 + 7 ≤ _), (by decide : 10 + 50 ≤ _)⟩)
    dsimp only [Pt.U, Pt.locs, Pt.cells, Pt.slots] at X252 l252 y252 z252 st252 hQ252 S252 G252 C252
    subst l252 y252 z252
    obtain ⟨X252, S252, hZ, hown⟩ := rebS S0 kz251 X252 S252 (show T251.heap.size ≤ T252.heap.size from G252) hZ hown
    have CR252 := CR251.trans C252
    have gr252 : T251.heap.size ≤ T252.heap.size := C252.2.1
    obtain ⟨rfl, Nq252, O252, P252⟩ := hQ252
    have N252 := Fr.app N251 Nq252
    have Z252 : n0 ≤ T252.heap.size := Nat.le_trans Z251 gr252
    refine own_jumpH (g' := (mkF m 50 #[rv a1, iv p2, iv 0, iv p4] [])) st252 ?_
    have Pn253 : own_CPS Z wD T252.heap n0 a1 k1 1 t1 (own_tv (own_ch p4) (own_ch (own_sh p4 8))) := by have q := P252; rw [show (own_t 0 ((([(nar .byte ((own_ch p4).toInt8.toInt32))])) ++ [58, 32] ++ (([(nar .byte ((own_ch (own_sh p4 8)).toInt8.toInt32))]))) (own_tv (own_ch p4) (own_ch (own_sh p4 8)))) = (own_tv (own_ch p4) (own_ch (own_sh p4 8))) from by simp [own_t, own_tv, own_td, own_nb8]] at q; exact q
    refine own_stH _ (own_iloadN 51 X252 hx hby d38_50) ?_
    refine own_stH _ (own_iconst 52 2 X252 hx hby d38_51) ?_
    by_cases hc254 : p2 < (2 : Int32)
    · refine own_stH _ (own_icmpYes 83 X252 hx hby d38_52 ((tlt hc254).1)) ?_
      refine own_retH X252 hlk S252 (own_leE rfl (Nat.le_refl T252.heap.size)) (v := none) (fun _ => rfl) (fun fs hr => X252.returnOut hx hret (hb hby d38_83) hr) ?_ (own_CHend hs0 rfl CR252 (CHv.at X252 hZ hEL CR252.1)) (by decide) (by decide)
      show own_Q38_0 Z a1 p2 p4 k1 t1 wc wD kD h0 n0 _ T252.heap _
      exact ⟨1, rfl, N252, O252, Pn253, Or.inr ⟨hc249, by decide, by decide⟩⟩
    · refine own_stH _ (own_icmpNo 55 X252 hx hby d38_52 ((flt hc254).1)) ?_
      refine own_stH _ (own_aloadN 56 X252 hx hby d38_55) ?_
      refine own_stH _ (own_iloadN 57 X252 hx hby d38_56) ?_
      refine own_stH _ (own_bipush 59 16 X252 hx hby d38_57) ?_
      refine own_stH _ (own_iushr 60 X252 hx hby d38_59) ?_
      rw [show ((p4.toUInt32 >>> ((16 : Int32) &&& 31).toUInt32).toInt32) = own_sh p4 16 from rfl]
      refine own_stH _ (own_sipush 63 255 X252 hx hby d38_60) ?_
      refine own_stH _ (own_iand 64 X252 hx hby d38_63) ?_
      refine own_stH _ (own_i2c 65 X252 hx hby d38_64) ?_
      rw [show (((own_sh p4 16) &&& 255).toUInt32.toUInt16.toUInt32.toInt32) = own_ch (own_sh p4 16) from rfl]
      obtain ⟨_, _, ⟨T255, L255, k255, n255⟩, -, X255, ⟨Lc255, hQ255, l255, y255, z255⟩, st255⟩ := Jvm.LawKit.callS X252 hx (y := mn_5) hown (mvT hZ (hw_41 hw)) (mvT hZ (hw_42 hw)) (mvT hZ (hw_43 hw)) (mvT hZ (hw_44 hw)) (by decide) (backOf (W := 1) (own_rm7 l Z a0 hw [] (own_ch (own_sh p4 16)) wc wD kD T252.heap n0 Z252 O252 SS (own_chle (own_sh p4 16))) hZ (hw_44 hw) (hw_43 hw) (by decide) (by decide)) (g := (mkF m 65 #[rv a1, iv p2, iv 0, iv p4] [(.int (own_ch (own_sh p4 16))), (.ref a1)])) rfl (by rw [hml]; rfl) (argsL := [(.int (own_ch (own_sh p4 16)))]) (rest := [(.ref a1)]) (lenOf pd_28 rfl) rfl own_z0 (hb hby d38_65) (fun _ _ => ⟨rfl, rfl, (by decide : 11 + 2 ≤ _), (by decide : 60 + 5 ≤ _)⟩)
      dsimp only [Pt.U, Pt.locs, Pt.cells, Pt.slots] at X255 l255 y255 z255 st255 hQ255
      subst l255 y255 z255
      obtain ⟨sa255, ba255, kb255, rfl, Nq255, K255, ga255, gb255, ne255, Ex255, Fv255, Fc255, V255⟩ := hQ255
      have N255 := Fr.app N252 Nq255
      have C255 : CHr Z own_EL T252.vm T252.heap T252.vm T255.heap := CHr.keep K255 sf0 CR252.1
      have CR255 := CR252.trans C255
      have kz255 : _ ≤ T255.heap.size := Nat.le_trans (Nat.le_refl T252.heap.size) K255.1
      have Z255 : n0 ≤ T255.heap.size := Nat.le_trans Z252 K255.1
      have O255 : Old Z n0 T255.heap := O252.keep K255 all0
      have u9 := own_CPSkeep Pn253 K255
      have u10 := (own_CPSexa Pn253).keep K255
      refine own_stepH (g' := (mkF m 68 #[rv a1, iv p2, iv 0, iv p4] [(.ref sa255), (.ref a1)])) st255 ?_
      refine own_stH _ (own_iloadN 69 X255 hx hby d38_68) ?_
      refine own_stH _ (own_bipush 71 24 X255 hx hby d38_69) ?_
      refine own_stH _ (own_iushr 72 X255 hx hby d38_71) ?_
      rw [show ((p4.toUInt32 >>> ((24 : Int32) &&& 31).toUInt32).toInt32) = own_sh p4 24 from rfl]
      refine own_stH _ (own_sipush 75 255 X255 hx hby d38_72) ?_
      refine own_stH _ (own_iand 76 X255 hx hby d38_75) ?_
      refine own_stH _ (own_i2c 77 X255 hx hby d38_76) ?_
      rw [show (((own_sh p4 24) &&& 255).toUInt32.toUInt16.toUInt32.toInt32) = own_ch (own_sh p4 24) from rfl]
      obtain ⟨_, _, ⟨T256, L256, k256, n256⟩, -, X256, ⟨Lc256, hQ256, l256, y256, z256⟩, st256⟩ := Jvm.LawKit.callS X255 hx (y := mn_5) hown (mvT hZ (hw_41 hw)) (mvT hZ (hw_42 hw)) (mvT hZ (hw_43 hw)) (mvT hZ (hw_44 hw)) (by decide) (backOf (W := 2) (own_rm7 l Z a0 hw [] (own_ch (own_sh p4 24)) wc wD kD T255.heap n0 Z255 O255 SS (own_chle (own_sh p4 24))) hZ (hw_44 hw) (hw_43 hw) (by decide) (by decide)) (g := (mkF m 77 #[rv a1, iv p2, iv 0, iv p4] [(.int (own_ch (own_sh p4 24))), (.ref sa255), (.ref a1)])) rfl (by rw [hml]; rfl) (argsL := [(.int (own_ch (own_sh p4 24)))]) (rest := [(.ref sa255), (.ref a1)]) (lenOf pd_28 rfl) rfl own_z0 (hb hby d38_77) (fun _ _ => ⟨rfl, rfl, (by decide : 13 + 2 ≤ _), (by decide : 65 + 5 ≤ _)⟩)
      dsimp only [Pt.U, Pt.locs, Pt.cells, Pt.slots] at X256 l256 y256 z256 st256 hQ256
      subst l256 y256 z256
      obtain ⟨sa256, ba256, kb256, rfl, Nq256, K256, ga256, gb256, ne256, Ex256, Fv256, Fc256, V256⟩ := hQ256
      have N256 := Fr.app N255 Nq256
      have C256 : CHr Z own_EL T252.vm T255.heap T252.vm T256.heap := CHr.keep K256 sf0 CR255.1
      have CR256 := CR255.trans C256
      have kz256 : _ ≤ T256.heap.size := Nat.le_trans kz255 K256.1
      have Z256 : n0 ≤ T256.heap.size := Nat.le_trans Z255 K256.1
      have O256 : Old Z n0 T256.heap := O255.keep K256 all0
      have u11 := own_CPSkeep u9 K256
      have u12 := u10.keep K256
      have u13 := Ex255.keep K256
      have u14 := Fv255.keep K256 nin0
      have u15 := Fc255.keep K256 nin0
      have u16 := V255.keep K256 nin0
      refine own_stepH (g' := (mkF m 80 #[rv a1, iv p2, iv 0, iv p4] [(.ref sa256), (.ref sa255), (.ref a1)])) st256 ?_
      obtain ⟨cq257, kq257, q257a, q257b, q257c⟩ := isOf hZ rfl u12
      obtain ⟨_, _, ⟨T257, L257, k257, n257⟩, -, X257, S257, G257, ⟨Lc257, hQ257, l257, y257, z257, C257⟩, st257⟩ := X256.virtualBackS hx (y := mn_39) (z := mn_39) hown (mvT hZ (hw_288 hw)) (mvT hZ (hw_289 hw)) (notFace_of_selects (args := #[]) (mvT hZ (hw_291 hw))) (mvT hZ (hw_291 hw)) (mvT hZ (hw_290 hw)) (by decide) (backOfSH (s := s) (vm0 := T252.vm) (W := 0) (own_rm54_1 l Z a0 hw [] a1 sa255 sa256 k1 1 t1 (own_tv (own_ch p4) (own_ch (own_sh p4 8))) ba255 kb255 ([(nar .byte ((own_ch (own_sh p4 16)).toInt8.toInt32))]) ba256 kb256 ([(nar .byte ((own_ch (own_sh p4 24)).toInt8.toInt32))]) wc wD kD T256.heap n0 Z256 O256 SS hEL (by omega) rfl rfl u11 u13 u14 u15 u16 Ex256 Fv256 Fc256 V256) hZ (hw_292 hw) (hw_2 hw) (by decide) (by decide) hEL CR256.1) q257a q257c (g := (mkF m 80 #[rv a1, iv p2, iv 0, iv p4] [(.ref sa256), (.ref sa255), (.ref a1)])) rfl (by rw [hml]; rfl) (Steps.refl _) (argsL := [(.ref sa255), (.ref sa256)]) (rest := []) (lenOf pd_27 rfl) rfl own_z0 (hb hby d38_80) (fun _ _ => ⟨rfl, rfl, (by decide : 15 + 7 ≤ _), (by decide : 70 + 50 ≤ _)⟩)
      dsimp only [Pt.U, Pt.locs, Pt.cells, Pt.slots] at X257 l257 y257 z257 st257 hQ257 S257 G257 C257
      subst l257 y257 z257
      obtain ⟨X257, S257, hZ, hown⟩ := rebS S252 kz256 X257 S257 (show T256.heap.size ≤ T257.heap.size from G257) hZ hown
      have CR257 := CR256.trans C257
      have gr257 : T256.heap.size ≤ T257.heap.size := C257.2.1
      obtain ⟨rfl, Nq257, O257, P257⟩ := hQ257
      have N257 := Fr.app N256 Nq257
      refine own_jumpH (g' := (mkF m 83 #[rv a1, iv p2, iv 0, iv p4] [])) st257 ?_
      refine own_retH X257 hlk S257 (own_leE rfl (Nat.le_refl T257.heap.size)) (v := none) (fun _ => rfl) (fun fs hr => X257.returnOut hx hret (hb hby d38_83) hr) ?_ (own_CHend hs0 rfl CR257 (CHv.at X257 hZ hEL CR257.1)) (by decide) (by decide)
      show own_Q38_0 Z a1 p2 p4 k1 t1 wc wD kD h0 n0 _ T257.heap _
      exact ⟨(1 + 1), rfl, N257, O257, P257, Or.inr ⟨hc249, by decide, by decide⟩⟩
theorem d38_9 : own_D method_5_code 9 (.aload_n 0, 1) := by decide +kernel
theorem d38_10 : own_D method_5_code 10 (.iload_n 3, 1) := by decide +kernel
theorem d38_11 : own_D method_5_code 11 (.sipush 255, 3) := by decide +kernel
theorem d38_14 : own_D method_5_code 14 (.iand, 1) := by decide +kernel
theorem d38_15 : own_D method_5_code 15 (.i2c, 1) := by decide +kernel
theorem d38_16 : own_D method_5_code 16 (.invokestatic 12, 3) := by decide +kernel
theorem d38_19 : own_D method_5_code 19 (.invokevirtual 22, 3) := by decide +kernel
theorem hw_293 : own_H (.methodLink "com/example/shaper/shaper/core/ConfigProblemsFirstPinLaw" 22 mn_40) := own_h 293 rfl
theorem hw_297 : own_H (.code mn_40 prog_4_method_3_code 2 none) := own_h 297 rfl
theorem hw_296 : own_H (.selects "com/example/shaper/shaper/core/ConfigProblems" mn_40 mn_40) := own_h 296 rfl
theorem hw_294 : own_H (.declares mn_40) := own_h 294 rfl
theorem hw_295 : own_H (.instanceMethod mn_40) := own_h 295 rfl
theorem d38_22 : own_D method_5_code 22 (.goto 28, 3) := by decide +kernel
theorem own_ef38_1 (m : MethodId) (a1 : Addr) (p2 p4 : Int32) : entryFrame m #[(.ref a1), (.int p2), (.int 1), (.int p4)] 4 = mkF m 0 #[rv a1, iv p2, iv 1, iv p4] [] := by first | (simp [entryFrame, mkF, argsToLocals, Value.category]; done) | rfl
def own_Q38_1 (Z : State) (a1 : Addr) (p2 p4 : Int32) (k1 : Nat) (t1 : List Int32) (wc : Int32) (wD : Addr) (kD : ClassId) (h0 : Heap) (n0 : Nat) (v : Option Value) (h : Heap) (L : List Loc) : Prop := ∃ j : Nat, v = none ∧ Fr n0 L ∧ Old Z n0 h ∧ own_CPS Z wD h n0 a1 k1 j t1 (own_td (own_ch p4)) ∧ ((p2 < (1 : Int32) ∧ j = 0) ∨ (¬ p2 < (1 : Int32) ∧ 1 ≤ j ∧ j ≤ 2))
theorem own_rm38_1 (l Z a0) (hw : own_W a0 Z) (ws) (a1 : Addr) (p2 p4 : Int32) (k1 : Nat) (t1 : List Int32) (wc : Int32) (wD : Addr) (kD : ClassId) (h0 : Heap) (n0 : Nat) (Z0 : n0 ≤ h0.size) (O0 : Old Z n0 h0) (SS : own_St Z wc wD kD) (hEL : EW Z a0 own_EL) (hk1 : k1 ≤ 3) (P0 : own_CPS Z wD h0 n0 a1 k1 0 t1 (own_td (own_ch p4))) :
    own_MH l Z ws mn_42 method_5_code 4 none rm_38 #[(.ref a1), (.int p2), (.int 1), (.int p4)] h0 (own_Q38_1 Z a1 p2 p4 k1 t1 wc wD kD h0 n0) := by
  refine own_bodyH (plainFor_of_name pn_6) (fun m => own_ef38_1 m a1 p2 p4) ?_
  intro p e s m below meth c T0 X0 hx hby hml hZ hown hnm hret hlk e0 hs0 S0 CH0
  have hown : (s.setVm s.vm).vm.findClass "com/example/shaper/shaper/core/ConfigProblemsFirstPinLaw" = some m.cls := hown
  have CR0 := CHr.refl CH0
  have kz0 : h0.size ≤ h0.size := Nat.le_refl _
  have hnm : meth.name = "addUnsupported" := hnm
  have N0 := Fr.nil n0
  have Ecp := own_CPSexa P0
  refine own_stH _ (own_iloadN 1 X0 hx hby d38_0) ?_
  refine own_stH _ (own_iconst 2 1 X0 hx hby d38_1) ?_
  by_cases hc258 : p2 < (1 : Int32)
  · refine own_stH _ (own_icmpYes 50 X0 hx hby d38_2 ((tlt hc258).1)) ?_
    refine own_stH _ (own_iloadN 51 X0 hx hby d38_50) ?_
    refine own_stH _ (own_iconst 52 2 X0 hx hby d38_51) ?_
    refine own_stH _ (own_icmpYes 83 X0 hx hby d38_52 ((tlt (own_lt12 hc258)).1)) ?_
    refine own_retH X0 hlk S0 (own_leE e0 kz0) (v := none) (fun _ => rfl) (fun fs hr => X0.returnOut hx hret (hb hby d38_83) hr) ?_ (own_CHend hs0 e0 CR0 (CHv.at X0 hZ hEL CR0.1)) (by decide) (by decide)
    show own_Q38_1 Z a1 p2 p4 k1 t1 wc wD kD h0 n0 _ T0.heap _
    rw [e0]
    exact ⟨0, rfl, N0, O0, P0, Or.inl ⟨hc258, rfl⟩⟩
  · refine own_stH _ (own_icmpNo 5 X0 hx hby d38_2 ((flt hc258).1)) ?_
    refine own_stH _ (own_iloadN 6 X0 hx hby d38_5) ?_
    refine own_stH _ (own_ifNo 9 X0 hx hby d38_6 ((if0 _ _).trans (feq (by decide : ¬ ((1 : Int32) = (0 : Int32)))).1)) ?_
    refine own_stH _ (own_aloadN 10 X0 hx hby d38_9) ?_
    refine own_stH _ (own_iloadN 11 X0 hx hby d38_10) ?_
    refine own_stH _ (own_sipush 14 255 X0 hx hby d38_11) ?_
    refine own_stH _ (own_iand 15 X0 hx hby d38_14) ?_
    refine own_stH _ (own_i2c 16 X0 hx hby d38_15) ?_
    rw [show ((p4 &&& 255).toUInt32.toUInt16.toUInt32.toInt32) = own_ch p4 from rfl]
    obtain ⟨_, _, ⟨T259, L259, k259, n259⟩, -, X259, ⟨Lc259, hQ259, l259, y259, z259⟩, st259⟩ := Jvm.LawKit.callS X0 hx (y := mn_5) hown (mvT hZ (hw_41 hw)) (mvT hZ (hw_42 hw)) (mvT hZ (hw_43 hw)) (mvT hZ (hw_44 hw)) (by decide) (backOf (W := 1) (own_rm7 l Z a0 hw [] (own_ch p4) wc wD kD h0 n0 Z0 O0 SS (own_chle p4)) hZ (hw_44 hw) (hw_43 hw) (by decide) (by decide)) (g := (mkF m 16 #[rv a1, iv p2, iv 1, iv p4] [(.int (own_ch p4)), (.ref a1)])) rfl (by rw [hml]; rfl) (argsL := [(.int (own_ch p4))]) (rest := [(.ref a1)]) (lenOf pd_28 rfl) rfl own_z0 (hb hby d38_16) (fun _ _ => ⟨rfl, e0, (by decide : 0 + 2 ≤ _), (by decide : 0 + 5 ≤ _)⟩)
    dsimp only [Pt.U, Pt.locs, Pt.cells, Pt.slots] at X259 l259 y259 z259 st259 hQ259
    subst l259 y259 z259
    obtain ⟨sa259, ba259, kb259, rfl, Nq259, K259, ga259, gb259, ne259, Ex259, Fv259, Fc259, V259⟩ := hQ259
    have N259 := Fr.app N0 Nq259
    have C259 : CHr Z own_EL s.vm h0 s.vm T259.heap := CHr.keep K259 sf0 CR0.1
    have CR259 := CR0.trans C259
    have kz259 : _ ≤ T259.heap.size := Nat.le_trans kz0 K259.1
    have Z259 : n0 ≤ T259.heap.size := Nat.le_trans Z0 K259.1
    have O259 : Old Z n0 T259.heap := O0.keep K259 all0
    have u1 := own_CPSkeep P0 K259
    have u2 := Ecp.keep K259
    refine own_stepH (g' := (mkF m 19 #[rv a1, iv p2, iv 1, iv p4] [(.ref sa259), (.ref a1)])) st259 ?_
    obtain ⟨cq260, kq260, q260a, q260b, q260c⟩ := isOf hZ rfl u2
    obtain ⟨_, _, ⟨T260, L260, k260, n260⟩, -, X260, S260, G260, ⟨Lc260, hQ260, l260, y260, z260, C260⟩, st260⟩ := X259.virtualBackS hx (y := mn_40) (z := mn_40) hown (mvT hZ (hw_293 hw)) (mvT hZ (hw_294 hw)) (notFace_of_selects (args := #[]) (mvT hZ (hw_296 hw))) (mvT hZ (hw_296 hw)) (mvT hZ (hw_295 hw)) (by decide) (backOfSH (s := s) (vm0 := s.vm) (W := 0) (own_rm55 l Z a0 hw [] a1 sa259 k1 0 t1 (own_td (own_ch p4)) ba259 kb259 ([(nar .byte ((own_ch p4).toInt8.toInt32))]) wc wD kD T259.heap n0 Z259 O259 SS hEL (by omega) rfl u1 Ex259 Fv259 Fc259 V259) hZ (hw_297 hw) (hw_2 hw) (by decide) (by decide) hEL CR259.1) q260a q260c (g := (mkF m 19 #[rv a1, iv p2, iv 1, iv p4] [(.ref sa259), (.ref a1)])) rfl (by rw [hml]; rfl) (Steps.refl _) (argsL := [(.ref sa259)]) (rest := []) (lenOf pd_6 rfl) rfl own_z0 (hb hby d38_19) (fun _ _ => ⟨rfl, rfl, (by decide : 2 + 10 ≤ _), (by decide : 5 + 172 ≤ _)⟩)
    dsimp only [Pt.U, Pt.locs, Pt.cells, Pt.slots] at X260 l260 y260 z260 st260 hQ260 S260 G260 C260
    subst l260 y260 z260
    obtain ⟨X260, S260, hZ, hown⟩ := rebS S0 kz259 X260 S260 (show T259.heap.size ≤ T260.heap.size from G260) hZ hown
    have CR260 := CR259.trans C260
    have gr260 : T259.heap.size ≤ T260.heap.size := C260.2.1
    obtain ⟨rfl, Nq260, O260, P260⟩ := hQ260
    have N260 := Fr.app N259 Nq260
    have Z260 : n0 ≤ T260.heap.size := Nat.le_trans Z259 gr260
    refine own_jumpH (g' := (mkF m 22 #[rv a1, iv p2, iv 1, iv p4] [])) st260 ?_
    refine own_stH _ (own_goto 50 X260 hx hby d38_22) ?_
    have Pn261 : own_CPS Z wD T260.heap n0 a1 k1 1 t1 (own_td (own_ch p4)) := by have q := P260; rw [show (own_t 0 ((([(nar .byte ((own_ch p4).toInt8.toInt32))])) ++ [58, 32] ++ [110, 111, 116, 32, 115, 117, 112, 112, 111, 114, 116, 101, 100, 32, 121, 101, 116]) (own_td (own_ch p4))) = (own_td (own_ch p4)) from by simp [own_t, own_tv, own_td, own_nb8]] at q; exact q
    refine own_stH _ (own_iloadN 51 X260 hx hby d38_50) ?_
    refine own_stH _ (own_iconst 52 2 X260 hx hby d38_51) ?_
    by_cases hc262 : p2 < (2 : Int32)
    · refine own_stH _ (own_icmpYes 83 X260 hx hby d38_52 ((tlt hc262).1)) ?_
      refine own_retH X260 hlk S260 (own_leE rfl (Nat.le_refl T260.heap.size)) (v := none) (fun _ => rfl) (fun fs hr => X260.returnOut hx hret (hb hby d38_83) hr) ?_ (own_CHend hs0 rfl CR260 (CHv.at X260 hZ hEL CR260.1)) (by decide) (by decide)
      show own_Q38_1 Z a1 p2 p4 k1 t1 wc wD kD h0 n0 _ T260.heap _
      exact ⟨1, rfl, N260, O260, Pn261, Or.inr ⟨hc258, by decide, by decide⟩⟩
    · refine own_stH _ (own_icmpNo 55 X260 hx hby d38_52 ((flt hc262).1)) ?_
      refine own_stH _ (own_aloadN 56 X260 hx hby d38_55) ?_
      refine own_stH _ (own_iloadN 57 X260 hx hby d38_56) ?_
      refine own_stH _ (own_bipush 59 16 X260 hx hby d38_57) ?_
      refine own_stH _ (own_iushr 60 X260 hx hby d38_59) ?_
      rw [show ((p4.toUInt32 >>> ((16 : Int32) &&& 31).toUInt32).toInt32) = own_sh p4 16 from rfl]
      refine own_stH _ (own_sipush 63 255 X260 hx hby d38_60) ?_
      refine own_stH _ (own_iand 64 X260 hx hby d38_63) ?_
      refine own_stH _ (own_i2c 65 X260 hx hby d38_64) ?_
      rw [show (((own_sh p4 16) &&& 255).toUInt32.toUInt16.toUInt32.toInt32) = own_ch (own_sh p4 16) from rfl]
      obtain ⟨_, _, ⟨T263, L263, k263, n263⟩, -, X263, ⟨Lc263, hQ263, l263, y263, z263⟩, st263⟩ := Jvm.LawKit.callS X260 hx (y := mn_5) hown (mvT hZ (hw_41 hw)) (mvT hZ (hw_42 hw)) (mvT hZ (hw_43 hw)) (mvT hZ (hw_44 hw)) (by decide) (backOf (W := 1) (own_rm7 l Z a0 hw [] (own_ch (own_sh p4 16)) wc wD kD T260.heap n0 Z260 O260 SS (own_chle (own_sh p4 16))) hZ (hw_44 hw) (hw_43 hw) (by decide) (by decide)) (g := (mkF m 65 #[rv a1, iv p2, iv 1, iv p4] [(.int (own_ch (own_sh p4 16))), (.ref a1)])) rfl (by rw [hml]; rfl) (argsL := [(.int (own_ch (own_sh p4 16)))]) (rest := [(.ref a1)]) (lenOf pd_28 rfl) rfl own_z0 (hb hby d38_65) (fun _ _ => ⟨rfl, rfl, (by decide : 12 + 2 ≤ _), (by decide : 177 + 5 ≤ _)⟩)
      dsimp only [Pt.U, Pt.locs, Pt.cells, Pt.slots] at X263 l263 y263 z263 st263 hQ263
      subst l263 y263 z263
      obtain ⟨sa263, ba263, kb263, rfl, Nq263, K263, ga263, gb263, ne263, Ex263, Fv263, Fc263, V263⟩ := hQ263
      have N263 := Fr.app N260 Nq263
      have C263 : CHr Z own_EL T260.vm T260.heap T260.vm T263.heap := CHr.keep K263 sf0 CR260.1
      have CR263 := CR260.trans C263
      have kz263 : _ ≤ T263.heap.size := Nat.le_trans (Nat.le_refl T260.heap.size) K263.1
      have Z263 : n0 ≤ T263.heap.size := Nat.le_trans Z260 K263.1
      have O263 : Old Z n0 T263.heap := O260.keep K263 all0
      have u3 := own_CPSkeep Pn261 K263
      have u4 := (own_CPSexa Pn261).keep K263
      refine own_stepH (g' := (mkF m 68 #[rv a1, iv p2, iv 1, iv p4] [(.ref sa263), (.ref a1)])) st263 ?_
      refine own_stH _ (own_iloadN 69 X263 hx hby d38_68) ?_
      refine own_stH _ (own_bipush 71 24 X263 hx hby d38_69) ?_
      refine own_stH _ (own_iushr 72 X263 hx hby d38_71) ?_
      rw [show ((p4.toUInt32 >>> ((24 : Int32) &&& 31).toUInt32).toInt32) = own_sh p4 24 from rfl]
      refine own_stH _ (own_sipush 75 255 X263 hx hby d38_72) ?_
      refine own_stH _ (own_iand 76 X263 hx hby d38_75) ?_
      refine own_stH _ (own_i2c 77 X263 hx hby d38_76) ?_
      rw [show (((own_sh p4 24) &&& 255).toUInt32.toUInt16.toUInt32.toInt32) = own_ch (own_sh p4 24) from rfl]
      obtain ⟨_, _, ⟨T264, L264, k264, n264⟩, -, X264, ⟨Lc264, hQ264, l264, y264, z264⟩, st264⟩ := Jvm.LawKit.callS X263 hx (y := mn_5) hown (mvT hZ (hw_41 hw)) (mvT hZ (hw_42 hw)) (mvT hZ (hw_43 hw)) (mvT hZ (hw_44 hw)) (by decide) (backOf (W := 2) (own_rm7 l Z a0 hw [] (own_ch (own_sh p4 24)) wc wD kD T263.heap n0 Z263 O263 SS (own_chle (own_sh p4 24))) hZ (hw_44 hw) (hw_43 hw) (by decide) (by decide)) (g := (mkF m 77 #[rv a1, iv p2, iv 1, iv p4] [(.int (own_ch (own_sh p4 24))), (.ref sa263), (.ref a1)])) rfl (by rw [hml]; rfl) (argsL := [(.int (own_ch (own_sh p4 24)))]) (rest := [(.ref sa263), (.ref a1)]) (lenOf pd_28 rfl) rfl own_z0 (hb hby d38_77) (fun _ _ => ⟨rfl, rfl, (by decide : 14 + 2 ≤ _), (by decide : 182 + 5 ≤ _)⟩)
      dsimp only [Pt.U, Pt.locs, Pt.cells, Pt.slots] at X264 l264 y264 z264 st264 hQ264
      subst l264 y264 z264
      obtain ⟨sa264, ba264, kb264, rfl, Nq264, K264, ga264, gb264, ne264, Ex264, Fv264, Fc264, V264⟩ := hQ264
      have N264 := Fr.app N263 Nq264
      have C264 : CHr Z own_EL T260.vm T263.heap T260.vm T264.heap := CHr.keep K264 sf0 CR263.1
      have CR264 := CR263.trans C264
      have kz264 : _ ≤ T264.heap.size := Nat.le_trans kz263 K264.1
      have Z264 : n0 ≤ T264.heap.size := Nat.le_trans Z263 K264.1
      have O264 : Old Z n0 T264.heap := O263.keep K264 all0
      have u5 := own_CPSkeep u3 K264
      have u6 := u4.keep K264
      have u7 := Ex263.keep K264
      have u8 := Fv263.keep K264 nin0
      have u9 := Fc263.keep K264 nin0
      have u10 := V263.keep K264 nin0
      refine own_stepH (g' := (mkF m 80 #[rv a1, iv p2, iv 1, iv p4] [(.ref sa264), (.ref sa263), (.ref a1)])) st264 ?_
      obtain ⟨cq265, kq265, q265a, q265b, q265c⟩ := isOf hZ rfl u6
      obtain ⟨_, _, ⟨T265, L265, k265, n265⟩, -, X265, S265, G265, ⟨Lc265, hQ265, l265, y265, z265, C265⟩, st265⟩ := X264.virtualBackS hx (y := mn_39) (z := mn_39) hown (mvT hZ (hw_288 hw)) (mvT hZ (hw_289 hw)) (notFace_of_selects (args := #[]) (mvT hZ (hw_291 hw))) (mvT hZ (hw_291 hw)) (mvT hZ (hw_290 hw)) (by decide) (backOfSH (s := s) (vm0 := T260.vm) (W := 0) (own_rm54_1 l Z a0 hw [] a1 sa263 sa264 k1 1 t1 (own_td (own_ch p4)) ba263 kb263 ([(nar .byte ((own_ch (own_sh p4 16)).toInt8.toInt32))]) ba264 kb264 ([(nar .byte ((own_ch (own_sh p4 24)).toInt8.toInt32))]) wc wD kD T264.heap n0 Z264 O264 SS hEL (by omega) rfl rfl u5 u7 u8 u9 u10 Ex264 Fv264 Fc264 V264) hZ (hw_292 hw) (hw_2 hw) (by decide) (by decide) hEL CR264.1) q265a q265c (g := (mkF m 80 #[rv a1, iv p2, iv 1, iv p4] [(.ref sa264), (.ref sa263), (.ref a1)])) rfl (by rw [hml]; rfl) (Steps.refl _) (argsL := [(.ref sa263), (.ref sa264)]) (rest := []) (lenOf pd_27 rfl) rfl own_z0 (hb hby d38_80) (fun _ _ => ⟨rfl, rfl, (by decide : 16 + 7 ≤ _), (by decide : 187 + 50 ≤ _)⟩)
      dsimp only [Pt.U, Pt.locs, Pt.cells, Pt.slots] at X265 l265 y265 z265 st265 hQ265 S265 G265 C265
      subst l265 y265 z265
      obtain ⟨X265, S265, hZ, hown⟩ := rebS S260 kz264 X265 S265 (show T264.heap.size ≤ T265.heap.size from G265) hZ hown
      have CR265 := CR264.trans C265
      have gr265 : T264.heap.size ≤ T265.heap.size := C265.2.1
      obtain ⟨rfl, Nq265, O265, P265⟩ := hQ265
      have N265 := Fr.app N264 Nq265
      refine own_jumpH (g' := (mkF m 83 #[rv a1, iv p2, iv 1, iv p4] [])) st265 ?_
      refine own_retH X265 hlk S265 (own_leE rfl (Nat.le_refl T265.heap.size)) (v := none) (fun _ => rfl) (fun fs hr => X265.returnOut hx hret (hb hby d38_83) hr) ?_ (own_CHend hs0 rfl CR265 (CHv.at X265 hZ hEL CR265.1)) (by decide) (by decide)
      show own_Q38_1 Z a1 p2 p4 k1 t1 wc wD kD h0 n0 _ T265.heap _
      exact ⟨(1 + 1), rfl, N265, O265, P265, Or.inr ⟨hc258, by decide, by decide⟩⟩
theorem own_hws {a0 : Array Value} {Z : State} (hw : own_W a0 Z) : ∀ d ∈ StrChars.Road.words, d.before a0 Z = true := fun d hd => hw d ((by decide +kernel : ∀ d ∈ StrChars.Road.words, d ∈ tables_1) d hd)
theorem own_heq {a0 : Array Value} {Z : State} (hw : own_W a0 Z) : ∀ d ∈ StrChars.Road.wordsEq, d.before a0 Z = true := fun d hd => hw d ((by decide +kernel : ∀ d ∈ StrChars.Road.wordsEq, d ∈ tables_1) d hd)
theorem own_cod4 {c d : Int32} (hc : ¬ c < (0 : Int32) ∧ ¬ (255 : Int32) < c) (hd : ¬ d < (0 : Int32) ∧ ¬ (255 : Int32) < d) : StrChars.Road.CodA [c, 58, 32, d] 0 (4 : Int32) ((own_tv c d).map Value.int) := Or.inl ⟨rfl, rfl, rfl, own_all2 hc.2 hd.2 (by decide) (by decide)⟩
theorem own_hb4 {c d : Int32} (hc : ¬ c < (0 : Int32) ∧ ¬ (255 : Int32) < c) (hd : ¬ d < (0 : Int32) ∧ ¬ (255 : Int32) < d) : ∀ x ∈ [c, 58, 32, d], ¬ x < (0 : Int32) ∧ ¬ (65535 : Int32) < x := own_all2 (own_hi hc) (own_hi hd) (by decide) (by decide)
theorem own_cod20 {c : Int32} (hc : ¬ c < (0 : Int32) ∧ ¬ (255 : Int32) < c) : StrChars.Road.CodA (c :: own_dc) 0 (20 : Int32) ((own_td c).map Value.int) := Or.inl ⟨rfl, rfl, rfl, own_allD hc.2 fun x hx => (own_dcok x hx).2⟩
theorem own_hb20 {c : Int32} (hc : ¬ c < (0 : Int32) ∧ ¬ (255 : Int32) < c) : ∀ x ∈ c :: own_dc, ¬ x < (0 : Int32) ∧ ¬ (65535 : Int32) < x := own_allD (own_hi hc) fun x hx => own_hi (own_dcok x hx)
theorem own_selp {s : State} {args : Array Value} {y y2 : MethodName} {C' : String} (hc : y2.cls = y.cls) (h2 : (Jvm.Cond.selects C' y2 y2).before args s = true) (hp : s.PrivateAt y) (hi : (Jvm.Cond.instanceMethod y).before args s = true) (hy : y.cls ≠ "java/lang/invoke/MethodHandle" ∧ y.cls ≠ "java/lang/invoke/VarHandle") : (Jvm.Cond.selects y.cls y y).before args s = true := by
  obtain ⟨c2, r2, m2, -, -, q3, -, kP, hkP, hkPi⟩ := Cond.selects_spec h2
  have e2 := findClass_of_methodNamed q3
  rw [hc] at e2
  exact selects_self_of_private e2 hkP hkPi hp hi hy

theorem d41_0 : own_D c_40 0 (.aload_n 0, 1) := by decide +kernel
theorem d41_1 : own_D c_40 1 (.getfield 48, 3) := by decide +kernel
theorem d41_4 : own_D c_40 4 (.ifCond .ne 7, 3) := by decide +kernel
theorem d41_7 : own_D c_40 7 (.iconst 1, 1) := by decide +kernel
theorem d41_8 : own_D c_40 8 (.goto 4, 3) := by decide +kernel
theorem d41_12 : own_D c_40 12 (.ireturn, 1) := by decide +kernel
theorem d41_11 : own_D c_40 11 (.iconst 0, 1) := by decide +kernel
def own_Q41 (Z : State) (a1 : Addr) (cc : Int32) (h0 : Heap) (n0 : Nat) (v : Option Value) (h : Heap) (L : List Loc) : Prop := v = some (.int (own_ie cc)) ∧ Fr n0 L ∧ h = h0
theorem own_rm41 (l Z a0) (hw : own_W a0 Z) (ws) (a1 : Addr) (cc : Int32) (h0 : Heap) (n0 : Nat) (Z0 : n0 ≤ h0.size) (F_s : Fld Z h0 a1 "java/util/ArrayList" "size" "I" (.int cc)) :
    own_M l Z ws mn_43 c_40 1 (some .boolean) rm_0 #[(.ref a1)] h0 (own_Q41 Z a1 cc h0 n0) := by
  refine own_body (plainFor_of_name pn_3) (fun m => own_ef17 m a1) ?_
  intro p e s m below meth c T0 X0 hx hby hml hZ hown hnm hret hlk e0
  have hown : s.vm.findClass "java/util/ArrayList" = some m.cls := hown
  have hnm : meth.name = "isEmpty" := hnm
  have N0 := Fr.nil n0
  refine own_st _ (own_aloadN 1 X0 hx hby d41_0) ?_
  obtain ⟨T266, X266, e266, st266⟩ := getF X0 hx hZ hown (host := "") (Or.inl (hw_194 hw)) Via.refl e0 F_s (g := (mkF m 1 #[rv a1] [(.ref a1)])) rfl rfl (hb hby d41_1)
  refine own_step (g' := (mkF m 4 #[rv a1] [(.int cc)])) st266 ?_
  by_cases hc267 : cc = (0 : Int32)
  · refine own_st _ (own_ifNo 7 X266 hx hby d41_4 ((if0 _ _).trans (teq hc267).2)) ?_
    refine own_st _ (own_iconst 8 1 X266 hx hby d41_7) ?_
    refine own_st _ (own_goto 12 X266 hx hby d41_8) ?_
    refine own_ret X266 hlk (v := some (.int 1)) (fun h => by rw [hret] at h; cases h) (fun fs hr => retN X266 hx (t := .boolean) hret (by simp) (hb hby d41_12) hr) ?_ (by decide) (by decide)
    show own_Q41 Z a1 cc h0 n0 _ T266.heap _
    rw [e266]
    exact ⟨congrArg (fun z => some (Value.int z)) (by simp [own_ie, hc267] : (1 : Int32) = own_ie cc), N0, rfl⟩
  · refine own_st _ (own_ifYes 11 X266 hx hby d41_4 ((if0 _ _).trans (feq hc267).2)) ?_
    refine own_st _ (own_iconst 12 0 X266 hx hby d41_11) ?_
    refine own_ret X266 hlk (v := some (.int 0)) (fun h => by rw [hret] at h; cases h) (fun fs hr => retN X266 hx (t := .boolean) hret (by simp) (hb hby d41_12) hr) ?_ (by decide) (by decide)
    show own_Q41 Z a1 cc h0 n0 _ T266.heap _
    rw [e266]
    exact ⟨congrArg (fun z => some (Value.int z)) (by simp [own_ie, hc267] : (0 : Int32) = own_ie cc), N0, rfl⟩
theorem d44_0 : own_D c_41 0 (.iload_n 0, 1) := by decide +kernel
theorem d44_1 : own_D c_41 1 (.ifCond .lt 8, 3) := by decide +kernel
theorem d44_4 : own_D c_41 4 (.iload_n 0, 1) := by decide +kernel
theorem d44_5 : own_D c_41 5 (.iload_n 1, 1) := by decide +kernel
theorem d44_6 : own_D c_41 6 (.if_icmp .lt 10, 3) := by decide +kernel
theorem d44_16 : own_D c_41 16 (.iload_n 0, 1) := by decide +kernel
theorem d44_17 : own_D c_41 17 (.ireturn, 1) := by decide +kernel
theorem pn_44 : plainName "jdk/internal/util/Preconditions" = true := by first | (simp [plainName, overriddenIn]; done) | decide +kernel
theorem own_ef44 (m : MethodId) (p2 : Int32) : entryFrame m #[(.int 0), (.int p2), .null] 3 = mkF m 0 #[iv 0, iv p2, .val .null] [] := by first | (simp [entryFrame, mkF, argsToLocals, Value.category]; done) | rfl
def own_Q44 (Z : State) (p2 : Int32) (h0 : Heap) (n0 : Nat) (v : Option Value) (h : Heap) (L : List Loc) : Prop := v = some (.int 0) ∧ Fr n0 L ∧ h = h0
theorem own_rm44 (l Z a0) (hw : own_W a0 Z) (ws) (p2 : Int32) (h0 : Heap) (n0 : Nat) (Z0 : n0 ≤ h0.size) (hlt : (0 : Int32) < p2) :
    own_M l Z ws mn_44 c_41 3 (some .int) rm_0 #[(.int 0), (.int p2), .null] h0 (own_Q44 Z p2 h0 n0) := by
  refine own_body (plainFor_of_name pn_44) (fun m => own_ef44 m p2) ?_
  intro p e s m below meth c T0 X0 hx hby hml hZ hown hnm hret hlk e0
  have hown : s.vm.findClass "jdk/internal/util/Preconditions" = some m.cls := hown
  have hnm : meth.name = "checkIndex" := hnm
  have N0 := Fr.nil n0
  refine own_st _ (own_iloadN 1 X0 hx hby d44_0) ?_
  refine own_st _ (own_ifNo 4 X0 hx hby d44_1 ((if0 _ _).trans (flt (by decide : ¬ ((0 : Int32) < (0 : Int32)))).1)) ?_
  refine own_st _ (own_iloadN 5 X0 hx hby d44_4) ?_
  refine own_st _ (own_iloadN 6 X0 hx hby d44_5) ?_
  refine own_st _ (own_icmpYes 16 X0 hx hby d44_6 ((tlt hlt).1)) ?_
  refine own_st _ (own_iloadN 17 X0 hx hby d44_16) ?_
  refine own_ret X0 hlk (v := some (.int 0)) (fun h => by rw [hret] at h; cases h) (fun fs hr => X0.ireturnOut hx hret rfl (Or.inl rfl) (hb hby d44_17) hr) ?_ (by decide) (by decide)
  show own_Q44 Z p2 h0 n0 _ T0.heap _
  rw [e0]
  exact ⟨rfl, N0, rfl⟩
theorem d43_0 : own_D c_42 0 (.iload_n 0, 1) := by decide +kernel
theorem d43_1 : own_D c_42 1 (.iload_n 1, 1) := by decide +kernel
theorem d43_2 : own_D c_42 2 (.aconst_null, 1) := by decide +kernel
theorem d43_3 : own_D c_42 3 (.invokestatic 105, 3) := by decide +kernel
theorem hw_249 : own_H (.methodLink "java/util/Objects" 105 mn_44) := own_h 249 rfl
theorem hw_252 : own_H (.code mn_44 jdk_41_method_11_code 3 (some .int)) := own_h 252 rfl
theorem hw_251 : own_H (.initialized "jdk/internal/util/Preconditions") := own_h 251 rfl
theorem pd_29 : parseMethodDescriptor "(IILjava/util/function/BiFunction;)I" = some ⟨[.int, .int, (.object "java/util/function/BiFunction")], some .int⟩ := by decide +kernel
theorem hw_250 : own_H (.static mn_44) := own_h 250 rfl
theorem d43_6 : own_D c_42 6 (.ireturn, 1) := by decide +kernel
theorem pn_43 : plainName "java/util/Objects" = true := by first | (simp [plainName, overriddenIn]; done) | decide +kernel
theorem own_ef43 (m : MethodId) (p2 : Int32) : entryFrame m #[(.int 0), (.int p2)] 2 = mkF m 0 #[iv 0, iv p2] [] := by first | (simp [entryFrame, mkF, argsToLocals, Value.category]; done) | rfl
def own_Q43 (Z : State) (p2 : Int32) (h0 : Heap) (n0 : Nat) (v : Option Value) (h : Heap) (L : List Loc) : Prop := v = some (.int 0) ∧ Fr n0 L ∧ h = h0
theorem own_rm43 (l Z a0) (hw : own_W a0 Z) (ws) (p2 : Int32) (h0 : Heap) (n0 : Nat) (Z0 : n0 ≤ h0.size) (hlt : (0 : Int32) < p2) :
    own_M l Z ws mn_45 c_42 2 (some .int) rm_11 #[(.int 0), (.int p2)] h0 (own_Q43 Z p2 h0 n0) := by
  refine own_body (plainFor_of_name pn_43) (fun m => own_ef43 m p2) ?_
  intro p e s m below meth c T0 X0 hx hby hml hZ hown hnm hret hlk e0
  have hown : s.vm.findClass "java/util/Objects" = some m.cls := hown
  have hnm : meth.name = "checkIndex" := hnm
  have N0 := Fr.nil n0
  refine own_st _ (own_iloadN 1 X0 hx hby d43_0) ?_
  refine own_st _ (own_iloadN 2 X0 hx hby d43_1) ?_
  refine own_st _ (own_aconstNull 3 X0 hx hby d43_2) ?_
  obtain ⟨_, _, ⟨T268, L268, k268, n268⟩, -, X268, ⟨Lc268, hQ268, l268, y268, z268⟩, st268⟩ := Jvm.LawKit.callS X0 hx (y := mn_44) hown (mvT hZ (hw_249 hw)) (mvT hZ (hw_250 hw)) (mvT hZ (hw_251 hw)) (mvT hZ (hw_252 hw)) (by decide) (backOf (W := 0) (own_rm44 l Z a0 hw [] p2 h0 n0 Z0 hlt) hZ (hw_252 hw) (hw_251 hw) (by decide) (by decide)) (g := (mkF m 3 #[iv 0, iv p2] [.null, (.int p2), (.int 0)])) rfl (by rw [hml]; rfl) (argsL := [(.int 0), (.int p2), .null]) (rest := []) (lenOf pd_29 rfl) rfl own_z0 (hb hby d43_3) (fun _ _ => ⟨rfl, e0, (by decide : 0 + 0 ≤ _), (by decide : 0 + 0 ≤ _)⟩)
  dsimp only [Pt.U, Pt.locs, Pt.cells, Pt.slots] at X268 l268 y268 z268 st268 hQ268
  subst l268 y268 z268
  obtain ⟨rfl, Nq268, e268⟩ := hQ268
  have N268 := Fr.app N0 Nq268
  refine own_step (g' := (mkF m 6 #[iv 0, iv p2] [(.int 0)])) st268 ?_
  refine own_ret X268 hlk (v := some (.int 0)) (fun h => by rw [hret] at h; cases h) (fun fs hr => X268.ireturnOut hx hret rfl (Or.inl rfl) (hb hby d43_6) hr) ?_ (by decide) (by decide)
  show own_Q43 Z p2 h0 n0 _ T268.heap _
  rw [e268]
  exact ⟨rfl, N268, rfl⟩
theorem d45_0 : own_D c_43 0 (.aload_n 0, 1) := by decide +kernel
theorem d45_1 : own_D c_43 1 (.getfield 9, 3) := by decide +kernel
theorem d45_4 : own_D c_43 4 (.iload_n 1, 1) := by decide +kernel
theorem d45_5 : own_D c_43 5 (.aaload, 1) := by decide +kernel
theorem d45_6 : own_D c_43 6 (.areturn, 1) := by decide +kernel
theorem own_ef45 (m : MethodId) (a1 : Addr) : entryFrame m #[(.ref a1), (.int 0)] 2 = mkF m 0 #[rv a1, iv 0] [] := by first | (simp [entryFrame, mkF, argsToLocals, Value.category]; done) | rfl
def own_Q45 (Z : State) (a1 dd : Addr) (kk : ClassId) (vs : List Value) (s9 : Addr) (h0 : Heap) (n0 : Nat) (v : Option Value) (h : Heap) (L : List Loc) : Prop := v = some (.ref s9) ∧ Fr n0 L ∧ h = h0
theorem own_rm45 (l Z a0) (hw : own_W a0 Z) (ws) (a1 dd : Addr) (kk : ClassId) (vs : List Value) (s9 : Addr) (h0 : Heap) (n0 : Nat) (Z0 : n0 ≤ h0.size) (hf : vs.getD 0 .null = .ref s9) (F_e : Fld Z h0 a1 "java/util/ArrayList" "elementData" "[Ljava/lang/Object;" (.ref dd)) (V0 : Arv Z h0 dd kk (.object "java/lang/Object") (10 : Int32) vs .null) :
    own_M l Z ws mn_46 c_43 2 (some (.object "java/lang/Object")) rm_0 #[(.ref a1), (.int 0)] h0 (own_Q45 Z a1 dd kk vs s9 h0 n0) := by
  refine own_body (plainFor_of_name pn_3) (fun m => own_ef45 m a1) ?_
  intro p e s m below meth c T0 X0 hx hby hml hZ hown hnm hret hlk e0
  have hown : s.vm.findClass "java/util/ArrayList" = some m.cls := hown
  have hnm : meth.name = "elementData" := hnm
  have N0 := Fr.nil n0
  refine own_st _ (own_aloadN 1 X0 hx hby d45_0) ?_
  obtain ⟨T269, X269, e269, st269⟩ := getF X0 hx hZ hown (host := "") (Or.inl (hw_31 hw)) Via.refl e0 F_e (g := (mkF m 1 #[rv a1, iv 0] [(.ref a1)])) rfl rfl (hb hby d45_1)
  refine own_step (g' := (mkF m 4 #[rv a1, iv 0] [(.ref dd)])) st269 ?_
  refine own_st _ (own_iloadN 5 X269 hx hby d45_4) ?_
  obtain ⟨cl270, Ar270, q270, S270, M270, H270, G270⟩ := id V0
  have hin270 : ¬ ((0 : Int32) < 0 ∨ cl270.slots.size ≤ ((0 : Int32)).toNatClampNeg) := inb_of S270 ⟨by decide, by decide⟩
  refine own_step (T' := T269) (g' := (mkF m 6 #[rv a1, iv 0] [(.ref s9)])) (X269.aaload hx (j := 0) (v := (.ref s9)) (by rw [e269]; exact Ar270.1) (State.isArrayOf_alike hZ.alike Ar270.2.1) rfl Ar270.2.2 hin270 (H270.at hin270 hf) (g := (mkF m 5 #[rv a1, iv 0] [(.int 0), (.ref dd)])) rfl rfl (hb hby d45_5)) ?_
  refine own_ret X269 hlk (v := some (.ref s9)) (fun h => by rw [hret] at h; cases h) (fun fs hr => X269.areturnOut hx (w := (.ref s9)) rfl hret rfl (hb hby d45_6) hr) ?_ (by decide) (by decide)
  show own_Q45 Z a1 dd kk vs s9 h0 n0 _ T269.heap _
  rw [e269]
  exact ⟨rfl, N0, rfl⟩
theorem d42_0 : own_D c_44 0 (.iload_n 1, 1) := by decide +kernel
theorem d42_1 : own_D c_44 1 (.aload_n 0, 1) := by decide +kernel
theorem d42_2 : own_D c_44 2 (.getfield 48, 3) := by decide +kernel
theorem d42_5 : own_D c_44 5 (.invokestatic 118, 3) := by decide +kernel
theorem hw_245 : own_H (.methodLink "java/util/ArrayList" 118 mn_45) := own_h 245 rfl
theorem hw_248 : own_H (.code mn_45 jdk_31_method_17_code 2 (some .int)) := own_h 248 rfl
theorem hw_247 : own_H (.initialized "java/util/Objects") := own_h 247 rfl
theorem hw_246 : own_H (.static mn_45) := own_h 246 rfl
theorem d42_8 : own_D c_44 8 (.pop, 1) := by decide +kernel
theorem d42_9 : own_D c_44 9 (.aload_n 0, 1) := by decide +kernel
theorem d42_10 : own_D c_44 10 (.iload_n 1, 1) := by decide +kernel
theorem d42_11 : own_D c_44 11 (.invokevirtual 123, 3) := by decide +kernel
theorem hw_253 : own_H (.methodLink "java/util/ArrayList" 123 mn_46) := own_h 253 rfl
theorem hw_257 : own_H (.code mn_46 jdk_38_method_18_code 2 (some (.object "java/lang/Object"))) := own_h 257 rfl
theorem pd_30 : parseMethodDescriptor "(I)Ljava/lang/Object;" = some ⟨[.int], some (.object "java/lang/Object")⟩ := by decide +kernel
theorem hw_256 : own_H (.selects "java/util/ArrayList" mn_46 mn_46) := own_h 256 rfl
theorem hw_254 : own_H (.declares mn_46) := own_h 254 rfl
theorem hw_255 : own_H (.instanceMethod mn_46) := own_h 255 rfl
theorem d42_14 : own_D c_44 14 (.areturn, 1) := by decide +kernel
def own_Q42 (Z : State) (a1 dd : Addr) (kk : ClassId) (vs : List Value) (s9 : Addr) (cc : Int32) (h0 : Heap) (n0 : Nat) (v : Option Value) (h : Heap) (L : List Loc) : Prop := v = some (.ref s9) ∧ Fr n0 L ∧ h = h0
theorem own_rm42 (l Z a0) (hw : own_W a0 Z) (ws) (a1 dd : Addr) (kk : ClassId) (vs : List Value) (s9 : Addr) (cc : Int32) (h0 : Heap) (n0 : Nat) (Z0 : n0 ≤ h0.size) (hf : vs.getD 0 .null = .ref s9) (hlt : (0 : Int32) < cc) (F_e : Fld Z h0 a1 "java/util/ArrayList" "elementData" "[Ljava/lang/Object;" (.ref dd)) (V0 : Arv Z h0 dd kk (.object "java/lang/Object") (10 : Int32) vs .null) (F_s : Fld Z h0 a1 "java/util/ArrayList" "size" "I" (.int cc)) (E_a1 : Exa Z h0 a1 "java/util/ArrayList") :
    own_M l Z ws mn_47 c_44 2 (some (.object "java/lang/Object")) rm_39 #[(.ref a1), (.int 0)] h0 (own_Q42 Z a1 dd kk vs s9 cc h0 n0) := by
  refine own_body (plainFor_of_name pn_3) (fun m => own_ef45 m a1) ?_
  intro p e s m below meth c T0 X0 hx hby hml hZ hown hnm hret hlk e0
  have hown : s.vm.findClass "java/util/ArrayList" = some m.cls := hown
  have hnm : meth.name = "get" := hnm
  have N0 := Fr.nil n0
  refine own_st _ (own_iloadN 1 X0 hx hby d42_0) ?_
  refine own_st _ (own_aloadN 2 X0 hx hby d42_1) ?_
  obtain ⟨T271, X271, e271, st271⟩ := getF X0 hx hZ hown (host := "") (Or.inl (hw_194 hw)) Via.refl e0 F_s (g := (mkF m 2 #[rv a1, iv 0] [(.ref a1), (.int 0)])) rfl rfl (hb hby d42_2)
  refine own_step (g' := (mkF m 5 #[rv a1, iv 0] [(.int cc), (.int 0)])) st271 ?_
  obtain ⟨_, _, ⟨T272, L272, k272, n272⟩, -, X272, ⟨Lc272, hQ272, l272, y272, z272⟩, st272⟩ := Jvm.LawKit.callS X271 hx (y := mn_45) hown (mvT hZ (hw_245 hw)) (mvT hZ (hw_246 hw)) (mvT hZ (hw_247 hw)) (mvT hZ (hw_248 hw)) (by decide) (backOf (W := 0) (own_rm43 l Z a0 hw [] cc h0 n0 Z0 hlt) hZ (hw_248 hw) (hw_247 hw) (by decide) (by decide)) (g := (mkF m 5 #[rv a1, iv 0] [(.int cc), (.int 0)])) rfl (by rw [hml]; rfl) (argsL := [(.int 0), (.int cc)]) (rest := []) (lenOf pd_10 rfl) rfl own_z0 (hb hby d42_5) (fun _ _ => ⟨rfl, e271, (by decide : 0 + 0 ≤ _), (by decide : 0 + 0 ≤ _)⟩)
  dsimp only [Pt.U, Pt.locs, Pt.cells, Pt.slots] at X272 l272 y272 z272 st272 hQ272
  subst l272 y272 z272
  obtain ⟨rfl, Nq272, e272⟩ := hQ272
  have N272 := Fr.app N0 Nq272
  refine own_step (g' := (mkF m 8 #[rv a1, iv 0] [(.int 0)])) st272 ?_
  refine own_st _ (own_pop 9 X272 hx hby d42_8) ?_
  refine own_st _ (own_aloadN 10 X272 hx hby d42_9) ?_
  refine own_st _ (own_iloadN 11 X272 hx hby d42_10) ?_
  obtain ⟨cq273, kq273, q273a, q273b, q273c⟩ := isOf hZ e272 E_a1
  obtain ⟨_, _, ⟨T273, L273, k273, n273⟩, -, X273, ⟨Lc273, hQ273, l273, y273, z273⟩, st273⟩ := X272.virtualBack hx (y := mn_46) (z := mn_46) hown (mvT hZ (hw_253 hw)) (mvT hZ (hw_254 hw)) (notFace_of_selects (args := #[]) (mvT hZ (hw_256 hw))) (mvT hZ (hw_256 hw)) (mvT hZ (hw_255 hw)) (by decide) (backOf (W := 0) (own_rm45 l Z a0 hw [] a1 dd kk vs s9 h0 n0 Z0 hf F_e V0) hZ (hw_257 hw) (hw_11 hw) (by decide) (by decide)) q273a q273c (g := (mkF m 11 #[rv a1, iv 0] [(.int 0), (.ref a1)])) rfl (by rw [hml]; rfl) (Steps.refl _) (argsL := [(.int 0)]) (rest := []) (lenOf pd_30 rfl) rfl own_z0 (hb hby d42_11) (fun _ _ => ⟨rfl, e272, (by decide : 0 + 0 ≤ _), (by decide : 0 + 0 ≤ _)⟩)
  dsimp only [Pt.U, Pt.locs, Pt.cells, Pt.slots] at X273 l273 y273 z273 st273 hQ273
  subst l273 y273 z273
  obtain ⟨rfl, Nq273, e273⟩ := hQ273
  have N273 := Fr.app N272 Nq273
  refine own_jump (g' := (mkF m 14 #[rv a1, iv 0] [(.ref s9)])) st273 ?_
  refine own_ret X273 hlk (v := some (.ref s9)) (fun h => by rw [hret] at h; cases h) (fun fs hr => X273.areturnOut hx (w := (.ref s9)) rfl hret rfl (hb hby d42_14) hr) ?_ (by decide) (by decide)
  show own_Q42 Z a1 dd kk vs s9 cc h0 n0 _ T273.heap _
  rw [e273]
  exact ⟨rfl, N273, rfl⟩
theorem d40_0 : own_D c_45 0 (.aload_n 0, 1) := by decide +kernel
theorem d40_1 : own_D c_45 1 (.getfield 10, 3) := by decide +kernel
theorem d40_4 : own_D c_45 4 (.invokeinterface 133 1, 5) := by decide +kernel
theorem hw_229 : own_H (.methodLink "com/example/shaper/shaper/core/ConfigProblems" 133 mn_49) := own_h 229 rfl
theorem hw_236 : own_H (.code mn_43 jdk_38_method_9_code 1 (some .boolean)) := own_h 236 rfl
theorem hw_232 : own_H (.selects "java/util/ArrayList" mn_49 mn_43) := own_h 232 rfl
theorem hw_230 : own_H (.declares mn_49) := own_h 230 rfl
theorem hw_231 : own_H (.interfaceMethod "java/util/List" "java/util/List" "isEmpty" "()Z") := own_h 231 rfl
theorem hw_233 : own_H (.instanceMethod mn_43) := own_h 233 rfl
theorem hw_234 : own_H (.publicMethod mn_43) := own_h 234 rfl
theorem hw_235 : own_H (.unhidden "java/util/ArrayList" "isEmpty" "()Z") := own_h 235 rfl
theorem d40_9 : own_D c_45 9 (.ifCond .eq 10, 3) := by decide +kernel
theorem d40_19 : own_D c_45 19 (.aload_n 0, 1) := by decide +kernel
theorem d40_20 : own_D c_45 20 (.getfield 10, 3) := by decide +kernel
theorem d40_23 : own_D c_45 23 (.areturn, 1) := by decide +kernel
def own_Q40_v (Z : State) (a1 al1 al2 : Addr) (c1 : Int32) (h0 : Heap) (n0 : Nat) (v : Option Value) (h : Heap) (L : List Loc) : Prop := v = some (.ref al1) ∧ Fr n0 L ∧ h = h0
theorem own_rm40_v (l Z a0) (hw : own_W a0 Z) (ws) (a1 al1 al2 : Addr) (c1 : Int32) (h0 : Heap) (n0 : Nat) (Z0 : n0 ≤ h0.size) (hi1 : own_ie c1 = (0 : Int32)) (Ep : Exa Z h0 a1 "com/example/shaper/shaper/core/ConfigProblems") (Fvi : Fld Z h0 a1 "com/example/shaper/shaper/core/ConfigProblems" "violations" "Ljava/util/List;" (.ref al1)) (Fun : Fld Z h0 a1 "com/example/shaper/shaper/core/ConfigProblems" "unsupported" "Ljava/util/List;" (.ref al2)) (Ea1 : Exa Z h0 al1 "java/util/ArrayList") (Fs1 : Fld Z h0 al1 "java/util/ArrayList" "size" "I" (.int c1)) :
    own_M l Z ws mn_48 c_45 1 (some (.object "java/util/List")) rm_2 #[(.ref a1)] h0 (own_Q40_v Z a1 al1 al2 c1 h0 n0) := by
  refine own_body (plainFor_of_name pn_1) (fun m => own_ef17 m a1) ?_
  intro p e s m below meth c T0 X0 hx hby hml hZ hown hnm hret hlk e0
  have hown : s.vm.findClass "com/example/shaper/shaper/core/ConfigProblems" = some m.cls := hown
  have hnm : meth.name = "refusing" := hnm
  have N0 := Fr.nil n0
  refine own_st _ (own_aloadN 1 X0 hx hby d40_0) ?_
  obtain ⟨T274, X274, e274, st274⟩ := getF X0 hx hZ hown (host := "") (Or.inl (hw_33 hw)) Via.refl e0 Fvi (g := (mkF m 1 #[rv a1] [(.ref a1)])) rfl rfl (hb hby d40_1)
  refine own_step (g' := (mkF m 4 #[rv a1] [(.ref al1)])) st274 ?_
  obtain ⟨cq275, kq275, q275a, q275b, q275c⟩ := isOf hZ e274 Ea1
  obtain ⟨_, _, ⟨T275, L275, k275, n275⟩, -, X275, ⟨Lc275, hQ275, l275, y275, z275⟩, st275⟩ := X274.interfaceBack hx (xi := mn_49) (y := mn_43) hown (mvT hZ (hw_229 hw)) (mvT hZ (hw_230 hw)) (mvT hZ (hw_231 hw)) (mvT hZ (hw_232 hw)) (mvT hZ (hw_233 hw)) (mvT hZ (hw_234 hw)) (mvT hZ (hw_235 hw)) (mvT hZ (hw_190 hw)) (by decide) (backOf (W := 0) (own_rm41 l Z a0 hw [] al1 c1 h0 n0 Z0 Fs1) hZ (hw_236 hw) (hw_11 hw) (by decide) (by decide)) q275a q275b q275c (g := (mkF m 4 #[rv a1] [(.ref al1)])) rfl (by rw [hml]; rfl) (Steps.refl _) (argsL := []) (rest := []) (lenOf pd_17 rfl) rfl own_z0 (hb hby d40_4) (fun _ _ => ⟨rfl, e274, (by decide : 0 + 0 ≤ _), (by decide : 0 + 0 ≤ _)⟩)
  dsimp only [Pt.U, Pt.locs, Pt.cells, Pt.slots] at X275 l275 y275 z275 st275 hQ275
  subst l275 y275 z275
  obtain ⟨rfl, Nq275, e275⟩ := hQ275
  have N275 := Fr.app N0 Nq275
  refine own_jump (g' := (mkF m 9 #[rv a1] [(.int (own_ie c1))])) st275 ?_
  refine own_st _ (own_ifYes 19 X275 hx hby d40_9 ((if0 _ _).trans (teq hi1).1)) ?_
  refine own_st _ (own_aloadN 20 X275 hx hby d40_19) ?_
  obtain ⟨T276, X276, e276, st276⟩ := getF X275 hx hZ hown (host := "") (Or.inl (hw_33 hw)) Via.refl e275 Fvi (g := (mkF m 20 #[rv a1] [(.ref a1)])) rfl rfl (hb hby d40_20)
  refine own_step (g' := (mkF m 23 #[rv a1] [(.ref al1)])) st276 ?_
  refine own_ret X276 hlk (v := some (.ref al1)) (fun h => by rw [hret] at h; cases h) (fun fs hr => X276.areturnOut hx (w := (.ref al1)) rfl hret rfl (hb hby d40_23) hr) ?_ (by decide) (by decide)
  show own_Q40_v Z a1 al1 al2 c1 h0 n0 _ T276.heap _
  rw [e276]
  exact ⟨rfl, N275, rfl⟩
theorem d40_12 : own_D c_45 12 (.aload_n 0, 1) := by decide +kernel
theorem d40_13 : own_D c_45 13 (.getfield 16, 3) := by decide +kernel
theorem d40_16 : own_D c_45 16 (.goto 7, 3) := by decide +kernel
def own_Q40_u (Z : State) (a1 al1 al2 : Addr) (c1 : Int32) (h0 : Heap) (n0 : Nat) (v : Option Value) (h : Heap) (L : List Loc) : Prop := v = some (.ref al2) ∧ Fr n0 L ∧ h = h0
theorem own_rm40_u (l Z a0) (hw : own_W a0 Z) (ws) (a1 al1 al2 : Addr) (c1 : Int32) (h0 : Heap) (n0 : Nat) (Z0 : n0 ≤ h0.size) (hi1 : ¬ own_ie c1 = (0 : Int32)) (Ep : Exa Z h0 a1 "com/example/shaper/shaper/core/ConfigProblems") (Fvi : Fld Z h0 a1 "com/example/shaper/shaper/core/ConfigProblems" "violations" "Ljava/util/List;" (.ref al1)) (Fun : Fld Z h0 a1 "com/example/shaper/shaper/core/ConfigProblems" "unsupported" "Ljava/util/List;" (.ref al2)) (Ea1 : Exa Z h0 al1 "java/util/ArrayList") (Fs1 : Fld Z h0 al1 "java/util/ArrayList" "size" "I" (.int c1)) :
    own_M l Z ws mn_48 c_45 1 (some (.object "java/util/List")) rm_2 #[(.ref a1)] h0 (own_Q40_u Z a1 al1 al2 c1 h0 n0) := by
  refine own_body (plainFor_of_name pn_1) (fun m => own_ef17 m a1) ?_
  intro p e s m below meth c T0 X0 hx hby hml hZ hown hnm hret hlk e0
  have hown : s.vm.findClass "com/example/shaper/shaper/core/ConfigProblems" = some m.cls := hown
  have hnm : meth.name = "refusing" := hnm
  have N0 := Fr.nil n0
  refine own_st _ (own_aloadN 1 X0 hx hby d40_0) ?_
  obtain ⟨T277, X277, e277, st277⟩ := getF X0 hx hZ hown (host := "") (Or.inl (hw_33 hw)) Via.refl e0 Fvi (g := (mkF m 1 #[rv a1] [(.ref a1)])) rfl rfl (hb hby d40_1)
  refine own_step (g' := (mkF m 4 #[rv a1] [(.ref al1)])) st277 ?_
  obtain ⟨cq278, kq278, q278a, q278b, q278c⟩ := isOf hZ e277 Ea1
  obtain ⟨_, _, ⟨T278, L278, k278, n278⟩, -, X278, ⟨Lc278, hQ278, l278, y278, z278⟩, st278⟩ := X277.interfaceBack hx (xi := mn_49) (y := mn_43) hown (mvT hZ (hw_229 hw)) (mvT hZ (hw_230 hw)) (mvT hZ (hw_231 hw)) (mvT hZ (hw_232 hw)) (mvT hZ (hw_233 hw)) (mvT hZ (hw_234 hw)) (mvT hZ (hw_235 hw)) (mvT hZ (hw_190 hw)) (by decide) (backOf (W := 0) (own_rm41 l Z a0 hw [] al1 c1 h0 n0 Z0 Fs1) hZ (hw_236 hw) (hw_11 hw) (by decide) (by decide)) q278a q278b q278c (g := (mkF m 4 #[rv a1] [(.ref al1)])) rfl (by rw [hml]; rfl) (Steps.refl _) (argsL := []) (rest := []) (lenOf pd_17 rfl) rfl own_z0 (hb hby d40_4) (fun _ _ => ⟨rfl, e277, (by decide : 0 + 0 ≤ _), (by decide : 0 + 0 ≤ _)⟩)
  dsimp only [Pt.U, Pt.locs, Pt.cells, Pt.slots] at X278 l278 y278 z278 st278 hQ278
  subst l278 y278 z278
  obtain ⟨rfl, Nq278, e278⟩ := hQ278
  have N278 := Fr.app N0 Nq278
  refine own_jump (g' := (mkF m 9 #[rv a1] [(.int (own_ie c1))])) st278 ?_
  refine own_st _ (own_ifNo 12 X278 hx hby d40_9 ((if0 _ _).trans (feq hi1).1)) ?_
  refine own_st _ (own_aloadN 13 X278 hx hby d40_12) ?_
  obtain ⟨T279, X279, e279, st279⟩ := getF X278 hx hZ hown (host := "") (Or.inl (hw_35 hw)) Via.refl e278 Fun (g := (mkF m 13 #[rv a1] [(.ref a1)])) rfl rfl (hb hby d40_13)
  refine own_step (g' := (mkF m 16 #[rv a1] [(.ref al2)])) st279 ?_
  refine own_st _ (own_goto 23 X279 hx hby d40_16) ?_
  refine own_ret X279 hlk (v := some (.ref al2)) (fun h => by rw [hret] at h; cases h) (fun fs hr => X279.areturnOut hx (w := (.ref al2)) rfl hret rfl (hb hby d40_23) hr) ?_ (by decide) (by decide)
  show own_Q40_u Z a1 al1 al2 c1 h0 n0 _ T279.heap _
  rw [e279]
  exact ⟨rfl, N278, rfl⟩
theorem d39_0 : own_D c_46 0 (.aload_n 0, 1) := by decide +kernel
theorem d39_1 : own_D c_46 1 (.invokevirtual 129, 3) := by decide +kernel
theorem hw_225 : own_H (.methodLink "com/example/shaper/shaper/core/ConfigProblems" 129 mn_48) := own_h 225 rfl
theorem hw_228 : own_H (.code mn_48 prog_4_method_16_code 1 (some (.object "java/util/List"))) := own_h 228 rfl
theorem pd_31 : parseMethodDescriptor "()Ljava/util/List;" = some ⟨[], some (.object "java/util/List")⟩ := by decide +kernel
theorem hw_227 : own_H (.privateMethod mn_48) := own_h 227 rfl
theorem hw_226 : own_H (.instanceMethod mn_48) := own_h 226 rfl
theorem d39_4 : own_D c_46 4 (.astore_n 1, 1) := by decide +kernel
theorem d39_5 : own_D c_46 5 (.aload_n 1, 1) := by decide +kernel
theorem d39_6 : own_D c_46 6 (.invokeinterface 133 1, 5) := by decide +kernel
theorem d39_11 : own_D c_46 11 (.ifCond .eq 7, 3) := by decide +kernel
theorem d39_18 : own_D c_46 18 (.aload_n 1, 1) := by decide +kernel
theorem d39_19 : own_D c_46 19 (.iconst 0, 1) := by decide +kernel
theorem d39_20 : own_D c_46 20 (.invokeinterface 137 2, 5) := by decide +kernel
theorem hw_237 : own_H (.methodLink "com/example/shaper/shaper/core/ConfigProblems" 137 mn_51) := own_h 237 rfl
theorem hw_244 : own_H (.code mn_47 jdk_38_method_20_code 2 (some (.object "java/lang/Object"))) := own_h 244 rfl
theorem hw_240 : own_H (.selects "java/util/ArrayList" mn_51 mn_47) := own_h 240 rfl
theorem hw_238 : own_H (.declares mn_51) := own_h 238 rfl
theorem hw_239 : own_H (.interfaceMethod "java/util/List" "java/util/List" "get" "(I)Ljava/lang/Object;") := own_h 239 rfl
theorem hw_241 : own_H (.instanceMethod mn_47) := own_h 241 rfl
theorem hw_242 : own_H (.publicMethod mn_47) := own_h 242 rfl
theorem hw_243 : own_H (.unhidden "java/util/ArrayList" "get" "(I)Ljava/lang/Object;") := own_h 243 rfl
theorem d39_25 : own_D c_46 25 (.checkcast 61, 3) := by decide +kernel
theorem hw_258 : own_H (.classLink "com/example/shaper/shaper/core/ConfigProblems" 61 "java/lang/String") := own_h 258 rfl
theorem d39_28 : own_D c_46 28 (.areturn, 1) := by decide +kernel
theorem own_ef39_v (m : MethodId) (a1 : Addr) : entryFrame m #[(.ref a1)] 2 = mkF m 0 #[rv a1, .unset] [] := by first | (simp [entryFrame, mkF, argsToLocals, Value.category]; done) | rfl
def own_Q39_v (Z : State) (a1 al1 al2 : Addr) (c1 : Int32) (dd : Addr) (kk : ClassId) (vs : List Value) (s9 : Addr) (h0 : Heap) (n0 : Nat) (v : Option Value) (h : Heap) (L : List Loc) : Prop := v = some (.ref s9) ∧ Fr n0 L ∧ h = h0
theorem own_rm39_v (l Z a0) (hw : own_W a0 Z) (ws) (a1 al1 al2 : Addr) (c1 : Int32) (dd : Addr) (kk : ClassId) (vs : List Value) (s9 : Addr) (h0 : Heap) (n0 : Nat) (Z0 : n0 ≤ h0.size) (hi1 : own_ie c1 = (0 : Int32)) (hf : vs.getD 0 .null = .ref s9) (hlt : (0 : Int32) < c1) (Ep : Exa Z h0 a1 "com/example/shaper/shaper/core/ConfigProblems") (Fvi : Fld Z h0 a1 "com/example/shaper/shaper/core/ConfigProblems" "violations" "Ljava/util/List;" (.ref al1)) (Fun : Fld Z h0 a1 "com/example/shaper/shaper/core/ConfigProblems" "unsupported" "Ljava/util/List;" (.ref al2)) (Ea1 : Exa Z h0 al1 "java/util/ArrayList") (Fs1 : Fld Z h0 al1 "java/util/ArrayList" "size" "I" (.int c1)) (F_e : Fld Z h0 al1 "java/util/ArrayList" "elementData" "[Ljava/lang/Object;" (.ref dd)) (V0 : Arv Z h0 dd kk (.object "java/lang/Object") (10 : Int32) vs .null) (E9 : Exa Z h0 s9 "java/lang/String") :
    own_M l Z ws mn_50 c_46 2 (some (.object "java/lang/String")) rm_40 #[(.ref a1)] h0 (own_Q39_v Z a1 al1 al2 c1 dd kk vs s9 h0 n0) := by
  refine own_body (plainFor_of_name pn_1) (fun m => own_ef39_v m a1) ?_
  intro p e s m below meth c T0 X0 hx hby hml hZ hown hnm hret hlk e0
  have hown : s.vm.findClass "com/example/shaper/shaper/core/ConfigProblems" = some m.cls := hown
  have hnm : meth.name = "first" := hnm
  have N0 := Fr.nil n0
  refine own_st _ (own_aloadN 1 X0 hx hby d39_0) ?_
  obtain ⟨cq280, q280, q280n⟩ := Ep.cell
  obtain ⟨_, _, ⟨T280, L280, k280, n280⟩, -, X280, ⟨Lc280, hQ280, l280, y280, z280⟩, st280⟩ := X0.privateBack hx (y := mn_48) hown (mvT hZ (hw_225 hw)) (mvT hZ (hw_226 hw)) (own_selp (y2 := mn_37) rfl (mvT hZ (hw_68 hw)) (Cond.privateMethod_at (mvP hZ (hw_227 hw) (args := #[]))) (mvT hZ (hw_226 hw)) (by decide)) (Cond.privateMethod_at (mvP hZ (hw_227 hw) (args := #[]))) (mvT hZ (hw_228 hw)) (by decide) (backOf (W := 0) (own_rm40_v l Z a0 hw [] a1 al1 al2 c1 h0 n0 Z0 hi1 Ep Fvi Fun Ea1 Fs1) hZ (hw_228 hw) (hw_2 hw) (by decide) (by decide)) (g := (mkF m 1 #[rv a1, .unset] [(.ref a1)])) rfl (by rw [hml]; rfl) (Steps.refl _) (a := a1) (by rw [e0]; exact q280) q280n (argsL := []) (rest := []) (lenOf pd_31 rfl) rfl own_z0 (hb hby d39_1) (fun _ _ => ⟨rfl, e0, (by decide : 0 + 0 ≤ _), (by decide : 0 + 0 ≤ _)⟩)
  dsimp only [Pt.U, Pt.locs, Pt.cells, Pt.slots] at X280 l280 y280 z280 st280 hQ280
  subst l280 y280 z280
  obtain ⟨rfl, Nq280, e280⟩ := hQ280
  have N280 := Fr.app N0 Nq280
  refine own_jump (g' := (mkF m 4 #[rv a1, .unset] [(.ref al1)])) st280 ?_
  refine own_st _ (own_astoreN 5 #[rv a1, rv al1] X280 hx hby d39_4) ?_
  refine own_st _ (own_aloadN 6 X280 hx hby d39_5) ?_
  obtain ⟨cq281, kq281, q281a, q281b, q281c⟩ := isOf hZ e280 Ea1
  obtain ⟨_, _, ⟨T281, L281, k281, n281⟩, -, X281, ⟨Lc281, hQ281, l281, y281, z281⟩, st281⟩ := X280.interfaceBack hx (xi := mn_49) (y := mn_43) hown (mvT hZ (hw_229 hw)) (mvT hZ (hw_230 hw)) (mvT hZ (hw_231 hw)) (mvT hZ (hw_232 hw)) (mvT hZ (hw_233 hw)) (mvT hZ (hw_234 hw)) (mvT hZ (hw_235 hw)) (mvT hZ (hw_190 hw)) (by decide) (backOf (W := 0) (own_rm41 l Z a0 hw [] al1 c1 h0 n0 Z0 Fs1) hZ (hw_236 hw) (hw_11 hw) (by decide) (by decide)) q281a q281b q281c (g := (mkF m 6 #[rv a1, rv al1] [(.ref al1)])) rfl (by rw [hml]; rfl) (Steps.refl _) (argsL := []) (rest := []) (lenOf pd_17 rfl) rfl own_z0 (hb hby d39_6) (fun _ _ => ⟨rfl, e280, (by decide : 0 + 0 ≤ _), (by decide : 0 + 0 ≤ _)⟩)
  dsimp only [Pt.U, Pt.locs, Pt.cells, Pt.slots] at X281 l281 y281 z281 st281 hQ281
  subst l281 y281 z281
  obtain ⟨rfl, Nq281, e281⟩ := hQ281
  have N281 := Fr.app N280 Nq281
  refine own_jump (g' := (mkF m 11 #[rv a1, rv al1] [(.int (own_ie c1))])) st281 ?_
  refine own_st _ (own_ifYes 18 X281 hx hby d39_11 ((if0 _ _).trans (teq hi1).1)) ?_
  refine own_st _ (own_aloadN 19 X281 hx hby d39_18) ?_
  refine own_st _ (own_iconst 20 0 X281 hx hby d39_19) ?_
  obtain ⟨cq282, kq282, q282a, q282b, q282c⟩ := isOf hZ e281 Ea1
  obtain ⟨_, _, ⟨T282, L282, k282, n282⟩, -, X282, ⟨Lc282, hQ282, l282, y282, z282⟩, st282⟩ := X281.interfaceBack hx (xi := mn_51) (y := mn_47) hown (mvT hZ (hw_237 hw)) (mvT hZ (hw_238 hw)) (mvT hZ (hw_239 hw)) (mvT hZ (hw_240 hw)) (mvT hZ (hw_241 hw)) (mvT hZ (hw_242 hw)) (mvT hZ (hw_243 hw)) (mvT hZ (hw_190 hw)) (by decide) (backOf (W := 0) (own_rm42 l Z a0 hw [] al1 dd kk vs s9 c1 h0 n0 Z0 hf hlt F_e V0 Fs1 Ea1) hZ (hw_244 hw) (hw_11 hw) (by decide) (by decide)) q282a q282b q282c (g := (mkF m 20 #[rv a1, rv al1] [(.int 0), (.ref al1)])) rfl (by rw [hml]; rfl) (Steps.refl _) (argsL := [(.int 0)]) (rest := []) (lenOf pd_30 rfl) rfl own_z0 (hb hby d39_20) (fun _ _ => ⟨rfl, e281, (by decide : 0 + 0 ≤ _), (by decide : 0 + 0 ≤ _)⟩)
  dsimp only [Pt.U, Pt.locs, Pt.cells, Pt.slots] at X282 l282 y282 z282 st282 hQ282
  subst l282 y282 z282
  obtain ⟨rfl, Nq282, e282⟩ := hQ282
  have N282 := Fr.app N281 Nq282
  refine own_jump (g' := (mkF m 25 #[rv a1, rv al1] [(.ref s9)])) st282 ?_
  obtain ⟨T283, X283, e283, st283⟩ := castY X282 hx hZ hown (hw_258 hw) e282 (Ins.self E9) (g := (mkF m 25 #[rv a1, rv al1] [(.ref s9)])) rfl rfl (hb hby d39_25)
  refine own_step (g' := (mkF m 28 #[rv a1, rv al1] [(.ref s9)])) st283 ?_
  refine own_ret X283 hlk (v := some (.ref s9)) (fun h => by rw [hret] at h; cases h) (fun fs hr => X283.areturnOut hx (w := (.ref s9)) rfl hret rfl (hb hby d39_28) hr) ?_ (by decide) (by decide)
  show own_Q39_v Z a1 al1 al2 c1 dd kk vs s9 h0 n0 _ T283.heap _
  rw [e283]
  exact ⟨rfl, N282, rfl⟩
def own_Q39_u (Z : State) (a1 al1 al2 : Addr) (c1 c2 : Int32) (dd : Addr) (kk : ClassId) (vs : List Value) (s9 : Addr) (h0 : Heap) (n0 : Nat) (v : Option Value) (h : Heap) (L : List Loc) : Prop := v = some (.ref s9) ∧ Fr n0 L ∧ h = h0
theorem own_rm39_u (l Z a0) (hw : own_W a0 Z) (ws) (a1 al1 al2 : Addr) (c1 c2 : Int32) (dd : Addr) (kk : ClassId) (vs : List Value) (s9 : Addr) (h0 : Heap) (n0 : Nat) (Z0 : n0 ≤ h0.size) (hi1 : ¬ own_ie c1 = (0 : Int32)) (hi2 : own_ie c2 = (0 : Int32)) (hf : vs.getD 0 .null = .ref s9) (hlt : (0 : Int32) < c2) (Ep : Exa Z h0 a1 "com/example/shaper/shaper/core/ConfigProblems") (Fvi : Fld Z h0 a1 "com/example/shaper/shaper/core/ConfigProblems" "violations" "Ljava/util/List;" (.ref al1)) (Fun : Fld Z h0 a1 "com/example/shaper/shaper/core/ConfigProblems" "unsupported" "Ljava/util/List;" (.ref al2)) (Ea1 : Exa Z h0 al1 "java/util/ArrayList") (Fs1 : Fld Z h0 al1 "java/util/ArrayList" "size" "I" (.int c1)) (Ea2 : Exa Z h0 al2 "java/util/ArrayList") (Fs2 : Fld Z h0 al2 "java/util/ArrayList" "size" "I" (.int c2)) (F_e : Fld Z h0 al2 "java/util/ArrayList" "elementData" "[Ljava/lang/Object;" (.ref dd)) (V0 : Arv Z h0 dd kk (.object "java/lang/Object") (10 : Int32) vs .null) (E9 : Exa Z h0 s9 "java/lang/String") :
    own_M l Z ws mn_50 c_46 2 (some (.object "java/lang/String")) rm_40 #[(.ref a1)] h0 (own_Q39_u Z a1 al1 al2 c1 c2 dd kk vs s9 h0 n0) := by
  refine own_body (plainFor_of_name pn_1) (fun m => own_ef39_v m a1) ?_
  intro p e s m below meth c T0 X0 hx hby hml hZ hown hnm hret hlk e0
  have hown : s.vm.findClass "com/example/shaper/shaper/core/ConfigProblems" = some m.cls := hown
  have hnm : meth.name = "first" := hnm
  have N0 := Fr.nil n0
  refine own_st _ (own_aloadN 1 X0 hx hby d39_0) ?_
  obtain ⟨cq284, q284, q284n⟩ := Ep.cell
  obtain ⟨_, _, ⟨T284, L284, k284, n284⟩, -, X284, ⟨Lc284, hQ284, l284, y284, z284⟩, st284⟩ := X0.privateBack hx (y := mn_48) hown (mvT hZ (hw_225 hw)) (mvT hZ (hw_226 hw)) (own_selp (y2 := mn_37) rfl (mvT hZ (hw_68 hw)) (Cond.privateMethod_at (mvP hZ (hw_227 hw) (args := #[]))) (mvT hZ (hw_226 hw)) (by decide)) (Cond.privateMethod_at (mvP hZ (hw_227 hw) (args := #[]))) (mvT hZ (hw_228 hw)) (by decide) (backOf (W := 0) (own_rm40_u l Z a0 hw [] a1 al1 al2 c1 h0 n0 Z0 hi1 Ep Fvi Fun Ea1 Fs1) hZ (hw_228 hw) (hw_2 hw) (by decide) (by decide)) (g := (mkF m 1 #[rv a1, .unset] [(.ref a1)])) rfl (by rw [hml]; rfl) (Steps.refl _) (a := a1) (by rw [e0]; exact q284) q284n (argsL := []) (rest := []) (lenOf pd_31 rfl) rfl own_z0 (hb hby d39_1) (fun _ _ => ⟨rfl, e0, (by decide : 0 + 0 ≤ _), (by decide : 0 + 0 ≤ _)⟩)
  dsimp only [Pt.U, Pt.locs, Pt.cells, Pt.slots] at X284 l284 y284 z284 st284 hQ284
  subst l284 y284 z284
  obtain ⟨rfl, Nq284, e284⟩ := hQ284
  have N284 := Fr.app N0 Nq284
  refine own_jump (g' := (mkF m 4 #[rv a1, .unset] [(.ref al2)])) st284 ?_
  refine own_st _ (own_astoreN 5 #[rv a1, rv al2] X284 hx hby d39_4) ?_
  refine own_st _ (own_aloadN 6 X284 hx hby d39_5) ?_
  obtain ⟨cq285, kq285, q285a, q285b, q285c⟩ := isOf hZ e284 Ea2
  obtain ⟨_, _, ⟨T285, L285, k285, n285⟩, -, X285, ⟨Lc285, hQ285, l285, y285, z285⟩, st285⟩ := X284.interfaceBack hx (xi := mn_49) (y := mn_43) hown (mvT hZ (hw_229 hw)) (mvT hZ (hw_230 hw)) (mvT hZ (hw_231 hw)) (mvT hZ (hw_232 hw)) (mvT hZ (hw_233 hw)) (mvT hZ (hw_234 hw)) (mvT hZ (hw_235 hw)) (mvT hZ (hw_190 hw)) (by decide) (backOf (W := 0) (own_rm41 l Z a0 hw [] al2 c2 h0 n0 Z0 Fs2) hZ (hw_236 hw) (hw_11 hw) (by decide) (by decide)) q285a q285b q285c (g := (mkF m 6 #[rv a1, rv al2] [(.ref al2)])) rfl (by rw [hml]; rfl) (Steps.refl _) (argsL := []) (rest := []) (lenOf pd_17 rfl) rfl own_z0 (hb hby d39_6) (fun _ _ => ⟨rfl, e284, (by decide : 0 + 0 ≤ _), (by decide : 0 + 0 ≤ _)⟩)
  dsimp only [Pt.U, Pt.locs, Pt.cells, Pt.slots] at X285 l285 y285 z285 st285 hQ285
  subst l285 y285 z285
  obtain ⟨rfl, Nq285, e285⟩ := hQ285
  have N285 := Fr.app N284 Nq285
  refine own_jump (g' := (mkF m 11 #[rv a1, rv al2] [(.int (own_ie c2))])) st285 ?_
  refine own_st _ (own_ifYes 18 X285 hx hby d39_11 ((if0 _ _).trans (teq hi2).1)) ?_
  refine own_st _ (own_aloadN 19 X285 hx hby d39_18) ?_
  refine own_st _ (own_iconst 20 0 X285 hx hby d39_19) ?_
  obtain ⟨cq286, kq286, q286a, q286b, q286c⟩ := isOf hZ e285 Ea2
  obtain ⟨_, _, ⟨T286, L286, k286, n286⟩, -, X286, ⟨Lc286, hQ286, l286, y286, z286⟩, st286⟩ := X285.interfaceBack hx (xi := mn_51) (y := mn_47) hown (mvT hZ (hw_237 hw)) (mvT hZ (hw_238 hw)) (mvT hZ (hw_239 hw)) (mvT hZ (hw_240 hw)) (mvT hZ (hw_241 hw)) (mvT hZ (hw_242 hw)) (mvT hZ (hw_243 hw)) (mvT hZ (hw_190 hw)) (by decide) (backOf (W := 0) (own_rm42 l Z a0 hw [] al2 dd kk vs s9 c2 h0 n0 Z0 hf hlt F_e V0 Fs2 Ea2) hZ (hw_244 hw) (hw_11 hw) (by decide) (by decide)) q286a q286b q286c (g := (mkF m 20 #[rv a1, rv al2] [(.int 0), (.ref al2)])) rfl (by rw [hml]; rfl) (Steps.refl _) (argsL := [(.int 0)]) (rest := []) (lenOf pd_30 rfl) rfl own_z0 (hb hby d39_20) (fun _ _ => ⟨rfl, e285, (by decide : 0 + 0 ≤ _), (by decide : 0 + 0 ≤ _)⟩)
  dsimp only [Pt.U, Pt.locs, Pt.cells, Pt.slots] at X286 l286 y286 z286 st286 hQ286
  subst l286 y286 z286
  obtain ⟨rfl, Nq286, e286⟩ := hQ286
  have N286 := Fr.app N285 Nq286
  refine own_jump (g' := (mkF m 25 #[rv a1, rv al2] [(.ref s9)])) st286 ?_
  obtain ⟨T287, X287, e287, st287⟩ := castY X286 hx hZ hown (hw_258 hw) e286 (Ins.self E9) (g := (mkF m 25 #[rv a1, rv al2] [(.ref s9)])) rfl rfl (hb hby d39_25)
  refine own_step (g' := (mkF m 28 #[rv a1, rv al2] [(.ref s9)])) st287 ?_
  refine own_ret X287 hlk (v := some (.ref s9)) (fun h => by rw [hret] at h; cases h) (fun fs hr => X287.areturnOut hx (w := (.ref s9)) rfl hret rfl (hb hby d39_28) hr) ?_ (by decide) (by decide)
  show own_Q39_u Z a1 al1 al2 c1 c2 dd kk vs s9 h0 n0 _ T287.heap _
  rw [e287]
  exact ⟨rfl, N286, rfl⟩
theorem d39_14 : own_D c_46 14 (.aconst_null, 1) := by decide +kernel
theorem d39_15 : own_D c_46 15 (.goto 13, 3) := by decide +kernel
def own_Q39_n (Z : State) (a1 al1 al2 : Addr) (c1 c2 : Int32) (h0 : Heap) (n0 : Nat) (v : Option Value) (h : Heap) (L : List Loc) : Prop := v = some .null ∧ Fr n0 L ∧ h = h0
theorem own_rm39_n (l Z a0) (hw : own_W a0 Z) (ws) (a1 al1 al2 : Addr) (c1 c2 : Int32) (h0 : Heap) (n0 : Nat) (Z0 : n0 ≤ h0.size) (hi1 : ¬ own_ie c1 = (0 : Int32)) (hi2 : ¬ own_ie c2 = (0 : Int32)) (Ep : Exa Z h0 a1 "com/example/shaper/shaper/core/ConfigProblems") (Fvi : Fld Z h0 a1 "com/example/shaper/shaper/core/ConfigProblems" "violations" "Ljava/util/List;" (.ref al1)) (Fun : Fld Z h0 a1 "com/example/shaper/shaper/core/ConfigProblems" "unsupported" "Ljava/util/List;" (.ref al2)) (Ea1 : Exa Z h0 al1 "java/util/ArrayList") (Fs1 : Fld Z h0 al1 "java/util/ArrayList" "size" "I" (.int c1)) (Ea2 : Exa Z h0 al2 "java/util/ArrayList") (Fs2 : Fld Z h0 al2 "java/util/ArrayList" "size" "I" (.int c2)) :
    own_M l Z ws mn_50 c_46 2 (some (.object "java/lang/String")) rm_27 #[(.ref a1)] h0 (own_Q39_n Z a1 al1 al2 c1 c2 h0 n0) := by
  refine own_body (plainFor_of_name pn_1) (fun m => own_ef39_v m a1) ?_
  intro p e s m below meth c T0 X0 hx hby hml hZ hown hnm hret hlk e0
  have hown : s.vm.findClass "com/example/shaper/shaper/core/ConfigProblems" = some m.cls := hown
  have hnm : meth.name = "first" := hnm
  have N0 := Fr.nil n0
  refine own_st _ (own_aloadN 1 X0 hx hby d39_0) ?_
  obtain ⟨cq288, q288, q288n⟩ := Ep.cell
  obtain ⟨_, _, ⟨T288, L288, k288, n288⟩, -, X288, ⟨Lc288, hQ288, l288, y288, z288⟩, st288⟩ := X0.privateBack hx (y := mn_48) hown (mvT hZ (hw_225 hw)) (mvT hZ (hw_226 hw)) (own_selp (y2 := mn_37) rfl (mvT hZ (hw_68 hw)) (Cond.privateMethod_at (mvP hZ (hw_227 hw) (args := #[]))) (mvT hZ (hw_226 hw)) (by decide)) (Cond.privateMethod_at (mvP hZ (hw_227 hw) (args := #[]))) (mvT hZ (hw_228 hw)) (by decide) (backOf (W := 0) (own_rm40_u l Z a0 hw [] a1 al1 al2 c1 h0 n0 Z0 hi1 Ep Fvi Fun Ea1 Fs1) hZ (hw_228 hw) (hw_2 hw) (by decide) (by decide)) (g := (mkF m 1 #[rv a1, .unset] [(.ref a1)])) rfl (by rw [hml]; rfl) (Steps.refl _) (a := a1) (by rw [e0]; exact q288) q288n (argsL := []) (rest := []) (lenOf pd_31 rfl) rfl own_z0 (hb hby d39_1) (fun _ _ => ⟨rfl, e0, (by decide : 0 + 0 ≤ _), (by decide : 0 + 0 ≤ _)⟩)
  dsimp only [Pt.U, Pt.locs, Pt.cells, Pt.slots] at X288 l288 y288 z288 st288 hQ288
  subst l288 y288 z288
  obtain ⟨rfl, Nq288, e288⟩ := hQ288
  have N288 := Fr.app N0 Nq288
  refine own_jump (g' := (mkF m 4 #[rv a1, .unset] [(.ref al2)])) st288 ?_
  refine own_st _ (own_astoreN 5 #[rv a1, rv al2] X288 hx hby d39_4) ?_
  refine own_st _ (own_aloadN 6 X288 hx hby d39_5) ?_
  obtain ⟨cq289, kq289, q289a, q289b, q289c⟩ := isOf hZ e288 Ea2
  obtain ⟨_, _, ⟨T289, L289, k289, n289⟩, -, X289, ⟨Lc289, hQ289, l289, y289, z289⟩, st289⟩ := X288.interfaceBack hx (xi := mn_49) (y := mn_43) hown (mvT hZ (hw_229 hw)) (mvT hZ (hw_230 hw)) (mvT hZ (hw_231 hw)) (mvT hZ (hw_232 hw)) (mvT hZ (hw_233 hw)) (mvT hZ (hw_234 hw)) (mvT hZ (hw_235 hw)) (mvT hZ (hw_190 hw)) (by decide) (backOf (W := 0) (own_rm41 l Z a0 hw [] al2 c2 h0 n0 Z0 Fs2) hZ (hw_236 hw) (hw_11 hw) (by decide) (by decide)) q289a q289b q289c (g := (mkF m 6 #[rv a1, rv al2] [(.ref al2)])) rfl (by rw [hml]; rfl) (Steps.refl _) (argsL := []) (rest := []) (lenOf pd_17 rfl) rfl own_z0 (hb hby d39_6) (fun _ _ => ⟨rfl, e288, (by decide : 0 + 0 ≤ _), (by decide : 0 + 0 ≤ _)⟩)
  dsimp only [Pt.U, Pt.locs, Pt.cells, Pt.slots] at X289 l289 y289 z289 st289 hQ289
  subst l289 y289 z289
  obtain ⟨rfl, Nq289, e289⟩ := hQ289
  have N289 := Fr.app N288 Nq289
  refine own_jump (g' := (mkF m 11 #[rv a1, rv al2] [(.int (own_ie c2))])) st289 ?_
  refine own_st _ (own_ifNo 14 X289 hx hby d39_11 ((if0 _ _).trans (feq hi2).1)) ?_
  refine own_st _ (own_aconstNull 15 X289 hx hby d39_14) ?_
  refine own_st _ (own_goto 28 X289 hx hby d39_15) ?_
  refine own_ret X289 hlk (v := some .null) (fun h => by rw [hret] at h; cases h) (fun fs hr => X289.areturnOut hx (w := .null) rfl hret rfl (hb hby d39_28) hr) ?_ (by decide) (by decide)
  show own_Q39_n Z a1 al1 al2 c1 c2 h0 n0 _ T289.heap _
  rw [e289]
  exact ⟨rfl, N289, rfl⟩
theorem d46_0 : own_D method_2_code 0 (.new 7, 3) := by decide +kernel
theorem hw_262 : own_H (.classLink "com/example/shaper/shaper/core/ConfigProblemsFirstPinLaw" 7 "java/lang/String") := own_h 262 rfl
theorem d46_3 : own_D method_2_code 3 (.dup, 1) := by decide +kernel
theorem d46_4 : own_D method_2_code 4 (.iconst 4, 1) := by decide +kernel
theorem d46_5 : own_D method_2_code 5 (.newarray .char, 2) := by decide +kernel
theorem hw_263 : own_H (.arrayClass .char) := own_h 263 rfl
theorem d46_7 : own_D method_2_code 7 (.dup, 1) := by decide +kernel
theorem d46_8 : own_D method_2_code 8 (.iconst 0, 1) := by decide +kernel
theorem d46_9 : own_D method_2_code 9 (.iload_n 0, 1) := by decide +kernel
theorem d46_10 : own_D method_2_code 10 (.castore, 1) := by decide +kernel
theorem d46_11 : own_D method_2_code 11 (.dup, 1) := by decide +kernel
theorem d46_12 : own_D method_2_code 12 (.iconst 1, 1) := by decide +kernel
theorem d46_13 : own_D method_2_code 13 (.bipush 58, 2) := by decide +kernel
theorem d46_15 : own_D method_2_code 15 (.castore, 1) := by decide +kernel
theorem d46_16 : own_D method_2_code 16 (.dup, 1) := by decide +kernel
theorem d46_17 : own_D method_2_code 17 (.iconst 2, 1) := by decide +kernel
theorem d46_18 : own_D method_2_code 18 (.bipush 32, 2) := by decide +kernel
theorem d46_20 : own_D method_2_code 20 (.castore, 1) := by decide +kernel
theorem d46_21 : own_D method_2_code 21 (.dup, 1) := by decide +kernel
theorem d46_22 : own_D method_2_code 22 (.iconst 3, 1) := by decide +kernel
theorem d46_23 : own_D method_2_code 23 (.iload_n 1, 1) := by decide +kernel
theorem d46_24 : own_D method_2_code 24 (.castore, 1) := by decide +kernel
theorem d46_25 : own_D method_2_code 25 (.invokespecial 9, 3) := by decide +kernel
theorem hw_264 : own_H (.methodLink "com/example/shaper/shaper/core/ConfigProblemsFirstPinLaw" 9 mn_53) := own_h 264 rfl
theorem hw_266 : own_H (.code mn_53 jdk_42_method_3_code 2 none) := own_h 266 rfl
theorem hw_265 : own_H (.instanceMethod mn_53) := own_h 265 rfl
theorem pd_32 : parseMethodDescriptor "([C)V" = some ⟨[(.array .char)], none⟩ := by decide +kernel
theorem d46_28 : own_D method_2_code 28 (.areturn, 1) := by decide +kernel
def own_Q46 (Z : State) (p1 p2 wc : Int32) (wD : Addr) (kD : ClassId) (h0 : Heap) (n0 : Nat) (v : Option Value) (h : Heap) (L : List Loc) : Prop := ∃ (sa ba : Addr) (kb : ClassId), v = some (.ref sa) ∧ Fr n0 L ∧ Keep h0 h [] ∧ h0.size ≤ sa ∧ h0.size ≤ ba ∧ sa ≠ ba ∧ Exa Z h sa "java/lang/String" ∧ Fld Z h sa "java/lang/String" "value" "[B" (.ref ba) ∧ Fld Z h sa "java/lang/String" "coder" "B" (.int 0) ∧ Arv Z h ba kb .byte (4 : Int32) ((own_tv p1 p2).map Value.int) (.int 0)
theorem own_rm46 (l Z a0) (hw : own_W a0 Z) (ws) (p1 p2 wc : Int32) (wD : Addr) (kD : ClassId) (h0 : Heap) (n0 : Nat) (Z0 : n0 ≤ h0.size) (O0 : Old Z n0 h0) (SS : own_St Z wc wD kD) (ho1 : ¬ p1 < (0 : Int32) ∧ ¬ (255 : Int32) < p1) (ho2 : ¬ p2 < (0 : Int32) ∧ ¬ (255 : Int32) < p2) :
    own_M l Z ws mn_52 method_2_code 2 (some (.object "java/lang/String")) rm_41 #[(.int p1), (.int p2)] h0 (own_Q46 Z p1 p2 wc wD kD h0 n0) := by
  refine own_body (plainFor_of_name pn_6) (fun m => own_ef37 m p1 p2) ?_
  intro p e s m below meth c T0 X0 hx hby hml hZ hown hnm hret hlk e0
  have hown : s.vm.findClass "com/example/shaper/shaper/core/ConfigProblemsFirstPinLaw" = some m.cls := hown
  have hnm : meth.name = "cat" := hnm
  have N0 := Fr.nil n0
  have K0 : Keep h0 h0 [] := Keep.refl _ _
  obtain ⟨S_wc, hwc, S_wD, V_wD⟩ := id SS
  obtain ⟨T290, h290, X290, e290, E290, A290, D290, -, st290⟩ := newO X0 hx hZ hown (hw_262 hw) (hw_51 hw) (hw_43 hw) e0 (g := (mkF m 0 #[iv p1, iv p2] [])) rfl (hb hby d46_0) (by decide) (by decide)
  obtain ⟨b290, g290⟩ : ∃ z, z = h0.size := ⟨_, rfl⟩
  rw [← g290] at A290 D290 st290
  have g_b290 : n0 ≤ b290 := Nat.le_trans Z0 (Nat.le_of_eq g290.symm)
  have sz_b290 : h0.size ≤ b290 := Nat.le_trans K0.1 (Nat.le_of_eq g290.symm)
  have Kp290 : Keep h0 h290 [] := K0.ext E290
  have Z290 : n0 ≤ h290.size := Nat.le_trans Z0 E290.1
  have O290 : Old Z n0 h290 := O0.ext E290
  have F_value_b290 : Fld Z h290 b290 "java/lang/String" "value" "[B" .null := D290 (Or.inr (hw_62 hw)) (ty := (.array .byte)) (by decide)
  have F_coder_b290 : Fld Z h290 b290 "java/lang/String" "coder" "B" (.int 0) := D290 (Or.inr (hw_64 hw)) (ty := .byte) (by decide)
  refine own_step (g' := (mkF m 3 #[iv p1, iv p2] [(.ref b290)])) st290 ?_
  refine own_st _ (own_dup 4 X290 hx hby d46_3) ?_
  refine own_st _ (own_iconst 5 4 X290 hx hby d46_4) ?_
  obtain ⟨T291, h291, k291, X291, e291, E291, A291, st291⟩ := newP (aty := .char) X290 hx hZ (hw_263 hw) e290 (g := (mkF m 5 #[iv p1, iv p2] [(.int 4), (.ref b290), (.ref b290)])) rfl (hb hby d46_5) rfl (by decide) (cap := 4) (by decide) (by decide) (by decide) (by decide)
  obtain ⟨b291, g291⟩ : ∃ z, z = h290.size := ⟨_, rfl⟩
  rw [← g291] at A291 st291
  have g_b291 : n0 ≤ b291 := Nat.le_trans Z290 (Nat.le_of_eq g291.symm)
  have ne_b290_b291 : b290 ≠ b291 := own_ne A290.lt g291
  have sz_b291 : h0.size ≤ b291 := Nat.le_trans Kp290.1 (Nat.le_of_eq g291.symm)
  have Kp291 : Keep h0 h291 [] := Kp290.ext E291
  have Z291 : n0 ≤ h291.size := Nat.le_trans Z290 E291.1
  have O291 : Old Z n0 h291 := O290.ext E291
  have u1 := A290.ext E291
  have u2 := F_value_b290.ext E291
  have u3 := F_coder_b290.ext E291
  have V291 : Arv Z h291 b291 k291 .char (4 : Int32) [(.int 0), (.int 0), (.int 0), (.int 0)] (.int 0) := (Arv.new A291 (by decide)).pad (pad_rep [] (.int 0) 4)
  refine own_step (g' := (mkF m 7 #[iv p1, iv p2] [(.ref b291), (.ref b290), (.ref b290)])) st291 ?_
  refine own_st _ (own_dup 8 X291 hx hby d46_7) ?_
  refine own_st _ (own_iconst 9 0 X291 hx hby d46_8) ?_
  refine own_st _ (own_iloadN 10 X291 hx hby d46_9) ?_
  obtain ⟨cl292, Ar292, q292, S292, M292, H292, G292⟩ := id V291
  have hin292 : ¬ ((0 : Int32) < 0 ∨ cl292.slots.size ≤ ((0 : Int32)).toNatClampNeg) := inb_of S292 ⟨by decide, by decide⟩
  obtain ⟨T293, h293, X293, e293, W293, st293⟩ := stC X291 hx hZ e291 Ar292 (j := 0) hin292 (g := (mkF m 10 #[iv p1, iv p2] [(.int p1), (.int 0), (.ref b291), (.ref b291), (.ref b290), (.ref b290)])) rfl rfl (hb hby d46_10)
  have u4 := u1.wr W293
  have u5 := u2.other W293 (Or.inl ne_b290_b291)
  have u6 := u3.other W293 (Or.inl ne_b290_b291)
  have V293 : Arv Z h293 b291 k291 .char (4 : Int32) [(.int (nar .char p1)), (.int 0), (.int 0), (.int 0)] (.int 0) := Arv.set Ar292 q292 S292 M292 H292 G292 (fits_nar_char _) W293 0 rfl (Nat.le_of_ble_eq_true rfl)
  have Z293 : n0 ≤ h293.size := Nat.le_trans Z291 (Keep.of_wr W293).1
  have Kp293 : Keep h0 h293 [] := Kp291.wr W293 (Or.inr sz_b291)
  have O293 : Old Z n0 h293 := O291.wr W293 g_b291
  have N293 := Fr.snoc X293 N0 g_b291
  refine own_step (g' := (mkF m 11 #[iv p1, iv p2] [(.ref b291), (.ref b290), (.ref b290)])) st293 ?_
  refine own_st _ (own_dup 12 X293 hx hby d46_11) ?_
  refine own_st _ (own_iconst 13 1 X293 hx hby d46_12) ?_
  refine own_st _ (own_bipush 15 58 X293 hx hby d46_13) ?_
  obtain ⟨cl294, Ar294, q294, S294, M294, H294, G294⟩ := id V293
  have hin294 : ¬ ((1 : Int32) < 0 ∨ cl294.slots.size ≤ ((1 : Int32)).toNatClampNeg) := inb_of S294 ⟨by decide, by decide⟩
  obtain ⟨T295, h295, X295, e295, W295, st295⟩ := stC X293 hx hZ e293 Ar294 (j := 1) hin294 (g := (mkF m 15 #[iv p1, iv p2] [(.int 58), (.int 1), (.ref b291), (.ref b291), (.ref b290), (.ref b290)])) rfl rfl (hb hby d46_15)
  have u7 := u4.wr W295
  have u8 := u5.other W295 (Or.inl ne_b290_b291)
  have u9 := u6.other W295 (Or.inl ne_b290_b291)
  have V295 : Arv Z h295 b291 k291 .char (4 : Int32) [(.int (nar .char p1)), (.int (nar .char 58)), (.int 0), (.int 0)] (.int 0) := Arv.set Ar294 q294 S294 M294 H294 G294 (fits_nar_char _) W295 1 rfl (Nat.le_of_ble_eq_true rfl)
  have Z295 : n0 ≤ h295.size := Nat.le_trans Z293 (Keep.of_wr W295).1
  have Kp295 : Keep h0 h295 [] := Kp293.wr W295 (Or.inr sz_b291)
  have O295 : Old Z n0 h295 := O293.wr W295 g_b291
  have N295 := Fr.snoc X295 N293 g_b291
  refine own_step (g' := (mkF m 16 #[iv p1, iv p2] [(.ref b291), (.ref b290), (.ref b290)])) st295 ?_
  refine own_st _ (own_dup 17 X295 hx hby d46_16) ?_
  refine own_st _ (own_iconst 18 2 X295 hx hby d46_17) ?_
  refine own_st _ (own_bipush 20 32 X295 hx hby d46_18) ?_
  obtain ⟨cl296, Ar296, q296, S296, M296, H296, G296⟩ := id V295
  have hin296 : ¬ ((2 : Int32) < 0 ∨ cl296.slots.size ≤ ((2 : Int32)).toNatClampNeg) := inb_of S296 ⟨by decide, by decide⟩
  obtain ⟨T297, h297, X297, e297, W297, st297⟩ := stC X295 hx hZ e295 Ar296 (j := 2) hin296 (g := (mkF m 20 #[iv p1, iv p2] [(.int 32), (.int 2), (.ref b291), (.ref b291), (.ref b290), (.ref b290)])) rfl rfl (hb hby d46_20)
  have u10 := u7.wr W297
  have u11 := u8.other W297 (Or.inl ne_b290_b291)
  have u12 := u9.other W297 (Or.inl ne_b290_b291)
  have V297 : Arv Z h297 b291 k291 .char (4 : Int32) [(.int (nar .char p1)), (.int (nar .char 58)), (.int (nar .char 32)), (.int 0)] (.int 0) := Arv.set Ar296 q296 S296 M296 H296 G296 (fits_nar_char _) W297 2 rfl (Nat.le_of_ble_eq_true rfl)
  have Z297 : n0 ≤ h297.size := Nat.le_trans Z295 (Keep.of_wr W297).1
  have Kp297 : Keep h0 h297 [] := Kp295.wr W297 (Or.inr sz_b291)
  have O297 : Old Z n0 h297 := O295.wr W297 g_b291
  have N297 := Fr.snoc X297 N295 g_b291
  refine own_step (g' := (mkF m 21 #[iv p1, iv p2] [(.ref b291), (.ref b290), (.ref b290)])) st297 ?_
  refine own_st _ (own_dup 22 X297 hx hby d46_21) ?_
  refine own_st _ (own_iconst 23 3 X297 hx hby d46_22) ?_
  refine own_st _ (own_iloadN 24 X297 hx hby d46_23) ?_
  obtain ⟨cl298, Ar298, q298, S298, M298, H298, G298⟩ := id V297
  have hin298 : ¬ ((3 : Int32) < 0 ∨ cl298.slots.size ≤ ((3 : Int32)).toNatClampNeg) := inb_of S298 ⟨by decide, by decide⟩
  obtain ⟨T299, h299, X299, e299, W299, st299⟩ := stC X297 hx hZ e297 Ar298 (j := 3) hin298 (g := (mkF m 24 #[iv p1, iv p2] [(.int p2), (.int 3), (.ref b291), (.ref b291), (.ref b290), (.ref b290)])) rfl rfl (hb hby d46_24)
  have u13 := u10.wr W299
  have u14 := u11.other W299 (Or.inl ne_b290_b291)
  have u15 := u12.other W299 (Or.inl ne_b290_b291)
  have V299 : Arv Z h299 b291 k291 .char (4 : Int32) [(.int (nar .char p1)), (.int (nar .char 58)), (.int (nar .char 32)), (.int (nar .char p2))] (.int 0) := Arv.set Ar298 q298 S298 M298 H298 G298 (fits_nar_char _) W299 3 rfl (Nat.le_of_ble_eq_true rfl)
  have Z299 : n0 ≤ h299.size := Nat.le_trans Z297 (Keep.of_wr W299).1
  have Kp299 : Keep h0 h299 [] := Kp297.wr W299 (Or.inr sz_b291)
  have O299 : Old Z n0 h299 := O297.wr W299 g_b291
  have N299 := Fr.snoc X299 N297 g_b291
  refine own_step (g' := (mkF m 25 #[iv p1, iv p2] [(.ref b291), (.ref b290), (.ref b290)])) st299 ?_
  have Vk : Arv Z h299 b291 k291 .char (4 : Int32) (([p1, 58, 32, p2] : List Int32).map Value.int) (.int 0) := by have q := V299; rw [own_narch ho1, own_narch ho2] at q; exact q
  obtain ⟨_, _, ⟨T300, L300, k300, n300⟩, -, X300, ⟨Lc300, hQ300, l300, y300, z300⟩, st300⟩ := X299.specialBack hx (y := mn_53) rfl hown (mvT hZ (hw_264 hw)) (mvT hZ (hw_265 hw)) (mvT hZ (hw_266 hw)) (by decide) (StrChars.Road.backV (W := 1) hZ (own_hws hw) (kI := 4) (hw_51 hw) (cs := [p1, 58, 32, p2]) (bs := own_tv p1 p2) (n := 4) g_b290 Z299 u13 u14 u15 Vk (S_wc.ext O299.2) hwc rfl rfl (by decide) (by decide) (own_all2 ho1 ho2 (by decide) (by decide)) rfl (by decide) (by decide)) (g := (mkF m 25 #[iv p1, iv p2] [(.ref b291), (.ref b290), (.ref b290)])) rfl (by rw [hml]; rfl) (Steps.refl _) (a := b290) (argsL := [(.ref b291)]) (rest := [(.ref b290)]) (lenOf pd_32 rfl) rfl own_z0 (hb hby d46_25) (fun _ _ => ⟨rfl, e299, (by decide : 2 + 1 ≤ _), (by decide : 8 + 4 ≤ _)⟩)
  dsimp only [Pt.U, Pt.locs, Pt.cells, Pt.slots] at X300 l300 y300 z300 st300 hQ300
  subst l300 y300 z300
  obtain ⟨rfl, Nq300, K300, Ex300, Fc300, ta300, kb300, -, gt300, nt300, Fv300, V300⟩ := hQ300
  have N300 := Fr.app N299 Nq300
  have ne_b290_ta300 : b290 ≠ ta300 := Nat.ne_of_lt (Nat.lt_of_lt_of_le u13.lt gt300)
  have sz_ta300 : h0.size ≤ ta300 := Nat.le_trans Kp299.1 gt300
  have Kp300 : Keep h0 T300.heap [] := Kp299.trans K300 (allS (Or.inr sz_b290) all0)
  refine own_jump (g' := (mkF m 28 #[iv p1, iv p2] [(.ref b290)])) st300 ?_
  refine own_ret X300 hlk (v := some (.ref b290)) (fun h => by rw [hret] at h; cases h) (fun fs hr => X300.areturnOut hx (w := (.ref b290)) rfl hret rfl (hb hby d46_28) hr) ?_ (by decide) (by decide)
  show own_Q46 Z p1 p2 wc wD kD h0 n0 _ T300.heap _
  exact ⟨b290, ta300, kb300, rfl, N300, Kp300, sz_b290, sz_ta300, ne_b290_ta300, Ex300, Fv300, Fc300, V300⟩
theorem d59_0 : own_D method_3_code 0 (.new 7, 3) := by decide +kernel
theorem d59_3 : own_D method_3_code 3 (.dup, 1) := by decide +kernel
theorem d59_4 : own_D method_3_code 4 (.bipush 20, 2) := by decide +kernel
theorem d59_6 : own_D method_3_code 6 (.newarray .char, 2) := by decide +kernel
theorem d59_8 : own_D method_3_code 8 (.dup, 1) := by decide +kernel
theorem d59_9 : own_D method_3_code 9 (.iconst 0, 1) := by decide +kernel
theorem d59_10 : own_D method_3_code 10 (.iload_n 0, 1) := by decide +kernel
theorem d59_11 : own_D method_3_code 11 (.castore, 1) := by decide +kernel
theorem d59_12 : own_D method_3_code 12 (.dup, 1) := by decide +kernel
theorem d59_13 : own_D method_3_code 13 (.iconst 1, 1) := by decide +kernel
theorem d59_14 : own_D method_3_code 14 (.bipush 58, 2) := by decide +kernel
theorem d59_16 : own_D method_3_code 16 (.castore, 1) := by decide +kernel
theorem d59_17 : own_D method_3_code 17 (.dup, 1) := by decide +kernel
theorem d59_18 : own_D method_3_code 18 (.iconst 2, 1) := by decide +kernel
theorem d59_19 : own_D method_3_code 19 (.bipush 32, 2) := by decide +kernel
theorem d59_21 : own_D method_3_code 21 (.castore, 1) := by decide +kernel
theorem d59_22 : own_D method_3_code 22 (.dup, 1) := by decide +kernel
theorem d59_23 : own_D method_3_code 23 (.iconst 3, 1) := by decide +kernel
theorem d59_24 : own_D method_3_code 24 (.bipush 110, 2) := by decide +kernel
theorem d59_26 : own_D method_3_code 26 (.castore, 1) := by decide +kernel
theorem d59_27 : own_D method_3_code 27 (.dup, 1) := by decide +kernel
theorem d59_28 : own_D method_3_code 28 (.iconst 4, 1) := by decide +kernel
theorem d59_29 : own_D method_3_code 29 (.bipush 111, 2) := by decide +kernel
theorem d59_31 : own_D method_3_code 31 (.castore, 1) := by decide +kernel
theorem d59_32 : own_D method_3_code 32 (.dup, 1) := by decide +kernel
theorem d59_33 : own_D method_3_code 33 (.iconst 5, 1) := by decide +kernel
theorem d59_34 : own_D method_3_code 34 (.bipush 116, 2) := by decide +kernel
theorem d59_36 : own_D method_3_code 36 (.castore, 1) := by decide +kernel
theorem d59_37 : own_D method_3_code 37 (.dup, 1) := by decide +kernel
theorem d59_38 : own_D method_3_code 38 (.bipush 6, 2) := by decide +kernel
theorem d59_40 : own_D method_3_code 40 (.bipush 32, 2) := by decide +kernel
theorem d59_42 : own_D method_3_code 42 (.castore, 1) := by decide +kernel
theorem d59_43 : own_D method_3_code 43 (.dup, 1) := by decide +kernel
theorem d59_44 : own_D method_3_code 44 (.bipush 7, 2) := by decide +kernel
theorem d59_46 : own_D method_3_code 46 (.bipush 115, 2) := by decide +kernel
theorem d59_48 : own_D method_3_code 48 (.castore, 1) := by decide +kernel
theorem d59_49 : own_D method_3_code 49 (.dup, 1) := by decide +kernel
theorem d59_50 : own_D method_3_code 50 (.bipush 8, 2) := by decide +kernel
theorem d59_52 : own_D method_3_code 52 (.bipush 117, 2) := by decide +kernel
theorem d59_54 : own_D method_3_code 54 (.castore, 1) := by decide +kernel
theorem d59_55 : own_D method_3_code 55 (.dup, 1) := by decide +kernel
theorem d59_56 : own_D method_3_code 56 (.bipush 9, 2) := by decide +kernel
theorem d59_58 : own_D method_3_code 58 (.bipush 112, 2) := by decide +kernel
theorem d59_60 : own_D method_3_code 60 (.castore, 1) := by decide +kernel
theorem d59_61 : own_D method_3_code 61 (.dup, 1) := by decide +kernel
theorem d59_62 : own_D method_3_code 62 (.bipush 10, 2) := by decide +kernel
theorem d59_64 : own_D method_3_code 64 (.bipush 112, 2) := by decide +kernel
theorem d59_66 : own_D method_3_code 66 (.castore, 1) := by decide +kernel
theorem d59_67 : own_D method_3_code 67 (.dup, 1) := by decide +kernel
theorem d59_68 : own_D method_3_code 68 (.bipush 11, 2) := by decide +kernel
theorem d59_70 : own_D method_3_code 70 (.bipush 111, 2) := by decide +kernel
theorem d59_72 : own_D method_3_code 72 (.castore, 1) := by decide +kernel
theorem d59_73 : own_D method_3_code 73 (.dup, 1) := by decide +kernel
theorem d59_74 : own_D method_3_code 74 (.bipush 12, 2) := by decide +kernel
theorem d59_76 : own_D method_3_code 76 (.bipush 114, 2) := by decide +kernel
theorem d59_78 : own_D method_3_code 78 (.castore, 1) := by decide +kernel
theorem d59_79 : own_D method_3_code 79 (.dup, 1) := by decide +kernel
theorem d59_80 : own_D method_3_code 80 (.bipush 13, 2) := by decide +kernel
theorem d59_82 : own_D method_3_code 82 (.bipush 116, 2) := by decide +kernel
theorem d59_84 : own_D method_3_code 84 (.castore, 1) := by decide +kernel
theorem d59_85 : own_D method_3_code 85 (.dup, 1) := by decide +kernel
theorem d59_86 : own_D method_3_code 86 (.bipush 14, 2) := by decide +kernel
theorem d59_88 : own_D method_3_code 88 (.bipush 101, 2) := by decide +kernel
theorem d59_90 : own_D method_3_code 90 (.castore, 1) := by decide +kernel
theorem d59_91 : own_D method_3_code 91 (.dup, 1) := by decide +kernel
theorem d59_92 : own_D method_3_code 92 (.bipush 15, 2) := by decide +kernel
theorem d59_94 : own_D method_3_code 94 (.bipush 100, 2) := by decide +kernel
theorem d59_96 : own_D method_3_code 96 (.castore, 1) := by decide +kernel
theorem d59_97 : own_D method_3_code 97 (.dup, 1) := by decide +kernel
theorem d59_98 : own_D method_3_code 98 (.bipush 16, 2) := by decide +kernel
theorem d59_100 : own_D method_3_code 100 (.bipush 32, 2) := by decide +kernel
theorem d59_102 : own_D method_3_code 102 (.castore, 1) := by decide +kernel
theorem d59_103 : own_D method_3_code 103 (.dup, 1) := by decide +kernel
theorem d59_104 : own_D method_3_code 104 (.bipush 17, 2) := by decide +kernel
theorem d59_106 : own_D method_3_code 106 (.bipush 121, 2) := by decide +kernel
theorem d59_108 : own_D method_3_code 108 (.castore, 1) := by decide +kernel
theorem d59_109 : own_D method_3_code 109 (.dup, 1) := by decide +kernel
theorem d59_110 : own_D method_3_code 110 (.bipush 18, 2) := by decide +kernel
theorem d59_112 : own_D method_3_code 112 (.bipush 101, 2) := by decide +kernel
theorem d59_114 : own_D method_3_code 114 (.castore, 1) := by decide +kernel
theorem d59_115 : own_D method_3_code 115 (.dup, 1) := by decide +kernel
theorem d59_116 : own_D method_3_code 116 (.bipush 19, 2) := by decide +kernel
theorem d59_118 : own_D method_3_code 118 (.bipush 116, 2) := by decide +kernel
theorem d59_120 : own_D method_3_code 120 (.castore, 1) := by decide +kernel
theorem d59_121 : own_D method_3_code 121 (.invokespecial 9, 3) := by decide +kernel
theorem d59_124 : own_D method_3_code 124 (.areturn, 1) := by decide +kernel
def own_Q59 (Z : State) (p1 wc : Int32) (wD : Addr) (kD : ClassId) (h0 : Heap) (n0 : Nat) (v : Option Value) (h : Heap) (L : List Loc) : Prop := ∃ (sa ba : Addr) (kb : ClassId), v = some (.ref sa) ∧ Fr n0 L ∧ Keep h0 h [] ∧ h0.size ≤ sa ∧ h0.size ≤ ba ∧ sa ≠ ba ∧ Exa Z h sa "java/lang/String" ∧ Fld Z h sa "java/lang/String" "value" "[B" (.ref ba) ∧ Fld Z h sa "java/lang/String" "coder" "B" (.int 0) ∧ Arv Z h ba kb .byte (20 : Int32) ((own_td p1).map Value.int) (.int 0)
theorem own_rm59 (l Z a0) (hw : own_W a0 Z) (ws) (p1 wc : Int32) (wD : Addr) (kD : ClassId) (h0 : Heap) (n0 : Nat) (Z0 : n0 ≤ h0.size) (O0 : Old Z n0 h0) (SS : own_St Z wc wD kD) (ho1 : ¬ p1 < (0 : Int32) ∧ ¬ (255 : Int32) < p1) :
    own_M l Z ws mn_54 method_3_code 1 (some (.object "java/lang/String")) rm_42 #[(.int p1)] h0 (own_Q59 Z p1 wc wD kD h0 n0) := by
  refine own_body (plainFor_of_name pn_6) (fun m => own_ef8 m p1) ?_
  intro p e s m below meth c T0 X0 hx hby hml hZ hown hnm hret hlk e0
  have hown : s.vm.findClass "com/example/shaper/shaper/core/ConfigProblemsFirstPinLaw" = some m.cls := hown
  have hnm : meth.name = "catDefault" := hnm
  have N0 := Fr.nil n0
  have K0 : Keep h0 h0 [] := Keep.refl _ _
  obtain ⟨S_wc, hwc, S_wD, V_wD⟩ := id SS
  obtain ⟨T301, h301, X301, e301, E301, A301, D301, -, st301⟩ := newO X0 hx hZ hown (hw_262 hw) (hw_51 hw) (hw_43 hw) e0 (g := (mkF m 0 #[iv p1] [])) rfl (hb hby d59_0) (by decide) (by decide)
  obtain ⟨b301, g301⟩ : ∃ z, z = h0.size := ⟨_, rfl⟩
  rw [← g301] at A301 D301 st301
  have g_b301 : n0 ≤ b301 := Nat.le_trans Z0 (Nat.le_of_eq g301.symm)
  have sz_b301 : h0.size ≤ b301 := Nat.le_trans K0.1 (Nat.le_of_eq g301.symm)
  have Kp301 : Keep h0 h301 [] := K0.ext E301
  have Z301 : n0 ≤ h301.size := Nat.le_trans Z0 E301.1
  have O301 : Old Z n0 h301 := O0.ext E301
  have F_value_b301 : Fld Z h301 b301 "java/lang/String" "value" "[B" .null := D301 (Or.inr (hw_62 hw)) (ty := (.array .byte)) (by decide)
  have F_coder_b301 : Fld Z h301 b301 "java/lang/String" "coder" "B" (.int 0) := D301 (Or.inr (hw_64 hw)) (ty := .byte) (by decide)
  refine own_step (g' := (mkF m 3 #[iv p1] [(.ref b301)])) st301 ?_
  refine own_st _ (own_dup 4 X301 hx hby d59_3) ?_
  refine own_st _ (own_bipush 6 20 X301 hx hby d59_4) ?_
  obtain ⟨T302, h302, k302, X302, e302, E302, A302, st302⟩ := newP (aty := .char) X301 hx hZ (hw_263 hw) e301 (g := (mkF m 6 #[iv p1] [(.int 20), (.ref b301), (.ref b301)])) rfl (hb hby d59_6) rfl (by decide) (cap := 20) (by decide) (by decide) (by decide) (by decide)
  obtain ⟨b302, g302⟩ : ∃ z, z = h301.size := ⟨_, rfl⟩
  rw [← g302] at A302 st302
  have g_b302 : n0 ≤ b302 := Nat.le_trans Z301 (Nat.le_of_eq g302.symm)
  have ne_b301_b302 : b301 ≠ b302 := own_ne A301.lt g302
  have sz_b302 : h0.size ≤ b302 := Nat.le_trans Kp301.1 (Nat.le_of_eq g302.symm)
  have Kp302 : Keep h0 h302 [] := Kp301.ext E302
  have Z302 : n0 ≤ h302.size := Nat.le_trans Z301 E302.1
  have O302 : Old Z n0 h302 := O301.ext E302
  have u1 := A301.ext E302
  have u2 := F_value_b301.ext E302
  have u3 := F_coder_b301.ext E302
  have V302 : Arv Z h302 b302 k302 .char (20 : Int32) [(.int 0), (.int 0), (.int 0), (.int 0), (.int 0), (.int 0), (.int 0), (.int 0), (.int 0), (.int 0), (.int 0), (.int 0), (.int 0), (.int 0), (.int 0), (.int 0), (.int 0), (.int 0), (.int 0), (.int 0)] (.int 0) := (Arv.new A302 (by decide)).pad (pad_rep [] (.int 0) 20)
  refine own_step (g' := (mkF m 8 #[iv p1] [(.ref b302), (.ref b301), (.ref b301)])) st302 ?_
  refine own_st _ (own_dup 9 X302 hx hby d59_8) ?_
  refine own_st _ (own_iconst 10 0 X302 hx hby d59_9) ?_
  refine own_st _ (own_iloadN 11 X302 hx hby d59_10) ?_
  obtain ⟨cl303, Ar303, q303, S303, M303, H303, G303⟩ := id V302
  have hin303 : ¬ ((0 : Int32) < 0 ∨ cl303.slots.size ≤ ((0 : Int32)).toNatClampNeg) := inb_of S303 ⟨by decide, by decide⟩
  obtain ⟨T304, h304, X304, e304, W304, st304⟩ := stC X302 hx hZ e302 Ar303 (j := 0) hin303 (g := (mkF m 11 #[iv p1] [(.int p1), (.int 0), (.ref b302), (.ref b302), (.ref b301), (.ref b301)])) rfl rfl (hb hby d59_11)
  have u4 := u1.wr W304
  have u5 := u2.other W304 (Or.inl ne_b301_b302)
  have u6 := u3.other W304 (Or.inl ne_b301_b302)
  have V304 : Arv Z h304 b302 k302 .char (20 : Int32) [(.int (nar .char p1)), (.int 0), (.int 0), (.int 0), (.int 0), (.int 0), (.int 0), (.int 0), (.int 0), (.int 0), (.int 0), (.int 0), (.int 0), (.int 0), (.int 0), (.int 0), (.int 0), (.int 0), (.int 0), (.int 0)] (.int 0) := Arv.set Ar303 q303 S303 M303 H303 G303 (fits_nar_char _) W304 0 rfl (Nat.le_of_ble_eq_true rfl)
  have Z304 : n0 ≤ h304.size := Nat.le_trans Z302 (Keep.of_wr W304).1
  have Kp304 : Keep h0 h304 [] := Kp302.wr W304 (Or.inr sz_b302)
  have O304 : Old Z n0 h304 := O302.wr W304 g_b302
  have N304 := Fr.snoc X304 N0 g_b302
  refine own_step (g' := (mkF m 12 #[iv p1] [(.ref b302), (.ref b301), (.ref b301)])) st304 ?_
  refine own_st _ (own_dup 13 X304 hx hby d59_12) ?_
  refine own_st _ (own_iconst 14 1 X304 hx hby d59_13) ?_
  refine own_st _ (own_bipush 16 58 X304 hx hby d59_14) ?_
  obtain ⟨cl305, Ar305, q305, S305, M305, H305, G305⟩ := id V304
  have hin305 : ¬ ((1 : Int32) < 0 ∨ cl305.slots.size ≤ ((1 : Int32)).toNatClampNeg) := inb_of S305 ⟨by decide, by decide⟩
  obtain ⟨T306, h306, X306, e306, W306, st306⟩ := stC X304 hx hZ e304 Ar305 (j := 1) hin305 (g := (mkF m 16 #[iv p1] [(.int 58), (.int 1), (.ref b302), (.ref b302), (.ref b301), (.ref b301)])) rfl rfl (hb hby d59_16)
  have u7 := u4.wr W306
  have u8 := u5.other W306 (Or.inl ne_b301_b302)
  have u9 := u6.other W306 (Or.inl ne_b301_b302)
  have V306 : Arv Z h306 b302 k302 .char (20 : Int32) [(.int (nar .char p1)), (.int (nar .char 58)), (.int 0), (.int 0), (.int 0), (.int 0), (.int 0), (.int 0), (.int 0), (.int 0), (.int 0), (.int 0), (.int 0), (.int 0), (.int 0), (.int 0), (.int 0), (.int 0), (.int 0), (.int 0)] (.int 0) := Arv.set Ar305 q305 S305 M305 H305 G305 (fits_nar_char _) W306 1 rfl (Nat.le_of_ble_eq_true rfl)
  have Z306 : n0 ≤ h306.size := Nat.le_trans Z304 (Keep.of_wr W306).1
  have Kp306 : Keep h0 h306 [] := Kp304.wr W306 (Or.inr sz_b302)
  have O306 : Old Z n0 h306 := O304.wr W306 g_b302
  have N306 := Fr.snoc X306 N304 g_b302
  refine own_step (g' := (mkF m 17 #[iv p1] [(.ref b302), (.ref b301), (.ref b301)])) st306 ?_
  refine own_st _ (own_dup 18 X306 hx hby d59_17) ?_
  refine own_st _ (own_iconst 19 2 X306 hx hby d59_18) ?_
  refine own_st _ (own_bipush 21 32 X306 hx hby d59_19) ?_
  obtain ⟨cl307, Ar307, q307, S307, M307, H307, G307⟩ := id V306
  have hin307 : ¬ ((2 : Int32) < 0 ∨ cl307.slots.size ≤ ((2 : Int32)).toNatClampNeg) := inb_of S307 ⟨by decide, by decide⟩
  obtain ⟨T308, h308, X308, e308, W308, st308⟩ := stC X306 hx hZ e306 Ar307 (j := 2) hin307 (g := (mkF m 21 #[iv p1] [(.int 32), (.int 2), (.ref b302), (.ref b302), (.ref b301), (.ref b301)])) rfl rfl (hb hby d59_21)
  have u10 := u7.wr W308
  have u11 := u8.other W308 (Or.inl ne_b301_b302)
  have u12 := u9.other W308 (Or.inl ne_b301_b302)
  have V308 : Arv Z h308 b302 k302 .char (20 : Int32) [(.int (nar .char p1)), (.int (nar .char 58)), (.int (nar .char 32)), (.int 0), (.int 0), (.int 0), (.int 0), (.int 0), (.int 0), (.int 0), (.int 0), (.int 0), (.int 0), (.int 0), (.int 0), (.int 0), (.int 0), (.int 0), (.int 0), (.int 0)] (.int 0) := Arv.set Ar307 q307 S307 M307 H307 G307 (fits_nar_char _) W308 2 rfl (Nat.le_of_ble_eq_true rfl)
  have Z308 : n0 ≤ h308.size := Nat.le_trans Z306 (Keep.of_wr W308).1
  have Kp308 : Keep h0 h308 [] := Kp306.wr W308 (Or.inr sz_b302)
  have O308 : Old Z n0 h308 := O306.wr W308 g_b302
  have N308 := Fr.snoc X308 N306 g_b302
  refine own_step (g' := (mkF m 22 #[iv p1] [(.ref b302), (.ref b301), (.ref b301)])) st308 ?_
  refine own_st _ (own_dup 23 X308 hx hby d59_22) ?_
  refine own_st _ (own_iconst 24 3 X308 hx hby d59_23) ?_
  refine own_st _ (own_bipush 26 110 X308 hx hby d59_24) ?_
  obtain ⟨cl309, Ar309, q309, S309, M309, H309, G309⟩ := id V308
  have hin309 : ¬ ((3 : Int32) < 0 ∨ cl309.slots.size ≤ ((3 : Int32)).toNatClampNeg) := inb_of S309 ⟨by decide, by decide⟩
  obtain ⟨T310, h310, X310, e310, W310, st310⟩ := stC X308 hx hZ e308 Ar309 (j := 3) hin309 (g := (mkF m 26 #[iv p1] [(.int 110), (.int 3), (.ref b302), (.ref b302), (.ref b301), (.ref b301)])) rfl rfl (hb hby d59_26)
  have u13 := u10.wr W310
  have u14 := u11.other W310 (Or.inl ne_b301_b302)
  have u15 := u12.other W310 (Or.inl ne_b301_b302)
  have V310 : Arv Z h310 b302 k302 .char (20 : Int32) [(.int (nar .char p1)), (.int (nar .char 58)), (.int (nar .char 32)), (.int (nar .char 110)), (.int 0), (.int 0), (.int 0), (.int 0), (.int 0), (.int 0), (.int 0), (.int 0), (.int 0), (.int 0), (.int 0), (.int 0), (.int 0), (.int 0), (.int 0), (.int 0)] (.int 0) := Arv.set Ar309 q309 S309 M309 H309 G309 (fits_nar_char _) W310 3 rfl (Nat.le_of_ble_eq_true rfl)
  have Z310 : n0 ≤ h310.size := Nat.le_trans Z308 (Keep.of_wr W310).1
  have Kp310 : Keep h0 h310 [] := Kp308.wr W310 (Or.inr sz_b302)
  have O310 : Old Z n0 h310 := O308.wr W310 g_b302
  have N310 := Fr.snoc X310 N308 g_b302
  refine own_step (g' := (mkF m 27 #[iv p1] [(.ref b302), (.ref b301), (.ref b301)])) st310 ?_
  refine own_st _ (own_dup 28 X310 hx hby d59_27) ?_
  refine own_st _ (own_iconst 29 4 X310 hx hby d59_28) ?_
  refine own_st _ (own_bipush 31 111 X310 hx hby d59_29) ?_
  obtain ⟨cl311, Ar311, q311, S311, M311, H311, G311⟩ := id V310
  have hin311 : ¬ ((4 : Int32) < 0 ∨ cl311.slots.size ≤ ((4 : Int32)).toNatClampNeg) := inb_of S311 ⟨by decide, by decide⟩
  obtain ⟨T312, h312, X312, e312, W312, st312⟩ := stC X310 hx hZ e310 Ar311 (j := 4) hin311 (g := (mkF m 31 #[iv p1] [(.int 111), (.int 4), (.ref b302), (.ref b302), (.ref b301), (.ref b301)])) rfl rfl (hb hby d59_31)
  have u16 := u13.wr W312
  have u17 := u14.other W312 (Or.inl ne_b301_b302)
  have u18 := u15.other W312 (Or.inl ne_b301_b302)
  have V312 : Arv Z h312 b302 k302 .char (20 : Int32) [(.int (nar .char p1)), (.int (nar .char 58)), (.int (nar .char 32)), (.int (nar .char 110)), (.int (nar .char 111)), (.int 0), (.int 0), (.int 0), (.int 0), (.int 0), (.int 0), (.int 0), (.int 0), (.int 0), (.int 0), (.int 0), (.int 0), (.int 0), (.int 0), (.int 0)] (.int 0) := Arv.set Ar311 q311 S311 M311 H311 G311 (fits_nar_char _) W312 4 rfl (Nat.le_of_ble_eq_true rfl)
  have Z312 : n0 ≤ h312.size := Nat.le_trans Z310 (Keep.of_wr W312).1
  have Kp312 : Keep h0 h312 [] := Kp310.wr W312 (Or.inr sz_b302)
  have O312 : Old Z n0 h312 := O310.wr W312 g_b302
  have N312 := Fr.snoc X312 N310 g_b302
  refine own_step (g' := (mkF m 32 #[iv p1] [(.ref b302), (.ref b301), (.ref b301)])) st312 ?_
  refine own_st _ (own_dup 33 X312 hx hby d59_32) ?_
  refine own_st _ (own_iconst 34 5 X312 hx hby d59_33) ?_
  refine own_st _ (own_bipush 36 116 X312 hx hby d59_34) ?_
  obtain ⟨cl313, Ar313, q313, S313, M313, H313, G313⟩ := id V312
  have hin313 : ¬ ((5 : Int32) < 0 ∨ cl313.slots.size ≤ ((5 : Int32)).toNatClampNeg) := inb_of S313 ⟨by decide, by decide⟩
  obtain ⟨T314, h314, X314, e314, W314, st314⟩ := stC X312 hx hZ e312 Ar313 (j := 5) hin313 (g := (mkF m 36 #[iv p1] [(.int 116), (.int 5), (.ref b302), (.ref b302), (.ref b301), (.ref b301)])) rfl rfl (hb hby d59_36)
  have u19 := u16.wr W314
  have u20 := u17.other W314 (Or.inl ne_b301_b302)
  have u21 := u18.other W314 (Or.inl ne_b301_b302)
  have V314 : Arv Z h314 b302 k302 .char (20 : Int32) [(.int (nar .char p1)), (.int (nar .char 58)), (.int (nar .char 32)), (.int (nar .char 110)), (.int (nar .char 111)), (.int (nar .char 116)), (.int 0), (.int 0), (.int 0), (.int 0), (.int 0), (.int 0), (.int 0), (.int 0), (.int 0), (.int 0), (.int 0), (.int 0), (.int 0), (.int 0)] (.int 0) := Arv.set Ar313 q313 S313 M313 H313 G313 (fits_nar_char _) W314 5 rfl (Nat.le_of_ble_eq_true rfl)
  have Z314 : n0 ≤ h314.size := Nat.le_trans Z312 (Keep.of_wr W314).1
  have Kp314 : Keep h0 h314 [] := Kp312.wr W314 (Or.inr sz_b302)
  have O314 : Old Z n0 h314 := O312.wr W314 g_b302
  have N314 := Fr.snoc X314 N312 g_b302
  refine own_step (g' := (mkF m 37 #[iv p1] [(.ref b302), (.ref b301), (.ref b301)])) st314 ?_
  refine own_st _ (own_dup 38 X314 hx hby d59_37) ?_
  refine own_st _ (own_bipush 40 6 X314 hx hby d59_38) ?_
  refine own_st _ (own_bipush 42 32 X314 hx hby d59_40) ?_
  obtain ⟨cl315, Ar315, q315, S315, M315, H315, G315⟩ := id V314
  have hin315 : ¬ ((6 : Int32) < 0 ∨ cl315.slots.size ≤ ((6 : Int32)).toNatClampNeg) := inb_of S315 ⟨by decide, by decide⟩
  obtain ⟨T316, h316, X316, e316, W316, st316⟩ := stC X314 hx hZ e314 Ar315 (j := 6) hin315 (g := (mkF m 42 #[iv p1] [(.int 32), (.int 6), (.ref b302), (.ref b302), (.ref b301), (.ref b301)])) rfl rfl (hb hby d59_42)
  have u22 := u19.wr W316
  have u23 := u20.other W316 (Or.inl ne_b301_b302)
  have u24 := u21.other W316 (Or.inl ne_b301_b302)
  have V316 : Arv Z h316 b302 k302 .char (20 : Int32) [(.int (nar .char p1)), (.int (nar .char 58)), (.int (nar .char 32)), (.int (nar .char 110)), (.int (nar .char 111)), (.int (nar .char 116)), (.int (nar .char 32)), (.int 0), (.int 0), (.int 0), (.int 0), (.int 0), (.int 0), (.int 0), (.int 0), (.int 0), (.int 0), (.int 0), (.int 0), (.int 0)] (.int 0) := Arv.set Ar315 q315 S315 M315 H315 G315 (fits_nar_char _) W316 6 rfl (Nat.le_of_ble_eq_true rfl)
  have Z316 : n0 ≤ h316.size := Nat.le_trans Z314 (Keep.of_wr W316).1
  have Kp316 : Keep h0 h316 [] := Kp314.wr W316 (Or.inr sz_b302)
  have O316 : Old Z n0 h316 := O314.wr W316 g_b302
  have N316 := Fr.snoc X316 N314 g_b302
  refine own_step (g' := (mkF m 43 #[iv p1] [(.ref b302), (.ref b301), (.ref b301)])) st316 ?_
  refine own_st _ (own_dup 44 X316 hx hby d59_43) ?_
  refine own_st _ (own_bipush 46 7 X316 hx hby d59_44) ?_
  refine own_st _ (own_bipush 48 115 X316 hx hby d59_46) ?_
  obtain ⟨cl317, Ar317, q317, S317, M317, H317, G317⟩ := id V316
  have hin317 : ¬ ((7 : Int32) < 0 ∨ cl317.slots.size ≤ ((7 : Int32)).toNatClampNeg) := inb_of S317 ⟨by decide, by decide⟩
  obtain ⟨T318, h318, X318, e318, W318, st318⟩ := stC X316 hx hZ e316 Ar317 (j := 7) hin317 (g := (mkF m 48 #[iv p1] [(.int 115), (.int 7), (.ref b302), (.ref b302), (.ref b301), (.ref b301)])) rfl rfl (hb hby d59_48)
  have u25 := u22.wr W318
  have u26 := u23.other W318 (Or.inl ne_b301_b302)
  have u27 := u24.other W318 (Or.inl ne_b301_b302)
  have V318 : Arv Z h318 b302 k302 .char (20 : Int32) [(.int (nar .char p1)), (.int (nar .char 58)), (.int (nar .char 32)), (.int (nar .char 110)), (.int (nar .char 111)), (.int (nar .char 116)), (.int (nar .char 32)), (.int (nar .char 115)), (.int 0), (.int 0), (.int 0), (.int 0), (.int 0), (.int 0), (.int 0), (.int 0), (.int 0), (.int 0), (.int 0), (.int 0)] (.int 0) := Arv.set Ar317 q317 S317 M317 H317 G317 (fits_nar_char _) W318 7 rfl (Nat.le_of_ble_eq_true rfl)
  have Z318 : n0 ≤ h318.size := Nat.le_trans Z316 (Keep.of_wr W318).1
  have Kp318 : Keep h0 h318 [] := Kp316.wr W318 (Or.inr sz_b302)
  have O318 : Old Z n0 h318 := O316.wr W318 g_b302
  have N318 := Fr.snoc X318 N316 g_b302
  refine own_step (g' := (mkF m 49 #[iv p1] [(.ref b302), (.ref b301), (.ref b301)])) st318 ?_
  refine own_st _ (own_dup 50 X318 hx hby d59_49) ?_
  refine own_st _ (own_bipush 52 8 X318 hx hby d59_50) ?_
  refine own_st _ (own_bipush 54 117 X318 hx hby d59_52) ?_
  obtain ⟨cl319, Ar319, q319, S319, M319, H319, G319⟩ := id V318
  have hin319 : ¬ ((8 : Int32) < 0 ∨ cl319.slots.size ≤ ((8 : Int32)).toNatClampNeg) := inb_of S319 ⟨by decide, by decide⟩
  obtain ⟨T320, h320, X320, e320, W320, st320⟩ := stC X318 hx hZ e318 Ar319 (j := 8) hin319 (g := (mkF m 54 #[iv p1] [(.int 117), (.int 8), (.ref b302), (.ref b302), (.ref b301), (.ref b301)])) rfl rfl (hb hby d59_54)
  have u28 := u25.wr W320
  have u29 := u26.other W320 (Or.inl ne_b301_b302)
  have u30 := u27.other W320 (Or.inl ne_b301_b302)
  have V320 : Arv Z h320 b302 k302 .char (20 : Int32) [(.int (nar .char p1)), (.int (nar .char 58)), (.int (nar .char 32)), (.int (nar .char 110)), (.int (nar .char 111)), (.int (nar .char 116)), (.int (nar .char 32)), (.int (nar .char 115)), (.int (nar .char 117)), (.int 0), (.int 0), (.int 0), (.int 0), (.int 0), (.int 0), (.int 0), (.int 0), (.int 0), (.int 0), (.int 0)] (.int 0) := Arv.set Ar319 q319 S319 M319 H319 G319 (fits_nar_char _) W320 8 rfl (Nat.le_of_ble_eq_true rfl)
  have Z320 : n0 ≤ h320.size := Nat.le_trans Z318 (Keep.of_wr W320).1
  have Kp320 : Keep h0 h320 [] := Kp318.wr W320 (Or.inr sz_b302)
  have O320 : Old Z n0 h320 := O318.wr W320 g_b302
  have N320 := Fr.snoc X320 N318 g_b302
  refine own_step (g' := (mkF m 55 #[iv p1] [(.ref b302), (.ref b301), (.ref b301)])) st320 ?_
  refine own_st _ (own_dup 56 X320 hx hby d59_55) ?_
  refine own_st _ (own_bipush 58 9 X320 hx hby d59_56) ?_
  refine own_st _ (own_bipush 60 112 X320 hx hby d59_58) ?_
  obtain ⟨cl321, Ar321, q321, S321, M321, H321, G321⟩ := id V320
  have hin321 : ¬ ((9 : Int32) < 0 ∨ cl321.slots.size ≤ ((9 : Int32)).toNatClampNeg) := inb_of S321 ⟨by decide, by decide⟩
  obtain ⟨T322, h322, X322, e322, W322, st322⟩ := stC X320 hx hZ e320 Ar321 (j := 9) hin321 (g := (mkF m 60 #[iv p1] [(.int 112), (.int 9), (.ref b302), (.ref b302), (.ref b301), (.ref b301)])) rfl rfl (hb hby d59_60)
  have u31 := u28.wr W322
  have u32 := u29.other W322 (Or.inl ne_b301_b302)
  have u33 := u30.other W322 (Or.inl ne_b301_b302)
  have V322 : Arv Z h322 b302 k302 .char (20 : Int32) [(.int (nar .char p1)), (.int (nar .char 58)), (.int (nar .char 32)), (.int (nar .char 110)), (.int (nar .char 111)), (.int (nar .char 116)), (.int (nar .char 32)), (.int (nar .char 115)), (.int (nar .char 117)), (.int (nar .char 112)), (.int 0), (.int 0), (.int 0), (.int 0), (.int 0), (.int 0), (.int 0), (.int 0), (.int 0), (.int 0)] (.int 0) := Arv.set Ar321 q321 S321 M321 H321 G321 (fits_nar_char _) W322 9 rfl (Nat.le_of_ble_eq_true rfl)
  have Z322 : n0 ≤ h322.size := Nat.le_trans Z320 (Keep.of_wr W322).1
  have Kp322 : Keep h0 h322 [] := Kp320.wr W322 (Or.inr sz_b302)
  have O322 : Old Z n0 h322 := O320.wr W322 g_b302
  have N322 := Fr.snoc X322 N320 g_b302
  refine own_step (g' := (mkF m 61 #[iv p1] [(.ref b302), (.ref b301), (.ref b301)])) st322 ?_
  refine own_st _ (own_dup 62 X322 hx hby d59_61) ?_
  refine own_st _ (own_bipush 64 10 X322 hx hby d59_62) ?_
  refine own_st _ (own_bipush 66 112 X322 hx hby d59_64) ?_
  obtain ⟨cl323, Ar323, q323, S323, M323, H323, G323⟩ := id V322
  have hin323 : ¬ ((10 : Int32) < 0 ∨ cl323.slots.size ≤ ((10 : Int32)).toNatClampNeg) := inb_of S323 ⟨by decide, by decide⟩
  obtain ⟨T324, h324, X324, e324, W324, st324⟩ := stC X322 hx hZ e322 Ar323 (j := 10) hin323 (g := (mkF m 66 #[iv p1] [(.int 112), (.int 10), (.ref b302), (.ref b302), (.ref b301), (.ref b301)])) rfl rfl (hb hby d59_66)
  have u34 := u31.wr W324
  have u35 := u32.other W324 (Or.inl ne_b301_b302)
  have u36 := u33.other W324 (Or.inl ne_b301_b302)
  have V324 : Arv Z h324 b302 k302 .char (20 : Int32) [(.int (nar .char p1)), (.int (nar .char 58)), (.int (nar .char 32)), (.int (nar .char 110)), (.int (nar .char 111)), (.int (nar .char 116)), (.int (nar .char 32)), (.int (nar .char 115)), (.int (nar .char 117)), (.int (nar .char 112)), (.int (nar .char 112)), (.int 0), (.int 0), (.int 0), (.int 0), (.int 0), (.int 0), (.int 0), (.int 0), (.int 0)] (.int 0) := Arv.set Ar323 q323 S323 M323 H323 G323 (fits_nar_char _) W324 10 rfl (Nat.le_of_ble_eq_true rfl)
  have Z324 : n0 ≤ h324.size := Nat.le_trans Z322 (Keep.of_wr W324).1
  have Kp324 : Keep h0 h324 [] := Kp322.wr W324 (Or.inr sz_b302)
  have O324 : Old Z n0 h324 := O322.wr W324 g_b302
  have N324 := Fr.snoc X324 N322 g_b302
  refine own_step (g' := (mkF m 67 #[iv p1] [(.ref b302), (.ref b301), (.ref b301)])) st324 ?_
  refine own_st _ (own_dup 68 X324 hx hby d59_67) ?_
  refine own_st _ (own_bipush 70 11 X324 hx hby d59_68) ?_
  refine own_st _ (own_bipush 72 111 X324 hx hby d59_70) ?_
  obtain ⟨cl325, Ar325, q325, S325, M325, H325, G325⟩ := id V324
  have hin325 : ¬ ((11 : Int32) < 0 ∨ cl325.slots.size ≤ ((11 : Int32)).toNatClampNeg) := inb_of S325 ⟨by decide, by decide⟩
  obtain ⟨T326, h326, X326, e326, W326, st326⟩ := stC X324 hx hZ e324 Ar325 (j := 11) hin325 (g := (mkF m 72 #[iv p1] [(.int 111), (.int 11), (.ref b302), (.ref b302), (.ref b301), (.ref b301)])) rfl rfl (hb hby d59_72)
  have u37 := u34.wr W326
  have u38 := u35.other W326 (Or.inl ne_b301_b302)
  have u39 := u36.other W326 (Or.inl ne_b301_b302)
  have V326 : Arv Z h326 b302 k302 .char (20 : Int32) [(.int (nar .char p1)), (.int (nar .char 58)), (.int (nar .char 32)), (.int (nar .char 110)), (.int (nar .char 111)), (.int (nar .char 116)), (.int (nar .char 32)), (.int (nar .char 115)), (.int (nar .char 117)), (.int (nar .char 112)), (.int (nar .char 112)), (.int (nar .char 111)), (.int 0), (.int 0), (.int 0), (.int 0), (.int 0), (.int 0), (.int 0), (.int 0)] (.int 0) := Arv.set Ar325 q325 S325 M325 H325 G325 (fits_nar_char _) W326 11 rfl (Nat.le_of_ble_eq_true rfl)
  have Z326 : n0 ≤ h326.size := Nat.le_trans Z324 (Keep.of_wr W326).1
  have Kp326 : Keep h0 h326 [] := Kp324.wr W326 (Or.inr sz_b302)
  have O326 : Old Z n0 h326 := O324.wr W326 g_b302
  have N326 := Fr.snoc X326 N324 g_b302
  refine own_step (g' := (mkF m 73 #[iv p1] [(.ref b302), (.ref b301), (.ref b301)])) st326 ?_
  refine own_st _ (own_dup 74 X326 hx hby d59_73) ?_
  refine own_st _ (own_bipush 76 12 X326 hx hby d59_74) ?_
  refine own_st _ (own_bipush 78 114 X326 hx hby d59_76) ?_
  obtain ⟨cl327, Ar327, q327, S327, M327, H327, G327⟩ := id V326
  have hin327 : ¬ ((12 : Int32) < 0 ∨ cl327.slots.size ≤ ((12 : Int32)).toNatClampNeg) := inb_of S327 ⟨by decide, by decide⟩
  obtain ⟨T328, h328, X328, e328, W328, st328⟩ := stC X326 hx hZ e326 Ar327 (j := 12) hin327 (g := (mkF m 78 #[iv p1] [(.int 114), (.int 12), (.ref b302), (.ref b302), (.ref b301), (.ref b301)])) rfl rfl (hb hby d59_78)
  have u40 := u37.wr W328
  have u41 := u38.other W328 (Or.inl ne_b301_b302)
  have u42 := u39.other W328 (Or.inl ne_b301_b302)
  have V328 : Arv Z h328 b302 k302 .char (20 : Int32) [(.int (nar .char p1)), (.int (nar .char 58)), (.int (nar .char 32)), (.int (nar .char 110)), (.int (nar .char 111)), (.int (nar .char 116)), (.int (nar .char 32)), (.int (nar .char 115)), (.int (nar .char 117)), (.int (nar .char 112)), (.int (nar .char 112)), (.int (nar .char 111)), (.int (nar .char 114)), (.int 0), (.int 0), (.int 0), (.int 0), (.int 0), (.int 0), (.int 0)] (.int 0) := Arv.set Ar327 q327 S327 M327 H327 G327 (fits_nar_char _) W328 12 rfl (Nat.le_of_ble_eq_true rfl)
  have Z328 : n0 ≤ h328.size := Nat.le_trans Z326 (Keep.of_wr W328).1
  have Kp328 : Keep h0 h328 [] := Kp326.wr W328 (Or.inr sz_b302)
  have O328 : Old Z n0 h328 := O326.wr W328 g_b302
  have N328 := Fr.snoc X328 N326 g_b302
  refine own_step (g' := (mkF m 79 #[iv p1] [(.ref b302), (.ref b301), (.ref b301)])) st328 ?_
  refine own_st _ (own_dup 80 X328 hx hby d59_79) ?_
  refine own_st _ (own_bipush 82 13 X328 hx hby d59_80) ?_
  refine own_st _ (own_bipush 84 116 X328 hx hby d59_82) ?_
  obtain ⟨cl329, Ar329, q329, S329, M329, H329, G329⟩ := id V328
  have hin329 : ¬ ((13 : Int32) < 0 ∨ cl329.slots.size ≤ ((13 : Int32)).toNatClampNeg) := inb_of S329 ⟨by decide, by decide⟩
  obtain ⟨T330, h330, X330, e330, W330, st330⟩ := stC X328 hx hZ e328 Ar329 (j := 13) hin329 (g := (mkF m 84 #[iv p1] [(.int 116), (.int 13), (.ref b302), (.ref b302), (.ref b301), (.ref b301)])) rfl rfl (hb hby d59_84)
  have u43 := u40.wr W330
  have u44 := u41.other W330 (Or.inl ne_b301_b302)
  have u45 := u42.other W330 (Or.inl ne_b301_b302)
  have V330 : Arv Z h330 b302 k302 .char (20 : Int32) [(.int (nar .char p1)), (.int (nar .char 58)), (.int (nar .char 32)), (.int (nar .char 110)), (.int (nar .char 111)), (.int (nar .char 116)), (.int (nar .char 32)), (.int (nar .char 115)), (.int (nar .char 117)), (.int (nar .char 112)), (.int (nar .char 112)), (.int (nar .char 111)), (.int (nar .char 114)), (.int (nar .char 116)), (.int 0), (.int 0), (.int 0), (.int 0), (.int 0), (.int 0)] (.int 0) := Arv.set Ar329 q329 S329 M329 H329 G329 (fits_nar_char _) W330 13 rfl (Nat.le_of_ble_eq_true rfl)
  have Z330 : n0 ≤ h330.size := Nat.le_trans Z328 (Keep.of_wr W330).1
  have Kp330 : Keep h0 h330 [] := Kp328.wr W330 (Or.inr sz_b302)
  have O330 : Old Z n0 h330 := O328.wr W330 g_b302
  have N330 := Fr.snoc X330 N328 g_b302
  refine own_step (g' := (mkF m 85 #[iv p1] [(.ref b302), (.ref b301), (.ref b301)])) st330 ?_
  refine own_st _ (own_dup 86 X330 hx hby d59_85) ?_
  refine own_st _ (own_bipush 88 14 X330 hx hby d59_86) ?_
  refine own_st _ (own_bipush 90 101 X330 hx hby d59_88) ?_
  obtain ⟨cl331, Ar331, q331, S331, M331, H331, G331⟩ := id V330
  have hin331 : ¬ ((14 : Int32) < 0 ∨ cl331.slots.size ≤ ((14 : Int32)).toNatClampNeg) := inb_of S331 ⟨by decide, by decide⟩
  obtain ⟨T332, h332, X332, e332, W332, st332⟩ := stC X330 hx hZ e330 Ar331 (j := 14) hin331 (g := (mkF m 90 #[iv p1] [(.int 101), (.int 14), (.ref b302), (.ref b302), (.ref b301), (.ref b301)])) rfl rfl (hb hby d59_90)
  have u46 := u43.wr W332
  have u47 := u44.other W332 (Or.inl ne_b301_b302)
  have u48 := u45.other W332 (Or.inl ne_b301_b302)
  have V332 : Arv Z h332 b302 k302 .char (20 : Int32) [(.int (nar .char p1)), (.int (nar .char 58)), (.int (nar .char 32)), (.int (nar .char 110)), (.int (nar .char 111)), (.int (nar .char 116)), (.int (nar .char 32)), (.int (nar .char 115)), (.int (nar .char 117)), (.int (nar .char 112)), (.int (nar .char 112)), (.int (nar .char 111)), (.int (nar .char 114)), (.int (nar .char 116)), (.int (nar .char 101)), (.int 0), (.int 0), (.int 0), (.int 0), (.int 0)] (.int 0) := Arv.set Ar331 q331 S331 M331 H331 G331 (fits_nar_char _) W332 14 rfl (Nat.le_of_ble_eq_true rfl)
  have Z332 : n0 ≤ h332.size := Nat.le_trans Z330 (Keep.of_wr W332).1
  have Kp332 : Keep h0 h332 [] := Kp330.wr W332 (Or.inr sz_b302)
  have O332 : Old Z n0 h332 := O330.wr W332 g_b302
  have N332 := Fr.snoc X332 N330 g_b302
  refine own_step (g' := (mkF m 91 #[iv p1] [(.ref b302), (.ref b301), (.ref b301)])) st332 ?_
  refine own_st _ (own_dup 92 X332 hx hby d59_91) ?_
  refine own_st _ (own_bipush 94 15 X332 hx hby d59_92) ?_
  refine own_st _ (own_bipush 96 100 X332 hx hby d59_94) ?_
  obtain ⟨cl333, Ar333, q333, S333, M333, H333, G333⟩ := id V332
  have hin333 : ¬ ((15 : Int32) < 0 ∨ cl333.slots.size ≤ ((15 : Int32)).toNatClampNeg) := inb_of S333 ⟨by decide, by decide⟩
  obtain ⟨T334, h334, X334, e334, W334, st334⟩ := stC X332 hx hZ e332 Ar333 (j := 15) hin333 (g := (mkF m 96 #[iv p1] [(.int 100), (.int 15), (.ref b302), (.ref b302), (.ref b301), (.ref b301)])) rfl rfl (hb hby d59_96)
  have u49 := u46.wr W334
  have u50 := u47.other W334 (Or.inl ne_b301_b302)
  have u51 := u48.other W334 (Or.inl ne_b301_b302)
  have V334 : Arv Z h334 b302 k302 .char (20 : Int32) [(.int (nar .char p1)), (.int (nar .char 58)), (.int (nar .char 32)), (.int (nar .char 110)), (.int (nar .char 111)), (.int (nar .char 116)), (.int (nar .char 32)), (.int (nar .char 115)), (.int (nar .char 117)), (.int (nar .char 112)), (.int (nar .char 112)), (.int (nar .char 111)), (.int (nar .char 114)), (.int (nar .char 116)), (.int (nar .char 101)), (.int (nar .char 100)), (.int 0), (.int 0), (.int 0), (.int 0)] (.int 0) := Arv.set Ar333 q333 S333 M333 H333 G333 (fits_nar_char _) W334 15 rfl (Nat.le_of_ble_eq_true rfl)
  have Z334 : n0 ≤ h334.size := Nat.le_trans Z332 (Keep.of_wr W334).1
  have Kp334 : Keep h0 h334 [] := Kp332.wr W334 (Or.inr sz_b302)
  have O334 : Old Z n0 h334 := O332.wr W334 g_b302
  have N334 := Fr.snoc X334 N332 g_b302
  refine own_step (g' := (mkF m 97 #[iv p1] [(.ref b302), (.ref b301), (.ref b301)])) st334 ?_
  refine own_st _ (own_dup 98 X334 hx hby d59_97) ?_
  refine own_st _ (own_bipush 100 16 X334 hx hby d59_98) ?_
  refine own_st _ (own_bipush 102 32 X334 hx hby d59_100) ?_
  obtain ⟨cl335, Ar335, q335, S335, M335, H335, G335⟩ := id V334
  have hin335 : ¬ ((16 : Int32) < 0 ∨ cl335.slots.size ≤ ((16 : Int32)).toNatClampNeg) := inb_of S335 ⟨by decide, by decide⟩
  obtain ⟨T336, h336, X336, e336, W336, st336⟩ := stC X334 hx hZ e334 Ar335 (j := 16) hin335 (g := (mkF m 102 #[iv p1] [(.int 32), (.int 16), (.ref b302), (.ref b302), (.ref b301), (.ref b301)])) rfl rfl (hb hby d59_102)
  have u52 := u49.wr W336
  have u53 := u50.other W336 (Or.inl ne_b301_b302)
  have u54 := u51.other W336 (Or.inl ne_b301_b302)
  have V336 : Arv Z h336 b302 k302 .char (20 : Int32) [(.int (nar .char p1)), (.int (nar .char 58)), (.int (nar .char 32)), (.int (nar .char 110)), (.int (nar .char 111)), (.int (nar .char 116)), (.int (nar .char 32)), (.int (nar .char 115)), (.int (nar .char 117)), (.int (nar .char 112)), (.int (nar .char 112)), (.int (nar .char 111)), (.int (nar .char 114)), (.int (nar .char 116)), (.int (nar .char 101)), (.int (nar .char 100)), (.int (nar .char 32)), (.int 0), (.int 0), (.int 0)] (.int 0) := Arv.set Ar335 q335 S335 M335 H335 G335 (fits_nar_char _) W336 16 rfl (Nat.le_of_ble_eq_true rfl)
  have Z336 : n0 ≤ h336.size := Nat.le_trans Z334 (Keep.of_wr W336).1
  have Kp336 : Keep h0 h336 [] := Kp334.wr W336 (Or.inr sz_b302)
  have O336 : Old Z n0 h336 := O334.wr W336 g_b302
  have N336 := Fr.snoc X336 N334 g_b302
  refine own_step (g' := (mkF m 103 #[iv p1] [(.ref b302), (.ref b301), (.ref b301)])) st336 ?_
  refine own_st _ (own_dup 104 X336 hx hby d59_103) ?_
  refine own_st _ (own_bipush 106 17 X336 hx hby d59_104) ?_
  refine own_st _ (own_bipush 108 121 X336 hx hby d59_106) ?_
  obtain ⟨cl337, Ar337, q337, S337, M337, H337, G337⟩ := id V336
  have hin337 : ¬ ((17 : Int32) < 0 ∨ cl337.slots.size ≤ ((17 : Int32)).toNatClampNeg) := inb_of S337 ⟨by decide, by decide⟩
  obtain ⟨T338, h338, X338, e338, W338, st338⟩ := stC X336 hx hZ e336 Ar337 (j := 17) hin337 (g := (mkF m 108 #[iv p1] [(.int 121), (.int 17), (.ref b302), (.ref b302), (.ref b301), (.ref b301)])) rfl rfl (hb hby d59_108)
  have u55 := u52.wr W338
  have u56 := u53.other W338 (Or.inl ne_b301_b302)
  have u57 := u54.other W338 (Or.inl ne_b301_b302)
  have V338 : Arv Z h338 b302 k302 .char (20 : Int32) [(.int (nar .char p1)), (.int (nar .char 58)), (.int (nar .char 32)), (.int (nar .char 110)), (.int (nar .char 111)), (.int (nar .char 116)), (.int (nar .char 32)), (.int (nar .char 115)), (.int (nar .char 117)), (.int (nar .char 112)), (.int (nar .char 112)), (.int (nar .char 111)), (.int (nar .char 114)), (.int (nar .char 116)), (.int (nar .char 101)), (.int (nar .char 100)), (.int (nar .char 32)), (.int (nar .char 121)), (.int 0), (.int 0)] (.int 0) := Arv.set Ar337 q337 S337 M337 H337 G337 (fits_nar_char _) W338 17 rfl (Nat.le_of_ble_eq_true rfl)
  have Z338 : n0 ≤ h338.size := Nat.le_trans Z336 (Keep.of_wr W338).1
  have Kp338 : Keep h0 h338 [] := Kp336.wr W338 (Or.inr sz_b302)
  have O338 : Old Z n0 h338 := O336.wr W338 g_b302
  have N338 := Fr.snoc X338 N336 g_b302
  refine own_step (g' := (mkF m 109 #[iv p1] [(.ref b302), (.ref b301), (.ref b301)])) st338 ?_
  refine own_st _ (own_dup 110 X338 hx hby d59_109) ?_
  refine own_st _ (own_bipush 112 18 X338 hx hby d59_110) ?_
  refine own_st _ (own_bipush 114 101 X338 hx hby d59_112) ?_
  obtain ⟨cl339, Ar339, q339, S339, M339, H339, G339⟩ := id V338
  have hin339 : ¬ ((18 : Int32) < 0 ∨ cl339.slots.size ≤ ((18 : Int32)).toNatClampNeg) := inb_of S339 ⟨by decide, by decide⟩
  obtain ⟨T340, h340, X340, e340, W340, st340⟩ := stC X338 hx hZ e338 Ar339 (j := 18) hin339 (g := (mkF m 114 #[iv p1] [(.int 101), (.int 18), (.ref b302), (.ref b302), (.ref b301), (.ref b301)])) rfl rfl (hb hby d59_114)
  have u58 := u55.wr W340
  have u59 := u56.other W340 (Or.inl ne_b301_b302)
  have u60 := u57.other W340 (Or.inl ne_b301_b302)
  have V340 : Arv Z h340 b302 k302 .char (20 : Int32) [(.int (nar .char p1)), (.int (nar .char 58)), (.int (nar .char 32)), (.int (nar .char 110)), (.int (nar .char 111)), (.int (nar .char 116)), (.int (nar .char 32)), (.int (nar .char 115)), (.int (nar .char 117)), (.int (nar .char 112)), (.int (nar .char 112)), (.int (nar .char 111)), (.int (nar .char 114)), (.int (nar .char 116)), (.int (nar .char 101)), (.int (nar .char 100)), (.int (nar .char 32)), (.int (nar .char 121)), (.int (nar .char 101)), (.int 0)] (.int 0) := Arv.set Ar339 q339 S339 M339 H339 G339 (fits_nar_char _) W340 18 rfl (Nat.le_of_ble_eq_true rfl)
  have Z340 : n0 ≤ h340.size := Nat.le_trans Z338 (Keep.of_wr W340).1
  have Kp340 : Keep h0 h340 [] := Kp338.wr W340 (Or.inr sz_b302)
  have O340 : Old Z n0 h340 := O338.wr W340 g_b302
  have N340 := Fr.snoc X340 N338 g_b302
  refine own_step (g' := (mkF m 115 #[iv p1] [(.ref b302), (.ref b301), (.ref b301)])) st340 ?_
  refine own_st _ (own_dup 116 X340 hx hby d59_115) ?_
  refine own_st _ (own_bipush 118 19 X340 hx hby d59_116) ?_
  refine own_st _ (own_bipush 120 116 X340 hx hby d59_118) ?_
  obtain ⟨cl341, Ar341, q341, S341, M341, H341, G341⟩ := id V340
  have hin341 : ¬ ((19 : Int32) < 0 ∨ cl341.slots.size ≤ ((19 : Int32)).toNatClampNeg) := inb_of S341 ⟨by decide, by decide⟩
  obtain ⟨T342, h342, X342, e342, W342, st342⟩ := stC X340 hx hZ e340 Ar341 (j := 19) hin341 (g := (mkF m 120 #[iv p1] [(.int 116), (.int 19), (.ref b302), (.ref b302), (.ref b301), (.ref b301)])) rfl rfl (hb hby d59_120)
  have u61 := u58.wr W342
  have u62 := u59.other W342 (Or.inl ne_b301_b302)
  have u63 := u60.other W342 (Or.inl ne_b301_b302)
  have V342 : Arv Z h342 b302 k302 .char (20 : Int32) [(.int (nar .char p1)), (.int (nar .char 58)), (.int (nar .char 32)), (.int (nar .char 110)), (.int (nar .char 111)), (.int (nar .char 116)), (.int (nar .char 32)), (.int (nar .char 115)), (.int (nar .char 117)), (.int (nar .char 112)), (.int (nar .char 112)), (.int (nar .char 111)), (.int (nar .char 114)), (.int (nar .char 116)), (.int (nar .char 101)), (.int (nar .char 100)), (.int (nar .char 32)), (.int (nar .char 121)), (.int (nar .char 101)), (.int (nar .char 116))] (.int 0) := Arv.set Ar341 q341 S341 M341 H341 G341 (fits_nar_char _) W342 19 rfl (Nat.le_of_ble_eq_true rfl)
  have Z342 : n0 ≤ h342.size := Nat.le_trans Z340 (Keep.of_wr W342).1
  have Kp342 : Keep h0 h342 [] := Kp340.wr W342 (Or.inr sz_b302)
  have O342 : Old Z n0 h342 := O340.wr W342 g_b302
  have N342 := Fr.snoc X342 N340 g_b302
  refine own_step (g' := (mkF m 121 #[iv p1] [(.ref b302), (.ref b301), (.ref b301)])) st342 ?_
  have Vk : Arv Z h342 b302 k302 .char (20 : Int32) (((p1 :: own_dc) : List Int32).map Value.int) (.int 0) := by have q := V342; rw [own_narch ho1] at q; exact q
  obtain ⟨_, _, ⟨T343, L343, k343, n343⟩, -, X343, ⟨Lc343, hQ343, l343, y343, z343⟩, st343⟩ := X342.specialBack hx (y := mn_53) rfl hown (mvT hZ (hw_264 hw)) (mvT hZ (hw_265 hw)) (mvT hZ (hw_266 hw)) (by decide) (StrChars.Road.backV (W := 1) hZ (own_hws hw) (kI := 4) (hw_51 hw) (cs := (p1 :: own_dc)) (bs := own_td p1) (n := 20) g_b301 Z342 u61 u62 u63 Vk (S_wc.ext O342.2) hwc rfl rfl (by decide) (by decide) (own_allD ho1 own_dcok) rfl (by decide) (by decide)) (g := (mkF m 121 #[iv p1] [(.ref b302), (.ref b301), (.ref b301)])) rfl (by rw [hml]; rfl) (Steps.refl _) (a := b301) (argsL := [(.ref b302)]) (rest := [(.ref b301)]) (lenOf pd_32 rfl) rfl own_z0 (hb hby d59_121) (fun _ _ => ⟨rfl, e342, (by decide : 2 + 1 ≤ _), (by decide : 24 + 20 ≤ _)⟩)
  dsimp only [Pt.U, Pt.locs, Pt.cells, Pt.slots] at X343 l343 y343 z343 st343 hQ343
  subst l343 y343 z343
  obtain ⟨rfl, Nq343, K343, Ex343, Fc343, ta343, kb343, -, gt343, nt343, Fv343, V343⟩ := hQ343
  have N343 := Fr.app N342 Nq343
  have ne_b301_ta343 : b301 ≠ ta343 := Nat.ne_of_lt (Nat.lt_of_lt_of_le u61.lt gt343)
  have sz_ta343 : h0.size ≤ ta343 := Nat.le_trans Kp342.1 gt343
  have Kp343 : Keep h0 T343.heap [] := Kp342.trans K343 (allS (Or.inr sz_b301) all0)
  refine own_jump (g' := (mkF m 124 #[iv p1] [(.ref b301)])) st343 ?_
  refine own_ret X343 hlk (v := some (.ref b301)) (fun h => by rw [hret] at h; cases h) (fun fs hr => X343.areturnOut hx (w := (.ref b301)) rfl hret rfl (hb hby d59_124) hr) ?_ (by decide) (by decide)
  show own_Q59 Z p1 wc wD kD h0 n0 _ T343.heap _
  exact ⟨b301, ta343, kb343, rfl, N343, Kp343, sz_b301, sz_ta343, ne_b301_ta343, Ex343, Fv343, Fc343, V343⟩
theorem hw_0 : own_H (.classLink "com/example/shaper/shaper/core/ConfigProblemsFirstPinLaw" 17 "com/example/shaper/shaper/core/ConfigProblems") := own_h 0 rfl
theorem hw_3 : own_H (.methodLink "com/example/shaper/shaper/core/ConfigProblemsFirstPinLaw" 28 mn_32) := own_h 3 rfl
theorem hw_5 : own_H (.code mn_32 prog_4_method_1_code 1 none) := own_h 5 rfl
theorem hw_4 : own_H (.instanceMethod mn_32) := own_h 4 rfl
theorem hw_37 : own_H (.methodLink "com/example/shaper/shaper/core/ConfigProblemsFirstPinLaw" 35 mn_41) := own_h 37 rfl
theorem hw_40 : own_H (.code mn_41 method_4_code 3 none) := own_h 40 rfl
theorem hw_39 : own_H (.initialized "com/example/shaper/shaper/core/ConfigProblemsFirstPinLaw") := own_h 39 rfl
theorem pd_33 : parseMethodDescriptor "(Lcom/example/shaper/shaper/core/ConfigProblems;II)V" = some ⟨[(.object "com/example/shaper/shaper/core/ConfigProblems"), .int, .int], none⟩ := by decide +kernel
theorem hw_38 : own_H (.static mn_41) := own_h 38 rfl
theorem hw_217 : own_H (.methodLink "com/example/shaper/shaper/core/ConfigProblemsFirstPinLaw" 29 mn_42) := own_h 217 rfl
theorem hw_219 : own_H (.code mn_42 method_5_code 4 none) := own_h 219 rfl
theorem pd_34 : parseMethodDescriptor "(Lcom/example/shaper/shaper/core/ConfigProblems;IZI)V" = some ⟨[(.object "com/example/shaper/shaper/core/ConfigProblems"), .int, .boolean, .int], none⟩ := by decide +kernel
theorem hw_218 : own_H (.static mn_42) := own_h 218 rfl
theorem hw_220 : own_H (.methodLink "com/example/shaper/shaper/core/ConfigProblemsFirstPinLaw" 39 mn_50) := own_h 220 rfl
theorem hw_224 : own_H (.code mn_50 prog_4_method_14_code 2 (some (.object "java/lang/String"))) := own_h 224 rfl
theorem hw_223 : own_H (.selects "com/example/shaper/shaper/core/ConfigProblems" mn_50 mn_50) := own_h 223 rfl
theorem hw_221 : own_H (.declares mn_50) := own_h 221 rfl
theorem hw_222 : own_H (.instanceMethod mn_50) := own_h 222 rfl
theorem hw_259 : own_H (.methodLink "com/example/shaper/shaper/core/ConfigProblemsFirstPinLaw" 43 mn_52) := own_h 259 rfl
theorem hw_261 : own_H (.code mn_52 method_2_code 2 (some (.object "java/lang/String"))) := own_h 261 rfl
theorem pd_35 : parseMethodDescriptor "(CC)Ljava/lang/String;" = some ⟨[.char, .char], some (.object "java/lang/String")⟩ := by decide +kernel
theorem hw_260 : own_H (.static mn_52) := own_h 260 rfl
theorem hw_280 : own_H (.methodLink "com/example/shaper/shaper/core/ConfigProblemsFirstPinLaw" 50 mn_55) := own_h 280 rfl
theorem hw_283 : own_H (.selects "java/lang/String" mn_55 mn_55) := own_h 283 rfl
theorem hw_281 : own_H (.declares mn_55) := own_h 281 rfl
theorem hw_282 : own_H (.instanceMethod mn_55) := own_h 282 rfl
theorem hw_315 : own_H (.methodLink "com/example/shaper/shaper/core/ConfigProblemsFirstPinLaw" 47 mn_54) := own_h 315 rfl
theorem hw_317 : own_H (.code mn_54 method_3_code 1 (some (.object "java/lang/String"))) := own_h 317 rfl
theorem hw_316 : own_H (.static mn_54) := own_h 316 rfl
theorem own_ef0 (m : MethodId) (p1 p2 p3 : Int32) : entryFrame m #[(.int p1), (.int p2), (.int p3)] maxLocals = mkF m 0 #[iv p1, iv p2, iv p3, .unset, .unset, .unset, .unset, .unset, .unset, .unset] [] := by first | (simp [entryFrame, mkF, argsToLocals, Value.category, maxLocals]; done) | rfl
def own_Q0 (Z : State) (p1 p2 p3 wc : Int32) (wD : Addr) (kD : ClassId) (h0 : Heap) (n0 : Nat) (v : Option Value) (h : Heap) (L : List Loc) : Prop := v = some (.int 1) ∧ Fr n0 L
theorem own_rm0 (l Z a0) (hw : own_W a0 Z) (ws) (p1 p2 p3 wc : Int32) (wD : Addr) (kD : ClassId) (h0 : Heap) (n0 : Nat) (Z0 : n0 ≤ h0.size) (O0 : Old Z n0 h0) (SS : own_St Z wc wD kD) (hEL : EW Z a0 own_EL) :
    MetFree l x (head1 (Jvm.Cond.code x code maxLocals ret :: ws) room_1) (fun a U => a = #[(.int p1), (.int p2), (.int p3)] ∧ Z.Warmed39 U.vm ∧ U.heap = h0 ∧ CHv Z own_EL U.vm h0) (fun _ _ _ _ _ => True) (fun _ U o U' => ∃ v L, o = .returned v ∧ own_Q0 Z p1 p2 p3 wc wD kD h0 n0 v U'.heap L ∧ CHr Z own_EL U.vm U.heap U'.vm U'.heap ∧ ReturnedEndW U o U' L 96 2624) := by
  refine own_bodyH (plainFor_of_name pn_6) (fun m => own_ef0 m p1 p2 p3) ?_
  intro p e s m below meth c T0 X0 hx hby hml hZ hown hnm hret hlk e0 hs0 S0 CH0
  have hown : (s.setVm s.vm).vm.findClass "com/example/shaper/shaper/core/ConfigProblemsFirstPinLaw" = some m.cls := hown
  have CR0 := CHr.refl CH0
  have kz0 : h0.size ≤ h0.size := Nat.le_refl _
  have hnm : meth.name = "law" := hnm
  have N0 := Fr.nil n0
  obtain ⟨S_wc, hwc, S_wD, V_wD⟩ := id SS
  refine own_stH _ (own_iloadN 1 X0 hx hby at_0) ?_
  refine own_stH _ (own_iconst 2 3 X0 hx hby at_1) ?_
  refine own_stH _ (own_iand 3 X0 hx hby at_2) ?_
  refine own_stH _ (own_istoreN 4 #[iv p1, iv p2, iv p3, iv (p3 &&& 3), .unset, .unset, .unset, .unset, .unset, .unset] X0 hx hby at_3) ?_
  refine own_stH _ (own_iloadN 5 X0 hx hby at_4) ?_
  refine own_stH _ (own_iconst 6 2 X0 hx hby at_5) ?_
  refine own_stH _ (own_iushr 7 X0 hx hby at_6) ?_
  refine own_stH _ (own_iconst 8 3 X0 hx hby at_7) ?_
  refine own_stH _ (own_iand 9 X0 hx hby at_8) ?_
  refine own_stH _ (own_istore 11 #[iv p1, iv p2, iv p3, iv (p3 &&& 3), iv (own_u p3 2 3), .unset, .unset, .unset, .unset, .unset] X0 hx hby at_9) ?_
  refine own_stH _ (own_iloadN 12 X0 hx hby at_11) ?_
  refine own_stH _ (own_iconst 13 4 X0 hx hby at_12) ?_
  refine own_stH _ (own_iushr 14 X0 hx hby at_13) ?_
  refine own_stH _ (own_iconst 15 1 X0 hx hby at_14) ?_
  refine own_stH _ (own_iand 16 X0 hx hby at_15) ?_
  by_cases hc344 : (((p3.toUInt32 >>> ((4 : Int32) &&& 31).toUInt32).toInt32) &&& 1) = (0 : Int32)
  · refine own_stH _ (own_ifYes 23 X0 hx hby at_16 ((if0 _ _).trans (teq hc344).1)) ?_
    refine own_stH _ (own_iconst 24 0 X0 hx hby at_23) ?_
    refine own_stH _ (own_istore 26 #[iv p1, iv p2, iv p3, iv (p3 &&& 3), iv (own_u p3 2 3), iv 0, .unset, .unset, .unset, .unset] X0 hx hby at_24) ?_
    refine own_stH _ (own_iloadN 27 X0 hx hby at_26) ?_
    refine own_stH _ (own_iconst 28 5 X0 hx hby at_27) ?_
    refine own_stH _ (own_iushr 29 X0 hx hby at_28) ?_
    refine own_stH _ (own_iconst 30 1 X0 hx hby at_29) ?_
    refine own_stH _ (own_iand 31 X0 hx hby at_30) ?_
    by_cases hc345 : (((p3.toUInt32 >>> ((5 : Int32) &&& 31).toUInt32).toInt32) &&& 1) = (0 : Int32)
    · refine own_stH _ (own_ifYes 38 X0 hx hby at_31 ((if0 _ _).trans (teq hc345).1)) ?_
      refine own_stH _ (own_iconst 39 0 X0 hx hby at_38) ?_
      refine own_stH _ (own_istore 41 #[iv p1, iv p2, iv p3, iv (p3 &&& 3), iv (own_u p3 2 3), iv 0, iv 0, .unset, .unset, .unset] X0 hx hby at_39) ?_
      obtain ⟨T346, h346, X346, e346, E346, A346, D346, -, st346⟩ := newO X0 hx hZ hown (hw_0 hw) (hw_1 hw) (hw_2 hw) e0 (g := (mkF m 41 #[iv p1, iv p2, iv p3, iv (p3 &&& 3), iv (own_u p3 2 3), iv 0, iv 0, .unset, .unset, .unset] [])) rfl (hb hby at_41) (by decide) (by decide)
      obtain ⟨b346, g346⟩ : ∃ z, z = h0.size := ⟨_, rfl⟩
      rw [← g346] at A346 D346 st346
      have g_b346 : n0 ≤ b346 := Nat.le_trans Z0 (Nat.le_of_eq g346.symm)
      have Z346 : n0 ≤ h346.size := Nat.le_trans Z0 E346.1
      have C346 : CHr Z own_EL s.vm h0 s.vm h346 := CHr.ext E346 CR0.1
      have CR346 := CR0.trans C346
      have kz346 : _ ≤ h346.size := Nat.le_trans kz0 E346.1
      have O346 : Old Z n0 h346 := O0.ext E346
      have F_violations_b346 : Fld Z h346 b346 "com/example/shaper/shaper/core/ConfigProblems" "violations" "Ljava/util/List;" .null := D346 (Or.inr (hw_34 hw)) (ty := (.object "java/util/List")) (by decide)
      have F_unsupported_b346 : Fld Z h346 b346 "com/example/shaper/shaper/core/ConfigProblems" "unsupported" "Ljava/util/List;" .null := D346 (Or.inr (hw_36 hw)) (ty := (.object "java/util/List")) (by decide)
      refine own_stepH (g' := (mkF m 44 #[iv p1, iv p2, iv p3, iv (p3 &&& 3), iv (own_u p3 2 3), iv 0, iv 0, .unset, .unset, .unset] [(.ref b346)])) st346 ?_
      refine own_stH _ (own_dup 45 X346 hx hby at_44) ?_
      obtain ⟨_, _, ⟨T347, L347, k347, n347⟩, -, X347, ⟨Lc347, hQ347, l347, y347, z347⟩, st347⟩ := X346.specialBack hx (y := mn_32) rfl hown (mvT hZ (hw_3 hw)) (mvT hZ (hw_4 hw)) (mvT hZ (hw_5 hw)) (by decide) (backOf (W := 1) (own_rm1 l Z a0 hw [] b346 wc wD kD h346 n0 Z346 O346 SS A346 F_violations_b346 F_unsupported_b346 g_b346) hZ (hw_5 hw) (hw_2 hw) (by decide) (by decide)) (g := (mkF m 45 #[iv p1, iv p2, iv p3, iv (p3 &&& 3), iv (own_u p3 2 3), iv 0, iv 0, .unset, .unset, .unset] [(.ref b346), (.ref b346)])) rfl (by rw [hml]; rfl) (Steps.refl _) (a := b346) (argsL := []) (rest := [(.ref b346)]) (lenOf pd_20 rfl) rfl own_z0 (hb hby at_45) (fun _ _ => ⟨rfl, e346, (by decide : 1 + 2 ≤ _), (by decide : 2 + 6 ≤ _)⟩)
      dsimp only [Pt.U, Pt.locs, Pt.cells, Pt.slots] at X347 l347 y347 z347 st347 hQ347
      subst l347 y347 z347
      obtain ⟨rfl, Nq347, K347, P347⟩ := hQ347
      have N347 := Fr.app N0 Nq347
      have C347 : CHr Z own_EL s.vm h346 s.vm T347.heap := CHr.keep K347 (sfS (Safe.exa hZ.alike A346 (by decide) (by decide)) sf0) CR346.1
      have CR347 := CR346.trans C347
      have kz347 : _ ≤ T347.heap.size := Nat.le_trans kz346 K347.1
      have Z347 : n0 ≤ T347.heap.size := Nat.le_trans Z346 K347.1
      have O347 : Old Z n0 T347.heap := O346.keep K347 (allS g_b346 all0)
      refine own_jumpH (g' := (mkF m 48 #[iv p1, iv p2, iv p3, iv (p3 &&& 3), iv (own_u p3 2 3), iv 0, iv 0, .unset, .unset, .unset] [(.ref b346)])) st347 ?_
      refine own_stH _ (own_astore 50 #[iv p1, iv p2, iv p3, iv (p3 &&& 3), iv (own_u p3 2 3), iv 0, iv 0, rv b346, .unset, .unset] X347 hx hby at_48) ?_
      have Ps := own_CPS0 (own_tv (own_ch p1) (own_ch (own_sh p1 8))) (own_tv (own_ch p2) (own_ch (own_sh p2 8))) P347
      refine own_stH _ (own_iload 52 X347 hx hby at_50) ?_
      refine own_stH _ (own_ifYes 65 X347 hx hby at_52 ((if0 _ _).trans (teq (by decide : (0 : Int32) = (0 : Int32))).1)) ?_
      refine own_stH _ (own_aload 67 X347 hx hby at_65) ?_
      refine own_stH _ (own_iloadN 68 X347 hx hby at_67) ?_
      refine own_stH _ (own_iloadN 69 X347 hx hby at_68) ?_
      obtain ⟨_, _, ⟨T348, L348, k348, n348⟩, -, X348, S348, G348, ⟨Lc348, hQ348, l348, y348, z348, C348⟩, st348⟩ := callSS X347 hx (y := mn_41) hown (mvT hZ (hw_37 hw)) (mvT hZ (hw_38 hw)) (mvT hZ (hw_39 hw)) (mvT hZ (hw_40 hw)) (by decide) (backOfSH (s := s) (vm0 := s.vm) (W := 0) (own_rm6 l Z a0 hw [] b346 (p3 &&& 3) p1 0 (own_tv (own_ch p2) (own_ch (own_sh p2 8))) wc wD kD T347.heap n0 Z347 O347 SS hEL (by omega) Ps) hZ (hw_40 hw) (hw_39 hw) (by decide) (by decide) hEL CR347.1) (g := (mkF m 69 #[iv p1, iv p2, iv p3, iv (p3 &&& 3), iv (own_u p3 2 3), iv 0, iv 0, rv b346, .unset, .unset] [(.int p1), (.int (p3 &&& 3)), (.ref b346)])) rfl (by rw [hml]; rfl) (argsL := [(.ref b346), (.int (p3 &&& 3)), (.int p1)]) (rest := []) (lenOf pd_33 rfl) rfl own_z0 (hb hby at_69) (fun _ _ => ⟨rfl, rfl, (by decide : 3 + 22 ≤ _), (by decide : 8 + 120 ≤ _)⟩)
      dsimp only [Pt.U, Pt.locs, Pt.cells, Pt.slots] at X348 l348 y348 z348 st348 hQ348 S348 G348 C348
      subst l348 y348 z348
      obtain ⟨X348, S348, hZ, hown⟩ := rebS S0 kz347 X348 S348 (show T347.heap.size ≤ T348.heap.size from G348) hZ hown
      have CR348 := CR347.trans C348
      have gr348 : T347.heap.size ≤ T348.heap.size := C348.2.1
      obtain ⟨j348, rfl, Nq348, O348, P348, hj348⟩ := hQ348
      have N348 := Fr.app N347 Nq348
      have Z348 : n0 ≤ T348.heap.size := Nat.le_trans Z347 gr348
      refine own_jumpH (g' := (mkF m 72 #[iv p1, iv p2, iv p3, iv (p3 &&& 3), iv (own_u p3 2 3), iv 0, iv 0, rv b346, .unset, .unset] [])) st348 ?_
      refine own_stH _ (own_iload 74 X348 hx hby at_72) ?_
      refine own_stH _ (own_ifNo 77 X348 hx hby at_74 ((if0 _ _).trans (teq (by decide : (0 : Int32) = (0 : Int32))).2)) ?_
      refine own_stH _ (own_aload 79 X348 hx hby at_77) ?_
      refine own_stH _ (own_iload 81 X348 hx hby at_79) ?_
      refine own_stH _ (own_iload 83 X348 hx hby at_81) ?_
      refine own_stH _ (own_iloadN 84 X348 hx hby at_83) ?_
      obtain ⟨_, _, ⟨T349, L349, k349, n349⟩, -, X349, S349, G349, ⟨Lc349, hQ349, l349, y349, z349, C349⟩, st349⟩ := callSS X348 hx (y := mn_42) hown (mvT hZ (hw_217 hw)) (mvT hZ (hw_218 hw)) (mvT hZ (hw_39 hw)) (mvT hZ (hw_219 hw)) (by decide) (backOfSH (s := s) (vm0 := T348.vm) (W := 0) (own_rm38_0 l Z a0 hw [] b346 (((p3.toUInt32 >>> ((2 : Int32) &&& 31).toUInt32).toInt32) &&& 3) p2 j348 (own_tv (own_ch p1) (own_ch (own_sh p1 8))) wc wD kD T348.heap n0 Z348 O348 SS hEL (by omega) P348) hZ (hw_219 hw) (hw_39 hw) (by decide) (by decide) hEL CR348.1) (g := (mkF m 84 #[iv p1, iv p2, iv p3, iv (p3 &&& 3), iv (own_u p3 2 3), iv 0, iv 0, rv b346, .unset, .unset] [(.int p2), (.int 0), (.int (((p3.toUInt32 >>> ((2 : Int32) &&& 31).toUInt32).toInt32) &&& 3)), (.ref b346)])) rfl (by rw [hml]; rfl) (argsL := [(.ref b346), (.int (((p3.toUInt32 >>> ((2 : Int32) &&& 31).toUInt32).toInt32) &&& 3)), (.int 0), (.int p2)]) (rest := []) (lenOf pd_34 rfl) rfl own_z0 (hb hby at_84) (fun _ _ => ⟨rfl, rfl, (by decide : 25 + 22 ≤ _), (by decide : 128 + 120 ≤ _)⟩)
      dsimp only [Pt.U, Pt.locs, Pt.cells, Pt.slots] at X349 l349 y349 z349 st349 hQ349 S349 G349 C349
      subst l349 y349 z349
      obtain ⟨X349, S349, hZ, hown⟩ := rebS S348 (Nat.le_refl T348.heap.size) X349 S349 (show T348.heap.size ≤ T349.heap.size from G349) hZ hown
      have CR349 := CR348.trans C349
      have gr349 : T348.heap.size ≤ T349.heap.size := C349.2.1
      obtain ⟨j349, rfl, Nq349, O349, P349, hj349⟩ := hQ349
      have N349 := Fr.app N348 Nq349
      have Z349 : n0 ≤ T349.heap.size := Nat.le_trans Z348 gr349
      refine own_jumpH (g' := (mkF m 87 #[iv p1, iv p2, iv p3, iv (p3 &&& 3), iv (own_u p3 2 3), iv 0, iv 0, rv b346, .unset, .unset] [])) st349 ?_
      obtain ⟨al1, dd1, al2, dd2, f1, f2, s1, b1, s2, b2, gp, Ep, Fvi, Fun, A1, A2, -, -, -, -, -, -, -, -, Y1, Y2, -⟩ := id P349
      have Ea1 := A1.2.2.1
      have Ea2 := A2.2.2.1
      have Fs1 := A1.2.2.2.1
      have Fs2 := A2.2.2.2.1
      rcases hj348 with ⟨hv1, jz1⟩ | ⟨hv1, ja1, jb1⟩
      · rcases hj349 with ⟨hv2, jz2⟩ | ⟨hv2, ja2, jb2⟩
        · refine own_stH _ (own_aload 89 X349 hx hby at_87) ?_
          obtain ⟨cq350, kq350, q350a, q350b, q350c⟩ := isOf hZ rfl Ep
          obtain ⟨_, _, ⟨T350, L350, k350, n350⟩, -, X350, ⟨Lc350, hQ350, l350, y350, z350⟩, st350⟩ := X349.virtualBack hx (y := mn_50) (z := mn_50) hown (mvT hZ (hw_220 hw)) (mvT hZ (hw_221 hw)) (notFace_of_selects (args := #[]) (mvT hZ (hw_223 hw))) (mvT hZ (hw_223 hw)) (mvT hZ (hw_222 hw)) (by decide) (backOf (W := 0) (own_rm39_n l Z a0 hw [] b346 al1 al2 (Int32.ofNat j348) (Int32.ofNat j349) T349.heap n0 Z349 (own_ie1 jz1) (own_ie1 jz2) Ep Fvi Fun Ea1 Fs1 Ea2 Fs2) hZ (hw_224 hw) (hw_2 hw) (by decide) (by decide)) q350a q350c (g := (mkF m 89 #[iv p1, iv p2, iv p3, iv (p3 &&& 3), iv (own_u p3 2 3), iv 0, iv 0, rv b346, .unset, .unset] [(.ref b346)])) rfl (by rw [hml]; rfl) (Steps.refl _) (argsL := []) (rest := []) (lenOf pd_25 rfl) rfl own_z0 (hb hby at_89) (fun _ _ => ⟨rfl, rfl, (by decide : 47 + 0 ≤ _), (by decide : 248 + 0 ≤ _)⟩)
          dsimp only [Pt.U, Pt.locs, Pt.cells, Pt.slots] at X350 l350 y350 z350 st350 hQ350
          subst l350 y350 z350
          obtain ⟨rfl, Nq350, e350⟩ := hQ350
          have N350 := Fr.app N349 Nq350
          refine own_jumpH (g' := (mkF m 92 #[iv p1, iv p2, iv p3, iv (p3 &&& 3), iv (own_u p3 2 3), iv 0, iv 0, rv b346, .unset, .unset] [.null])) st350 ?_
          refine own_stH _ (own_astore 94 #[iv p1, iv p2, iv p3, iv (p3 &&& 3), iv (own_u p3 2 3), iv 0, iv 0, rv b346, .val .null, .unset] X350 hx hby at_92) ?_
          refine own_stH _ (own_iloadN 95 X350 hx hby at_94) ?_
          refine own_stH _ (own_iconst 96 1 X350 hx hby at_95) ?_
          refine own_stH _ (own_icmpYes 122 X350 hx hby at_96 ((tlt hv1).1)) ?_
          refine own_stH _ (own_iload 124 X350 hx hby at_122) ?_
          refine own_stH _ (own_iconst 125 1 X350 hx hby at_124) ?_
          refine own_stH _ (own_icmpYes 170 X350 hx hby at_125 ((tlt hv2).1)) ?_
          refine own_stH _ (own_aconstNull 171 X350 hx hby at_170) ?_
          refine own_stH _ (own_astore 173 #[iv p1, iv p2, iv p3, iv (p3 &&& 3), iv (own_u p3 2 3), iv 0, iv 0, rv b346, .val .null, .val .null] X350 hx hby at_171) ?_
          refine own_stH _ (own_aload 175 X350 hx hby at_173) ?_
          refine own_stH (mkF m 178 #[iv p1, iv p2, iv p3, iv (p3 &&& 3), iv (own_u p3 2 3), iv 0, iv 0, rv b346, .val .null, .val .null] []) (fun t k => XS.ifnonnullNo X350.here hx rfl (hb hby at_175) rfl k) ?_
          refine own_stH _ (own_aload 180 X350 hx hby at_178) ?_
          refine own_stH (mkF m 183 #[iv p1, iv p2, iv p3, iv (p3 &&& 3), iv (own_u p3 2 3), iv 0, iv 0, rv b346, .val .null, .val .null] []) (fun t k => XS.ifnonnullNo X350.here hx rfl (hb hby at_180) rfl k) ?_
          refine own_stH _ (own_iconst 184 1 X350 hx hby at_183) ?_
          refine own_stH _ (own_goto 188 X350 hx hby at_184) ?_
          refine own_retH X350 hlk S349 (own_leE e350 (Nat.le_refl T349.heap.size)) (v := some (.int 1)) (fun h => by rw [hret] at h; cases h) (fun fs hr => retN X350 hx (t := .boolean) hret (by simp) (hb hby at_188) hr) ?_ (own_CHend hs0 e350 CR349 (CHv.at X350 hZ hEL CR349.1)) (by decide) (by decide)
          show own_Q0 Z p1 p2 p3 wc wD kD h0 n0 _ T350.heap _
          rw [e350]
          exact ⟨rfl, N350⟩
        · obtain ⟨Fe, kk, vs, Vd, hf0⟩ := own_ALpos A2 ja2
          obtain ⟨hfs, Es, Fsv, Fsc, kb, Vb⟩ := Y2.2.2 ja2
          have hf : vs.getD 0 .null = .ref s2 := hf0.trans hfs
          refine own_stH _ (own_aload 89 X349 hx hby at_87) ?_
          obtain ⟨cq351, kq351, q351a, q351b, q351c⟩ := isOf hZ rfl Ep
          obtain ⟨_, _, ⟨T351, L351, k351, n351⟩, -, X351, ⟨Lc351, hQ351, l351, y351, z351⟩, st351⟩ := X349.virtualBack hx (y := mn_50) (z := mn_50) hown (mvT hZ (hw_220 hw)) (mvT hZ (hw_221 hw)) (notFace_of_selects (args := #[]) (mvT hZ (hw_223 hw))) (mvT hZ (hw_223 hw)) (mvT hZ (hw_222 hw)) (by decide) (backOf (W := 0) (own_rm39_u l Z a0 hw [] b346 al1 al2 (Int32.ofNat j348) (Int32.ofNat j349) dd2 kk vs s2 T349.heap n0 Z349 (own_ie1 jz1) (own_ie0 ja2 jb2) hf (own_0lt ja2 jb2) Ep Fvi Fun Ea1 Fs1 Ea2 Fs2 Fe Vd Es) hZ (hw_224 hw) (hw_2 hw) (by decide) (by decide)) q351a q351c (g := (mkF m 89 #[iv p1, iv p2, iv p3, iv (p3 &&& 3), iv (own_u p3 2 3), iv 0, iv 0, rv b346, .unset, .unset] [(.ref b346)])) rfl (by rw [hml]; rfl) (Steps.refl _) (argsL := []) (rest := []) (lenOf pd_25 rfl) rfl own_z0 (hb hby at_89) (fun _ _ => ⟨rfl, rfl, (by decide : 47 + 0 ≤ _), (by decide : 248 + 0 ≤ _)⟩)
          dsimp only [Pt.U, Pt.locs, Pt.cells, Pt.slots] at X351 l351 y351 z351 st351 hQ351
          subst l351 y351 z351
          obtain ⟨rfl, Nq351, e351⟩ := hQ351
          have N351 := Fr.app N349 Nq351
          refine own_jumpH (g' := (mkF m 92 #[iv p1, iv p2, iv p3, iv (p3 &&& 3), iv (own_u p3 2 3), iv 0, iv 0, rv b346, .unset, .unset] [(.ref s2)])) st351 ?_
          refine own_stH _ (own_astore 94 #[iv p1, iv p2, iv p3, iv (p3 &&& 3), iv (own_u p3 2 3), iv 0, iv 0, rv b346, rv s2, .unset] X351 hx hby at_92) ?_
          refine own_stH _ (own_iloadN 95 X351 hx hby at_94) ?_
          refine own_stH _ (own_iconst 96 1 X351 hx hby at_95) ?_
          refine own_stH _ (own_icmpYes 122 X351 hx hby at_96 ((tlt hv1).1)) ?_
          refine own_stH _ (own_iload 124 X351 hx hby at_122) ?_
          refine own_stH _ (own_iconst 125 1 X351 hx hby at_124) ?_
          refine own_stH _ (own_icmpNo 128 X351 hx hby at_125 ((flt hv2).1)) ?_
          refine own_stH _ (own_iload 130 X351 hx hby at_128) ?_
          refine own_stH _ (own_ifYes 147 X351 hx hby at_130 ((if0 _ _).trans (teq (by decide : (0 : Int32) = (0 : Int32))).1)) ?_
          refine own_stH _ (own_iloadN 148 X351 hx hby at_147) ?_
          refine own_stH _ (own_sipush 151 255 X351 hx hby at_148) ?_
          refine own_stH _ (own_iand 152 X351 hx hby at_151) ?_
          refine own_stH _ (own_i2c 153 X351 hx hby at_152) ?_
          rw [show ((p2 &&& 255).toUInt32.toUInt16.toUInt32.toInt32) = own_ch p2 from rfl]
          refine own_stH _ (own_iloadN 154 X351 hx hby at_153) ?_
          refine own_stH _ (own_bipush 156 8 X351 hx hby at_154) ?_
          refine own_stH _ (own_iushr 157 X351 hx hby at_156) ?_
          rw [show ((p2.toUInt32 >>> ((8 : Int32) &&& 31).toUInt32).toInt32) = own_sh p2 8 from rfl]
          refine own_stH _ (own_sipush 160 255 X351 hx hby at_157) ?_
          refine own_stH _ (own_iand 161 X351 hx hby at_160) ?_
          refine own_stH _ (own_i2c 162 X351 hx hby at_161) ?_
          rw [show (((own_sh p2 8) &&& 255).toUInt32.toUInt16.toUInt32.toInt32) = own_ch (own_sh p2 8) from rfl]
          obtain ⟨_, _, ⟨T352, L352, k352, n352⟩, -, X352, ⟨Lc352, hQ352, l352, y352, z352⟩, st352⟩ := Jvm.LawKit.callS X351 hx (y := mn_52) hown (mvT hZ (hw_259 hw)) (mvT hZ (hw_260 hw)) (mvT hZ (hw_39 hw)) (mvT hZ (hw_261 hw)) (by decide) (backOf (W := 0) (own_rm46 l Z a0 hw [] (own_ch p2) (own_ch (own_sh p2 8)) wc wD kD T349.heap n0 Z349 O349 SS (own_chok p2) (own_chok (own_sh p2 8))) hZ (hw_261 hw) (hw_39 hw) (by decide) (by decide)) (g := (mkF m 162 #[iv p1, iv p2, iv p3, iv (p3 &&& 3), iv (own_u p3 2 3), iv 0, iv 0, rv b346, rv s2, .unset] [(.int (own_ch (own_sh p2 8))), (.int (own_ch p2))])) rfl (by rw [hml]; rfl) (argsL := [(.int (own_ch p2)), (.int (own_ch (own_sh p2 8)))]) (rest := []) (lenOf pd_35 rfl) rfl own_z0 (hb hby at_162) (fun _ _ => ⟨rfl, e351, (by decide : 47 + 3 ≤ _), (by decide : 248 + 12 ≤ _)⟩)
          dsimp only [Pt.U, Pt.locs, Pt.cells, Pt.slots] at X352 l352 y352 z352 st352 hQ352
          subst l352 y352 z352
          obtain ⟨sa352, ba352, kb352, rfl, Nq352, K352, ga352, gb352, ne352, Ex352, Fv352, Fc352, V352⟩ := hQ352
          have N352 := Fr.app N351 Nq352
          have C352 : CHr Z own_EL T349.vm T349.heap T349.vm T352.heap := CHr.keep K352 sf0 CR349.1
          have CR352 := CR349.trans C352
          have kz352 : _ ≤ T352.heap.size := Nat.le_trans (Nat.le_refl T349.heap.size) K352.1
          have O352 : Old Z n0 T352.heap := O349.keep K352 all0
          have u2 := Es.keep K352
          have u3 := Fsv.keep K352 nin0
          have u4 := Fsc.keep K352 nin0
          have u5 := Vb.keep K352 nin0
          refine own_stepH (g' := (mkF m 165 #[iv p1, iv p2, iv p3, iv (p3 &&& 3), iv (own_u p3 2 3), iv 0, iv 0, rv b346, rv s2, .unset] [(.ref sa352)])) st352 ?_
          refine own_stH _ (own_astore 167 #[iv p1, iv p2, iv p3, iv (p3 &&& 3), iv (own_u p3 2 3), iv 0, iv 0, rv b346, rv s2, rv sa352] X352 hx hby at_165) ?_
          refine own_stH _ (own_goto 173 X352 hx hby at_167) ?_
          refine own_stH _ (own_aload 175 X352 hx hby at_173) ?_
          refine own_stH _ (own_ifnonnullYes 189 X352 hx hby at_175) ?_
          refine own_stH _ (own_aload 191 X352 hx hby at_189) ?_
          refine own_stH _ (own_aload 193 X352 hx hby at_191) ?_
          obtain ⟨cq353, kq353, q353a, q353b, q353c⟩ := isOf hZ rfl Ex352
          obtain ⟨_, _, ⟨T353, L353, k353, n353⟩, -, X353, ⟨Lc353, hQ353, l353, y353, z353⟩, st353⟩ := X352.virtualBack hx (y := mn_55) (z := mn_55) hown (mvT hZ (hw_280 hw)) (mvT hZ (hw_281 hw)) (notFace_of_selects (args := #[]) (mvT hZ (hw_283 hw))) (mvT hZ (hw_283 hw)) (mvT hZ (hw_282 hw)) (by decide) (StrChars.Road.eqW (W := 0) hZ (own_heq hw) (kI := 4) (hw_51 hw) Ex352 Fv352 Fc352 V352 (own_cod4 (own_chok p2) (own_chok (own_sh p2 8))) (own_hb4 (own_chok p2) (own_chok (own_sh p2 8))) (Nat.le_of_ble_eq_true rfl) u2 u3 u4 u5 (own_cod4 (own_chok p2) (own_chok (own_sh p2 8))) (own_hb4 (own_chok p2) (own_chok (own_sh p2 8))) (Nat.le_of_ble_eq_true rfl) (S_wc.ext O352.2) hwc (by decide) (by decide)) q353a q353c (g := (mkF m 193 #[iv p1, iv p2, iv p3, iv (p3 &&& 3), iv (own_u p3 2 3), iv 0, iv 0, rv b346, rv s2, rv sa352] [(.ref s2), (.ref sa352)])) rfl (by rw [hml]; rfl) (Steps.refl _) (argsL := [(.ref s2)]) (rest := []) (lenOf pd_26 rfl) rfl own_z0 (hb hby at_193) (fun _ _ => ⟨rfl, rfl, (by decide : 50 + 0 ≤ _), (by decide : 260 + 0 ≤ _)⟩)
          dsimp only [Pt.U, Pt.locs, Pt.cells, Pt.slots] at X353 l353 y353 z353 st353 hQ353
          subst l353 y353 z353
          obtain ⟨hv353, rfl, e353⟩ := hQ353
          rcases hv353 with ⟨rfl, -⟩ | ⟨-, hv353⟩
          case inr => exact absurd rfl hv353
          have N353 := Fr.app N352 (Fr.nil n0)
          refine own_jumpH (g' := (mkF m 196 #[iv p1, iv p2, iv p3, iv (p3 &&& 3), iv (own_u p3 2 3), iv 0, iv 0, rv b346, rv s2, rv sa352] [(.int 1)])) st353 ?_
          refine own_retH X353 hlk S349 (own_leE e353 kz352) (v := some (.int 1)) (fun h => by rw [hret] at h; cases h) (fun fs hr => retN X353 hx (t := .boolean) hret (by simp) (hb hby at_196) hr) ?_ (own_CHend hs0 e353 CR352 (CHv.at X353 hZ hEL CR352.1)) (by decide) (by decide)
          show own_Q0 Z p1 p2 p3 wc wD kD h0 n0 _ T353.heap _
          rw [e353]
          exact ⟨rfl, N353⟩
      · obtain ⟨Fe, kk, vs, Vd, hf0⟩ := own_ALpos A1 ja1
        obtain ⟨hfs, Es, Fsv, Fsc, kb, Vb⟩ := Y1.2.2 ja1
        have hf : vs.getD 0 .null = .ref s1 := hf0.trans hfs
        refine own_stH _ (own_aload 89 X349 hx hby at_87) ?_
        obtain ⟨cq354, kq354, q354a, q354b, q354c⟩ := isOf hZ rfl Ep
        obtain ⟨_, _, ⟨T354, L354, k354, n354⟩, -, X354, ⟨Lc354, hQ354, l354, y354, z354⟩, st354⟩ := X349.virtualBack hx (y := mn_50) (z := mn_50) hown (mvT hZ (hw_220 hw)) (mvT hZ (hw_221 hw)) (notFace_of_selects (args := #[]) (mvT hZ (hw_223 hw))) (mvT hZ (hw_223 hw)) (mvT hZ (hw_222 hw)) (by decide) (backOf (W := 0) (own_rm39_v l Z a0 hw [] b346 al1 al2 (Int32.ofNat j348) dd1 kk vs s1 T349.heap n0 Z349 (own_ie0 ja1 jb1) hf (own_0lt ja1 jb1) Ep Fvi Fun Ea1 Fs1 Fe Vd Es) hZ (hw_224 hw) (hw_2 hw) (by decide) (by decide)) q354a q354c (g := (mkF m 89 #[iv p1, iv p2, iv p3, iv (p3 &&& 3), iv (own_u p3 2 3), iv 0, iv 0, rv b346, .unset, .unset] [(.ref b346)])) rfl (by rw [hml]; rfl) (Steps.refl _) (argsL := []) (rest := []) (lenOf pd_25 rfl) rfl own_z0 (hb hby at_89) (fun _ _ => ⟨rfl, rfl, (by decide : 47 + 0 ≤ _), (by decide : 248 + 0 ≤ _)⟩)
        dsimp only [Pt.U, Pt.locs, Pt.cells, Pt.slots] at X354 l354 y354 z354 st354 hQ354
        subst l354 y354 z354
        obtain ⟨rfl, Nq354, e354⟩ := hQ354
        have N354 := Fr.app N349 Nq354
        refine own_jumpH (g' := (mkF m 92 #[iv p1, iv p2, iv p3, iv (p3 &&& 3), iv (own_u p3 2 3), iv 0, iv 0, rv b346, .unset, .unset] [(.ref s1)])) st354 ?_
        refine own_stH _ (own_astore 94 #[iv p1, iv p2, iv p3, iv (p3 &&& 3), iv (own_u p3 2 3), iv 0, iv 0, rv b346, rv s1, .unset] X354 hx hby at_92) ?_
        refine own_stH _ (own_iloadN 95 X354 hx hby at_94) ?_
        refine own_stH _ (own_iconst 96 1 X354 hx hby at_95) ?_
        refine own_stH _ (own_icmpNo 99 X354 hx hby at_96 ((flt hv1).1)) ?_
        refine own_stH _ (own_iloadN 100 X354 hx hby at_99) ?_
        refine own_stH _ (own_sipush 103 255 X354 hx hby at_100) ?_
        refine own_stH _ (own_iand 104 X354 hx hby at_103) ?_
        refine own_stH _ (own_i2c 105 X354 hx hby at_104) ?_
        rw [show ((p1 &&& 255).toUInt32.toUInt16.toUInt32.toInt32) = own_ch p1 from rfl]
        refine own_stH _ (own_iloadN 106 X354 hx hby at_105) ?_
        refine own_stH _ (own_bipush 108 8 X354 hx hby at_106) ?_
        refine own_stH _ (own_iushr 109 X354 hx hby at_108) ?_
        rw [show ((p1.toUInt32 >>> ((8 : Int32) &&& 31).toUInt32).toInt32) = own_sh p1 8 from rfl]
        refine own_stH _ (own_sipush 112 255 X354 hx hby at_109) ?_
        refine own_stH _ (own_iand 113 X354 hx hby at_112) ?_
        refine own_stH _ (own_i2c 114 X354 hx hby at_113) ?_
        rw [show (((own_sh p1 8) &&& 255).toUInt32.toUInt16.toUInt32.toInt32) = own_ch (own_sh p1 8) from rfl]
        obtain ⟨_, _, ⟨T355, L355, k355, n355⟩, -, X355, ⟨Lc355, hQ355, l355, y355, z355⟩, st355⟩ := Jvm.LawKit.callS X354 hx (y := mn_52) hown (mvT hZ (hw_259 hw)) (mvT hZ (hw_260 hw)) (mvT hZ (hw_39 hw)) (mvT hZ (hw_261 hw)) (by decide) (backOf (W := 0) (own_rm46 l Z a0 hw [] (own_ch p1) (own_ch (own_sh p1 8)) wc wD kD T349.heap n0 Z349 O349 SS (own_chok p1) (own_chok (own_sh p1 8))) hZ (hw_261 hw) (hw_39 hw) (by decide) (by decide)) (g := (mkF m 114 #[iv p1, iv p2, iv p3, iv (p3 &&& 3), iv (own_u p3 2 3), iv 0, iv 0, rv b346, rv s1, .unset] [(.int (own_ch (own_sh p1 8))), (.int (own_ch p1))])) rfl (by rw [hml]; rfl) (argsL := [(.int (own_ch p1)), (.int (own_ch (own_sh p1 8)))]) (rest := []) (lenOf pd_35 rfl) rfl own_z0 (hb hby at_114) (fun _ _ => ⟨rfl, e354, (by decide : 47 + 3 ≤ _), (by decide : 248 + 12 ≤ _)⟩)
        dsimp only [Pt.U, Pt.locs, Pt.cells, Pt.slots] at X355 l355 y355 z355 st355 hQ355
        subst l355 y355 z355
        obtain ⟨sa355, ba355, kb355, rfl, Nq355, K355, ga355, gb355, ne355, Ex355, Fv355, Fc355, V355⟩ := hQ355
        have N355 := Fr.app N354 Nq355
        have C355 : CHr Z own_EL T349.vm T349.heap T349.vm T355.heap := CHr.keep K355 sf0 CR349.1
        have CR355 := CR349.trans C355
        have kz355 : _ ≤ T355.heap.size := Nat.le_trans (Nat.le_refl T349.heap.size) K355.1
        have O355 : Old Z n0 T355.heap := O349.keep K355 all0
        have u6 := Es.keep K355
        have u7 := Fsv.keep K355 nin0
        have u8 := Fsc.keep K355 nin0
        have u9 := Vb.keep K355 nin0
        refine own_stepH (g' := (mkF m 117 #[iv p1, iv p2, iv p3, iv (p3 &&& 3), iv (own_u p3 2 3), iv 0, iv 0, rv b346, rv s1, .unset] [(.ref sa355)])) st355 ?_
        refine own_stH _ (own_astore 119 #[iv p1, iv p2, iv p3, iv (p3 &&& 3), iv (own_u p3 2 3), iv 0, iv 0, rv b346, rv s1, rv sa355] X355 hx hby at_117) ?_
        refine own_stH _ (own_goto 173 X355 hx hby at_119) ?_
        refine own_stH _ (own_aload 175 X355 hx hby at_173) ?_
        refine own_stH _ (own_ifnonnullYes 189 X355 hx hby at_175) ?_
        refine own_stH _ (own_aload 191 X355 hx hby at_189) ?_
        refine own_stH _ (own_aload 193 X355 hx hby at_191) ?_
        obtain ⟨cq356, kq356, q356a, q356b, q356c⟩ := isOf hZ rfl Ex355
        obtain ⟨_, _, ⟨T356, L356, k356, n356⟩, -, X356, ⟨Lc356, hQ356, l356, y356, z356⟩, st356⟩ := X355.virtualBack hx (y := mn_55) (z := mn_55) hown (mvT hZ (hw_280 hw)) (mvT hZ (hw_281 hw)) (notFace_of_selects (args := #[]) (mvT hZ (hw_283 hw))) (mvT hZ (hw_283 hw)) (mvT hZ (hw_282 hw)) (by decide) (StrChars.Road.eqW (W := 0) hZ (own_heq hw) (kI := 4) (hw_51 hw) Ex355 Fv355 Fc355 V355 (own_cod4 (own_chok p1) (own_chok (own_sh p1 8))) (own_hb4 (own_chok p1) (own_chok (own_sh p1 8))) (Nat.le_of_ble_eq_true rfl) u6 u7 u8 u9 (own_cod4 (own_chok p1) (own_chok (own_sh p1 8))) (own_hb4 (own_chok p1) (own_chok (own_sh p1 8))) (Nat.le_of_ble_eq_true rfl) (S_wc.ext O355.2) hwc (by decide) (by decide)) q356a q356c (g := (mkF m 193 #[iv p1, iv p2, iv p3, iv (p3 &&& 3), iv (own_u p3 2 3), iv 0, iv 0, rv b346, rv s1, rv sa355] [(.ref s1), (.ref sa355)])) rfl (by rw [hml]; rfl) (Steps.refl _) (argsL := [(.ref s1)]) (rest := []) (lenOf pd_26 rfl) rfl own_z0 (hb hby at_193) (fun _ _ => ⟨rfl, rfl, (by decide : 50 + 0 ≤ _), (by decide : 260 + 0 ≤ _)⟩)
        dsimp only [Pt.U, Pt.locs, Pt.cells, Pt.slots] at X356 l356 y356 z356 st356 hQ356
        subst l356 y356 z356
        obtain ⟨hv356, rfl, e356⟩ := hQ356
        rcases hv356 with ⟨rfl, -⟩ | ⟨-, hv356⟩
        case inr => exact absurd rfl hv356
        have N356 := Fr.app N355 (Fr.nil n0)
        refine own_jumpH (g' := (mkF m 196 #[iv p1, iv p2, iv p3, iv (p3 &&& 3), iv (own_u p3 2 3), iv 0, iv 0, rv b346, rv s1, rv sa355] [(.int 1)])) st356 ?_
        refine own_retH X356 hlk S349 (own_leE e356 kz355) (v := some (.int 1)) (fun h => by rw [hret] at h; cases h) (fun fs hr => retN X356 hx (t := .boolean) hret (by simp) (hb hby at_196) hr) ?_ (own_CHend hs0 e356 CR355 (CHv.at X356 hZ hEL CR355.1)) (by decide) (by decide)
        show own_Q0 Z p1 p2 p3 wc wD kD h0 n0 _ T356.heap _
        rw [e356]
        exact ⟨rfl, N356⟩
    · refine own_stH _ (own_ifNo 34 X0 hx hby at_31 ((if0 _ _).trans (feq hc345).1)) ?_
      refine own_stH _ (own_iconst 35 1 X0 hx hby at_34) ?_
      refine own_stH _ (own_goto 39 X0 hx hby at_35) ?_
      refine own_stH _ (own_istore 41 #[iv p1, iv p2, iv p3, iv (p3 &&& 3), iv (own_u p3 2 3), iv 0, iv 1, .unset, .unset, .unset] X0 hx hby at_39) ?_
      obtain ⟨T357, h357, X357, e357, E357, A357, D357, -, st357⟩ := newO X0 hx hZ hown (hw_0 hw) (hw_1 hw) (hw_2 hw) e0 (g := (mkF m 41 #[iv p1, iv p2, iv p3, iv (p3 &&& 3), iv (own_u p3 2 3), iv 0, iv 1, .unset, .unset, .unset] [])) rfl (hb hby at_41) (by decide) (by decide)
      obtain ⟨b357, g357⟩ : ∃ z, z = h0.size := ⟨_, rfl⟩
      rw [← g357] at A357 D357 st357
      have g_b357 : n0 ≤ b357 := Nat.le_trans Z0 (Nat.le_of_eq g357.symm)
      have Z357 : n0 ≤ h357.size := Nat.le_trans Z0 E357.1
      have C357 : CHr Z own_EL s.vm h0 s.vm h357 := CHr.ext E357 CR0.1
      have CR357 := CR0.trans C357
      have kz357 : _ ≤ h357.size := Nat.le_trans kz0 E357.1
      have O357 : Old Z n0 h357 := O0.ext E357
      have F_violations_b357 : Fld Z h357 b357 "com/example/shaper/shaper/core/ConfigProblems" "violations" "Ljava/util/List;" .null := D357 (Or.inr (hw_34 hw)) (ty := (.object "java/util/List")) (by decide)
      have F_unsupported_b357 : Fld Z h357 b357 "com/example/shaper/shaper/core/ConfigProblems" "unsupported" "Ljava/util/List;" .null := D357 (Or.inr (hw_36 hw)) (ty := (.object "java/util/List")) (by decide)
      refine own_stepH (g' := (mkF m 44 #[iv p1, iv p2, iv p3, iv (p3 &&& 3), iv (own_u p3 2 3), iv 0, iv 1, .unset, .unset, .unset] [(.ref b357)])) st357 ?_
      refine own_stH _ (own_dup 45 X357 hx hby at_44) ?_
      obtain ⟨_, _, ⟨T358, L358, k358, n358⟩, -, X358, ⟨Lc358, hQ358, l358, y358, z358⟩, st358⟩ := X357.specialBack hx (y := mn_32) rfl hown (mvT hZ (hw_3 hw)) (mvT hZ (hw_4 hw)) (mvT hZ (hw_5 hw)) (by decide) (backOf (W := 1) (own_rm1 l Z a0 hw [] b357 wc wD kD h357 n0 Z357 O357 SS A357 F_violations_b357 F_unsupported_b357 g_b357) hZ (hw_5 hw) (hw_2 hw) (by decide) (by decide)) (g := (mkF m 45 #[iv p1, iv p2, iv p3, iv (p3 &&& 3), iv (own_u p3 2 3), iv 0, iv 1, .unset, .unset, .unset] [(.ref b357), (.ref b357)])) rfl (by rw [hml]; rfl) (Steps.refl _) (a := b357) (argsL := []) (rest := [(.ref b357)]) (lenOf pd_20 rfl) rfl own_z0 (hb hby at_45) (fun _ _ => ⟨rfl, e357, (by decide : 1 + 2 ≤ _), (by decide : 2 + 6 ≤ _)⟩)
      dsimp only [Pt.U, Pt.locs, Pt.cells, Pt.slots] at X358 l358 y358 z358 st358 hQ358
      subst l358 y358 z358
      obtain ⟨rfl, Nq358, K358, P358⟩ := hQ358
      have N358 := Fr.app N0 Nq358
      have C358 : CHr Z own_EL s.vm h357 s.vm T358.heap := CHr.keep K358 (sfS (Safe.exa hZ.alike A357 (by decide) (by decide)) sf0) CR357.1
      have CR358 := CR357.trans C358
      have kz358 : _ ≤ T358.heap.size := Nat.le_trans kz357 K358.1
      have Z358 : n0 ≤ T358.heap.size := Nat.le_trans Z357 K358.1
      have O358 : Old Z n0 T358.heap := O357.keep K358 (allS g_b357 all0)
      refine own_jumpH (g' := (mkF m 48 #[iv p1, iv p2, iv p3, iv (p3 &&& 3), iv (own_u p3 2 3), iv 0, iv 1, .unset, .unset, .unset] [(.ref b357)])) st358 ?_
      refine own_stH _ (own_astore 50 #[iv p1, iv p2, iv p3, iv (p3 &&& 3), iv (own_u p3 2 3), iv 0, iv 1, rv b357, .unset, .unset] X358 hx hby at_48) ?_
      have Ps := own_CPS0 (own_tv (own_ch p1) (own_ch (own_sh p1 8))) (own_td (own_ch p2)) P358
      refine own_stH _ (own_iload 52 X358 hx hby at_50) ?_
      refine own_stH _ (own_ifYes 65 X358 hx hby at_52 ((if0 _ _).trans (teq (by decide : (0 : Int32) = (0 : Int32))).1)) ?_
      refine own_stH _ (own_aload 67 X358 hx hby at_65) ?_
      refine own_stH _ (own_iloadN 68 X358 hx hby at_67) ?_
      refine own_stH _ (own_iloadN 69 X358 hx hby at_68) ?_
      obtain ⟨_, _, ⟨T359, L359, k359, n359⟩, -, X359, S359, G359, ⟨Lc359, hQ359, l359, y359, z359, C359⟩, st359⟩ := callSS X358 hx (y := mn_41) hown (mvT hZ (hw_37 hw)) (mvT hZ (hw_38 hw)) (mvT hZ (hw_39 hw)) (mvT hZ (hw_40 hw)) (by decide) (backOfSH (s := s) (vm0 := s.vm) (W := 0) (own_rm6 l Z a0 hw [] b357 (p3 &&& 3) p1 0 (own_td (own_ch p2)) wc wD kD T358.heap n0 Z358 O358 SS hEL (by omega) Ps) hZ (hw_40 hw) (hw_39 hw) (by decide) (by decide) hEL CR358.1) (g := (mkF m 69 #[iv p1, iv p2, iv p3, iv (p3 &&& 3), iv (own_u p3 2 3), iv 0, iv 1, rv b357, .unset, .unset] [(.int p1), (.int (p3 &&& 3)), (.ref b357)])) rfl (by rw [hml]; rfl) (argsL := [(.ref b357), (.int (p3 &&& 3)), (.int p1)]) (rest := []) (lenOf pd_33 rfl) rfl own_z0 (hb hby at_69) (fun _ _ => ⟨rfl, rfl, (by decide : 3 + 22 ≤ _), (by decide : 8 + 120 ≤ _)⟩)
      dsimp only [Pt.U, Pt.locs, Pt.cells, Pt.slots] at X359 l359 y359 z359 st359 hQ359 S359 G359 C359
      subst l359 y359 z359
      obtain ⟨X359, S359, hZ, hown⟩ := rebS S0 kz358 X359 S359 (show T358.heap.size ≤ T359.heap.size from G359) hZ hown
      have CR359 := CR358.trans C359
      have gr359 : T358.heap.size ≤ T359.heap.size := C359.2.1
      obtain ⟨j359, rfl, Nq359, O359, P359, hj359⟩ := hQ359
      have N359 := Fr.app N358 Nq359
      have Z359 : n0 ≤ T359.heap.size := Nat.le_trans Z358 gr359
      refine own_jumpH (g' := (mkF m 72 #[iv p1, iv p2, iv p3, iv (p3 &&& 3), iv (own_u p3 2 3), iv 0, iv 1, rv b357, .unset, .unset] [])) st359 ?_
      refine own_stH _ (own_iload 74 X359 hx hby at_72) ?_
      refine own_stH _ (own_ifNo 77 X359 hx hby at_74 ((if0 _ _).trans (teq (by decide : (0 : Int32) = (0 : Int32))).2)) ?_
      refine own_stH _ (own_aload 79 X359 hx hby at_77) ?_
      refine own_stH _ (own_iload 81 X359 hx hby at_79) ?_
      refine own_stH _ (own_iload 83 X359 hx hby at_81) ?_
      refine own_stH _ (own_iloadN 84 X359 hx hby at_83) ?_
      obtain ⟨_, _, ⟨T360, L360, k360, n360⟩, -, X360, S360, G360, ⟨Lc360, hQ360, l360, y360, z360, C360⟩, st360⟩ := callSS X359 hx (y := mn_42) hown (mvT hZ (hw_217 hw)) (mvT hZ (hw_218 hw)) (mvT hZ (hw_39 hw)) (mvT hZ (hw_219 hw)) (by decide) (backOfSH (s := s) (vm0 := T359.vm) (W := 0) (own_rm38_1 l Z a0 hw [] b357 (((p3.toUInt32 >>> ((2 : Int32) &&& 31).toUInt32).toInt32) &&& 3) p2 j359 (own_tv (own_ch p1) (own_ch (own_sh p1 8))) wc wD kD T359.heap n0 Z359 O359 SS hEL (by omega) P359) hZ (hw_219 hw) (hw_39 hw) (by decide) (by decide) hEL CR359.1) (g := (mkF m 84 #[iv p1, iv p2, iv p3, iv (p3 &&& 3), iv (own_u p3 2 3), iv 0, iv 1, rv b357, .unset, .unset] [(.int p2), (.int 1), (.int (((p3.toUInt32 >>> ((2 : Int32) &&& 31).toUInt32).toInt32) &&& 3)), (.ref b357)])) rfl (by rw [hml]; rfl) (argsL := [(.ref b357), (.int (((p3.toUInt32 >>> ((2 : Int32) &&& 31).toUInt32).toInt32) &&& 3)), (.int 1), (.int p2)]) (rest := []) (lenOf pd_34 rfl) rfl own_z0 (hb hby at_84) (fun _ _ => ⟨rfl, rfl, (by decide : 25 + 23 ≤ _), (by decide : 128 + 237 ≤ _)⟩)
      dsimp only [Pt.U, Pt.locs, Pt.cells, Pt.slots] at X360 l360 y360 z360 st360 hQ360 S360 G360 C360
      subst l360 y360 z360
      obtain ⟨X360, S360, hZ, hown⟩ := rebS S359 (Nat.le_refl T359.heap.size) X360 S360 (show T359.heap.size ≤ T360.heap.size from G360) hZ hown
      have CR360 := CR359.trans C360
      have gr360 : T359.heap.size ≤ T360.heap.size := C360.2.1
      obtain ⟨j360, rfl, Nq360, O360, P360, hj360⟩ := hQ360
      have N360 := Fr.app N359 Nq360
      have Z360 : n0 ≤ T360.heap.size := Nat.le_trans Z359 gr360
      refine own_jumpH (g' := (mkF m 87 #[iv p1, iv p2, iv p3, iv (p3 &&& 3), iv (own_u p3 2 3), iv 0, iv 1, rv b357, .unset, .unset] [])) st360 ?_
      obtain ⟨al1, dd1, al2, dd2, f1, f2, s1, b1, s2, b2, gp, Ep, Fvi, Fun, A1, A2, -, -, -, -, -, -, -, -, Y1, Y2, -⟩ := id P360
      have Ea1 := A1.2.2.1
      have Ea2 := A2.2.2.1
      have Fs1 := A1.2.2.2.1
      have Fs2 := A2.2.2.2.1
      rcases hj359 with ⟨hv1, jz1⟩ | ⟨hv1, ja1, jb1⟩
      · rcases hj360 with ⟨hv2, jz2⟩ | ⟨hv2, ja2, jb2⟩
        · refine own_stH _ (own_aload 89 X360 hx hby at_87) ?_
          obtain ⟨cq361, kq361, q361a, q361b, q361c⟩ := isOf hZ rfl Ep
          obtain ⟨_, _, ⟨T361, L361, k361, n361⟩, -, X361, ⟨Lc361, hQ361, l361, y361, z361⟩, st361⟩ := X360.virtualBack hx (y := mn_50) (z := mn_50) hown (mvT hZ (hw_220 hw)) (mvT hZ (hw_221 hw)) (notFace_of_selects (args := #[]) (mvT hZ (hw_223 hw))) (mvT hZ (hw_223 hw)) (mvT hZ (hw_222 hw)) (by decide) (backOf (W := 0) (own_rm39_n l Z a0 hw [] b357 al1 al2 (Int32.ofNat j359) (Int32.ofNat j360) T360.heap n0 Z360 (own_ie1 jz1) (own_ie1 jz2) Ep Fvi Fun Ea1 Fs1 Ea2 Fs2) hZ (hw_224 hw) (hw_2 hw) (by decide) (by decide)) q361a q361c (g := (mkF m 89 #[iv p1, iv p2, iv p3, iv (p3 &&& 3), iv (own_u p3 2 3), iv 0, iv 1, rv b357, .unset, .unset] [(.ref b357)])) rfl (by rw [hml]; rfl) (Steps.refl _) (argsL := []) (rest := []) (lenOf pd_25 rfl) rfl own_z0 (hb hby at_89) (fun _ _ => ⟨rfl, rfl, (by decide : 48 + 0 ≤ _), (by decide : 365 + 0 ≤ _)⟩)
          dsimp only [Pt.U, Pt.locs, Pt.cells, Pt.slots] at X361 l361 y361 z361 st361 hQ361
          subst l361 y361 z361
          obtain ⟨rfl, Nq361, e361⟩ := hQ361
          have N361 := Fr.app N360 Nq361
          refine own_jumpH (g' := (mkF m 92 #[iv p1, iv p2, iv p3, iv (p3 &&& 3), iv (own_u p3 2 3), iv 0, iv 1, rv b357, .unset, .unset] [.null])) st361 ?_
          refine own_stH _ (own_astore 94 #[iv p1, iv p2, iv p3, iv (p3 &&& 3), iv (own_u p3 2 3), iv 0, iv 1, rv b357, .val .null, .unset] X361 hx hby at_92) ?_
          refine own_stH _ (own_iloadN 95 X361 hx hby at_94) ?_
          refine own_stH _ (own_iconst 96 1 X361 hx hby at_95) ?_
          refine own_stH _ (own_icmpYes 122 X361 hx hby at_96 ((tlt hv1).1)) ?_
          refine own_stH _ (own_iload 124 X361 hx hby at_122) ?_
          refine own_stH _ (own_iconst 125 1 X361 hx hby at_124) ?_
          refine own_stH _ (own_icmpYes 170 X361 hx hby at_125 ((tlt hv2).1)) ?_
          refine own_stH _ (own_aconstNull 171 X361 hx hby at_170) ?_
          refine own_stH _ (own_astore 173 #[iv p1, iv p2, iv p3, iv (p3 &&& 3), iv (own_u p3 2 3), iv 0, iv 1, rv b357, .val .null, .val .null] X361 hx hby at_171) ?_
          refine own_stH _ (own_aload 175 X361 hx hby at_173) ?_
          refine own_stH (mkF m 178 #[iv p1, iv p2, iv p3, iv (p3 &&& 3), iv (own_u p3 2 3), iv 0, iv 1, rv b357, .val .null, .val .null] []) (fun t k => XS.ifnonnullNo X361.here hx rfl (hb hby at_175) rfl k) ?_
          refine own_stH _ (own_aload 180 X361 hx hby at_178) ?_
          refine own_stH (mkF m 183 #[iv p1, iv p2, iv p3, iv (p3 &&& 3), iv (own_u p3 2 3), iv 0, iv 1, rv b357, .val .null, .val .null] []) (fun t k => XS.ifnonnullNo X361.here hx rfl (hb hby at_180) rfl k) ?_
          refine own_stH _ (own_iconst 184 1 X361 hx hby at_183) ?_
          refine own_stH _ (own_goto 188 X361 hx hby at_184) ?_
          refine own_retH X361 hlk S360 (own_leE e361 (Nat.le_refl T360.heap.size)) (v := some (.int 1)) (fun h => by rw [hret] at h; cases h) (fun fs hr => retN X361 hx (t := .boolean) hret (by simp) (hb hby at_188) hr) ?_ (own_CHend hs0 e361 CR360 (CHv.at X361 hZ hEL CR360.1)) (by decide) (by decide)
          show own_Q0 Z p1 p2 p3 wc wD kD h0 n0 _ T361.heap _
          rw [e361]
          exact ⟨rfl, N361⟩
        · obtain ⟨Fe, kk, vs, Vd, hf0⟩ := own_ALpos A2 ja2
          obtain ⟨hfs, Es, Fsv, Fsc, kb, Vb⟩ := Y2.2.2 ja2
          have hf : vs.getD 0 .null = .ref s2 := hf0.trans hfs
          refine own_stH _ (own_aload 89 X360 hx hby at_87) ?_
          obtain ⟨cq362, kq362, q362a, q362b, q362c⟩ := isOf hZ rfl Ep
          obtain ⟨_, _, ⟨T362, L362, k362, n362⟩, -, X362, ⟨Lc362, hQ362, l362, y362, z362⟩, st362⟩ := X360.virtualBack hx (y := mn_50) (z := mn_50) hown (mvT hZ (hw_220 hw)) (mvT hZ (hw_221 hw)) (notFace_of_selects (args := #[]) (mvT hZ (hw_223 hw))) (mvT hZ (hw_223 hw)) (mvT hZ (hw_222 hw)) (by decide) (backOf (W := 0) (own_rm39_u l Z a0 hw [] b357 al1 al2 (Int32.ofNat j359) (Int32.ofNat j360) dd2 kk vs s2 T360.heap n0 Z360 (own_ie1 jz1) (own_ie0 ja2 jb2) hf (own_0lt ja2 jb2) Ep Fvi Fun Ea1 Fs1 Ea2 Fs2 Fe Vd Es) hZ (hw_224 hw) (hw_2 hw) (by decide) (by decide)) q362a q362c (g := (mkF m 89 #[iv p1, iv p2, iv p3, iv (p3 &&& 3), iv (own_u p3 2 3), iv 0, iv 1, rv b357, .unset, .unset] [(.ref b357)])) rfl (by rw [hml]; rfl) (Steps.refl _) (argsL := []) (rest := []) (lenOf pd_25 rfl) rfl own_z0 (hb hby at_89) (fun _ _ => ⟨rfl, rfl, (by decide : 48 + 0 ≤ _), (by decide : 365 + 0 ≤ _)⟩)
          dsimp only [Pt.U, Pt.locs, Pt.cells, Pt.slots] at X362 l362 y362 z362 st362 hQ362
          subst l362 y362 z362
          obtain ⟨rfl, Nq362, e362⟩ := hQ362
          have N362 := Fr.app N360 Nq362
          refine own_jumpH (g' := (mkF m 92 #[iv p1, iv p2, iv p3, iv (p3 &&& 3), iv (own_u p3 2 3), iv 0, iv 1, rv b357, .unset, .unset] [(.ref s2)])) st362 ?_
          refine own_stH _ (own_astore 94 #[iv p1, iv p2, iv p3, iv (p3 &&& 3), iv (own_u p3 2 3), iv 0, iv 1, rv b357, rv s2, .unset] X362 hx hby at_92) ?_
          refine own_stH _ (own_iloadN 95 X362 hx hby at_94) ?_
          refine own_stH _ (own_iconst 96 1 X362 hx hby at_95) ?_
          refine own_stH _ (own_icmpYes 122 X362 hx hby at_96 ((tlt hv1).1)) ?_
          refine own_stH _ (own_iload 124 X362 hx hby at_122) ?_
          refine own_stH _ (own_iconst 125 1 X362 hx hby at_124) ?_
          refine own_stH _ (own_icmpNo 128 X362 hx hby at_125 ((flt hv2).1)) ?_
          refine own_stH _ (own_iload 130 X362 hx hby at_128) ?_
          refine own_stH _ (own_ifNo 133 X362 hx hby at_130 ((if0 _ _).trans (feq (by decide : ¬ ((1 : Int32) = (0 : Int32)))).1)) ?_
          refine own_stH _ (own_iloadN 134 X362 hx hby at_133) ?_
          refine own_stH _ (own_sipush 137 255 X362 hx hby at_134) ?_
          refine own_stH _ (own_iand 138 X362 hx hby at_137) ?_
          refine own_stH _ (own_i2c 139 X362 hx hby at_138) ?_
          rw [show ((p2 &&& 255).toUInt32.toUInt16.toUInt32.toInt32) = own_ch p2 from rfl]
          obtain ⟨_, _, ⟨T363, L363, k363, n363⟩, -, X363, ⟨Lc363, hQ363, l363, y363, z363⟩, st363⟩ := Jvm.LawKit.callS X362 hx (y := mn_54) hown (mvT hZ (hw_315 hw)) (mvT hZ (hw_316 hw)) (mvT hZ (hw_39 hw)) (mvT hZ (hw_317 hw)) (by decide) (backOf (W := 0) (own_rm59 l Z a0 hw [] (own_ch p2) wc wD kD T360.heap n0 Z360 O360 SS (own_chok p2)) hZ (hw_317 hw) (hw_39 hw) (by decide) (by decide)) (g := (mkF m 139 #[iv p1, iv p2, iv p3, iv (p3 &&& 3), iv (own_u p3 2 3), iv 0, iv 1, rv b357, rv s2, .unset] [(.int (own_ch p2))])) rfl (by rw [hml]; rfl) (argsL := [(.int (own_ch p2))]) (rest := []) (lenOf pd_28 rfl) rfl own_z0 (hb hby at_139) (fun _ _ => ⟨rfl, e362, (by decide : 48 + 3 ≤ _), (by decide : 365 + 44 ≤ _)⟩)
          dsimp only [Pt.U, Pt.locs, Pt.cells, Pt.slots] at X363 l363 y363 z363 st363 hQ363
          subst l363 y363 z363
          obtain ⟨sa363, ba363, kb363, rfl, Nq363, K363, ga363, gb363, ne363, Ex363, Fv363, Fc363, V363⟩ := hQ363
          have N363 := Fr.app N362 Nq363
          have C363 : CHr Z own_EL T360.vm T360.heap T360.vm T363.heap := CHr.keep K363 sf0 CR360.1
          have CR363 := CR360.trans C363
          have kz363 : _ ≤ T363.heap.size := Nat.le_trans (Nat.le_refl T360.heap.size) K363.1
          have O363 : Old Z n0 T363.heap := O360.keep K363 all0
          have u11 := Es.keep K363
          have u12 := Fsv.keep K363 nin0
          have u13 := Fsc.keep K363 nin0
          have u14 := Vb.keep K363 nin0
          refine own_stepH (g' := (mkF m 142 #[iv p1, iv p2, iv p3, iv (p3 &&& 3), iv (own_u p3 2 3), iv 0, iv 1, rv b357, rv s2, .unset] [(.ref sa363)])) st363 ?_
          refine own_stH _ (own_astore 144 #[iv p1, iv p2, iv p3, iv (p3 &&& 3), iv (own_u p3 2 3), iv 0, iv 1, rv b357, rv s2, rv sa363] X363 hx hby at_142) ?_
          refine own_stH _ (own_goto 173 X363 hx hby at_144) ?_
          refine own_stH _ (own_aload 175 X363 hx hby at_173) ?_
          refine own_stH _ (own_ifnonnullYes 189 X363 hx hby at_175) ?_
          refine own_stH _ (own_aload 191 X363 hx hby at_189) ?_
          refine own_stH _ (own_aload 193 X363 hx hby at_191) ?_
          obtain ⟨cq364, kq364, q364a, q364b, q364c⟩ := isOf hZ rfl Ex363
          obtain ⟨_, _, ⟨T364, L364, k364, n364⟩, -, X364, ⟨Lc364, hQ364, l364, y364, z364⟩, st364⟩ := X363.virtualBack hx (y := mn_55) (z := mn_55) hown (mvT hZ (hw_280 hw)) (mvT hZ (hw_281 hw)) (notFace_of_selects (args := #[]) (mvT hZ (hw_283 hw))) (mvT hZ (hw_283 hw)) (mvT hZ (hw_282 hw)) (by decide) (StrChars.Road.eqW (W := 0) hZ (own_heq hw) (kI := 4) (hw_51 hw) Ex363 Fv363 Fc363 V363 (own_cod20 (own_chok p2)) (own_hb20 (own_chok p2)) (Nat.le_of_ble_eq_true rfl) u11 u12 u13 u14 (own_cod20 (own_chok p2)) (own_hb20 (own_chok p2)) (Nat.le_of_ble_eq_true rfl) (S_wc.ext O363.2) hwc (by decide) (by decide)) q364a q364c (g := (mkF m 193 #[iv p1, iv p2, iv p3, iv (p3 &&& 3), iv (own_u p3 2 3), iv 0, iv 1, rv b357, rv s2, rv sa363] [(.ref s2), (.ref sa363)])) rfl (by rw [hml]; rfl) (Steps.refl _) (argsL := [(.ref s2)]) (rest := []) (lenOf pd_26 rfl) rfl own_z0 (hb hby at_193) (fun _ _ => ⟨rfl, rfl, (by decide : 51 + 0 ≤ _), (by decide : 409 + 0 ≤ _)⟩)
          dsimp only [Pt.U, Pt.locs, Pt.cells, Pt.slots] at X364 l364 y364 z364 st364 hQ364
          subst l364 y364 z364
          obtain ⟨hv364, rfl, e364⟩ := hQ364
          rcases hv364 with ⟨rfl, -⟩ | ⟨-, hv364⟩
          case inr => exact absurd rfl hv364
          have N364 := Fr.app N363 (Fr.nil n0)
          refine own_jumpH (g' := (mkF m 196 #[iv p1, iv p2, iv p3, iv (p3 &&& 3), iv (own_u p3 2 3), iv 0, iv 1, rv b357, rv s2, rv sa363] [(.int 1)])) st364 ?_
          refine own_retH X364 hlk S360 (own_leE e364 kz363) (v := some (.int 1)) (fun h => by rw [hret] at h; cases h) (fun fs hr => retN X364 hx (t := .boolean) hret (by simp) (hb hby at_196) hr) ?_ (own_CHend hs0 e364 CR363 (CHv.at X364 hZ hEL CR363.1)) (by decide) (by decide)
          show own_Q0 Z p1 p2 p3 wc wD kD h0 n0 _ T364.heap _
          rw [e364]
          exact ⟨rfl, N364⟩
      · obtain ⟨Fe, kk, vs, Vd, hf0⟩ := own_ALpos A1 ja1
        obtain ⟨hfs, Es, Fsv, Fsc, kb, Vb⟩ := Y1.2.2 ja1
        have hf : vs.getD 0 .null = .ref s1 := hf0.trans hfs
        refine own_stH _ (own_aload 89 X360 hx hby at_87) ?_
        obtain ⟨cq365, kq365, q365a, q365b, q365c⟩ := isOf hZ rfl Ep
        obtain ⟨_, _, ⟨T365, L365, k365, n365⟩, -, X365, ⟨Lc365, hQ365, l365, y365, z365⟩, st365⟩ := X360.virtualBack hx (y := mn_50) (z := mn_50) hown (mvT hZ (hw_220 hw)) (mvT hZ (hw_221 hw)) (notFace_of_selects (args := #[]) (mvT hZ (hw_223 hw))) (mvT hZ (hw_223 hw)) (mvT hZ (hw_222 hw)) (by decide) (backOf (W := 0) (own_rm39_v l Z a0 hw [] b357 al1 al2 (Int32.ofNat j359) dd1 kk vs s1 T360.heap n0 Z360 (own_ie0 ja1 jb1) hf (own_0lt ja1 jb1) Ep Fvi Fun Ea1 Fs1 Fe Vd Es) hZ (hw_224 hw) (hw_2 hw) (by decide) (by decide)) q365a q365c (g := (mkF m 89 #[iv p1, iv p2, iv p3, iv (p3 &&& 3), iv (own_u p3 2 3), iv 0, iv 1, rv b357, .unset, .unset] [(.ref b357)])) rfl (by rw [hml]; rfl) (Steps.refl _) (argsL := []) (rest := []) (lenOf pd_25 rfl) rfl own_z0 (hb hby at_89) (fun _ _ => ⟨rfl, rfl, (by decide : 48 + 0 ≤ _), (by decide : 365 + 0 ≤ _)⟩)
        dsimp only [Pt.U, Pt.locs, Pt.cells, Pt.slots] at X365 l365 y365 z365 st365 hQ365
        subst l365 y365 z365
        obtain ⟨rfl, Nq365, e365⟩ := hQ365
        have N365 := Fr.app N360 Nq365
        refine own_jumpH (g' := (mkF m 92 #[iv p1, iv p2, iv p3, iv (p3 &&& 3), iv (own_u p3 2 3), iv 0, iv 1, rv b357, .unset, .unset] [(.ref s1)])) st365 ?_
        refine own_stH _ (own_astore 94 #[iv p1, iv p2, iv p3, iv (p3 &&& 3), iv (own_u p3 2 3), iv 0, iv 1, rv b357, rv s1, .unset] X365 hx hby at_92) ?_
        refine own_stH _ (own_iloadN 95 X365 hx hby at_94) ?_
        refine own_stH _ (own_iconst 96 1 X365 hx hby at_95) ?_
        refine own_stH _ (own_icmpNo 99 X365 hx hby at_96 ((flt hv1).1)) ?_
        refine own_stH _ (own_iloadN 100 X365 hx hby at_99) ?_
        refine own_stH _ (own_sipush 103 255 X365 hx hby at_100) ?_
        refine own_stH _ (own_iand 104 X365 hx hby at_103) ?_
        refine own_stH _ (own_i2c 105 X365 hx hby at_104) ?_
        rw [show ((p1 &&& 255).toUInt32.toUInt16.toUInt32.toInt32) = own_ch p1 from rfl]
        refine own_stH _ (own_iloadN 106 X365 hx hby at_105) ?_
        refine own_stH _ (own_bipush 108 8 X365 hx hby at_106) ?_
        refine own_stH _ (own_iushr 109 X365 hx hby at_108) ?_
        rw [show ((p1.toUInt32 >>> ((8 : Int32) &&& 31).toUInt32).toInt32) = own_sh p1 8 from rfl]
        refine own_stH _ (own_sipush 112 255 X365 hx hby at_109) ?_
        refine own_stH _ (own_iand 113 X365 hx hby at_112) ?_
        refine own_stH _ (own_i2c 114 X365 hx hby at_113) ?_
        rw [show (((own_sh p1 8) &&& 255).toUInt32.toUInt16.toUInt32.toInt32) = own_ch (own_sh p1 8) from rfl]
        obtain ⟨_, _, ⟨T366, L366, k366, n366⟩, -, X366, ⟨Lc366, hQ366, l366, y366, z366⟩, st366⟩ := Jvm.LawKit.callS X365 hx (y := mn_52) hown (mvT hZ (hw_259 hw)) (mvT hZ (hw_260 hw)) (mvT hZ (hw_39 hw)) (mvT hZ (hw_261 hw)) (by decide) (backOf (W := 0) (own_rm46 l Z a0 hw [] (own_ch p1) (own_ch (own_sh p1 8)) wc wD kD T360.heap n0 Z360 O360 SS (own_chok p1) (own_chok (own_sh p1 8))) hZ (hw_261 hw) (hw_39 hw) (by decide) (by decide)) (g := (mkF m 114 #[iv p1, iv p2, iv p3, iv (p3 &&& 3), iv (own_u p3 2 3), iv 0, iv 1, rv b357, rv s1, .unset] [(.int (own_ch (own_sh p1 8))), (.int (own_ch p1))])) rfl (by rw [hml]; rfl) (argsL := [(.int (own_ch p1)), (.int (own_ch (own_sh p1 8)))]) (rest := []) (lenOf pd_35 rfl) rfl own_z0 (hb hby at_114) (fun _ _ => ⟨rfl, e365, (by decide : 48 + 3 ≤ _), (by decide : 365 + 12 ≤ _)⟩)
        dsimp only [Pt.U, Pt.locs, Pt.cells, Pt.slots] at X366 l366 y366 z366 st366 hQ366
        subst l366 y366 z366
        obtain ⟨sa366, ba366, kb366, rfl, Nq366, K366, ga366, gb366, ne366, Ex366, Fv366, Fc366, V366⟩ := hQ366
        have N366 := Fr.app N365 Nq366
        have C366 : CHr Z own_EL T360.vm T360.heap T360.vm T366.heap := CHr.keep K366 sf0 CR360.1
        have CR366 := CR360.trans C366
        have kz366 : _ ≤ T366.heap.size := Nat.le_trans (Nat.le_refl T360.heap.size) K366.1
        have O366 : Old Z n0 T366.heap := O360.keep K366 all0
        have u15 := Es.keep K366
        have u16 := Fsv.keep K366 nin0
        have u17 := Fsc.keep K366 nin0
        have u18 := Vb.keep K366 nin0
        refine own_stepH (g' := (mkF m 117 #[iv p1, iv p2, iv p3, iv (p3 &&& 3), iv (own_u p3 2 3), iv 0, iv 1, rv b357, rv s1, .unset] [(.ref sa366)])) st366 ?_
        refine own_stH _ (own_astore 119 #[iv p1, iv p2, iv p3, iv (p3 &&& 3), iv (own_u p3 2 3), iv 0, iv 1, rv b357, rv s1, rv sa366] X366 hx hby at_117) ?_
        refine own_stH _ (own_goto 173 X366 hx hby at_119) ?_
        refine own_stH _ (own_aload 175 X366 hx hby at_173) ?_
        refine own_stH _ (own_ifnonnullYes 189 X366 hx hby at_175) ?_
        refine own_stH _ (own_aload 191 X366 hx hby at_189) ?_
        refine own_stH _ (own_aload 193 X366 hx hby at_191) ?_
        obtain ⟨cq367, kq367, q367a, q367b, q367c⟩ := isOf hZ rfl Ex366
        obtain ⟨_, _, ⟨T367, L367, k367, n367⟩, -, X367, ⟨Lc367, hQ367, l367, y367, z367⟩, st367⟩ := X366.virtualBack hx (y := mn_55) (z := mn_55) hown (mvT hZ (hw_280 hw)) (mvT hZ (hw_281 hw)) (notFace_of_selects (args := #[]) (mvT hZ (hw_283 hw))) (mvT hZ (hw_283 hw)) (mvT hZ (hw_282 hw)) (by decide) (StrChars.Road.eqW (W := 0) hZ (own_heq hw) (kI := 4) (hw_51 hw) Ex366 Fv366 Fc366 V366 (own_cod4 (own_chok p1) (own_chok (own_sh p1 8))) (own_hb4 (own_chok p1) (own_chok (own_sh p1 8))) (Nat.le_of_ble_eq_true rfl) u15 u16 u17 u18 (own_cod4 (own_chok p1) (own_chok (own_sh p1 8))) (own_hb4 (own_chok p1) (own_chok (own_sh p1 8))) (Nat.le_of_ble_eq_true rfl) (S_wc.ext O366.2) hwc (by decide) (by decide)) q367a q367c (g := (mkF m 193 #[iv p1, iv p2, iv p3, iv (p3 &&& 3), iv (own_u p3 2 3), iv 0, iv 1, rv b357, rv s1, rv sa366] [(.ref s1), (.ref sa366)])) rfl (by rw [hml]; rfl) (Steps.refl _) (argsL := [(.ref s1)]) (rest := []) (lenOf pd_26 rfl) rfl own_z0 (hb hby at_193) (fun _ _ => ⟨rfl, rfl, (by decide : 51 + 0 ≤ _), (by decide : 377 + 0 ≤ _)⟩)
        dsimp only [Pt.U, Pt.locs, Pt.cells, Pt.slots] at X367 l367 y367 z367 st367 hQ367
        subst l367 y367 z367
        obtain ⟨hv367, rfl, e367⟩ := hQ367
        rcases hv367 with ⟨rfl, -⟩ | ⟨-, hv367⟩
        case inr => exact absurd rfl hv367
        have N367 := Fr.app N366 (Fr.nil n0)
        refine own_jumpH (g' := (mkF m 196 #[iv p1, iv p2, iv p3, iv (p3 &&& 3), iv (own_u p3 2 3), iv 0, iv 1, rv b357, rv s1, rv sa366] [(.int 1)])) st367 ?_
        refine own_retH X367 hlk S360 (own_leE e367 kz366) (v := some (.int 1)) (fun h => by rw [hret] at h; cases h) (fun fs hr => retN X367 hx (t := .boolean) hret (by simp) (hb hby at_196) hr) ?_ (own_CHend hs0 e367 CR366 (CHv.at X367 hZ hEL CR366.1)) (by decide) (by decide)
        show own_Q0 Z p1 p2 p3 wc wD kD h0 n0 _ T367.heap _
        rw [e367]
        exact ⟨rfl, N367⟩
  · refine own_stH _ (own_ifNo 19 X0 hx hby at_16 ((if0 _ _).trans (feq hc344).1)) ?_
    refine own_stH _ (own_iconst 20 1 X0 hx hby at_19) ?_
    refine own_stH _ (own_goto 24 X0 hx hby at_20) ?_
    refine own_stH _ (own_istore 26 #[iv p1, iv p2, iv p3, iv (p3 &&& 3), iv (own_u p3 2 3), iv 1, .unset, .unset, .unset, .unset] X0 hx hby at_24) ?_
    refine own_stH _ (own_iloadN 27 X0 hx hby at_26) ?_
    refine own_stH _ (own_iconst 28 5 X0 hx hby at_27) ?_
    refine own_stH _ (own_iushr 29 X0 hx hby at_28) ?_
    refine own_stH _ (own_iconst 30 1 X0 hx hby at_29) ?_
    refine own_stH _ (own_iand 31 X0 hx hby at_30) ?_
    by_cases hc368 : (((p3.toUInt32 >>> ((5 : Int32) &&& 31).toUInt32).toInt32) &&& 1) = (0 : Int32)
    · refine own_stH _ (own_ifYes 38 X0 hx hby at_31 ((if0 _ _).trans (teq hc368).1)) ?_
      refine own_stH _ (own_iconst 39 0 X0 hx hby at_38) ?_
      refine own_stH _ (own_istore 41 #[iv p1, iv p2, iv p3, iv (p3 &&& 3), iv (own_u p3 2 3), iv 1, iv 0, .unset, .unset, .unset] X0 hx hby at_39) ?_
      obtain ⟨T369, h369, X369, e369, E369, A369, D369, -, st369⟩ := newO X0 hx hZ hown (hw_0 hw) (hw_1 hw) (hw_2 hw) e0 (g := (mkF m 41 #[iv p1, iv p2, iv p3, iv (p3 &&& 3), iv (own_u p3 2 3), iv 1, iv 0, .unset, .unset, .unset] [])) rfl (hb hby at_41) (by decide) (by decide)
      obtain ⟨b369, g369⟩ : ∃ z, z = h0.size := ⟨_, rfl⟩
      rw [← g369] at A369 D369 st369
      have g_b369 : n0 ≤ b369 := Nat.le_trans Z0 (Nat.le_of_eq g369.symm)
      have Z369 : n0 ≤ h369.size := Nat.le_trans Z0 E369.1
      have C369 : CHr Z own_EL s.vm h0 s.vm h369 := CHr.ext E369 CR0.1
      have CR369 := CR0.trans C369
      have kz369 : _ ≤ h369.size := Nat.le_trans kz0 E369.1
      have O369 : Old Z n0 h369 := O0.ext E369
      have F_violations_b369 : Fld Z h369 b369 "com/example/shaper/shaper/core/ConfigProblems" "violations" "Ljava/util/List;" .null := D369 (Or.inr (hw_34 hw)) (ty := (.object "java/util/List")) (by decide)
      have F_unsupported_b369 : Fld Z h369 b369 "com/example/shaper/shaper/core/ConfigProblems" "unsupported" "Ljava/util/List;" .null := D369 (Or.inr (hw_36 hw)) (ty := (.object "java/util/List")) (by decide)
      refine own_stepH (g' := (mkF m 44 #[iv p1, iv p2, iv p3, iv (p3 &&& 3), iv (own_u p3 2 3), iv 1, iv 0, .unset, .unset, .unset] [(.ref b369)])) st369 ?_
      refine own_stH _ (own_dup 45 X369 hx hby at_44) ?_
      obtain ⟨_, _, ⟨T370, L370, k370, n370⟩, -, X370, ⟨Lc370, hQ370, l370, y370, z370⟩, st370⟩ := X369.specialBack hx (y := mn_32) rfl hown (mvT hZ (hw_3 hw)) (mvT hZ (hw_4 hw)) (mvT hZ (hw_5 hw)) (by decide) (backOf (W := 1) (own_rm1 l Z a0 hw [] b369 wc wD kD h369 n0 Z369 O369 SS A369 F_violations_b369 F_unsupported_b369 g_b369) hZ (hw_5 hw) (hw_2 hw) (by decide) (by decide)) (g := (mkF m 45 #[iv p1, iv p2, iv p3, iv (p3 &&& 3), iv (own_u p3 2 3), iv 1, iv 0, .unset, .unset, .unset] [(.ref b369), (.ref b369)])) rfl (by rw [hml]; rfl) (Steps.refl _) (a := b369) (argsL := []) (rest := [(.ref b369)]) (lenOf pd_20 rfl) rfl own_z0 (hb hby at_45) (fun _ _ => ⟨rfl, e369, (by decide : 1 + 2 ≤ _), (by decide : 2 + 6 ≤ _)⟩)
      dsimp only [Pt.U, Pt.locs, Pt.cells, Pt.slots] at X370 l370 y370 z370 st370 hQ370
      subst l370 y370 z370
      obtain ⟨rfl, Nq370, K370, P370⟩ := hQ370
      have N370 := Fr.app N0 Nq370
      have C370 : CHr Z own_EL s.vm h369 s.vm T370.heap := CHr.keep K370 (sfS (Safe.exa hZ.alike A369 (by decide) (by decide)) sf0) CR369.1
      have CR370 := CR369.trans C370
      have kz370 : _ ≤ T370.heap.size := Nat.le_trans kz369 K370.1
      have Z370 : n0 ≤ T370.heap.size := Nat.le_trans Z369 K370.1
      have O370 : Old Z n0 T370.heap := O369.keep K370 (allS g_b369 all0)
      refine own_jumpH (g' := (mkF m 48 #[iv p1, iv p2, iv p3, iv (p3 &&& 3), iv (own_u p3 2 3), iv 1, iv 0, .unset, .unset, .unset] [(.ref b369)])) st370 ?_
      refine own_stH _ (own_astore 50 #[iv p1, iv p2, iv p3, iv (p3 &&& 3), iv (own_u p3 2 3), iv 1, iv 0, rv b369, .unset, .unset] X370 hx hby at_48) ?_
      have Ps := own_CPS0 (own_tv (own_ch p1) (own_ch (own_sh p1 8))) (own_tv (own_ch p2) (own_ch (own_sh p2 8))) P370
      refine own_stH _ (own_iload 52 X370 hx hby at_50) ?_
      refine own_stH _ (own_ifNo 55 X370 hx hby at_52 ((if0 _ _).trans (feq (by decide : ¬ ((1 : Int32) = (0 : Int32)))).1)) ?_
      refine own_stH _ (own_aload 57 X370 hx hby at_55) ?_
      refine own_stH _ (own_iload 59 X370 hx hby at_57) ?_
      refine own_stH _ (own_iload 61 X370 hx hby at_59) ?_
      refine own_stH _ (own_iloadN 62 X370 hx hby at_61) ?_
      obtain ⟨_, _, ⟨T371, L371, k371, n371⟩, -, X371, S371, G371, ⟨Lc371, hQ371, l371, y371, z371, C371⟩, st371⟩ := callSS X370 hx (y := mn_42) hown (mvT hZ (hw_217 hw)) (mvT hZ (hw_218 hw)) (mvT hZ (hw_39 hw)) (mvT hZ (hw_219 hw)) (by decide) (backOfSH (s := s) (vm0 := s.vm) (W := 0) (own_rm38_0 l Z a0 hw [] b369 (((p3.toUInt32 >>> ((2 : Int32) &&& 31).toUInt32).toInt32) &&& 3) p2 0 (own_tv (own_ch p1) (own_ch (own_sh p1 8))) wc wD kD T370.heap n0 Z370 O370 SS hEL (by omega) Ps) hZ (hw_219 hw) (hw_39 hw) (by decide) (by decide) hEL CR370.1) (g := (mkF m 62 #[iv p1, iv p2, iv p3, iv (p3 &&& 3), iv (own_u p3 2 3), iv 1, iv 0, rv b369, .unset, .unset] [(.int p2), (.int 0), (.int (((p3.toUInt32 >>> ((2 : Int32) &&& 31).toUInt32).toInt32) &&& 3)), (.ref b369)])) rfl (by rw [hml]; rfl) (argsL := [(.ref b369), (.int (((p3.toUInt32 >>> ((2 : Int32) &&& 31).toUInt32).toInt32) &&& 3)), (.int 0), (.int p2)]) (rest := []) (lenOf pd_34 rfl) rfl own_z0 (hb hby at_62) (fun _ _ => ⟨rfl, rfl, (by decide : 3 + 22 ≤ _), (by decide : 8 + 120 ≤ _)⟩)
      dsimp only [Pt.U, Pt.locs, Pt.cells, Pt.slots] at X371 l371 y371 z371 st371 hQ371 S371 G371 C371
      subst l371 y371 z371
      obtain ⟨X371, S371, hZ, hown⟩ := rebS S0 kz370 X371 S371 (show T370.heap.size ≤ T371.heap.size from G371) hZ hown
      have CR371 := CR370.trans C371
      have gr371 : T370.heap.size ≤ T371.heap.size := C371.2.1
      obtain ⟨j371, rfl, Nq371, O371, P371, hj371⟩ := hQ371
      have N371 := Fr.app N370 Nq371
      have Z371 : n0 ≤ T371.heap.size := Nat.le_trans Z370 gr371
      refine own_jumpH (g' := (mkF m 65 #[iv p1, iv p2, iv p3, iv (p3 &&& 3), iv (own_u p3 2 3), iv 1, iv 0, rv b369, .unset, .unset] [])) st371 ?_
      refine own_stH _ (own_aload 67 X371 hx hby at_65) ?_
      refine own_stH _ (own_iloadN 68 X371 hx hby at_67) ?_
      refine own_stH _ (own_iloadN 69 X371 hx hby at_68) ?_
      obtain ⟨_, _, ⟨T372, L372, k372, n372⟩, -, X372, S372, G372, ⟨Lc372, hQ372, l372, y372, z372, C372⟩, st372⟩ := callSS X371 hx (y := mn_41) hown (mvT hZ (hw_37 hw)) (mvT hZ (hw_38 hw)) (mvT hZ (hw_39 hw)) (mvT hZ (hw_40 hw)) (by decide) (backOfSH (s := s) (vm0 := T371.vm) (W := 0) (own_rm6 l Z a0 hw [] b369 (p3 &&& 3) p1 j371 (own_tv (own_ch p2) (own_ch (own_sh p2 8))) wc wD kD T371.heap n0 Z371 O371 SS hEL (by omega) P371) hZ (hw_40 hw) (hw_39 hw) (by decide) (by decide) hEL CR371.1) (g := (mkF m 69 #[iv p1, iv p2, iv p3, iv (p3 &&& 3), iv (own_u p3 2 3), iv 1, iv 0, rv b369, .unset, .unset] [(.int p1), (.int (p3 &&& 3)), (.ref b369)])) rfl (by rw [hml]; rfl) (argsL := [(.ref b369), (.int (p3 &&& 3)), (.int p1)]) (rest := []) (lenOf pd_33 rfl) rfl own_z0 (hb hby at_69) (fun _ _ => ⟨rfl, rfl, (by decide : 25 + 22 ≤ _), (by decide : 128 + 120 ≤ _)⟩)
      dsimp only [Pt.U, Pt.locs, Pt.cells, Pt.slots] at X372 l372 y372 z372 st372 hQ372 S372 G372 C372
      subst l372 y372 z372
      obtain ⟨X372, S372, hZ, hown⟩ := rebS S371 (Nat.le_refl T371.heap.size) X372 S372 (show T371.heap.size ≤ T372.heap.size from G372) hZ hown
      have CR372 := CR371.trans C372
      have gr372 : T371.heap.size ≤ T372.heap.size := C372.2.1
      obtain ⟨j372, rfl, Nq372, O372, P372, hj372⟩ := hQ372
      have N372 := Fr.app N371 Nq372
      have Z372 : n0 ≤ T372.heap.size := Nat.le_trans Z371 gr372
      refine own_jumpH (g' := (mkF m 72 #[iv p1, iv p2, iv p3, iv (p3 &&& 3), iv (own_u p3 2 3), iv 1, iv 0, rv b369, .unset, .unset] [])) st372 ?_
      refine own_stH _ (own_iload 74 X372 hx hby at_72) ?_
      refine own_stH _ (own_ifYes 87 X372 hx hby at_74 ((if0 _ _).trans (feq (by decide : ¬ ((1 : Int32) = (0 : Int32)))).2)) ?_
      obtain ⟨al1, dd1, al2, dd2, f1, f2, s1, b1, s2, b2, gp, Ep, Fvi, Fun, A1, A2, -, -, -, -, -, -, -, -, Y1, Y2, -⟩ := id P372
      have Ea1 := A1.2.2.1
      have Ea2 := A2.2.2.1
      have Fs1 := A1.2.2.2.1
      have Fs2 := A2.2.2.2.1
      rcases hj372 with ⟨hv1, jz1⟩ | ⟨hv1, ja1, jb1⟩
      · rcases hj371 with ⟨hv2, jz2⟩ | ⟨hv2, ja2, jb2⟩
        · refine own_stH _ (own_aload 89 X372 hx hby at_87) ?_
          obtain ⟨cq373, kq373, q373a, q373b, q373c⟩ := isOf hZ rfl Ep
          obtain ⟨_, _, ⟨T373, L373, k373, n373⟩, -, X373, ⟨Lc373, hQ373, l373, y373, z373⟩, st373⟩ := X372.virtualBack hx (y := mn_50) (z := mn_50) hown (mvT hZ (hw_220 hw)) (mvT hZ (hw_221 hw)) (notFace_of_selects (args := #[]) (mvT hZ (hw_223 hw))) (mvT hZ (hw_223 hw)) (mvT hZ (hw_222 hw)) (by decide) (backOf (W := 0) (own_rm39_n l Z a0 hw [] b369 al1 al2 (Int32.ofNat j372) (Int32.ofNat j371) T372.heap n0 Z372 (own_ie1 jz1) (own_ie1 jz2) Ep Fvi Fun Ea1 Fs1 Ea2 Fs2) hZ (hw_224 hw) (hw_2 hw) (by decide) (by decide)) q373a q373c (g := (mkF m 89 #[iv p1, iv p2, iv p3, iv (p3 &&& 3), iv (own_u p3 2 3), iv 1, iv 0, rv b369, .unset, .unset] [(.ref b369)])) rfl (by rw [hml]; rfl) (Steps.refl _) (argsL := []) (rest := []) (lenOf pd_25 rfl) rfl own_z0 (hb hby at_89) (fun _ _ => ⟨rfl, rfl, (by decide : 47 + 0 ≤ _), (by decide : 248 + 0 ≤ _)⟩)
          dsimp only [Pt.U, Pt.locs, Pt.cells, Pt.slots] at X373 l373 y373 z373 st373 hQ373
          subst l373 y373 z373
          obtain ⟨rfl, Nq373, e373⟩ := hQ373
          have N373 := Fr.app N372 Nq373
          refine own_jumpH (g' := (mkF m 92 #[iv p1, iv p2, iv p3, iv (p3 &&& 3), iv (own_u p3 2 3), iv 1, iv 0, rv b369, .unset, .unset] [.null])) st373 ?_
          refine own_stH _ (own_astore 94 #[iv p1, iv p2, iv p3, iv (p3 &&& 3), iv (own_u p3 2 3), iv 1, iv 0, rv b369, .val .null, .unset] X373 hx hby at_92) ?_
          refine own_stH _ (own_iloadN 95 X373 hx hby at_94) ?_
          refine own_stH _ (own_iconst 96 1 X373 hx hby at_95) ?_
          refine own_stH _ (own_icmpYes 122 X373 hx hby at_96 ((tlt hv1).1)) ?_
          refine own_stH _ (own_iload 124 X373 hx hby at_122) ?_
          refine own_stH _ (own_iconst 125 1 X373 hx hby at_124) ?_
          refine own_stH _ (own_icmpYes 170 X373 hx hby at_125 ((tlt hv2).1)) ?_
          refine own_stH _ (own_aconstNull 171 X373 hx hby at_170) ?_
          refine own_stH _ (own_astore 173 #[iv p1, iv p2, iv p3, iv (p3 &&& 3), iv (own_u p3 2 3), iv 1, iv 0, rv b369, .val .null, .val .null] X373 hx hby at_171) ?_
          refine own_stH _ (own_aload 175 X373 hx hby at_173) ?_
          refine own_stH (mkF m 178 #[iv p1, iv p2, iv p3, iv (p3 &&& 3), iv (own_u p3 2 3), iv 1, iv 0, rv b369, .val .null, .val .null] []) (fun t k => XS.ifnonnullNo X373.here hx rfl (hb hby at_175) rfl k) ?_
          refine own_stH _ (own_aload 180 X373 hx hby at_178) ?_
          refine own_stH (mkF m 183 #[iv p1, iv p2, iv p3, iv (p3 &&& 3), iv (own_u p3 2 3), iv 1, iv 0, rv b369, .val .null, .val .null] []) (fun t k => XS.ifnonnullNo X373.here hx rfl (hb hby at_180) rfl k) ?_
          refine own_stH _ (own_iconst 184 1 X373 hx hby at_183) ?_
          refine own_stH _ (own_goto 188 X373 hx hby at_184) ?_
          refine own_retH X373 hlk S372 (own_leE e373 (Nat.le_refl T372.heap.size)) (v := some (.int 1)) (fun h => by rw [hret] at h; cases h) (fun fs hr => retN X373 hx (t := .boolean) hret (by simp) (hb hby at_188) hr) ?_ (own_CHend hs0 e373 CR372 (CHv.at X373 hZ hEL CR372.1)) (by decide) (by decide)
          show own_Q0 Z p1 p2 p3 wc wD kD h0 n0 _ T373.heap _
          rw [e373]
          exact ⟨rfl, N373⟩
        · obtain ⟨Fe, kk, vs, Vd, hf0⟩ := own_ALpos A2 ja2
          obtain ⟨hfs, Es, Fsv, Fsc, kb, Vb⟩ := Y2.2.2 ja2
          have hf : vs.getD 0 .null = .ref s2 := hf0.trans hfs
          refine own_stH _ (own_aload 89 X372 hx hby at_87) ?_
          obtain ⟨cq374, kq374, q374a, q374b, q374c⟩ := isOf hZ rfl Ep
          obtain ⟨_, _, ⟨T374, L374, k374, n374⟩, -, X374, ⟨Lc374, hQ374, l374, y374, z374⟩, st374⟩ := X372.virtualBack hx (y := mn_50) (z := mn_50) hown (mvT hZ (hw_220 hw)) (mvT hZ (hw_221 hw)) (notFace_of_selects (args := #[]) (mvT hZ (hw_223 hw))) (mvT hZ (hw_223 hw)) (mvT hZ (hw_222 hw)) (by decide) (backOf (W := 0) (own_rm39_u l Z a0 hw [] b369 al1 al2 (Int32.ofNat j372) (Int32.ofNat j371) dd2 kk vs s2 T372.heap n0 Z372 (own_ie1 jz1) (own_ie0 ja2 jb2) hf (own_0lt ja2 jb2) Ep Fvi Fun Ea1 Fs1 Ea2 Fs2 Fe Vd Es) hZ (hw_224 hw) (hw_2 hw) (by decide) (by decide)) q374a q374c (g := (mkF m 89 #[iv p1, iv p2, iv p3, iv (p3 &&& 3), iv (own_u p3 2 3), iv 1, iv 0, rv b369, .unset, .unset] [(.ref b369)])) rfl (by rw [hml]; rfl) (Steps.refl _) (argsL := []) (rest := []) (lenOf pd_25 rfl) rfl own_z0 (hb hby at_89) (fun _ _ => ⟨rfl, rfl, (by decide : 47 + 0 ≤ _), (by decide : 248 + 0 ≤ _)⟩)
          dsimp only [Pt.U, Pt.locs, Pt.cells, Pt.slots] at X374 l374 y374 z374 st374 hQ374
          subst l374 y374 z374
          obtain ⟨rfl, Nq374, e374⟩ := hQ374
          have N374 := Fr.app N372 Nq374
          refine own_jumpH (g' := (mkF m 92 #[iv p1, iv p2, iv p3, iv (p3 &&& 3), iv (own_u p3 2 3), iv 1, iv 0, rv b369, .unset, .unset] [(.ref s2)])) st374 ?_
          refine own_stH _ (own_astore 94 #[iv p1, iv p2, iv p3, iv (p3 &&& 3), iv (own_u p3 2 3), iv 1, iv 0, rv b369, rv s2, .unset] X374 hx hby at_92) ?_
          refine own_stH _ (own_iloadN 95 X374 hx hby at_94) ?_
          refine own_stH _ (own_iconst 96 1 X374 hx hby at_95) ?_
          refine own_stH _ (own_icmpYes 122 X374 hx hby at_96 ((tlt hv1).1)) ?_
          refine own_stH _ (own_iload 124 X374 hx hby at_122) ?_
          refine own_stH _ (own_iconst 125 1 X374 hx hby at_124) ?_
          refine own_stH _ (own_icmpNo 128 X374 hx hby at_125 ((flt hv2).1)) ?_
          refine own_stH _ (own_iload 130 X374 hx hby at_128) ?_
          refine own_stH _ (own_ifYes 147 X374 hx hby at_130 ((if0 _ _).trans (teq (by decide : (0 : Int32) = (0 : Int32))).1)) ?_
          refine own_stH _ (own_iloadN 148 X374 hx hby at_147) ?_
          refine own_stH _ (own_sipush 151 255 X374 hx hby at_148) ?_
          refine own_stH _ (own_iand 152 X374 hx hby at_151) ?_
          refine own_stH _ (own_i2c 153 X374 hx hby at_152) ?_
          rw [show ((p2 &&& 255).toUInt32.toUInt16.toUInt32.toInt32) = own_ch p2 from rfl]
          refine own_stH _ (own_iloadN 154 X374 hx hby at_153) ?_
          refine own_stH _ (own_bipush 156 8 X374 hx hby at_154) ?_
          refine own_stH _ (own_iushr 157 X374 hx hby at_156) ?_
          rw [show ((p2.toUInt32 >>> ((8 : Int32) &&& 31).toUInt32).toInt32) = own_sh p2 8 from rfl]
          refine own_stH _ (own_sipush 160 255 X374 hx hby at_157) ?_
          refine own_stH _ (own_iand 161 X374 hx hby at_160) ?_
          refine own_stH _ (own_i2c 162 X374 hx hby at_161) ?_
          rw [show (((own_sh p2 8) &&& 255).toUInt32.toUInt16.toUInt32.toInt32) = own_ch (own_sh p2 8) from rfl]
          obtain ⟨_, _, ⟨T375, L375, k375, n375⟩, -, X375, ⟨Lc375, hQ375, l375, y375, z375⟩, st375⟩ := Jvm.LawKit.callS X374 hx (y := mn_52) hown (mvT hZ (hw_259 hw)) (mvT hZ (hw_260 hw)) (mvT hZ (hw_39 hw)) (mvT hZ (hw_261 hw)) (by decide) (backOf (W := 0) (own_rm46 l Z a0 hw [] (own_ch p2) (own_ch (own_sh p2 8)) wc wD kD T372.heap n0 Z372 O372 SS (own_chok p2) (own_chok (own_sh p2 8))) hZ (hw_261 hw) (hw_39 hw) (by decide) (by decide)) (g := (mkF m 162 #[iv p1, iv p2, iv p3, iv (p3 &&& 3), iv (own_u p3 2 3), iv 1, iv 0, rv b369, rv s2, .unset] [(.int (own_ch (own_sh p2 8))), (.int (own_ch p2))])) rfl (by rw [hml]; rfl) (argsL := [(.int (own_ch p2)), (.int (own_ch (own_sh p2 8)))]) (rest := []) (lenOf pd_35 rfl) rfl own_z0 (hb hby at_162) (fun _ _ => ⟨rfl, e374, (by decide : 47 + 3 ≤ _), (by decide : 248 + 12 ≤ _)⟩)
          dsimp only [Pt.U, Pt.locs, Pt.cells, Pt.slots] at X375 l375 y375 z375 st375 hQ375
          subst l375 y375 z375
          obtain ⟨sa375, ba375, kb375, rfl, Nq375, K375, ga375, gb375, ne375, Ex375, Fv375, Fc375, V375⟩ := hQ375
          have N375 := Fr.app N374 Nq375
          have C375 : CHr Z own_EL T372.vm T372.heap T372.vm T375.heap := CHr.keep K375 sf0 CR372.1
          have CR375 := CR372.trans C375
          have kz375 : _ ≤ T375.heap.size := Nat.le_trans (Nat.le_refl T372.heap.size) K375.1
          have O375 : Old Z n0 T375.heap := O372.keep K375 all0
          have u20 := Es.keep K375
          have u21 := Fsv.keep K375 nin0
          have u22 := Fsc.keep K375 nin0
          have u23 := Vb.keep K375 nin0
          refine own_stepH (g' := (mkF m 165 #[iv p1, iv p2, iv p3, iv (p3 &&& 3), iv (own_u p3 2 3), iv 1, iv 0, rv b369, rv s2, .unset] [(.ref sa375)])) st375 ?_
          refine own_stH _ (own_astore 167 #[iv p1, iv p2, iv p3, iv (p3 &&& 3), iv (own_u p3 2 3), iv 1, iv 0, rv b369, rv s2, rv sa375] X375 hx hby at_165) ?_
          refine own_stH _ (own_goto 173 X375 hx hby at_167) ?_
          refine own_stH _ (own_aload 175 X375 hx hby at_173) ?_
          refine own_stH _ (own_ifnonnullYes 189 X375 hx hby at_175) ?_
          refine own_stH _ (own_aload 191 X375 hx hby at_189) ?_
          refine own_stH _ (own_aload 193 X375 hx hby at_191) ?_
          obtain ⟨cq376, kq376, q376a, q376b, q376c⟩ := isOf hZ rfl Ex375
          obtain ⟨_, _, ⟨T376, L376, k376, n376⟩, -, X376, ⟨Lc376, hQ376, l376, y376, z376⟩, st376⟩ := X375.virtualBack hx (y := mn_55) (z := mn_55) hown (mvT hZ (hw_280 hw)) (mvT hZ (hw_281 hw)) (notFace_of_selects (args := #[]) (mvT hZ (hw_283 hw))) (mvT hZ (hw_283 hw)) (mvT hZ (hw_282 hw)) (by decide) (StrChars.Road.eqW (W := 0) hZ (own_heq hw) (kI := 4) (hw_51 hw) Ex375 Fv375 Fc375 V375 (own_cod4 (own_chok p2) (own_chok (own_sh p2 8))) (own_hb4 (own_chok p2) (own_chok (own_sh p2 8))) (Nat.le_of_ble_eq_true rfl) u20 u21 u22 u23 (own_cod4 (own_chok p2) (own_chok (own_sh p2 8))) (own_hb4 (own_chok p2) (own_chok (own_sh p2 8))) (Nat.le_of_ble_eq_true rfl) (S_wc.ext O375.2) hwc (by decide) (by decide)) q376a q376c (g := (mkF m 193 #[iv p1, iv p2, iv p3, iv (p3 &&& 3), iv (own_u p3 2 3), iv 1, iv 0, rv b369, rv s2, rv sa375] [(.ref s2), (.ref sa375)])) rfl (by rw [hml]; rfl) (Steps.refl _) (argsL := [(.ref s2)]) (rest := []) (lenOf pd_26 rfl) rfl own_z0 (hb hby at_193) (fun _ _ => ⟨rfl, rfl, (by decide : 50 + 0 ≤ _), (by decide : 260 + 0 ≤ _)⟩)
          dsimp only [Pt.U, Pt.locs, Pt.cells, Pt.slots] at X376 l376 y376 z376 st376 hQ376
          subst l376 y376 z376
          obtain ⟨hv376, rfl, e376⟩ := hQ376
          rcases hv376 with ⟨rfl, -⟩ | ⟨-, hv376⟩
          case inr => exact absurd rfl hv376
          have N376 := Fr.app N375 (Fr.nil n0)
          refine own_jumpH (g' := (mkF m 196 #[iv p1, iv p2, iv p3, iv (p3 &&& 3), iv (own_u p3 2 3), iv 1, iv 0, rv b369, rv s2, rv sa375] [(.int 1)])) st376 ?_
          refine own_retH X376 hlk S372 (own_leE e376 kz375) (v := some (.int 1)) (fun h => by rw [hret] at h; cases h) (fun fs hr => retN X376 hx (t := .boolean) hret (by simp) (hb hby at_196) hr) ?_ (own_CHend hs0 e376 CR375 (CHv.at X376 hZ hEL CR375.1)) (by decide) (by decide)
          show own_Q0 Z p1 p2 p3 wc wD kD h0 n0 _ T376.heap _
          rw [e376]
          exact ⟨rfl, N376⟩
      · obtain ⟨Fe, kk, vs, Vd, hf0⟩ := own_ALpos A1 ja1
        obtain ⟨hfs, Es, Fsv, Fsc, kb, Vb⟩ := Y1.2.2 ja1
        have hf : vs.getD 0 .null = .ref s1 := hf0.trans hfs
        refine own_stH _ (own_aload 89 X372 hx hby at_87) ?_
        obtain ⟨cq377, kq377, q377a, q377b, q377c⟩ := isOf hZ rfl Ep
        obtain ⟨_, _, ⟨T377, L377, k377, n377⟩, -, X377, ⟨Lc377, hQ377, l377, y377, z377⟩, st377⟩ := X372.virtualBack hx (y := mn_50) (z := mn_50) hown (mvT hZ (hw_220 hw)) (mvT hZ (hw_221 hw)) (notFace_of_selects (args := #[]) (mvT hZ (hw_223 hw))) (mvT hZ (hw_223 hw)) (mvT hZ (hw_222 hw)) (by decide) (backOf (W := 0) (own_rm39_v l Z a0 hw [] b369 al1 al2 (Int32.ofNat j372) dd1 kk vs s1 T372.heap n0 Z372 (own_ie0 ja1 jb1) hf (own_0lt ja1 jb1) Ep Fvi Fun Ea1 Fs1 Fe Vd Es) hZ (hw_224 hw) (hw_2 hw) (by decide) (by decide)) q377a q377c (g := (mkF m 89 #[iv p1, iv p2, iv p3, iv (p3 &&& 3), iv (own_u p3 2 3), iv 1, iv 0, rv b369, .unset, .unset] [(.ref b369)])) rfl (by rw [hml]; rfl) (Steps.refl _) (argsL := []) (rest := []) (lenOf pd_25 rfl) rfl own_z0 (hb hby at_89) (fun _ _ => ⟨rfl, rfl, (by decide : 47 + 0 ≤ _), (by decide : 248 + 0 ≤ _)⟩)
        dsimp only [Pt.U, Pt.locs, Pt.cells, Pt.slots] at X377 l377 y377 z377 st377 hQ377
        subst l377 y377 z377
        obtain ⟨rfl, Nq377, e377⟩ := hQ377
        have N377 := Fr.app N372 Nq377
        refine own_jumpH (g' := (mkF m 92 #[iv p1, iv p2, iv p3, iv (p3 &&& 3), iv (own_u p3 2 3), iv 1, iv 0, rv b369, .unset, .unset] [(.ref s1)])) st377 ?_
        refine own_stH _ (own_astore 94 #[iv p1, iv p2, iv p3, iv (p3 &&& 3), iv (own_u p3 2 3), iv 1, iv 0, rv b369, rv s1, .unset] X377 hx hby at_92) ?_
        refine own_stH _ (own_iloadN 95 X377 hx hby at_94) ?_
        refine own_stH _ (own_iconst 96 1 X377 hx hby at_95) ?_
        refine own_stH _ (own_icmpNo 99 X377 hx hby at_96 ((flt hv1).1)) ?_
        refine own_stH _ (own_iloadN 100 X377 hx hby at_99) ?_
        refine own_stH _ (own_sipush 103 255 X377 hx hby at_100) ?_
        refine own_stH _ (own_iand 104 X377 hx hby at_103) ?_
        refine own_stH _ (own_i2c 105 X377 hx hby at_104) ?_
        rw [show ((p1 &&& 255).toUInt32.toUInt16.toUInt32.toInt32) = own_ch p1 from rfl]
        refine own_stH _ (own_iloadN 106 X377 hx hby at_105) ?_
        refine own_stH _ (own_bipush 108 8 X377 hx hby at_106) ?_
        refine own_stH _ (own_iushr 109 X377 hx hby at_108) ?_
        rw [show ((p1.toUInt32 >>> ((8 : Int32) &&& 31).toUInt32).toInt32) = own_sh p1 8 from rfl]
        refine own_stH _ (own_sipush 112 255 X377 hx hby at_109) ?_
        refine own_stH _ (own_iand 113 X377 hx hby at_112) ?_
        refine own_stH _ (own_i2c 114 X377 hx hby at_113) ?_
        rw [show (((own_sh p1 8) &&& 255).toUInt32.toUInt16.toUInt32.toInt32) = own_ch (own_sh p1 8) from rfl]
        obtain ⟨_, _, ⟨T378, L378, k378, n378⟩, -, X378, ⟨Lc378, hQ378, l378, y378, z378⟩, st378⟩ := Jvm.LawKit.callS X377 hx (y := mn_52) hown (mvT hZ (hw_259 hw)) (mvT hZ (hw_260 hw)) (mvT hZ (hw_39 hw)) (mvT hZ (hw_261 hw)) (by decide) (backOf (W := 0) (own_rm46 l Z a0 hw [] (own_ch p1) (own_ch (own_sh p1 8)) wc wD kD T372.heap n0 Z372 O372 SS (own_chok p1) (own_chok (own_sh p1 8))) hZ (hw_261 hw) (hw_39 hw) (by decide) (by decide)) (g := (mkF m 114 #[iv p1, iv p2, iv p3, iv (p3 &&& 3), iv (own_u p3 2 3), iv 1, iv 0, rv b369, rv s1, .unset] [(.int (own_ch (own_sh p1 8))), (.int (own_ch p1))])) rfl (by rw [hml]; rfl) (argsL := [(.int (own_ch p1)), (.int (own_ch (own_sh p1 8)))]) (rest := []) (lenOf pd_35 rfl) rfl own_z0 (hb hby at_114) (fun _ _ => ⟨rfl, e377, (by decide : 47 + 3 ≤ _), (by decide : 248 + 12 ≤ _)⟩)
        dsimp only [Pt.U, Pt.locs, Pt.cells, Pt.slots] at X378 l378 y378 z378 st378 hQ378
        subst l378 y378 z378
        obtain ⟨sa378, ba378, kb378, rfl, Nq378, K378, ga378, gb378, ne378, Ex378, Fv378, Fc378, V378⟩ := hQ378
        have N378 := Fr.app N377 Nq378
        have C378 : CHr Z own_EL T372.vm T372.heap T372.vm T378.heap := CHr.keep K378 sf0 CR372.1
        have CR378 := CR372.trans C378
        have kz378 : _ ≤ T378.heap.size := Nat.le_trans (Nat.le_refl T372.heap.size) K378.1
        have O378 : Old Z n0 T378.heap := O372.keep K378 all0
        have u24 := Es.keep K378
        have u25 := Fsv.keep K378 nin0
        have u26 := Fsc.keep K378 nin0
        have u27 := Vb.keep K378 nin0
        refine own_stepH (g' := (mkF m 117 #[iv p1, iv p2, iv p3, iv (p3 &&& 3), iv (own_u p3 2 3), iv 1, iv 0, rv b369, rv s1, .unset] [(.ref sa378)])) st378 ?_
        refine own_stH _ (own_astore 119 #[iv p1, iv p2, iv p3, iv (p3 &&& 3), iv (own_u p3 2 3), iv 1, iv 0, rv b369, rv s1, rv sa378] X378 hx hby at_117) ?_
        refine own_stH _ (own_goto 173 X378 hx hby at_119) ?_
        refine own_stH _ (own_aload 175 X378 hx hby at_173) ?_
        refine own_stH _ (own_ifnonnullYes 189 X378 hx hby at_175) ?_
        refine own_stH _ (own_aload 191 X378 hx hby at_189) ?_
        refine own_stH _ (own_aload 193 X378 hx hby at_191) ?_
        obtain ⟨cq379, kq379, q379a, q379b, q379c⟩ := isOf hZ rfl Ex378
        obtain ⟨_, _, ⟨T379, L379, k379, n379⟩, -, X379, ⟨Lc379, hQ379, l379, y379, z379⟩, st379⟩ := X378.virtualBack hx (y := mn_55) (z := mn_55) hown (mvT hZ (hw_280 hw)) (mvT hZ (hw_281 hw)) (notFace_of_selects (args := #[]) (mvT hZ (hw_283 hw))) (mvT hZ (hw_283 hw)) (mvT hZ (hw_282 hw)) (by decide) (StrChars.Road.eqW (W := 0) hZ (own_heq hw) (kI := 4) (hw_51 hw) Ex378 Fv378 Fc378 V378 (own_cod4 (own_chok p1) (own_chok (own_sh p1 8))) (own_hb4 (own_chok p1) (own_chok (own_sh p1 8))) (Nat.le_of_ble_eq_true rfl) u24 u25 u26 u27 (own_cod4 (own_chok p1) (own_chok (own_sh p1 8))) (own_hb4 (own_chok p1) (own_chok (own_sh p1 8))) (Nat.le_of_ble_eq_true rfl) (S_wc.ext O378.2) hwc (by decide) (by decide)) q379a q379c (g := (mkF m 193 #[iv p1, iv p2, iv p3, iv (p3 &&& 3), iv (own_u p3 2 3), iv 1, iv 0, rv b369, rv s1, rv sa378] [(.ref s1), (.ref sa378)])) rfl (by rw [hml]; rfl) (Steps.refl _) (argsL := [(.ref s1)]) (rest := []) (lenOf pd_26 rfl) rfl own_z0 (hb hby at_193) (fun _ _ => ⟨rfl, rfl, (by decide : 50 + 0 ≤ _), (by decide : 260 + 0 ≤ _)⟩)
        dsimp only [Pt.U, Pt.locs, Pt.cells, Pt.slots] at X379 l379 y379 z379 st379 hQ379
        subst l379 y379 z379
        obtain ⟨hv379, rfl, e379⟩ := hQ379
        rcases hv379 with ⟨rfl, -⟩ | ⟨-, hv379⟩
        case inr => exact absurd rfl hv379
        have N379 := Fr.app N378 (Fr.nil n0)
        refine own_jumpH (g' := (mkF m 196 #[iv p1, iv p2, iv p3, iv (p3 &&& 3), iv (own_u p3 2 3), iv 1, iv 0, rv b369, rv s1, rv sa378] [(.int 1)])) st379 ?_
        refine own_retH X379 hlk S372 (own_leE e379 kz378) (v := some (.int 1)) (fun h => by rw [hret] at h; cases h) (fun fs hr => retN X379 hx (t := .boolean) hret (by simp) (hb hby at_196) hr) ?_ (own_CHend hs0 e379 CR378 (CHv.at X379 hZ hEL CR378.1)) (by decide) (by decide)
        show own_Q0 Z p1 p2 p3 wc wD kD h0 n0 _ T379.heap _
        rw [e379]
        exact ⟨rfl, N379⟩
    · refine own_stH _ (own_ifNo 34 X0 hx hby at_31 ((if0 _ _).trans (feq hc368).1)) ?_
      refine own_stH _ (own_iconst 35 1 X0 hx hby at_34) ?_
      refine own_stH _ (own_goto 39 X0 hx hby at_35) ?_
      refine own_stH _ (own_istore 41 #[iv p1, iv p2, iv p3, iv (p3 &&& 3), iv (own_u p3 2 3), iv 1, iv 1, .unset, .unset, .unset] X0 hx hby at_39) ?_
      obtain ⟨T380, h380, X380, e380, E380, A380, D380, -, st380⟩ := newO X0 hx hZ hown (hw_0 hw) (hw_1 hw) (hw_2 hw) e0 (g := (mkF m 41 #[iv p1, iv p2, iv p3, iv (p3 &&& 3), iv (own_u p3 2 3), iv 1, iv 1, .unset, .unset, .unset] [])) rfl (hb hby at_41) (by decide) (by decide)
      obtain ⟨b380, g380⟩ : ∃ z, z = h0.size := ⟨_, rfl⟩
      rw [← g380] at A380 D380 st380
      have g_b380 : n0 ≤ b380 := Nat.le_trans Z0 (Nat.le_of_eq g380.symm)
      have Z380 : n0 ≤ h380.size := Nat.le_trans Z0 E380.1
      have C380 : CHr Z own_EL s.vm h0 s.vm h380 := CHr.ext E380 CR0.1
      have CR380 := CR0.trans C380
      have kz380 : _ ≤ h380.size := Nat.le_trans kz0 E380.1
      have O380 : Old Z n0 h380 := O0.ext E380
      have F_violations_b380 : Fld Z h380 b380 "com/example/shaper/shaper/core/ConfigProblems" "violations" "Ljava/util/List;" .null := D380 (Or.inr (hw_34 hw)) (ty := (.object "java/util/List")) (by decide)
      have F_unsupported_b380 : Fld Z h380 b380 "com/example/shaper/shaper/core/ConfigProblems" "unsupported" "Ljava/util/List;" .null := D380 (Or.inr (hw_36 hw)) (ty := (.object "java/util/List")) (by decide)
      refine own_stepH (g' := (mkF m 44 #[iv p1, iv p2, iv p3, iv (p3 &&& 3), iv (own_u p3 2 3), iv 1, iv 1, .unset, .unset, .unset] [(.ref b380)])) st380 ?_
      refine own_stH _ (own_dup 45 X380 hx hby at_44) ?_
      obtain ⟨_, _, ⟨T381, L381, k381, n381⟩, -, X381, ⟨Lc381, hQ381, l381, y381, z381⟩, st381⟩ := X380.specialBack hx (y := mn_32) rfl hown (mvT hZ (hw_3 hw)) (mvT hZ (hw_4 hw)) (mvT hZ (hw_5 hw)) (by decide) (backOf (W := 1) (own_rm1 l Z a0 hw [] b380 wc wD kD h380 n0 Z380 O380 SS A380 F_violations_b380 F_unsupported_b380 g_b380) hZ (hw_5 hw) (hw_2 hw) (by decide) (by decide)) (g := (mkF m 45 #[iv p1, iv p2, iv p3, iv (p3 &&& 3), iv (own_u p3 2 3), iv 1, iv 1, .unset, .unset, .unset] [(.ref b380), (.ref b380)])) rfl (by rw [hml]; rfl) (Steps.refl _) (a := b380) (argsL := []) (rest := [(.ref b380)]) (lenOf pd_20 rfl) rfl own_z0 (hb hby at_45) (fun _ _ => ⟨rfl, e380, (by decide : 1 + 2 ≤ _), (by decide : 2 + 6 ≤ _)⟩)
      dsimp only [Pt.U, Pt.locs, Pt.cells, Pt.slots] at X381 l381 y381 z381 st381 hQ381
      subst l381 y381 z381
      obtain ⟨rfl, Nq381, K381, P381⟩ := hQ381
      have N381 := Fr.app N0 Nq381
      have C381 : CHr Z own_EL s.vm h380 s.vm T381.heap := CHr.keep K381 (sfS (Safe.exa hZ.alike A380 (by decide) (by decide)) sf0) CR380.1
      have CR381 := CR380.trans C381
      have kz381 : _ ≤ T381.heap.size := Nat.le_trans kz380 K381.1
      have Z381 : n0 ≤ T381.heap.size := Nat.le_trans Z380 K381.1
      have O381 : Old Z n0 T381.heap := O380.keep K381 (allS g_b380 all0)
      refine own_jumpH (g' := (mkF m 48 #[iv p1, iv p2, iv p3, iv (p3 &&& 3), iv (own_u p3 2 3), iv 1, iv 1, .unset, .unset, .unset] [(.ref b380)])) st381 ?_
      refine own_stH _ (own_astore 50 #[iv p1, iv p2, iv p3, iv (p3 &&& 3), iv (own_u p3 2 3), iv 1, iv 1, rv b380, .unset, .unset] X381 hx hby at_48) ?_
      have Ps := own_CPS0 (own_tv (own_ch p1) (own_ch (own_sh p1 8))) (own_td (own_ch p2)) P381
      refine own_stH _ (own_iload 52 X381 hx hby at_50) ?_
      refine own_stH _ (own_ifNo 55 X381 hx hby at_52 ((if0 _ _).trans (feq (by decide : ¬ ((1 : Int32) = (0 : Int32)))).1)) ?_
      refine own_stH _ (own_aload 57 X381 hx hby at_55) ?_
      refine own_stH _ (own_iload 59 X381 hx hby at_57) ?_
      refine own_stH _ (own_iload 61 X381 hx hby at_59) ?_
      refine own_stH _ (own_iloadN 62 X381 hx hby at_61) ?_
      obtain ⟨_, _, ⟨T382, L382, k382, n382⟩, -, X382, S382, G382, ⟨Lc382, hQ382, l382, y382, z382, C382⟩, st382⟩ := callSS X381 hx (y := mn_42) hown (mvT hZ (hw_217 hw)) (mvT hZ (hw_218 hw)) (mvT hZ (hw_39 hw)) (mvT hZ (hw_219 hw)) (by decide) (backOfSH (s := s) (vm0 := s.vm) (W := 0) (own_rm38_1 l Z a0 hw [] b380 (((p3.toUInt32 >>> ((2 : Int32) &&& 31).toUInt32).toInt32) &&& 3) p2 0 (own_tv (own_ch p1) (own_ch (own_sh p1 8))) wc wD kD T381.heap n0 Z381 O381 SS hEL (by omega) Ps) hZ (hw_219 hw) (hw_39 hw) (by decide) (by decide) hEL CR381.1) (g := (mkF m 62 #[iv p1, iv p2, iv p3, iv (p3 &&& 3), iv (own_u p3 2 3), iv 1, iv 1, rv b380, .unset, .unset] [(.int p2), (.int 1), (.int (((p3.toUInt32 >>> ((2 : Int32) &&& 31).toUInt32).toInt32) &&& 3)), (.ref b380)])) rfl (by rw [hml]; rfl) (argsL := [(.ref b380), (.int (((p3.toUInt32 >>> ((2 : Int32) &&& 31).toUInt32).toInt32) &&& 3)), (.int 1), (.int p2)]) (rest := []) (lenOf pd_34 rfl) rfl own_z0 (hb hby at_62) (fun _ _ => ⟨rfl, rfl, (by decide : 3 + 23 ≤ _), (by decide : 8 + 237 ≤ _)⟩)
      dsimp only [Pt.U, Pt.locs, Pt.cells, Pt.slots] at X382 l382 y382 z382 st382 hQ382 S382 G382 C382
      subst l382 y382 z382
      obtain ⟨X382, S382, hZ, hown⟩ := rebS S0 kz381 X382 S382 (show T381.heap.size ≤ T382.heap.size from G382) hZ hown
      have CR382 := CR381.trans C382
      have gr382 : T381.heap.size ≤ T382.heap.size := C382.2.1
      obtain ⟨j382, rfl, Nq382, O382, P382, hj382⟩ := hQ382
      have N382 := Fr.app N381 Nq382
      have Z382 : n0 ≤ T382.heap.size := Nat.le_trans Z381 gr382
      refine own_jumpH (g' := (mkF m 65 #[iv p1, iv p2, iv p3, iv (p3 &&& 3), iv (own_u p3 2 3), iv 1, iv 1, rv b380, .unset, .unset] [])) st382 ?_
      refine own_stH _ (own_aload 67 X382 hx hby at_65) ?_
      refine own_stH _ (own_iloadN 68 X382 hx hby at_67) ?_
      refine own_stH _ (own_iloadN 69 X382 hx hby at_68) ?_
      obtain ⟨_, _, ⟨T383, L383, k383, n383⟩, -, X383, S383, G383, ⟨Lc383, hQ383, l383, y383, z383, C383⟩, st383⟩ := callSS X382 hx (y := mn_41) hown (mvT hZ (hw_37 hw)) (mvT hZ (hw_38 hw)) (mvT hZ (hw_39 hw)) (mvT hZ (hw_40 hw)) (by decide) (backOfSH (s := s) (vm0 := T382.vm) (W := 0) (own_rm6 l Z a0 hw [] b380 (p3 &&& 3) p1 j382 (own_td (own_ch p2)) wc wD kD T382.heap n0 Z382 O382 SS hEL (by omega) P382) hZ (hw_40 hw) (hw_39 hw) (by decide) (by decide) hEL CR382.1) (g := (mkF m 69 #[iv p1, iv p2, iv p3, iv (p3 &&& 3), iv (own_u p3 2 3), iv 1, iv 1, rv b380, .unset, .unset] [(.int p1), (.int (p3 &&& 3)), (.ref b380)])) rfl (by rw [hml]; rfl) (argsL := [(.ref b380), (.int (p3 &&& 3)), (.int p1)]) (rest := []) (lenOf pd_33 rfl) rfl own_z0 (hb hby at_69) (fun _ _ => ⟨rfl, rfl, (by decide : 26 + 22 ≤ _), (by decide : 245 + 120 ≤ _)⟩)
      dsimp only [Pt.U, Pt.locs, Pt.cells, Pt.slots] at X383 l383 y383 z383 st383 hQ383 S383 G383 C383
      subst l383 y383 z383
      obtain ⟨X383, S383, hZ, hown⟩ := rebS S382 (Nat.le_refl T382.heap.size) X383 S383 (show T382.heap.size ≤ T383.heap.size from G383) hZ hown
      have CR383 := CR382.trans C383
      have gr383 : T382.heap.size ≤ T383.heap.size := C383.2.1
      obtain ⟨j383, rfl, Nq383, O383, P383, hj383⟩ := hQ383
      have N383 := Fr.app N382 Nq383
      have Z383 : n0 ≤ T383.heap.size := Nat.le_trans Z382 gr383
      refine own_jumpH (g' := (mkF m 72 #[iv p1, iv p2, iv p3, iv (p3 &&& 3), iv (own_u p3 2 3), iv 1, iv 1, rv b380, .unset, .unset] [])) st383 ?_
      refine own_stH _ (own_iload 74 X383 hx hby at_72) ?_
      refine own_stH _ (own_ifYes 87 X383 hx hby at_74 ((if0 _ _).trans (feq (by decide : ¬ ((1 : Int32) = (0 : Int32)))).2)) ?_
      obtain ⟨al1, dd1, al2, dd2, f1, f2, s1, b1, s2, b2, gp, Ep, Fvi, Fun, A1, A2, -, -, -, -, -, -, -, -, Y1, Y2, -⟩ := id P383
      have Ea1 := A1.2.2.1
      have Ea2 := A2.2.2.1
      have Fs1 := A1.2.2.2.1
      have Fs2 := A2.2.2.2.1
      rcases hj383 with ⟨hv1, jz1⟩ | ⟨hv1, ja1, jb1⟩
      · rcases hj382 with ⟨hv2, jz2⟩ | ⟨hv2, ja2, jb2⟩
        · refine own_stH _ (own_aload 89 X383 hx hby at_87) ?_
          obtain ⟨cq384, kq384, q384a, q384b, q384c⟩ := isOf hZ rfl Ep
          obtain ⟨_, _, ⟨T384, L384, k384, n384⟩, -, X384, ⟨Lc384, hQ384, l384, y384, z384⟩, st384⟩ := X383.virtualBack hx (y := mn_50) (z := mn_50) hown (mvT hZ (hw_220 hw)) (mvT hZ (hw_221 hw)) (notFace_of_selects (args := #[]) (mvT hZ (hw_223 hw))) (mvT hZ (hw_223 hw)) (mvT hZ (hw_222 hw)) (by decide) (backOf (W := 0) (own_rm39_n l Z a0 hw [] b380 al1 al2 (Int32.ofNat j383) (Int32.ofNat j382) T383.heap n0 Z383 (own_ie1 jz1) (own_ie1 jz2) Ep Fvi Fun Ea1 Fs1 Ea2 Fs2) hZ (hw_224 hw) (hw_2 hw) (by decide) (by decide)) q384a q384c (g := (mkF m 89 #[iv p1, iv p2, iv p3, iv (p3 &&& 3), iv (own_u p3 2 3), iv 1, iv 1, rv b380, .unset, .unset] [(.ref b380)])) rfl (by rw [hml]; rfl) (Steps.refl _) (argsL := []) (rest := []) (lenOf pd_25 rfl) rfl own_z0 (hb hby at_89) (fun _ _ => ⟨rfl, rfl, (by decide : 48 + 0 ≤ _), (by decide : 365 + 0 ≤ _)⟩)
          dsimp only [Pt.U, Pt.locs, Pt.cells, Pt.slots] at X384 l384 y384 z384 st384 hQ384
          subst l384 y384 z384
          obtain ⟨rfl, Nq384, e384⟩ := hQ384
          have N384 := Fr.app N383 Nq384
          refine own_jumpH (g' := (mkF m 92 #[iv p1, iv p2, iv p3, iv (p3 &&& 3), iv (own_u p3 2 3), iv 1, iv 1, rv b380, .unset, .unset] [.null])) st384 ?_
          refine own_stH _ (own_astore 94 #[iv p1, iv p2, iv p3, iv (p3 &&& 3), iv (own_u p3 2 3), iv 1, iv 1, rv b380, .val .null, .unset] X384 hx hby at_92) ?_
          refine own_stH _ (own_iloadN 95 X384 hx hby at_94) ?_
          refine own_stH _ (own_iconst 96 1 X384 hx hby at_95) ?_
          refine own_stH _ (own_icmpYes 122 X384 hx hby at_96 ((tlt hv1).1)) ?_
          refine own_stH _ (own_iload 124 X384 hx hby at_122) ?_
          refine own_stH _ (own_iconst 125 1 X384 hx hby at_124) ?_
          refine own_stH _ (own_icmpYes 170 X384 hx hby at_125 ((tlt hv2).1)) ?_
          refine own_stH _ (own_aconstNull 171 X384 hx hby at_170) ?_
          refine own_stH _ (own_astore 173 #[iv p1, iv p2, iv p3, iv (p3 &&& 3), iv (own_u p3 2 3), iv 1, iv 1, rv b380, .val .null, .val .null] X384 hx hby at_171) ?_
          refine own_stH _ (own_aload 175 X384 hx hby at_173) ?_
          refine own_stH (mkF m 178 #[iv p1, iv p2, iv p3, iv (p3 &&& 3), iv (own_u p3 2 3), iv 1, iv 1, rv b380, .val .null, .val .null] []) (fun t k => XS.ifnonnullNo X384.here hx rfl (hb hby at_175) rfl k) ?_
          refine own_stH _ (own_aload 180 X384 hx hby at_178) ?_
          refine own_stH (mkF m 183 #[iv p1, iv p2, iv p3, iv (p3 &&& 3), iv (own_u p3 2 3), iv 1, iv 1, rv b380, .val .null, .val .null] []) (fun t k => XS.ifnonnullNo X384.here hx rfl (hb hby at_180) rfl k) ?_
          refine own_stH _ (own_iconst 184 1 X384 hx hby at_183) ?_
          refine own_stH _ (own_goto 188 X384 hx hby at_184) ?_
          refine own_retH X384 hlk S383 (own_leE e384 (Nat.le_refl T383.heap.size)) (v := some (.int 1)) (fun h => by rw [hret] at h; cases h) (fun fs hr => retN X384 hx (t := .boolean) hret (by simp) (hb hby at_188) hr) ?_ (own_CHend hs0 e384 CR383 (CHv.at X384 hZ hEL CR383.1)) (by decide) (by decide)
          show own_Q0 Z p1 p2 p3 wc wD kD h0 n0 _ T384.heap _
          rw [e384]
          exact ⟨rfl, N384⟩
        · obtain ⟨Fe, kk, vs, Vd, hf0⟩ := own_ALpos A2 ja2
          obtain ⟨hfs, Es, Fsv, Fsc, kb, Vb⟩ := Y2.2.2 ja2
          have hf : vs.getD 0 .null = .ref s2 := hf0.trans hfs
          refine own_stH _ (own_aload 89 X383 hx hby at_87) ?_
          obtain ⟨cq385, kq385, q385a, q385b, q385c⟩ := isOf hZ rfl Ep
          obtain ⟨_, _, ⟨T385, L385, k385, n385⟩, -, X385, ⟨Lc385, hQ385, l385, y385, z385⟩, st385⟩ := X383.virtualBack hx (y := mn_50) (z := mn_50) hown (mvT hZ (hw_220 hw)) (mvT hZ (hw_221 hw)) (notFace_of_selects (args := #[]) (mvT hZ (hw_223 hw))) (mvT hZ (hw_223 hw)) (mvT hZ (hw_222 hw)) (by decide) (backOf (W := 0) (own_rm39_u l Z a0 hw [] b380 al1 al2 (Int32.ofNat j383) (Int32.ofNat j382) dd2 kk vs s2 T383.heap n0 Z383 (own_ie1 jz1) (own_ie0 ja2 jb2) hf (own_0lt ja2 jb2) Ep Fvi Fun Ea1 Fs1 Ea2 Fs2 Fe Vd Es) hZ (hw_224 hw) (hw_2 hw) (by decide) (by decide)) q385a q385c (g := (mkF m 89 #[iv p1, iv p2, iv p3, iv (p3 &&& 3), iv (own_u p3 2 3), iv 1, iv 1, rv b380, .unset, .unset] [(.ref b380)])) rfl (by rw [hml]; rfl) (Steps.refl _) (argsL := []) (rest := []) (lenOf pd_25 rfl) rfl own_z0 (hb hby at_89) (fun _ _ => ⟨rfl, rfl, (by decide : 48 + 0 ≤ _), (by decide : 365 + 0 ≤ _)⟩)
          dsimp only [Pt.U, Pt.locs, Pt.cells, Pt.slots] at X385 l385 y385 z385 st385 hQ385
          subst l385 y385 z385
          obtain ⟨rfl, Nq385, e385⟩ := hQ385
          have N385 := Fr.app N383 Nq385
          refine own_jumpH (g' := (mkF m 92 #[iv p1, iv p2, iv p3, iv (p3 &&& 3), iv (own_u p3 2 3), iv 1, iv 1, rv b380, .unset, .unset] [(.ref s2)])) st385 ?_
          refine own_stH _ (own_astore 94 #[iv p1, iv p2, iv p3, iv (p3 &&& 3), iv (own_u p3 2 3), iv 1, iv 1, rv b380, rv s2, .unset] X385 hx hby at_92) ?_
          refine own_stH _ (own_iloadN 95 X385 hx hby at_94) ?_
          refine own_stH _ (own_iconst 96 1 X385 hx hby at_95) ?_
          refine own_stH _ (own_icmpYes 122 X385 hx hby at_96 ((tlt hv1).1)) ?_
          refine own_stH _ (own_iload 124 X385 hx hby at_122) ?_
          refine own_stH _ (own_iconst 125 1 X385 hx hby at_124) ?_
          refine own_stH _ (own_icmpNo 128 X385 hx hby at_125 ((flt hv2).1)) ?_
          refine own_stH _ (own_iload 130 X385 hx hby at_128) ?_
          refine own_stH _ (own_ifNo 133 X385 hx hby at_130 ((if0 _ _).trans (feq (by decide : ¬ ((1 : Int32) = (0 : Int32)))).1)) ?_
          refine own_stH _ (own_iloadN 134 X385 hx hby at_133) ?_
          refine own_stH _ (own_sipush 137 255 X385 hx hby at_134) ?_
          refine own_stH _ (own_iand 138 X385 hx hby at_137) ?_
          refine own_stH _ (own_i2c 139 X385 hx hby at_138) ?_
          rw [show ((p2 &&& 255).toUInt32.toUInt16.toUInt32.toInt32) = own_ch p2 from rfl]
          obtain ⟨_, _, ⟨T386, L386, k386, n386⟩, -, X386, ⟨Lc386, hQ386, l386, y386, z386⟩, st386⟩ := Jvm.LawKit.callS X385 hx (y := mn_54) hown (mvT hZ (hw_315 hw)) (mvT hZ (hw_316 hw)) (mvT hZ (hw_39 hw)) (mvT hZ (hw_317 hw)) (by decide) (backOf (W := 0) (own_rm59 l Z a0 hw [] (own_ch p2) wc wD kD T383.heap n0 Z383 O383 SS (own_chok p2)) hZ (hw_317 hw) (hw_39 hw) (by decide) (by decide)) (g := (mkF m 139 #[iv p1, iv p2, iv p3, iv (p3 &&& 3), iv (own_u p3 2 3), iv 1, iv 1, rv b380, rv s2, .unset] [(.int (own_ch p2))])) rfl (by rw [hml]; rfl) (argsL := [(.int (own_ch p2))]) (rest := []) (lenOf pd_28 rfl) rfl own_z0 (hb hby at_139) (fun _ _ => ⟨rfl, e385, (by decide : 48 + 3 ≤ _), (by decide : 365 + 44 ≤ _)⟩)
          dsimp only [Pt.U, Pt.locs, Pt.cells, Pt.slots] at X386 l386 y386 z386 st386 hQ386
          subst l386 y386 z386
          obtain ⟨sa386, ba386, kb386, rfl, Nq386, K386, ga386, gb386, ne386, Ex386, Fv386, Fc386, V386⟩ := hQ386
          have N386 := Fr.app N385 Nq386
          have C386 : CHr Z own_EL T383.vm T383.heap T383.vm T386.heap := CHr.keep K386 sf0 CR383.1
          have CR386 := CR383.trans C386
          have kz386 : _ ≤ T386.heap.size := Nat.le_trans (Nat.le_refl T383.heap.size) K386.1
          have O386 : Old Z n0 T386.heap := O383.keep K386 all0
          have u29 := Es.keep K386
          have u30 := Fsv.keep K386 nin0
          have u31 := Fsc.keep K386 nin0
          have u32 := Vb.keep K386 nin0
          refine own_stepH (g' := (mkF m 142 #[iv p1, iv p2, iv p3, iv (p3 &&& 3), iv (own_u p3 2 3), iv 1, iv 1, rv b380, rv s2, .unset] [(.ref sa386)])) st386 ?_
          refine own_stH _ (own_astore 144 #[iv p1, iv p2, iv p3, iv (p3 &&& 3), iv (own_u p3 2 3), iv 1, iv 1, rv b380, rv s2, rv sa386] X386 hx hby at_142) ?_
          refine own_stH _ (own_goto 173 X386 hx hby at_144) ?_
          refine own_stH _ (own_aload 175 X386 hx hby at_173) ?_
          refine own_stH _ (own_ifnonnullYes 189 X386 hx hby at_175) ?_
          refine own_stH _ (own_aload 191 X386 hx hby at_189) ?_
          refine own_stH _ (own_aload 193 X386 hx hby at_191) ?_
          obtain ⟨cq387, kq387, q387a, q387b, q387c⟩ := isOf hZ rfl Ex386
          obtain ⟨_, _, ⟨T387, L387, k387, n387⟩, -, X387, ⟨Lc387, hQ387, l387, y387, z387⟩, st387⟩ := X386.virtualBack hx (y := mn_55) (z := mn_55) hown (mvT hZ (hw_280 hw)) (mvT hZ (hw_281 hw)) (notFace_of_selects (args := #[]) (mvT hZ (hw_283 hw))) (mvT hZ (hw_283 hw)) (mvT hZ (hw_282 hw)) (by decide) (StrChars.Road.eqW (W := 0) hZ (own_heq hw) (kI := 4) (hw_51 hw) Ex386 Fv386 Fc386 V386 (own_cod20 (own_chok p2)) (own_hb20 (own_chok p2)) (Nat.le_of_ble_eq_true rfl) u29 u30 u31 u32 (own_cod20 (own_chok p2)) (own_hb20 (own_chok p2)) (Nat.le_of_ble_eq_true rfl) (S_wc.ext O386.2) hwc (by decide) (by decide)) q387a q387c (g := (mkF m 193 #[iv p1, iv p2, iv p3, iv (p3 &&& 3), iv (own_u p3 2 3), iv 1, iv 1, rv b380, rv s2, rv sa386] [(.ref s2), (.ref sa386)])) rfl (by rw [hml]; rfl) (Steps.refl _) (argsL := [(.ref s2)]) (rest := []) (lenOf pd_26 rfl) rfl own_z0 (hb hby at_193) (fun _ _ => ⟨rfl, rfl, (by decide : 51 + 0 ≤ _), (by decide : 409 + 0 ≤ _)⟩)
          dsimp only [Pt.U, Pt.locs, Pt.cells, Pt.slots] at X387 l387 y387 z387 st387 hQ387
          subst l387 y387 z387
          obtain ⟨hv387, rfl, e387⟩ := hQ387
          rcases hv387 with ⟨rfl, -⟩ | ⟨-, hv387⟩
          case inr => exact absurd rfl hv387
          have N387 := Fr.app N386 (Fr.nil n0)
          refine own_jumpH (g' := (mkF m 196 #[iv p1, iv p2, iv p3, iv (p3 &&& 3), iv (own_u p3 2 3), iv 1, iv 1, rv b380, rv s2, rv sa386] [(.int 1)])) st387 ?_
          refine own_retH X387 hlk S383 (own_leE e387 kz386) (v := some (.int 1)) (fun h => by rw [hret] at h; cases h) (fun fs hr => retN X387 hx (t := .boolean) hret (by simp) (hb hby at_196) hr) ?_ (own_CHend hs0 e387 CR386 (CHv.at X387 hZ hEL CR386.1)) (by decide) (by decide)
          show own_Q0 Z p1 p2 p3 wc wD kD h0 n0 _ T387.heap _
          rw [e387]
          exact ⟨rfl, N387⟩
      · obtain ⟨Fe, kk, vs, Vd, hf0⟩ := own_ALpos A1 ja1
        obtain ⟨hfs, Es, Fsv, Fsc, kb, Vb⟩ := Y1.2.2 ja1
        have hf : vs.getD 0 .null = .ref s1 := hf0.trans hfs
        refine own_stH _ (own_aload 89 X383 hx hby at_87) ?_
        obtain ⟨cq388, kq388, q388a, q388b, q388c⟩ := isOf hZ rfl Ep
        obtain ⟨_, _, ⟨T388, L388, k388, n388⟩, -, X388, ⟨Lc388, hQ388, l388, y388, z388⟩, st388⟩ := X383.virtualBack hx (y := mn_50) (z := mn_50) hown (mvT hZ (hw_220 hw)) (mvT hZ (hw_221 hw)) (notFace_of_selects (args := #[]) (mvT hZ (hw_223 hw))) (mvT hZ (hw_223 hw)) (mvT hZ (hw_222 hw)) (by decide) (backOf (W := 0) (own_rm39_v l Z a0 hw [] b380 al1 al2 (Int32.ofNat j383) dd1 kk vs s1 T383.heap n0 Z383 (own_ie0 ja1 jb1) hf (own_0lt ja1 jb1) Ep Fvi Fun Ea1 Fs1 Fe Vd Es) hZ (hw_224 hw) (hw_2 hw) (by decide) (by decide)) q388a q388c (g := (mkF m 89 #[iv p1, iv p2, iv p3, iv (p3 &&& 3), iv (own_u p3 2 3), iv 1, iv 1, rv b380, .unset, .unset] [(.ref b380)])) rfl (by rw [hml]; rfl) (Steps.refl _) (argsL := []) (rest := []) (lenOf pd_25 rfl) rfl own_z0 (hb hby at_89) (fun _ _ => ⟨rfl, rfl, (by decide : 48 + 0 ≤ _), (by decide : 365 + 0 ≤ _)⟩)
        dsimp only [Pt.U, Pt.locs, Pt.cells, Pt.slots] at X388 l388 y388 z388 st388 hQ388
        subst l388 y388 z388
        obtain ⟨rfl, Nq388, e388⟩ := hQ388
        have N388 := Fr.app N383 Nq388
        refine own_jumpH (g' := (mkF m 92 #[iv p1, iv p2, iv p3, iv (p3 &&& 3), iv (own_u p3 2 3), iv 1, iv 1, rv b380, .unset, .unset] [(.ref s1)])) st388 ?_
        refine own_stH _ (own_astore 94 #[iv p1, iv p2, iv p3, iv (p3 &&& 3), iv (own_u p3 2 3), iv 1, iv 1, rv b380, rv s1, .unset] X388 hx hby at_92) ?_
        refine own_stH _ (own_iloadN 95 X388 hx hby at_94) ?_
        refine own_stH _ (own_iconst 96 1 X388 hx hby at_95) ?_
        refine own_stH _ (own_icmpNo 99 X388 hx hby at_96 ((flt hv1).1)) ?_
        refine own_stH _ (own_iloadN 100 X388 hx hby at_99) ?_
        refine own_stH _ (own_sipush 103 255 X388 hx hby at_100) ?_
        refine own_stH _ (own_iand 104 X388 hx hby at_103) ?_
        refine own_stH _ (own_i2c 105 X388 hx hby at_104) ?_
        rw [show ((p1 &&& 255).toUInt32.toUInt16.toUInt32.toInt32) = own_ch p1 from rfl]
        refine own_stH _ (own_iloadN 106 X388 hx hby at_105) ?_
        refine own_stH _ (own_bipush 108 8 X388 hx hby at_106) ?_
        refine own_stH _ (own_iushr 109 X388 hx hby at_108) ?_
        rw [show ((p1.toUInt32 >>> ((8 : Int32) &&& 31).toUInt32).toInt32) = own_sh p1 8 from rfl]
        refine own_stH _ (own_sipush 112 255 X388 hx hby at_109) ?_
        refine own_stH _ (own_iand 113 X388 hx hby at_112) ?_
        refine own_stH _ (own_i2c 114 X388 hx hby at_113) ?_
        rw [show (((own_sh p1 8) &&& 255).toUInt32.toUInt16.toUInt32.toInt32) = own_ch (own_sh p1 8) from rfl]
        obtain ⟨_, _, ⟨T389, L389, k389, n389⟩, -, X389, ⟨Lc389, hQ389, l389, y389, z389⟩, st389⟩ := Jvm.LawKit.callS X388 hx (y := mn_52) hown (mvT hZ (hw_259 hw)) (mvT hZ (hw_260 hw)) (mvT hZ (hw_39 hw)) (mvT hZ (hw_261 hw)) (by decide) (backOf (W := 0) (own_rm46 l Z a0 hw [] (own_ch p1) (own_ch (own_sh p1 8)) wc wD kD T383.heap n0 Z383 O383 SS (own_chok p1) (own_chok (own_sh p1 8))) hZ (hw_261 hw) (hw_39 hw) (by decide) (by decide)) (g := (mkF m 114 #[iv p1, iv p2, iv p3, iv (p3 &&& 3), iv (own_u p3 2 3), iv 1, iv 1, rv b380, rv s1, .unset] [(.int (own_ch (own_sh p1 8))), (.int (own_ch p1))])) rfl (by rw [hml]; rfl) (argsL := [(.int (own_ch p1)), (.int (own_ch (own_sh p1 8)))]) (rest := []) (lenOf pd_35 rfl) rfl own_z0 (hb hby at_114) (fun _ _ => ⟨rfl, e388, (by decide : 48 + 3 ≤ _), (by decide : 365 + 12 ≤ _)⟩)
        dsimp only [Pt.U, Pt.locs, Pt.cells, Pt.slots] at X389 l389 y389 z389 st389 hQ389
        subst l389 y389 z389
        obtain ⟨sa389, ba389, kb389, rfl, Nq389, K389, ga389, gb389, ne389, Ex389, Fv389, Fc389, V389⟩ := hQ389
        have N389 := Fr.app N388 Nq389
        have C389 : CHr Z own_EL T383.vm T383.heap T383.vm T389.heap := CHr.keep K389 sf0 CR383.1
        have CR389 := CR383.trans C389
        have kz389 : _ ≤ T389.heap.size := Nat.le_trans (Nat.le_refl T383.heap.size) K389.1
        have O389 : Old Z n0 T389.heap := O383.keep K389 all0
        have u33 := Es.keep K389
        have u34 := Fsv.keep K389 nin0
        have u35 := Fsc.keep K389 nin0
        have u36 := Vb.keep K389 nin0
        refine own_stepH (g' := (mkF m 117 #[iv p1, iv p2, iv p3, iv (p3 &&& 3), iv (own_u p3 2 3), iv 1, iv 1, rv b380, rv s1, .unset] [(.ref sa389)])) st389 ?_
        refine own_stH _ (own_astore 119 #[iv p1, iv p2, iv p3, iv (p3 &&& 3), iv (own_u p3 2 3), iv 1, iv 1, rv b380, rv s1, rv sa389] X389 hx hby at_117) ?_
        refine own_stH _ (own_goto 173 X389 hx hby at_119) ?_
        refine own_stH _ (own_aload 175 X389 hx hby at_173) ?_
        refine own_stH _ (own_ifnonnullYes 189 X389 hx hby at_175) ?_
        refine own_stH _ (own_aload 191 X389 hx hby at_189) ?_
        refine own_stH _ (own_aload 193 X389 hx hby at_191) ?_
        obtain ⟨cq390, kq390, q390a, q390b, q390c⟩ := isOf hZ rfl Ex389
        obtain ⟨_, _, ⟨T390, L390, k390, n390⟩, -, X390, ⟨Lc390, hQ390, l390, y390, z390⟩, st390⟩ := X389.virtualBack hx (y := mn_55) (z := mn_55) hown (mvT hZ (hw_280 hw)) (mvT hZ (hw_281 hw)) (notFace_of_selects (args := #[]) (mvT hZ (hw_283 hw))) (mvT hZ (hw_283 hw)) (mvT hZ (hw_282 hw)) (by decide) (StrChars.Road.eqW (W := 0) hZ (own_heq hw) (kI := 4) (hw_51 hw) Ex389 Fv389 Fc389 V389 (own_cod4 (own_chok p1) (own_chok (own_sh p1 8))) (own_hb4 (own_chok p1) (own_chok (own_sh p1 8))) (Nat.le_of_ble_eq_true rfl) u33 u34 u35 u36 (own_cod4 (own_chok p1) (own_chok (own_sh p1 8))) (own_hb4 (own_chok p1) (own_chok (own_sh p1 8))) (Nat.le_of_ble_eq_true rfl) (S_wc.ext O389.2) hwc (by decide) (by decide)) q390a q390c (g := (mkF m 193 #[iv p1, iv p2, iv p3, iv (p3 &&& 3), iv (own_u p3 2 3), iv 1, iv 1, rv b380, rv s1, rv sa389] [(.ref s1), (.ref sa389)])) rfl (by rw [hml]; rfl) (Steps.refl _) (argsL := [(.ref s1)]) (rest := []) (lenOf pd_26 rfl) rfl own_z0 (hb hby at_193) (fun _ _ => ⟨rfl, rfl, (by decide : 51 + 0 ≤ _), (by decide : 377 + 0 ≤ _)⟩)
        dsimp only [Pt.U, Pt.locs, Pt.cells, Pt.slots] at X390 l390 y390 z390 st390 hQ390
        subst l390 y390 z390
        obtain ⟨hv390, rfl, e390⟩ := hQ390
        rcases hv390 with ⟨rfl, -⟩ | ⟨-, hv390⟩
        case inr => exact absurd rfl hv390
        have N390 := Fr.app N389 (Fr.nil n0)
        refine own_jumpH (g' := (mkF m 196 #[iv p1, iv p2, iv p3, iv (p3 &&& 3), iv (own_u p3 2 3), iv 1, iv 1, rv b380, rv s1, rv sa389] [(.int 1)])) st390 ?_
        refine own_retH X390 hlk S383 (own_leE e390 kz389) (v := some (.int 1)) (fun h => by rw [hret] at h; cases h) (fun fs hr => retN X390 hx (t := .boolean) hret (by simp) (hb hby at_196) hr) ?_ (own_CHend hs0 e390 CR389 (CHv.at X390 hZ hEL CR389.1)) (by decide) (by decide)
        show own_Q0 Z p1 p2 p3 wc wD kD h0 n0 _ T390.heap _
        rw [e390]
        exact ⟨rfl, N390⟩
theorem own_comes {Post : Tables → Env → Array Value → State → Outcome → State → Prop} (hpost : ∀ tb e args s v u, (limb_1_1.after args s (.returned v) u = true ∧ limb_1_2.after args s (.returned v) u = true ∧ True) → ReturnedEndW s (.returned v) u (Jvm.fieldLocs frame_1_writes args s ++ Jvm.arrayLocs frame_1_arrays args s ++ Jvm.staticLocs frame_1_statics s) 96 2624 → Post tb e args s (.returned v) u) :
    ArmFor flags0 classFile x code maxLocals ret World_1 tables_1 room_1 Calls_1 rest_1 Pre_1 Post := by
  intro l hfl _ _ p e ha hc hk s m args below hf hA hF happ hP
  obtain ⟨hcalls, hrest, hpre⟩ := hP
  obtain ⟨-, -, -, hnamed, -, -, -, hat⟩ := (Spec.applies_iff hf).mp happ
  obtain ⟨hg, hn⟩ := and_e (Cond.before_iff.mp (show (Jvm.Cond.and given_1 narrow_1).before args s = true from hpre))
  obtain ⟨hcnt, hg0⟩ := and_e hg
  obtain ⟨ha0, hg1⟩ := and_e hg0
  obtain ⟨ha1, hg2⟩ := and_e hg1
  obtain ⟨w0, w1, w2, rfl⟩ : ∃ w0 w1 w2 : Value, args = #[w0, w1, w2] := by
    have hs : args.size = 3 := by simpa [Cond.value, given_1] using hcnt
    obtain ⟨L⟩ := args
    match L, hs with
    | [w0, w1, w2], _ => exact ⟨w0, w1, w2, rfl⟩
  have hw := fun d (hd : d ∈ tables_1) => atoms_spec (ws := Jvm.Cond.code x code maxLocals ret :: tables_1) hat d (List.mem_cons_of_mem _ hd)
  have hfit : Fit s := fun {y c} hc i hi => by
    obtain ⟨ha, rfl⟩ := Array.getElem?_eq_some_iff.mp hc
    have q := List.all_eq_true.mp ((Array.all_eq_true_iff_forall_mem.mp hF) _ (Array.getElem_mem ha)) i (List.mem_range.mpr hi)
    simpa [Array.getElem?_eq_getElem hi] using q
  obtain ⟨hsets, hown0⟩ := atoms_of _ (rest_1_c_eq ▸ (show rest_1_c.before _ s = true from hrest))
  obtain ⟨i0, ei0⟩ := is_v ha0
  obtain rfl : w0 = (.int i0) := Option.some.inj ei0
  obtain ⟨i1, ei1⟩ := is_v ha1
  obtain rfl : w1 = (.int i1) := Option.some.inj ei1
  obtain ⟨i2, ei2⟩ := is_v hg2
  obtain rfl : w2 = (.int i2) := Option.some.inj ei2
  obtain ⟨wc, v_wc⟩ := is_v (Cond.before_iff.mp (hsets _ (List.mem_of_getElem? (i := 10) rfl)))
  have S_wc := Sta.start v_wc (Or.inl (hsets _ (List.mem_of_getElem? (i := 9) rfl)))
  have hwc := own_neint v_wc (Cond.before_iff.mp (hsets _ (List.mem_of_getElem? (i := 11) rfl)))
  have hcw := (hsets _ (List.mem_of_getElem? (i := 11) rfl))
  obtain ⟨wD, v_wD⟩ := exa_v (Cond.before_iff.mp (hsets _ (List.mem_of_getElem? (i := 7) rfl)))
  have S_wD := Sta.start v_wD (Or.inr ⟨(hw_11 hw), (hsets _ (List.mem_of_getElem? (i := 2) rfl))⟩)
  obtain ⟨kD, V_wD⟩ := own_arr0 hfit v_wD (Cond.before_iff.mp (hsets _ (List.mem_of_getElem? (i := 6) rfl))) (Cond.before_iff.mp (hsets _ (List.mem_of_getElem? (i := 8) rfl)))
  have SS : own_St s wc wD kD := ⟨S_wc, hwc, S_wD, V_wD⟩
  have hheld : ∀ q ∈ own_EL, Jvm.Lit.constHeld s q.1 q.2 := fun q hq => hcalls.1 q hq
  have hEL : EW s _ own_EL := EW.cons (hw_135 hw) own_txt26.1 (EW.cons (hw_298 hw) own_txt38.1 EW.nil)
  have CH0 := CHv.start hEL hheld (show Jvm.Lit.compactW.before _ s = true from hcw) (hw_55 hw) (hw_51 hw)
  obtain ⟨n, o, h1, h2, h3, _, L, rfl, ⟨rfl, N⟩, -, hq⟩ := own_rm0 l s _ hw tables_1 i0 i1 i2 wc wD kD s.heap s.heap.size (Nat.le_refl _) (Old.start s) SS hEL p e ha hc hk s m _ below hf ((Spec.applies_iff_loose hf).mp happ).1 ⟨rfl, State.Warmed39.refl s, rfl, CH0⟩ trivial
  refine ⟨n, _, h1, h2, h3, hpost _ _ _ _ _ _ ⟨Cond.after_iff.mpr rfl, Cond.after_iff.mpr (eq_i res_at (Term.int_eval (1)) rfl), trivial⟩ ⟨hq.1, hq.2.1, hq.2.2.1, (hq.2.2.2.sift fun y hy => Or.inr (N y hy)).mono (by decide) (by decide)⟩⟩
theorem main_1_1 : Claimed_1_1 := own_comes fun _ _ _ _ _ _ h hF => ⟨h.1, hF⟩
theorem main_1_2 : Claimed_1_2 := own_comes fun _ _ _ _ _ _ h hF => ⟨h.2.1, hF⟩
end Jvm.Pilot.@@N@@
namespace Jvm.Pilot.@@N@@
open Jvm Jvm.ClassFile Sem Op Lib Jvm.Free Jvm.Stand Jvm.Pilot.@@N@@.Jvm.D
/-! MADE BY PROGRAM (witnessworld.py) out of the Statement's table words and the real class files: 36 classes; the members and pool entries that the words name. The judged class is class 1, her method 5. -/
namespace start1
open Jvm.ClassFile
def u (s : String) : CpInfo := .utf8 (stringToUtf16 s)
/-- a pool by its gaps: so many unusable entries, then the entry; so many at the end -/
def gap : Nat → List CpInfo → List CpInfo
  | 0, r => r
  | n + 1, r => .unusable :: gap n r
def poolList (es : List (Nat × CpInfo)) (last : Nat) : List CpInfo := es.foldr (fun e r => gap e.1 (e.2 :: r)) (gap last [])
def pool (es : List (Nat × CpInfo)) (last : Nat) : Array CpInfo := ⟨poolList es last⟩
def fileOf (pool : Array CpInfo) (this : Nat) (attrs : Array Attribute := #[]) (ms : Array MethodInfo := #[]) (fl : Nat := 33) (sup : Nat := 0) (ifs : Array Nat := #[]) (fds : Array FieldInfo := #[]) : ClassFile where
  minorVersion := 0
  majorVersion := 65
  constantPool := pool
  accessFlags := fl
  thisClass := this
  superClass := sup
  interfaces := ifs
  fields := fds
  methods := ms
  attributes := attrs
def plain (name : String) (sup : Option ClassId) : Class where
  name := name
  kind := .ordinary
  loader := none
  accessFlags := 33
  super := sup
  interfaces := #[]
  cf := none
  fields := #[]
  methods := #[]
  instanceTypes := #[]
  staticTypes := #[]
  resolved := #[]
  callSites := []
  init := .initialized
  statics := none
  mirror := none

def pool0 : Array CpInfo := pool [(5, u "<init>"), (0, u "()V"), (1, .class_ 10), (1, u "java/lang/Object")] 113

def k0c0 : Code := { maxStack := 0, maxLocals := 1, code := object_method_1_code, exceptionTable := #[], attributes := #[] }
def k0m0 : Method := { name := "<init>", desc := "()V", sig := { parameters := [], returnType := none }, accessFlags := 1, code := some k0c0 }
/-- java/lang/Object -/
def k0 : Class := { plain "java/lang/Object" none with
  accessFlags := 33
  interfaces := #[]
  cf := some (fileOf pool0 8 #[] #[{ accessFlags := 1, nameIndex := 5, descriptorIndex := 6, attributes := #[] }] 33 0 #[] #[])
  fields := #[]
  methods := #[k0m0]
  instanceTypes := #[]
  staticTypes := #[]
  resolved := Array.replicate 124 none
  statics := none }

def pool1 : Array CpInfo := pool [(2, .class_ 4), (0, .nameAndType 5 6), (0, u "java/lang/Object"), (0, u "<init>"), (0, u "()V"), (0, .class_ 8), (0, u "java/lang/String"), (0, .methodref 7 10), (0, .nameAndType 5 11), (0, u "([C)V"), (0, .methodref 7 13), (0, .nameAndType 14 15), (0, u "valueOf"), (0, u "(C)Ljava/lang/String;"), (0, .methodref 17 18), (0, .class_ 19), (0, .nameAndType 20 21), (0, u "com/example/shaper/shaper/core/ConfigProblems"), (0, u "invalid"), (0, u "(Ljava/lang/String;Ljava/lang/String;)V"), (0, .methodref 17 23), (0, .nameAndType 24 25), (0, u "unsupported"), (0, u "(Ljava/lang/String;)V"), (0, .methodref 17 27), (0, .nameAndType 24 21), (0, .methodref 17 3), (0, .methodref 30 31), (0, .class_ 32), (0, .nameAndType 33 34), (0, u "com/example/shaper/shaper/core/ConfigProblemsFirstPinLaw"), (0, u "addUnsupported"), (0, u "(Lcom/example/shaper/shaper/core/ConfigProblems;IZI)V"), (0, .methodref 30 36), (0, .nameAndType 37 38), (0, u "addViolations"), (0, u "(Lcom/example/shaper/shaper/core/ConfigProblems;II)V"), (0, .methodref 17 40), (0, .nameAndType 41 42), (0, u "first"), (0, u "()Ljava/lang/String;"), (0, .methodref 30 44), (0, .nameAndType 45 46), (0, u "cat"), (0, u "(CC)Ljava/lang/String;"), (0, .methodref 30 48), (0, .nameAndType 49 15), (0, u "catDefault"), (0, .methodref 7 51), (0, .nameAndType 52 53), (0, u "equals"), (0, u "(Ljava/lang/Object;)Z"), (3, u "law"), (0, u "(III)Z")] 2

def k1m0 : Method := { name := "<init>", desc := "()V", sig := { parameters := [], returnType := none }, accessFlags := 1, code := none }
def k1c1 : Code := { maxStack := 6, maxLocals := 2, code := method_2_code, exceptionTable := #[], attributes := #[] }
def k1m1 : Method := { name := "cat", desc := "(CC)Ljava/lang/String;", sig := { parameters := [.char, .char], returnType := some (.object "java/lang/String") }, accessFlags := 10, code := some k1c1 }
def k1c2 : Code := { maxStack := 6, maxLocals := 1, code := method_3_code, exceptionTable := #[], attributes := #[] }
def k1m2 : Method := { name := "catDefault", desc := "(C)Ljava/lang/String;", sig := { parameters := [.char], returnType := some (.object "java/lang/String") }, accessFlags := 10, code := some k1c2 }
def k1c3 : Code := { maxStack := 4, maxLocals := 3, code := method_4_code, exceptionTable := #[], attributes := #[] }
def k1m3 : Method := { name := "addViolations", desc := "(Lcom/example/shaper/shaper/core/ConfigProblems;II)V", sig := { parameters := [(.object "com/example/shaper/shaper/core/ConfigProblems"), .int, .int], returnType := none }, accessFlags := 10, code := some k1c3 }
def k1c4 : Code := { maxStack := 4, maxLocals := 4, code := method_5_code, exceptionTable := #[], attributes := #[] }
def k1m4 : Method := { name := "addUnsupported", desc := "(Lcom/example/shaper/shaper/core/ConfigProblems;IZI)V", sig := { parameters := [(.object "com/example/shaper/shaper/core/ConfigProblems"), .int, .boolean, .int], returnType := none }, accessFlags := 10, code := some k1c4 }
def k1c5 : Code := { maxStack := 4, maxLocals := 10, code := code, exceptionTable := #[], attributes := #[] }
def k1m5 : Method := { name := "law", desc := "(III)Z", sig := { parameters := [.int, .int, .int], returnType := some .boolean }, accessFlags := 9, code := some k1c5 }
/-- com/example/shaper/shaper/core/ConfigProblemsFirstPinLaw -/
def k1 : Class := { plain "com/example/shaper/shaper/core/ConfigProblemsFirstPinLaw" (some 0) with
  accessFlags := 49
  interfaces := #[]
  cf := some (fileOf pool1 30 #[] #[{ accessFlags := 1, nameIndex := 5, descriptorIndex := 6, attributes := #[] }, { accessFlags := 10, nameIndex := 45, descriptorIndex := 46, attributes := #[] }, { accessFlags := 10, nameIndex := 49, descriptorIndex := 15, attributes := #[] }, { accessFlags := 10, nameIndex := 37, descriptorIndex := 38, attributes := #[] }, { accessFlags := 10, nameIndex := 33, descriptorIndex := 34, attributes := #[] }, { accessFlags := 9, nameIndex := 57, descriptorIndex := 58, attributes := #[] }] 49 2 #[] #[])
  fields := #[]
  methods := #[k1m0, k1m1, k1m2, k1m3, k1m4, k1m5]
  instanceTypes := #[]
  staticTypes := #[]
  resolved := Array.replicate 61 none
  statics := none }

def pool2 : Array CpInfo := pool [(1, .methodref 2 3), (0, .class_ 4), (0, .nameAndType 5 6), (0, u "java/lang/Object"), (0, u "<init>"), (0, u "()V"), (0, .class_ 8), (0, u "java/util/ArrayList"), (0, .methodref 7 3), (0, .fieldref 11 12), (0, .class_ 13), (0, .nameAndType 14 15), (0, u "com/example/shaper/shaper/core/ConfigProblems"), (0, u "violations"), (0, u "Ljava/util/List;"), (0, .fieldref 11 17), (0, .nameAndType 18 15), (0, u "unsupported"), (0, .class_ 20), (0, u "java/lang/StringBuilder"), (0, .methodref 19 3), (0, .methodref 19 23), (0, .nameAndType 24 25), (0, u "append"), (0, u "(Ljava/lang/String;)Ljava/lang/StringBuilder;"), (0, .string 27), (0, u ": "), (0, .methodref 19 29), (0, .nameAndType 30 31), (0, u "toString"), (0, u "()Ljava/lang/String;"), (0, .interfaceMethodref 33 34), (0, .class_ 35), (0, .nameAndType 36 37), (0, u "java/util/List"), (0, u "add"), (0, u "(Ljava/lang/Object;)Z"), (0, .string 39), (0, u "not supported yet"), (0, .methodref 11 41), (0, .nameAndType 18 42), (0, u "(Ljava/lang/String;Ljava/lang/String;)V"), (16, u "(Ljava/lang/String;)V"), (1, .class_ 63), (1, u "java/lang/String"), (65, .methodref 11 130), (0, .nameAndType 131 132), (0, u "refusing"), (0, u "()Ljava/util/List;"), (0, .interfaceMethodref 33 134), (0, .nameAndType 135 136), (0, u "isEmpty"), (0, u "()Z"), (0, .interfaceMethodref 33 138), (0, .nameAndType 139 140), (0, u "get"), (0, u "(I)Ljava/lang/Object;"), (2, u "first"), (18, u "LINE_PREFIX"), (0, u "Ljava/lang/String;"), (5, u "invalid")] 15

def k2c0 : Code := { maxStack := 3, maxLocals := 1, code := prog_4_method_1_code, exceptionTable := #[], attributes := #[] }
def k2m0 : Method := { name := "<init>", desc := "()V", sig := { parameters := [], returnType := none }, accessFlags := 1, code := some k2c0 }
def k2c1 : Code := { maxStack := 3, maxLocals := 3, code := prog_4_method_2_code, exceptionTable := #[], attributes := #[] }
def k2m1 : Method := { name := "invalid", desc := "(Ljava/lang/String;Ljava/lang/String;)V", sig := { parameters := [(.object "java/lang/String"), (.object "java/lang/String")], returnType := none }, accessFlags := 1, code := some k2c1 }
def k2c2 : Code := { maxStack := 3, maxLocals := 2, code := prog_4_method_3_code, exceptionTable := #[], attributes := #[] }
def k2m2 : Method := { name := "unsupported", desc := "(Ljava/lang/String;)V", sig := { parameters := [(.object "java/lang/String")], returnType := none }, accessFlags := 1, code := some k2c2 }
def k2c3 : Code := { maxStack := 3, maxLocals := 3, code := prog_4_method_4_code, exceptionTable := #[], attributes := #[] }
def k2m3 : Method := { name := "unsupported", desc := "(Ljava/lang/String;Ljava/lang/String;)V", sig := { parameters := [(.object "java/lang/String"), (.object "java/lang/String")], returnType := none }, accessFlags := 1, code := some k2c3 }
def k2c4 : Code := { maxStack := 2, maxLocals := 2, code := prog_4_method_14_code, exceptionTable := #[], attributes := #[] }
def k2m4 : Method := { name := "first", desc := "()Ljava/lang/String;", sig := { parameters := [], returnType := some (.object "java/lang/String") }, accessFlags := 1, code := some k2c4 }
def k2c5 : Code := { maxStack := 1, maxLocals := 1, code := prog_4_method_16_code, exceptionTable := #[], attributes := #[] }
def k2m5 : Method := { name := "refusing", desc := "()Ljava/util/List;", sig := { parameters := [], returnType := some (.object "java/util/List") }, accessFlags := 2, code := some k2c5 }
/-- com/example/shaper/shaper/core/ConfigProblems -/
def k2 : Class := { plain "com/example/shaper/shaper/core/ConfigProblems" (some 0) with
  accessFlags := 49
  interfaces := #[]
  cf := some (fileOf pool2 11 #[] #[{ accessFlags := 1, nameIndex := 5, descriptorIndex := 6, attributes := #[] }, { accessFlags := 1, nameIndex := 169, descriptorIndex := 42, attributes := #[] }, { accessFlags := 1, nameIndex := 18, descriptorIndex := 59, attributes := #[] }, { accessFlags := 1, nameIndex := 18, descriptorIndex := 42, attributes := #[] }, { accessFlags := 1, nameIndex := 143, descriptorIndex := 31, attributes := #[] }, { accessFlags := 2, nameIndex := 131, descriptorIndex := 132, attributes := #[] }] 49 2 #[] #[{ accessFlags := 26, nameIndex := 162, descriptorIndex := 163, attributes := #[] }, { accessFlags := 18, nameIndex := 14, descriptorIndex := 15, attributes := #[] }, { accessFlags := 18, nameIndex := 18, descriptorIndex := 15, attributes := #[] }])
  fields := #[{ name := "LINE_PREFIX", type := (.object "java/lang/String"), accessFlags := 26, slot := 0, constantValue := 0 }, { name := "violations", type := (.object "java/util/List"), accessFlags := 18, slot := 0, constantValue := 0 }, { name := "unsupported", type := (.object "java/util/List"), accessFlags := 18, slot := 1, constantValue := 0 }]
  methods := #[k2m0, k2m1, k2m2, k2m3, k2m4, k2m5]
  instanceTypes := #[(.object "java/util/List"), (.object "java/util/List")]
  staticTypes := #[(.object "java/lang/String")]
  resolved := Array.replicate 185 none
  statics := none }

def pool3 : Array CpInfo := pool [(8, .class_ 10), (1, u "java/lang/Iterable"), (24, .class_ 36), (0, u "java/lang/Object")] 25

/-- java/lang/Iterable -/
def k3 : Class := { plain "java/lang/Iterable" (some 0) with
  accessFlags := 1537
  interfaces := #[]
  cf := some (fileOf pool3 8 #[] #[] 1537 35 #[] #[])
  fields := #[]
  methods := #[]
  instanceTypes := #[]
  staticTypes := #[]
  resolved := Array.replicate 62 none
  statics := none }

def pool4 : Array CpInfo := pool [(10, .class_ 12), (1, u "java/util/Collection"), (47, .class_ 61), (0, u "java/lang/Object"), (0, .class_ 63), (0, u "java/lang/Iterable")] 51

/-- java/util/Collection -/
def k4 : Class := { plain "java/util/Collection" (some 0) with
  accessFlags := 1537
  interfaces := #[3]
  cf := some (fileOf pool4 10 #[] #[] 1537 60 #[62] #[])
  fields := #[]
  methods := #[]
  instanceTypes := #[]
  staticTypes := #[]
  resolved := Array.replicate 115 none
  statics := none }

def pool5 : Array CpInfo := pool [(1, .methodref 2 3), (0, .class_ 4), (0, .nameAndType 5 6), (0, u "java/lang/Object"), (0, u "<init>"), (0, u "()V"), (1, .class_ 10), (1, u "java/util/AbstractCollection"), (66, .class_ 78), (0, u "java/util/Collection")] 81

def k5c0 : Code := { maxStack := 1, maxLocals := 1, code := jdk_22_method_1_code, exceptionTable := #[], attributes := #[] }
def k5m0 : Method := { name := "<init>", desc := "()V", sig := { parameters := [], returnType := none }, accessFlags := 4, code := some k5c0 }
/-- java/util/AbstractCollection -/
def k5 : Class := { plain "java/util/AbstractCollection" (some 0) with
  accessFlags := 1057
  interfaces := #[4]
  cf := some (fileOf pool5 8 #[] #[{ accessFlags := 4, nameIndex := 5, descriptorIndex := 6, attributes := #[] }] 1057 2 #[77] #[])
  fields := #[]
  methods := #[k5m0]
  instanceTypes := #[]
  staticTypes := #[]
  resolved := Array.replicate 160 none
  statics := none }

def pool6 : Array CpInfo := pool [(8, .class_ 10), (1, u "java/util/SequencedCollection"), (15, .class_ 27), (0, u "java/lang/Object"), (0, .class_ 29), (0, u "java/util/Collection")] 27

/-- java/util/SequencedCollection -/
def k6 : Class := { plain "java/util/SequencedCollection" (some 0) with
  accessFlags := 1537
  interfaces := #[4]
  cf := some (fileOf pool6 8 #[] #[] 1537 26 #[28] #[])
  fields := #[]
  methods := #[]
  instanceTypes := #[]
  staticTypes := #[]
  resolved := Array.replicate 57 none
  statics := none }

def pool7 : Array CpInfo := pool [(8, .class_ 10), (1, u "java/util/List"), (7, u "()Z"), (41, u "add"), (3, u "(Ljava/lang/Object;)Z"), (2, u "isEmpty"), (7, u "get"), (0, u "(I)Ljava/lang/Object;"), (26, .class_ 104), (0, u "java/lang/Object"), (15, .class_ 121), (0, u "java/util/SequencedCollection")] 129

def k7m0 : Method := { name := "isEmpty", desc := "()Z", sig := { parameters := [], returnType := some .boolean }, accessFlags := 1025, code := none }
def k7m1 : Method := { name := "add", desc := "(Ljava/lang/Object;)Z", sig := { parameters := [(.object "java/lang/Object")], returnType := some .boolean }, accessFlags := 1025, code := none }
def k7m2 : Method := { name := "get", desc := "(I)Ljava/lang/Object;", sig := { parameters := [.int], returnType := some (.object "java/lang/Object") }, accessFlags := 1025, code := none }
/-- java/util/List -/
def k7 : Class := { plain "java/util/List" (some 0) with
  accessFlags := 1537
  interfaces := #[6]
  cf := some (fileOf pool7 8 #[] #[{ accessFlags := 1025, nameIndex := 67, descriptorIndex := 18, attributes := #[] }, { accessFlags := 1025, nameIndex := 60, descriptorIndex := 64, attributes := #[] }, { accessFlags := 1025, nameIndex := 75, descriptorIndex := 76, attributes := #[] }] 1537 103 #[120] #[])
  fields := #[]
  methods := #[k7m0, k7m1, k7m2]
  instanceTypes := #[]
  staticTypes := #[]
  resolved := Array.replicate 251 none
  statics := none }

def pool8 : Array CpInfo := pool [(1, .methodref 2 3), (0, .class_ 4), (0, .nameAndType 5 6), (0, u "java/util/AbstractCollection"), (0, u "<init>"), (0, u "()V"), (0, .fieldref 8 9), (0, .class_ 10), (0, .nameAndType 11 12), (0, u "java/util/AbstractList"), (0, u "modCount"), (0, u "I"), (64, .class_ 78), (0, u "java/util/AbstractList$Itr"), (3, .class_ 83), (0, u "java/util/AbstractList$ListItr"), (9, .class_ 94), (0, u "java/util/AbstractList$RandomAccessSubList"), (3, .class_ 99), (0, u "java/util/AbstractList$SubList"), (33, .class_ 134), (0, u "java/util/List"), (73, .class_ 209), (0, u "java/util/AbstractList$SubList$1"), (0, .class_ 211), (0, u "java/util/AbstractList$RandomAccessSpliterator")] 6

def k8c0 : Code := { maxStack := 2, maxLocals := 1, code := jdk_39_method_1_code, exceptionTable := #[], attributes := #[] }
def k8m0 : Method := { name := "<init>", desc := "()V", sig := { parameters := [], returnType := none }, accessFlags := 4, code := some k8c0 }
/-- java/util/AbstractList -/
def k8 : Class := { plain "java/util/AbstractList" (some 5) with
  accessFlags := 1057
  interfaces := #[7]
  cf := some (fileOf pool8 8 #[.nestMembers #[93, 98, 208, 210, 82, 77]] #[{ accessFlags := 4, nameIndex := 5, descriptorIndex := 6, attributes := #[] }] 1057 2 #[133] #[{ accessFlags := 132, nameIndex := 11, descriptorIndex := 12, attributes := #[] }])
  fields := #[{ name := "modCount", type := .int, accessFlags := 132, slot := 0, constantValue := 0 }]
  methods := #[k8m0]
  instanceTypes := #[.int]
  staticTypes := #[]
  resolved := Array.replicate 218 none
  statics := none }

def pool9 : Array CpInfo := pool [(1, .class_ 2), (0, u "java/util/RandomAccess"), (0, .class_ 4), (0, u "java/lang/Object")] 2

/-- java/util/RandomAccess -/
def k9 : Class := { plain "java/util/RandomAccess" (some 0) with
  accessFlags := 1537
  interfaces := #[]
  cf := some (fileOf pool9 1 #[] #[] 1537 3 #[] #[])
  fields := #[]
  methods := #[]
  instanceTypes := #[]
  staticTypes := #[]
  resolved := Array.replicate 7 none
  statics := none }

def pool10 : Array CpInfo := pool [(1, .class_ 2), (0, u "java/lang/Cloneable"), (0, .class_ 4), (0, u "java/lang/Object")] 2

/-- java/lang/Cloneable -/
def k10 : Class := { plain "java/lang/Cloneable" (some 0) with
  accessFlags := 1537
  interfaces := #[]
  cf := some (fileOf pool10 1 #[] #[] 1537 3 #[] #[])
  fields := #[]
  methods := #[]
  instanceTypes := #[]
  staticTypes := #[]
  resolved := Array.replicate 7 none
  statics := none }

def pool11 : Array CpInfo := pool [(1, .class_ 2), (0, u "java/io/Serializable"), (0, .class_ 4), (0, u "java/lang/Object")] 2

/-- java/io/Serializable -/
def k11 : Class := { plain "java/io/Serializable" (some 0) with
  accessFlags := 1537
  interfaces := #[]
  cf := some (fileOf pool11 1 #[] #[] 1537 3 #[] #[])
  fields := #[]
  methods := #[]
  instanceTypes := #[]
  staticTypes := #[]
  resolved := Array.replicate 7 none
  statics := none }

def pool12 : Array CpInfo := pool [(1, .methodref 2 3), (0, .class_ 4), (0, .nameAndType 5 6), (0, u "java/util/AbstractList"), (0, u "<init>"), (0, u "()V"), (0, .class_ 8), (0, u "java/lang/Object"), (0, .fieldref 10 11), (0, .class_ 12), (0, .nameAndType 13 14), (0, u "java/util/ArrayList"), (0, u "elementData"), (0, u "[Ljava/lang/Object;"), (2, u "EMPTY_ELEMENTDATA"), (21, .fieldref 10 40), (0, .nameAndType 41 14), (0, u "DEFAULTCAPACITY_EMPTY_ELEMENTDATA"), (5, u "()[Ljava/lang/Object;"), (0, .fieldref 10 49), (0, .nameAndType 50 51), (0, u "size"), (0, u "I"), (11, .fieldref 10 64), (0, .nameAndType 65 51), (0, u "modCount"), (3, .methodref 10 70), (0, .nameAndType 71 72), (0, u "grow"), (0, u "(I)[Ljava/lang/Object;"), (6, .methodref 80 81), (0, .class_ 82), (0, .nameAndType 83 84), (0, u "java/lang/Math"), (0, u "max"), (0, u "(II)I"), (11, u "(Ljava/lang/Object;)Z"), (21, .methodref 119 120), (0, .class_ 121), (0, .nameAndType 122 84), (0, u "java/util/Objects"), (0, u "checkIndex"), (0, .methodref 10 124), (0, .nameAndType 13 125), (0, u "(I)Ljava/lang/Object;"), (3, .methodref 10 130), (0, .nameAndType 71 47), (0, .methodref 10 132), (0, .nameAndType 133 134), (0, u "add"), (0, u "(Ljava/lang/Object;[Ljava/lang/Object;I)V"), (13, .class_ 149), (0, u "java/util/List"), (23, u "()Z"), (88, .class_ 263), (0, u "java/util/ArrayList$ListItr"), (3, .class_ 268), (0, u "java/util/ArrayList$Itr"), (7, .class_ 277), (0, u "java/util/ArrayList$SubList"), (12, .class_ 291), (0, u "java/util/ArrayList$ArrayListSpliterator"), (37, .class_ 330), (0, u "java/util/RandomAccess"), (0, .class_ 332), (0, u "java/lang/Cloneable"), (0, .class_ 334), (0, u "java/io/Serializable"), (0, u "serialVersionUID"), (0, u "J"), (3, u "DEFAULT_CAPACITY"), (22, u "isEmpty"), (17, u "get"), (118, .class_ 501), (0, u "java/util/ArrayList$SubList$2"), (0, .class_ 503), (0, u "java/util/ArrayList$SubList$1")] 5

def k12c0 : Code := { maxStack := 2, maxLocals := 1, code := jdk_38_method_2_code, exceptionTable := #[], attributes := #[] }
def k12m0 : Method := { name := "<init>", desc := "()V", sig := { parameters := [], returnType := none }, accessFlags := 1, code := some k12c0 }
def k12c1 : Code := { maxStack := 4, maxLocals := 4, code := jdk_38_method_6_code, exceptionTable := #[], attributes := #[] }
def k12m1 : Method := { name := "grow", desc := "(I)[Ljava/lang/Object;", sig := { parameters := [.int], returnType := some (.array (.object "java/lang/Object")) }, accessFlags := 2, code := some k12c1 }
def k12c2 : Code := { maxStack := 3, maxLocals := 1, code := jdk_38_method_7_code, exceptionTable := #[], attributes := #[] }
def k12m2 : Method := { name := "grow", desc := "()[Ljava/lang/Object;", sig := { parameters := [], returnType := some (.array (.object "java/lang/Object")) }, accessFlags := 2, code := some k12c2 }
def k12c3 : Code := { maxStack := 1, maxLocals := 1, code := jdk_38_method_9_code, exceptionTable := #[], attributes := #[] }
def k12m3 : Method := { name := "isEmpty", desc := "()Z", sig := { parameters := [], returnType := some .boolean }, accessFlags := 1, code := some k12c3 }
def k12c4 : Code := { maxStack := 2, maxLocals := 2, code := jdk_38_method_18_code, exceptionTable := #[], attributes := #[] }
def k12m4 : Method := { name := "elementData", desc := "(I)Ljava/lang/Object;", sig := { parameters := [.int], returnType := some (.object "java/lang/Object") }, accessFlags := 0, code := some k12c4 }
def k12c5 : Code := { maxStack := 2, maxLocals := 2, code := jdk_38_method_20_code, exceptionTable := #[], attributes := #[] }
def k12m5 : Method := { name := "get", desc := "(I)Ljava/lang/Object;", sig := { parameters := [.int], returnType := some (.object "java/lang/Object") }, accessFlags := 1, code := some k12c5 }
def k12c6 : Code := { maxStack := 3, maxLocals := 4, code := jdk_38_method_24_code, exceptionTable := #[], attributes := #[] }
def k12m6 : Method := { name := "add", desc := "(Ljava/lang/Object;[Ljava/lang/Object;I)V", sig := { parameters := [(.object "java/lang/Object"), (.array (.object "java/lang/Object")), .int], returnType := none }, accessFlags := 2, code := some k12c6 }
def k12c7 : Code := { maxStack := 4, maxLocals := 2, code := jdk_38_method_25_code, exceptionTable := #[], attributes := #[] }
def k12m7 : Method := { name := "add", desc := "(Ljava/lang/Object;)Z", sig := { parameters := [(.object "java/lang/Object")], returnType := some .boolean }, accessFlags := 1, code := some k12c7 }
/-- java/util/ArrayList -/
def k12 : Class := { plain "java/util/ArrayList" (some 8) with
  accessFlags := 33
  interfaces := #[7, 9, 10, 11]
  cf := some (fileOf pool12 10 #[.nestMembers #[290, 276, 500, 502, 262, 267]] #[{ accessFlags := 1, nameIndex := 5, descriptorIndex := 6, attributes := #[] }, { accessFlags := 2, nameIndex := 71, descriptorIndex := 72, attributes := #[] }, { accessFlags := 2, nameIndex := 71, descriptorIndex := 47, attributes := #[] }, { accessFlags := 1, nameIndex := 363, descriptorIndex := 173, attributes := #[] }, { accessFlags := 0, nameIndex := 13, descriptorIndex := 125, attributes := #[] }, { accessFlags := 1, nameIndex := 381, descriptorIndex := 125, attributes := #[] }, { accessFlags := 2, nameIndex := 133, descriptorIndex := 134, attributes := #[] }, { accessFlags := 1, nameIndex := 133, descriptorIndex := 96, attributes := #[] }] 33 2 #[148, 329, 331, 333] #[{ accessFlags := 26, nameIndex := 335, descriptorIndex := 336, attributes := #[] }, { accessFlags := 26, nameIndex := 340, descriptorIndex := 51, attributes := #[] }, { accessFlags := 26, nameIndex := 17, descriptorIndex := 14, attributes := #[] }, { accessFlags := 26, nameIndex := 41, descriptorIndex := 14, attributes := #[] }, { accessFlags := 128, nameIndex := 13, descriptorIndex := 14, attributes := #[] }, { accessFlags := 2, nameIndex := 50, descriptorIndex := 51, attributes := #[] }])
  fields := #[{ name := "serialVersionUID", type := .long, accessFlags := 26, slot := 0, constantValue := 0 }, { name := "DEFAULT_CAPACITY", type := .int, accessFlags := 26, slot := 1, constantValue := 0 }, { name := "EMPTY_ELEMENTDATA", type := (.array (.object "java/lang/Object")), accessFlags := 26, slot := 2, constantValue := 0 }, { name := "DEFAULTCAPACITY_EMPTY_ELEMENTDATA", type := (.array (.object "java/lang/Object")), accessFlags := 26, slot := 3, constantValue := 0 }, { name := "elementData", type := (.array (.object "java/lang/Object")), accessFlags := 128, slot := 1, constantValue := 0 }, { name := "size", type := .int, accessFlags := 2, slot := 2, constantValue := 0 }]
  methods := #[k12m0, k12m1, k12m2, k12m3, k12m4, k12m5, k12m6, k12m7]
  instanceTypes := #[.int, (.array (.object "java/lang/Object")), .int]
  staticTypes := #[.long, .int, (.array (.object "java/lang/Object")), (.array (.object "java/lang/Object"))]
  resolved := Array.replicate 509 none
  statics := some 0 }

def pool13 : Array CpInfo := pool [(1, .class_ 2), (0, u "java/lang/Comparable"), (0, .class_ 4), (0, u "java/lang/Object")] 7

/-- java/lang/Comparable -/
def k13 : Class := { plain "java/lang/Comparable" (some 0) with
  accessFlags := 1537
  interfaces := #[]
  cf := some (fileOf pool13 1 #[] #[] 1537 3 #[] #[])
  fields := #[]
  methods := #[]
  instanceTypes := #[]
  staticTypes := #[]
  resolved := Array.replicate 12 none
  statics := none }

def pool14 : Array CpInfo := pool [(2, .class_ 4), (1, u "java/lang/CharSequence"), (42, .class_ 48), (0, u "java/lang/CharSequence$1CodePointIterator"), (10, .class_ 60), (0, u "java/lang/CharSequence$1CharIterator"), (5, .class_ 67), (0, u "java/lang/Object")] 63

/-- java/lang/CharSequence -/
def k14 : Class := { plain "java/lang/CharSequence" (some 0) with
  accessFlags := 1537
  interfaces := #[]
  cf := some (fileOf pool14 2 #[.nestMembers #[47, 59]] #[] 1537 66 #[] #[])
  fields := #[]
  methods := #[]
  instanceTypes := #[]
  staticTypes := #[]
  resolved := Array.replicate 131 none
  statics := none }

def pool15 : Array CpInfo := pool [(1, .class_ 2), (0, u "java/lang/constant/Constable"), (0, .class_ 4), (0, u "java/lang/Object")] 6

/-- java/lang/constant/Constable -/
def k15 : Class := { plain "java/lang/constant/Constable" (some 0) with
  accessFlags := 1537
  interfaces := #[]
  cf := some (fileOf pool15 1 #[] #[] 1537 3 #[] #[])
  fields := #[]
  methods := #[]
  instanceTypes := #[]
  staticTypes := #[]
  resolved := Array.replicate 11 none
  statics := none }

def pool16 : Array CpInfo := pool [(1, .class_ 2), (0, u "java/lang/constant/ConstantDesc"), (0, .class_ 4), (0, u "java/lang/Object")] 32

/-- java/lang/constant/ConstantDesc -/
def k16 : Class := { plain "java/lang/constant/ConstantDesc" (some 0) with
  accessFlags := 1537
  interfaces := #[]
  cf := some (fileOf pool16 1 #[] #[] 1537 3 #[] #[])
  fields := #[]
  methods := #[]
  instanceTypes := #[]
  staticTypes := #[]
  resolved := Array.replicate 37 none
  statics := none }

def pool17 : Array CpInfo := pool [(1, .methodref 2 3), (0, .class_ 4), (0, .nameAndType 5 6), (0, u "java/lang/Object"), (0, u "<init>"), (0, u "()V"), (2, .fieldref 10 11), (0, .class_ 12), (0, .nameAndType 13 14), (0, u "java/lang/String"), (0, u "value"), (0, u "[B"), (0, .fieldref 10 16), (0, .nameAndType 17 18), (0, u "coder"), (0, u "B"), (2, u "hash"), (0, u "I"), (2, u "hashIsZero"), (0, u "Z"), (0, .methodref 10 28), (0, .nameAndType 5 29), (0, u "([CIILjava/lang/Void;)V"), (8, .fieldref 10 39), (0, .nameAndType 40 26), (0, u "COMPACT_STRINGS"), (1, .class_ 44), (1, u "java/lang/StringUTF16"), (0, u "compress"), (1, .methodref 42 48), (0, .nameAndType 49 50), (0, u "coderFromArrayLen"), (0, u "([BI)B"), (2, u "toBytes"), (0, .methodref 55 56), (0, .class_ 57), (0, .nameAndType 58 59), (0, u "java/util/Arrays"), (0, u "copyOfRange"), (0, u "([BII)[B"), (47, .class_ 109), (1, u "java/lang/StringLatin1"), (32, u "()Z"), (34, .methodref 42 178), (0, .nameAndType 45 179), (0, u "([CII)[B"), (13, .class_ 195), (1, u "java/lang/System"), (13, .methodref 10 210), (0, .nameAndType 5 211), (0, u "([BB)V"), (0, .methodref 193 213), (0, .nameAndType 214 215), (0, u "arraycopy"), (0, u "(Ljava/lang/Object;ILjava/lang/Object;II)V"), (118, u "()I"), (0, .methodref 10 336), (0, .nameAndType 17 337), (0, u "()B"), (2, u "()[B"), (28, u "(C)Z"), (119, .methodref 10 490), (0, .nameAndType 5 491), (0, u "(Ljava/lang/AbstractStringBuilder;Ljava/lang/Void;)V"), (1, .nameAndType 494 142), (0, u "isLatin1"), (11, .nameAndType 507 334), (0, u "length"), (24, u "getBytes"), (8, .methodref 107 542), (0, .nameAndType 543 544), (0, u "equals"), (0, u "([B[B)Z"), (4, .methodref 550 506), (0, .class_ 551), (0, u "java/lang/AbstractStringBuilder"), (0, .methodref 550 553), (0, .nameAndType 554 340), (0, u "getValue"), (18, u "(Ljava/lang/Object;)Z"), (1, .class_ 576), (0, u "java/lang/CharSequence"), (22, u "CASE_INSENSITIVE_ORDER"), (0, u "Ljava/util/Comparator;"), (181, u "valueOf"), (0, u "(C)Ljava/lang/String;"), (37, u "([BIB)V"), (188, u "([C)V"), (4, .methodref 107 1016), (0, .nameAndType 1017 369), (0, u "canEncode"), (0, .methodref 107 1019), (0, .nameAndType 53 1020), (0, u "(C)[B"), (26, .methodref 550 493), (53, u "serialPersistentFields"), (0, u "[Ljava/io/ObjectStreamField;"), (0, .class_ 1104), (0, u "java/lang/String$CaseInsensitiveComparator"), (1, .class_ 1107), (0, u "java/io/Serializable"), (0, .class_ 1109), (0, u "java/lang/Comparable"), (0, .class_ 1111), (0, u "java/lang/constant/Constable"), (0, .class_ 1113), (0, u "java/lang/constant/ConstantDesc"), (2, u "serialVersionUID"), (0, u "J"), (3, u "REPL"), (0, u "C"), (2, u "LATIN1"), (1, u "UTF16"), (105, u "(Ljava/lang/StringBuilder;)V")] 217

def k17m0 : Method := { name := "<init>", desc := "()V", sig := { parameters := [], returnType := none }, accessFlags := 1, code := none }
def k17c1 : Code := { maxStack := 5, maxLocals := 2, code := jdk_42_method_3_code, exceptionTable := #[], attributes := #[] }
def k17m1 : Method := { name := "<init>", desc := "([C)V", sig := { parameters := [(.array .char)], returnType := none }, accessFlags := 1, code := some k17c1 }
def k17c2 : Code := { maxStack := 3, maxLocals := 2, code := jdk_42_method_53_code, exceptionTable := #[], attributes := #[] }
def k17m2 : Method := { name := "<init>", desc := "(Ljava/lang/StringBuilder;)V", sig := { parameters := [(.object "java/lang/StringBuilder")], returnType := none }, accessFlags := 1, code := some k17c2 }
def k17c3 : Code := { maxStack := 2, maxLocals := 1, code := jdk_42_method_54_code, exceptionTable := #[], attributes := #[] }
def k17m3 : Method := { name := "length", desc := "()I", sig := { parameters := [], returnType := some .int }, accessFlags := 1, code := some k17c3 }
def k17c4 : Code := { maxStack := 2, maxLocals := 3, code := jdk_42_method_66_code, exceptionTable := #[], attributes := #[] }
def k17m4 : Method := { name := "equals", desc := "(Ljava/lang/Object;)Z", sig := { parameters := [(.object "java/lang/Object")], returnType := some .boolean }, accessFlags := 1, code := some k17c4 }
def k17c5 : Code := { maxStack := 4, maxLocals := 1, code := jdk_42_method_139_code, exceptionTable := #[], attributes := #[] }
def k17m5 : Method := { name := "valueOf", desc := "(C)Ljava/lang/String;", sig := { parameters := [.char], returnType := some (.object "java/lang/String") }, accessFlags := 9, code := some k17c5 }
def k17c6 : Code := { maxStack := 5, maxLocals := 4, code := jdk_42_method_147_code, exceptionTable := #[], attributes := #[] }
def k17m6 : Method := { name := "getBytes", desc := "([BIB)V", sig := { parameters := [(.array .byte), .int, .byte], returnType := none }, accessFlags := 0, code := some k17c6 }
def k17c7 : Code := { maxStack := 4, maxLocals := 6, code := jdk_42_method_149_code, exceptionTable := #[], attributes := #[] }
def k17m7 : Method := { name := "<init>", desc := "([CIILjava/lang/Void;)V", sig := { parameters := [(.array .char), .int, .int, (.object "java/lang/Void")], returnType := none }, accessFlags := 2, code := some k17c7 }
def k17c8 : Code := { maxStack := 5, maxLocals := 5, code := jdk_42_method_150_code, exceptionTable := #[], attributes := #[] }
def k17m8 : Method := { name := "<init>", desc := "(Ljava/lang/AbstractStringBuilder;Ljava/lang/Void;)V", sig := { parameters := [(.object "java/lang/AbstractStringBuilder"), (.object "java/lang/Void")], returnType := none }, accessFlags := 0, code := some k17c8 }
def k17c9 : Code := { maxStack := 2, maxLocals := 3, code := jdk_42_method_151_code, exceptionTable := #[], attributes := #[] }
def k17m9 : Method := { name := "<init>", desc := "([BB)V", sig := { parameters := [(.array .byte), .byte], returnType := none }, accessFlags := 0, code := some k17c9 }
def k17c10 : Code := { maxStack := 1, maxLocals := 1, code := jdk_42_method_152_code, exceptionTable := #[], attributes := #[] }
def k17m10 : Method := { name := "coder", desc := "()B", sig := { parameters := [], returnType := some .byte }, accessFlags := 0, code := some k17c10 }
/-- java/lang/String -/
def k17 : Class := { plain "java/lang/String" (some 0) with
  accessFlags := 49
  interfaces := #[11, 13, 14, 15, 16]
  cf := some (fileOf pool17 10 #[.nestMembers #[1103]] #[{ accessFlags := 1, nameIndex := 5, descriptorIndex := 6, attributes := #[] }, { accessFlags := 1, nameIndex := 5, descriptorIndex := 1010, attributes := #[] }, { accessFlags := 1, nameIndex := 5, descriptorIndex := 1233, attributes := #[] }, { accessFlags := 1, nameIndex := 507, descriptorIndex := 334, attributes := #[] }, { accessFlags := 1, nameIndex := 543, descriptorIndex := 573, attributes := #[] }, { accessFlags := 9, nameIndex := 782, descriptorIndex := 783, attributes := #[] }, { accessFlags := 0, nameIndex := 532, descriptorIndex := 821, attributes := #[] }, { accessFlags := 2, nameIndex := 5, descriptorIndex := 29, attributes := #[] }, { accessFlags := 0, nameIndex := 5, descriptorIndex := 491, attributes := #[] }, { accessFlags := 0, nameIndex := 5, descriptorIndex := 211, attributes := #[] }, { accessFlags := 0, nameIndex := 17, descriptorIndex := 337, attributes := #[] }] 49 2 #[1106, 1108, 575, 1110, 1112] #[{ accessFlags := 18, nameIndex := 13, descriptorIndex := 14, attributes := #[] }, { accessFlags := 18, nameIndex := 17, descriptorIndex := 18, attributes := #[] }, { accessFlags := 2, nameIndex := 21, descriptorIndex := 22, attributes := #[] }, { accessFlags := 2, nameIndex := 25, descriptorIndex := 26, attributes := #[] }, { accessFlags := 26, nameIndex := 1116, descriptorIndex := 1117, attributes := #[] }, { accessFlags := 24, nameIndex := 40, descriptorIndex := 26, attributes := #[] }, { accessFlags := 26, nameIndex := 1101, descriptorIndex := 1102, attributes := #[] }, { accessFlags := 26, nameIndex := 1121, descriptorIndex := 1122, attributes := #[] }, { accessFlags := 25, nameIndex := 599, descriptorIndex := 600, attributes := #[] }, { accessFlags := 24, nameIndex := 1125, descriptorIndex := 18, attributes := #[] }, { accessFlags := 24, nameIndex := 1127, descriptorIndex := 18, attributes := #[] }])
  fields := #[{ name := "value", type := (.array .byte), accessFlags := 18, slot := 0, constantValue := 0 }, { name := "coder", type := .byte, accessFlags := 18, slot := 1, constantValue := 0 }, { name := "hash", type := .int, accessFlags := 2, slot := 2, constantValue := 0 }, { name := "hashIsZero", type := .boolean, accessFlags := 2, slot := 3, constantValue := 0 }, { name := "serialVersionUID", type := .long, accessFlags := 26, slot := 0, constantValue := 0 }, { name := "COMPACT_STRINGS", type := .boolean, accessFlags := 24, slot := 1, constantValue := 0 }, { name := "serialPersistentFields", type := (.array (.object "java/io/ObjectStreamField")), accessFlags := 26, slot := 2, constantValue := 0 }, { name := "REPL", type := .char, accessFlags := 26, slot := 3, constantValue := 0 }, { name := "CASE_INSENSITIVE_ORDER", type := (.object "java/util/Comparator"), accessFlags := 25, slot := 4, constantValue := 0 }, { name := "LATIN1", type := .byte, accessFlags := 24, slot := 5, constantValue := 0 }, { name := "UTF16", type := .byte, accessFlags := 24, slot := 6, constantValue := 0 }]
  methods := #[k17m0, k17m1, k17m2, k17m3, k17m4, k17m5, k17m6, k17m7, k17m8, k17m9, k17m10]
  instanceTypes := #[(.array .byte), .byte, .int, .boolean]
  staticTypes := #[.long, .boolean, (.array (.object "java/io/ObjectStreamField")), .char, (.object "java/util/Comparator"), .byte, .byte]
  resolved := Array.replicate 1451 none
  statics := some 1 }

def pool18 : Array CpInfo := pool [(4, .class_ 6), (1, u "java/lang/Object"), (0, u "<init>"), (0, u "()V"), (5, .class_ 16), (1, u "java/lang/StringLatin1"), (73, u "canEncode"), (14, u "(C)Z"), (15, u "$assertionsDisabled"), (0, u "Z"), (98, .class_ 223), (1, u "java/lang/StringLatin1$LinesSpliterator"), (57, u "equals"), (0, u "([B[B)Z"), (97, u "toBytes"), (1, u "(C)[B"), (7, .class_ 391), (0, u "java/lang/StringLatin1$CharsSpliterator")] 3

def k18m0 : Method := { name := "<init>", desc := "()V", sig := { parameters := [], returnType := none }, accessFlags := 0, code := none }
def k18c1 : Code := { maxStack := 2, maxLocals := 1, code := jdk_43_method_3_code, exceptionTable := #[], attributes := #[] }
def k18m1 : Method := { name := "canEncode", desc := "(C)Z", sig := { parameters := [.char], returnType := some .boolean }, accessFlags := 9, code := some k18c1 }
def k18c2 : Code := { maxStack := 3, maxLocals := 3, code := jdk_43_method_13_code, exceptionTable := #[], attributes := #[] }
def k18m2 : Method := { name := "equals", desc := "([B[B)Z", sig := { parameters := [(.array .byte), (.array .byte)], returnType := some .boolean }, accessFlags := 9, code := some k18c2 }
def k18c3 : Code := { maxStack := 4, maxLocals := 1, code := jdk_43_method_46_code, exceptionTable := #[], attributes := #[] }
def k18m3 : Method := { name := "toBytes", desc := "(C)[B", sig := { parameters := [.char], returnType := some (.array .byte) }, accessFlags := 9, code := some k18c3 }
/-- java/lang/StringLatin1 -/
def k18 : Class := { plain "java/lang/StringLatin1" (some 0) with
  accessFlags := 48
  interfaces := #[]
  cf := some (fileOf pool18 14 #[.nestMembers #[390, 221]] #[{ accessFlags := 0, nameIndex := 7, descriptorIndex := 8, attributes := #[] }, { accessFlags := 9, nameIndex := 90, descriptorIndex := 105, attributes := #[] }, { accessFlags := 9, nameIndex := 281, descriptorIndex := 282, attributes := #[] }, { accessFlags := 9, nameIndex := 380, descriptorIndex := 382, attributes := #[] }] 48 4 #[] #[{ accessFlags := 4120, nameIndex := 121, descriptorIndex := 122, attributes := #[] }])
  fields := #[{ name := "$assertionsDisabled", type := .boolean, accessFlags := 4120, slot := 0, constantValue := 0 }]
  methods := #[k18m0, k18m1, k18m2, k18m3]
  instanceTypes := #[]
  staticTypes := #[.boolean]
  resolved := Array.replicate 395 none
  statics := none }

def pool19 : Array CpInfo := pool [(1, .class_ 2), (0, u "java/lang/Appendable"), (0, .class_ 4), (0, u "java/lang/Object")] 9

/-- java/lang/Appendable -/
def k19 : Class := { plain "java/lang/Appendable" (some 0) with
  accessFlags := 1537
  interfaces := #[]
  cf := some (fileOf pool19 1 #[] #[] 1537 3 #[] #[])
  fields := #[]
  methods := #[]
  instanceTypes := #[]
  staticTypes := #[]
  resolved := Array.replicate 14 none
  statics := none }

def pool20 : Array CpInfo := pool [(1, .class_ 2), (0, u "java/lang/String"), (0, .methodref 4 5), (0, .class_ 6), (0, .nameAndType 7 8), (0, u "java/lang/Object"), (0, u "<init>"), (0, u "()V"), (1, .class_ 12), (1, u "java/lang/AbstractStringBuilder"), (0, u "EMPTYVALUE"), (0, u "[B"), (0, .fieldref 10 16), (0, .nameAndType 17 14), (0, u "value"), (0, .fieldref 1 19), (0, .nameAndType 20 21), (0, u "COMPACT_STRINGS"), (0, u "Z"), (0, .fieldref 10 23), (0, .nameAndType 24 25), (0, u "coder"), (0, u "B"), (6, .methodref 1 33), (0, .nameAndType 34 35), (0, u "length"), (0, u "()I"), (3, .integer 2147483647), (0, .methodref 1 41), (0, .nameAndType 24 42), (0, u "()B"), (2, u "append"), (0, u "(Ljava/lang/String;)Ljava/lang/AbstractStringBuilder;"), (1, .class_ 49), (0, u "java/lang/CharSequence"), (19, u "(Ljava/lang/String;)V"), (5, u "maybeLatin1"), (3, .fieldref 10 80), (0, .nameAndType 81 82), (0, u "count"), (0, u "I"), (2, u "isLatin1"), (0, u "()Z"), (13, .methodref 10 101), (0, .nameAndType 102 103), (0, u "ensureCapacityInternal"), (0, u "(I)V"), (0, .methodref 10 105), (0, .nameAndType 106 107), (0, u "newCapacity"), (0, u "(I)I"), (0, .methodref 109 110), (0, .class_ 111), (0, .nameAndType 112 113), (0, u "java/util/Arrays"), (0, u "copyOf"), (0, u "([BI)[B"), (0, .methodref 115 116), (0, .class_ 117), (0, .nameAndType 118 119), (0, u "jdk/internal/util/ArraysSupport"), (0, u "newLength"), (0, u "(III)I"), (88, .methodref 10 209), (0, .nameAndType 210 211), (0, u "putStringAt"), (0, u "(ILjava/lang/String;)V"), (5, u "inflateIfNeededFor"), (2, .nameAndType 221 222), (0, u "getBytes"), (0, u "([BIB)V"), (174, .methodref 10 398), (0, .nameAndType 217 69), (0, .methodref 1 220), (3, u "()[B"), (40, .class_ 445), (0, u "java/lang/Appendable"), (106, u "getValue")] 56

def k20m0 : Method := { name := "<init>", desc := "()V", sig := { parameters := [], returnType := none }, accessFlags := 0, code := none }
def k20c1 : Code := { maxStack := 2, maxLocals := 2, code := jdk_68_method_2_code, exceptionTable := #[], attributes := #[] }
def k20m1 : Method := { name := "<init>", desc := "(I)V", sig := { parameters := [.int], returnType := none }, accessFlags := 0, code := some k20c1 }
def k20c2 : Code := { maxStack := 1, maxLocals := 1, code := jdk_68_method_6_code, exceptionTable := #[], attributes := #[] }
def k20m2 : Method := { name := "length", desc := "()I", sig := { parameters := [], returnType := some .int }, accessFlags := 1, code := some k20c2 }
def k20c3 : Code := { maxStack := 4, maxLocals := 3, code := jdk_68_method_9_code, exceptionTable := #[], attributes := #[] }
def k20m3 : Method := { name := "ensureCapacityInternal", desc := "(I)V", sig := { parameters := [.int], returnType := none }, accessFlags := 2, code := some k20c3 }
def k20c4 : Code := { maxStack := 5, maxLocals := 6, code := jdk_68_method_10_code, exceptionTable := #[], attributes := #[] }
def k20m4 : Method := { name := "newCapacity", desc := "(I)I", sig := { parameters := [.int], returnType := some .int }, accessFlags := 2, code := some k20c4 }
def k20c5 : Code := { maxStack := 3, maxLocals := 3, code := jdk_68_method_22_code, exceptionTable := #[], attributes := #[] }
def k20m5 : Method := { name := "append", desc := "(Ljava/lang/String;)Ljava/lang/AbstractStringBuilder;", sig := { parameters := [(.object "java/lang/String")], returnType := some (.object "java/lang/AbstractStringBuilder") }, accessFlags := 1, code := some k20c5 }
def k20c6 : Code := { maxStack := 1, maxLocals := 1, code := jdk_68_method_64_code, exceptionTable := #[], attributes := #[] }
def k20m6 : Method := { name := "getValue", desc := "()[B", sig := { parameters := [], returnType := some (.array .byte) }, accessFlags := 16, code := some k20c6 }
def k20c7 : Code := { maxStack := 1, maxLocals := 1, code := jdk_68_method_68_code, exceptionTable := #[], attributes := #[] }
def k20m7 : Method := { name := "isLatin1", desc := "()Z", sig := { parameters := [], returnType := some .boolean }, accessFlags := 16, code := some k20c7 }
def k20c8 : Code := { maxStack := 2, maxLocals := 2, code := jdk_68_method_71_code, exceptionTable := #[], attributes := #[] }
def k20m8 : Method := { name := "inflateIfNeededFor", desc := "(Ljava/lang/String;)V", sig := { parameters := [(.object "java/lang/String")], returnType := none }, accessFlags := 2, code := some k20c8 }
def k20c9 : Code := { maxStack := 4, maxLocals := 3, code := jdk_68_method_73_code, exceptionTable := #[], attributes := #[] }
def k20m9 : Method := { name := "putStringAt", desc := "(ILjava/lang/String;)V", sig := { parameters := [.int, (.object "java/lang/String")], returnType := none }, accessFlags := 2, code := some k20c9 }
/-- java/lang/AbstractStringBuilder -/
def k20 : Class := { plain "java/lang/AbstractStringBuilder" (some 0) with
  accessFlags := 1056
  interfaces := #[19, 14]
  cf := some (fileOf pool20 10 #[] #[{ accessFlags := 0, nameIndex := 7, descriptorIndex := 8, attributes := #[] }, { accessFlags := 0, nameIndex := 7, descriptorIndex := 103, attributes := #[] }, { accessFlags := 1, nameIndex := 34, descriptorIndex := 35, attributes := #[] }, { accessFlags := 2, nameIndex := 102, descriptorIndex := 103, attributes := #[] }, { accessFlags := 2, nameIndex := 106, descriptorIndex := 107, attributes := #[] }, { accessFlags := 1, nameIndex := 45, descriptorIndex := 46, attributes := #[] }, { accessFlags := 16, nameIndex := 552, descriptorIndex := 403, attributes := #[] }, { accessFlags := 16, nameIndex := 85, descriptorIndex := 86, attributes := #[] }, { accessFlags := 2, nameIndex := 217, descriptorIndex := 69, attributes := #[] }, { accessFlags := 2, nameIndex := 210, descriptorIndex := 211, attributes := #[] }] 1056 4 #[444, 48] #[{ accessFlags := 0, nameIndex := 17, descriptorIndex := 14, attributes := #[] }, { accessFlags := 0, nameIndex := 24, descriptorIndex := 25, attributes := #[] }, { accessFlags := 0, nameIndex := 75, descriptorIndex := 21, attributes := #[] }, { accessFlags := 0, nameIndex := 81, descriptorIndex := 82, attributes := #[] }, { accessFlags := 26, nameIndex := 13, descriptorIndex := 14, attributes := #[] }])
  fields := #[{ name := "value", type := (.array .byte), accessFlags := 0, slot := 0, constantValue := 0 }, { name := "coder", type := .byte, accessFlags := 0, slot := 1, constantValue := 0 }, { name := "maybeLatin1", type := .boolean, accessFlags := 0, slot := 2, constantValue := 0 }, { name := "count", type := .int, accessFlags := 0, slot := 3, constantValue := 0 }, { name := "EMPTYVALUE", type := (.array .byte), accessFlags := 26, slot := 0, constantValue := 0 }]
  methods := #[k20m0, k20m1, k20m2, k20m3, k20m4, k20m5, k20m6, k20m7, k20m8, k20m9]
  instanceTypes := #[(.array .byte), .byte, .boolean, .int]
  staticTypes := #[(.array .byte)]
  resolved := Array.replicate 609 none
  statics := none }

def pool21 : Array CpInfo := pool [(1, .methodref 2 3), (0, .class_ 4), (0, .nameAndType 5 6), (0, u "java/lang/AbstractStringBuilder"), (0, u "<init>"), (0, u "(I)V"), (11, .class_ 20), (1, u "java/lang/String"), (3, .class_ 26), (1, u "java/lang/StringBuilder"), (0, u "append"), (0, u "(Ljava/lang/String;)Ljava/lang/StringBuilder;"), (0, .methodref 2 30), (0, .nameAndType 27 31), (0, u "(Ljava/lang/String;)Ljava/lang/AbstractStringBuilder;"), (105, .methodref 18 138), (0, .nameAndType 5 139), (0, u "(Ljava/lang/StringBuilder;)V"), (5, u "()V"), (10, u "()I"), (186, .methodref 2 344), (0, .nameAndType 345 156), (0, u "length"), (3, .class_ 350), (0, u "java/lang/Appendable"), (0, .class_ 352), (0, u "java/io/Serializable"), (0, .class_ 354), (0, u "java/lang/Comparable"), (0, .class_ 356), (0, u "java/lang/CharSequence"), (0, u "serialVersionUID"), (0, u "J"), (40, u "toString"), (0, u "()Ljava/lang/String;")] 21

def k21c0 : Code := { maxStack := 2, maxLocals := 1, code := jdk_67_method_1_code, exceptionTable := #[], attributes := #[] }
def k21m0 : Method := { name := "<init>", desc := "()V", sig := { parameters := [], returnType := none }, accessFlags := 1, code := some k21c0 }
def k21c1 : Code := { maxStack := 2, maxLocals := 2, code := jdk_67_method_7_code, exceptionTable := #[], attributes := #[] }
def k21m1 : Method := { name := "append", desc := "(Ljava/lang/String;)Ljava/lang/StringBuilder;", sig := { parameters := [(.object "java/lang/String")], returnType := some (.object "java/lang/StringBuilder") }, accessFlags := 1, code := some k21c1 }
def k21c2 : Code := { maxStack := 3, maxLocals := 1, code := jdk_67_method_42_code, exceptionTable := #[], attributes := #[] }
def k21m2 : Method := { name := "toString", desc := "()Ljava/lang/String;", sig := { parameters := [], returnType := some (.object "java/lang/String") }, accessFlags := 1, code := some k21c2 }
def k21c3 : Code := { maxStack := 1, maxLocals := 1, code := jdk_67_method_93_code, exceptionTable := #[], attributes := #[] }
def k21m3 : Method := { name := "length", desc := "()I", sig := { parameters := [], returnType := some .int }, accessFlags := 4161, code := some k21c3 }
/-- java/lang/StringBuilder -/
def k21 : Class := { plain "java/lang/StringBuilder" (some 20) with
  accessFlags := 49
  interfaces := #[19, 11, 13, 14]
  cf := some (fileOf pool21 24 #[] #[{ accessFlags := 1, nameIndex := 5, descriptorIndex := 145, attributes := #[] }, { accessFlags := 1, nameIndex := 27, descriptorIndex := 28, attributes := #[] }, { accessFlags := 1, nameIndex := 399, descriptorIndex := 400, attributes := #[] }, { accessFlags := 4161, nameIndex := 345, descriptorIndex := 156, attributes := #[] }] 49 2 #[349, 351, 353, 355] #[{ accessFlags := 24, nameIndex := 357, descriptorIndex := 358, attributes := #[] }])
  fields := #[{ name := "serialVersionUID", type := .long, accessFlags := 24, slot := 0, constantValue := 0 }]
  methods := #[k21m0, k21m1, k21m2, k21m3]
  instanceTypes := #[(.array .byte), .byte, .boolean, .int]
  staticTypes := #[.long]
  resolved := Array.replicate 422 none
  statics := none }

def pool22 : Array CpInfo := pool [(2, .class_ 4), (1, u "java/lang/Object"), (0, u "<init>"), (0, u "()V"), (1, .class_ 10), (1, u "java/lang/System"), (0, u "allowSecurityManager"), (0, u "I"), (16, u "cons"), (0, u "Ljava/io/Console;"), (77, .class_ 110), (1, u "java/lang/System$CallersHolder"), (43, u "initialErrStream"), (0, u "Ljava/io/PrintStream;"), (19, u "security"), (0, u "Ljava/lang/SecurityManager;"), (31, .class_ 209), (0, u "java/lang/System$1"), (7, u "props"), (0, u "Ljava/util/Properties;"), (2, u "lineSeparator"), (0, u "Ljava/lang/String;"), (96, .class_ 321), (1, u "java/lang/System$LoggerFinder"), (5, .class_ 328), (0, u "java/lang/System$Logger"), (67, u "err"), (2, u "out"), (91, u "notSupportedJnuEncoding"), (15, u "in"), (17, u "initialIn"), (0, u "Ljava/io/InputStream;"), (35, u "bootLayer"), (0, u "Ljava/lang/ModuleLayer;"), (99, .class_ 664), (0, u "java/lang/System$2"), (9, u "NEVER"), (2, u "MAYBE"), (49, u "arraycopy"), (0, u "(Ljava/lang/Object;ILjava/lang/Object;II)V"), (72, .class_ 802), (0, u "java/lang/System$Logger$Level")] 31

def k22m0 : Method := { name := "<init>", desc := "()V", sig := { parameters := [], returnType := none }, accessFlags := 2, code := none }
def k22m1 : Method := { name := "arraycopy", desc := "(Ljava/lang/Object;ILjava/lang/Object;II)V", sig := { parameters := [(.object "java/lang/Object"), .int, (.object "java/lang/Object"), .int, .int], returnType := none }, accessFlags := 265, code := none }
/-- java/lang/System -/
def k22 : Class := { plain "java/lang/System" (some 0) with
  accessFlags := 49
  interfaces := #[]
  cf := some (fileOf pool22 8 #[.nestMembers #[319, 327, 801, 108, 663, 208]] #[{ accessFlags := 2, nameIndex := 5, descriptorIndex := 6, attributes := #[] }, { accessFlags := 265, nameIndex := 727, descriptorIndex := 728, attributes := #[] }] 49 2 #[] #[{ accessFlags := 25, nameIndex := 507, descriptorIndex := 526, attributes := #[] }, { accessFlags := 25, nameIndex := 399, descriptorIndex := 155, attributes := #[] }, { accessFlags := 25, nameIndex := 396, descriptorIndex := 155, attributes := #[] }, { accessFlags := 10, nameIndex := 525, descriptorIndex := 526, attributes := #[] }, { accessFlags := 26, nameIndex := 674, descriptorIndex := 12, attributes := #[] }, { accessFlags := 26, nameIndex := 677, descriptorIndex := 12, attributes := #[] }, { accessFlags := 10, nameIndex := 11, descriptorIndex := 12, attributes := #[] }, { accessFlags := 74, nameIndex := 175, descriptorIndex := 176, attributes := #[] }, { accessFlags := 10, nameIndex := 491, descriptorIndex := 222, attributes := #[] }, { accessFlags := 74, nameIndex := 29, descriptorIndex := 30, attributes := #[] }, { accessFlags := 74, nameIndex := 154, descriptorIndex := 155, attributes := #[] }, { accessFlags := 10, nameIndex := 217, descriptorIndex := 218, attributes := #[] }, { accessFlags := 10, nameIndex := 221, descriptorIndex := 222, attributes := #[] }, { accessFlags := 8, nameIndex := 562, descriptorIndex := 563, attributes := #[] }])
  fields := #[{ name := "in", type := (.object "java/io/InputStream"), accessFlags := 25, slot := 0, constantValue := 0 }, { name := "out", type := (.object "java/io/PrintStream"), accessFlags := 25, slot := 1, constantValue := 0 }, { name := "err", type := (.object "java/io/PrintStream"), accessFlags := 25, slot := 2, constantValue := 0 }, { name := "initialIn", type := (.object "java/io/InputStream"), accessFlags := 10, slot := 3, constantValue := 0 }, { name := "NEVER", type := .int, accessFlags := 26, slot := 4, constantValue := 0 }, { name := "MAYBE", type := .int, accessFlags := 26, slot := 5, constantValue := 0 }, { name := "allowSecurityManager", type := .int, accessFlags := 10, slot := 6, constantValue := 0 }, { name := "security", type := (.object "java/lang/SecurityManager"), accessFlags := 74, slot := 7, constantValue := 0 }, { name := "notSupportedJnuEncoding", type := (.object "java/lang/String"), accessFlags := 10, slot := 8, constantValue := 0 }, { name := "cons", type := (.object "java/io/Console"), accessFlags := 74, slot := 9, constantValue := 0 }, { name := "initialErrStream", type := (.object "java/io/PrintStream"), accessFlags := 74, slot := 10, constantValue := 0 }, { name := "props", type := (.object "java/util/Properties"), accessFlags := 10, slot := 11, constantValue := 0 }, { name := "lineSeparator", type := (.object "java/lang/String"), accessFlags := 10, slot := 12, constantValue := 0 }, { name := "bootLayer", type := (.object "java/lang/ModuleLayer"), accessFlags := 8, slot := 13, constantValue := 0 }]
  methods := #[k22m0, k22m1]
  instanceTypes := #[]
  staticTypes := #[(.object "java/io/InputStream"), (.object "java/io/PrintStream"), (.object "java/io/PrintStream"), (.object "java/io/InputStream"), .int, .int, .int, (.object "java/lang/SecurityManager"), (.object "java/lang/String"), (.object "java/io/Console"), (.object "java/io/PrintStream"), (.object "java/util/Properties"), (.object "java/lang/String"), (.object "java/lang/ModuleLayer")]
  resolved := Array.replicate 834 none
  statics := none }

def pool23 : Array CpInfo := pool [(2, .class_ 4), (1, u "java/lang/Object"), (0, u "<init>"), (0, u "()V"), (7, .class_ 16), (1, u "java/util/Arrays"), (57, .class_ 76), (1, u "java/util/Arrays$NaturalOrder"), (36, .class_ 115), (1, u "java/util/Arrays$LegacyMergeSort"), (1, u "Z"), (21, u "copyOfRange"), (10, .methodref 151 152), (0, .class_ 153), (0, .nameAndType 154 155), (0, u "java/lang/System"), (0, u "arraycopy"), (0, u "(Ljava/lang/Object;ILjava/lang/Object;II)V"), (146, u "copyOf"), (1, .methodref 305 306), (0, .class_ 307), (0, .nameAndType 308 309), (0, u "java/lang/Math"), (0, u "min"), (0, u "(II)I"), (29, .methodref 14 340), (0, .nameAndType 341 342), (0, u "copyOfRangeByte"), (0, u "([BII)[B"), (0, .methodref 14 344), (0, .nameAndType 345 346), (0, u "checkLength"), (0, u "(II)V"), (28, .class_ 376), (0, u "java/util/Arrays$ArrayList"), (68, u "$assertionsDisabled"), (269, u "MIN_ARRAY_SORT_GRAN"), (0, u "I"), (2, u "INSERTIONSORT_THRESHOLD"), (149, u "([BI)[B"), (105, .class_ 976), (0, u "java/util/Arrays$ArrayItr")] 52

def k23m0 : Method := { name := "<init>", desc := "()V", sig := { parameters := [], returnType := none }, accessFlags := 2, code := none }
def k23c1 : Code := { maxStack := 6, maxLocals := 3, code := jdk_65_method_121_code, exceptionTable := #[], attributes := #[] }
def k23m1 : Method := { name := "copyOf", desc := "([BI)[B", sig := { parameters := [(.array .byte), .int], returnType := some (.array .byte) }, accessFlags := 9, code := some k23c1 }
def k23c2 : Code := { maxStack := 4, maxLocals := 2, code := jdk_65_method_131_code, exceptionTable := #[], attributes := #[] }
def k23m2 : Method := { name := "checkLength", desc := "(II)V", sig := { parameters := [.int, .int], returnType := none }, accessFlags := 10, code := some k23c2 }
def k23c3 : Code := { maxStack := 3, maxLocals := 3, code := jdk_65_method_132_code, exceptionTable := #[], attributes := #[] }
def k23m3 : Method := { name := "copyOfRange", desc := "([BII)[B", sig := { parameters := [(.array .byte), .int, .int], returnType := some (.array .byte) }, accessFlags := 9, code := some k23c3 }
def k23c4 : Code := { maxStack := 6, maxLocals := 5, code := jdk_65_method_133_code, exceptionTable := #[], attributes := #[] }
def k23m4 : Method := { name := "copyOfRangeByte", desc := "([BII)[B", sig := { parameters := [(.array .byte), .int, .int], returnType := some (.array .byte) }, accessFlags := 10, code := some k23c4 }
/-- java/util/Arrays -/
def k23 : Class := { plain "java/util/Arrays" (some 0) with
  accessFlags := 49
  interfaces := #[]
  cf := some (fileOf pool23 14 #[.nestMembers #[975, 375, 113, 74]] #[{ accessFlags := 2, nameIndex := 5, descriptorIndex := 6, attributes := #[] }, { accessFlags := 9, nameIndex := 302, descriptorIndex := 869, attributes := #[] }, { accessFlags := 10, nameIndex := 345, descriptorIndex := 346, attributes := #[] }, { accessFlags := 9, nameIndex := 139, descriptorIndex := 342, attributes := #[] }, { accessFlags := 10, nameIndex := 341, descriptorIndex := 342, attributes := #[] }] 49 2 #[] #[{ accessFlags := 26, nameIndex := 715, descriptorIndex := 716, attributes := #[] }, { accessFlags := 26, nameIndex := 719, descriptorIndex := 716, attributes := #[] }, { accessFlags := 4120, nameIndex := 445, descriptorIndex := 117, attributes := #[] }])
  fields := #[{ name := "MIN_ARRAY_SORT_GRAN", type := .int, accessFlags := 26, slot := 0, constantValue := 0 }, { name := "INSERTIONSORT_THRESHOLD", type := .int, accessFlags := 26, slot := 1, constantValue := 0 }, { name := "$assertionsDisabled", type := .boolean, accessFlags := 4120, slot := 2, constantValue := 0 }]
  methods := #[k23m0, k23m1, k23m2, k23m3, k23m4]
  instanceTypes := #[]
  staticTypes := #[.int, .int, .boolean]
  resolved := Array.replicate 1029 none
  statics := none }

def pool24 : Array CpInfo := pool [(1, .class_ 2), (0, u "java/lang/Math"), (1, .class_ 6), (1, u "java/lang/Object"), (0, u "<init>"), (0, u "()V"), (89, .class_ 100), (1, u "java/lang/Math$RandomNumberGeneratorHolder"), (71, u "negativeZeroFloatBits"), (0, u "J"), (2, u "negativeZeroDoubleBits"), (21, u "max"), (2, u "min"), (43, u "$assertionsDisabled"), (0, u "Z"), (88, u "(II)I"), (2, u "twoToTheDoubleScaleDown"), (0, u "D"), (4, u "twoToTheDoubleScaleUp"), (9, u "E"), (3, u "PI"), (2, u "TAU"), (2, u "DEGREES_TO_RADIANS"), (0, u "RADIANS_TO_DEGREES")] 94

def k24m0 : Method := { name := "<init>", desc := "()V", sig := { parameters := [], returnType := none }, accessFlags := 2, code := none }
def k24c1 : Code := { maxStack := 2, maxLocals := 2, code := jdk_29_method_65_code, exceptionTable := #[], attributes := #[] }
def k24m1 : Method := { name := "max", desc := "(II)I", sig := { parameters := [.int, .int], returnType := some .int }, accessFlags := 9, code := some k24c1 }
def k24c2 : Code := { maxStack := 2, maxLocals := 2, code := jdk_29_method_69_code, exceptionTable := #[], attributes := #[] }
def k24m2 : Method := { name := "min", desc := "(II)I", sig := { parameters := [.int, .int], returnType := some .int }, accessFlags := 9, code := some k24c2 }
/-- java/lang/Math -/
def k24 : Class := { plain "java/lang/Math" (some 0) with
  accessFlags := 49
  interfaces := #[]
  cf := some (fileOf pool24 1 #[.nestMembers #[98]] #[{ accessFlags := 2, nameIndex := 7, descriptorIndex := 8, attributes := #[] }, { accessFlags := 9, nameIndex := 198, descriptorIndex := 335, attributes := #[] }, { accessFlags := 9, nameIndex := 201, descriptorIndex := 335, attributes := #[] }] 49 4 #[] #[{ accessFlags := 25, nameIndex := 354, descriptorIndex := 339, attributes := #[] }, { accessFlags := 25, nameIndex := 358, descriptorIndex := 339, attributes := #[] }, { accessFlags := 25, nameIndex := 361, descriptorIndex := 339, attributes := #[] }, { accessFlags := 26, nameIndex := 364, descriptorIndex := 339, attributes := #[] }, { accessFlags := 26, nameIndex := 365, descriptorIndex := 339, attributes := #[] }, { accessFlags := 26, nameIndex := 172, descriptorIndex := 173, attributes := #[] }, { accessFlags := 26, nameIndex := 176, descriptorIndex := 173, attributes := #[] }, { accessFlags := 8, nameIndex := 344, descriptorIndex := 339, attributes := #[] }, { accessFlags := 8, nameIndex := 338, descriptorIndex := 339, attributes := #[] }, { accessFlags := 4120, nameIndex := 245, descriptorIndex := 246, attributes := #[] }])
  fields := #[{ name := "E", type := .double, accessFlags := 25, slot := 0, constantValue := 0 }, { name := "PI", type := .double, accessFlags := 25, slot := 1, constantValue := 0 }, { name := "TAU", type := .double, accessFlags := 25, slot := 2, constantValue := 0 }, { name := "DEGREES_TO_RADIANS", type := .double, accessFlags := 26, slot := 3, constantValue := 0 }, { name := "RADIANS_TO_DEGREES", type := .double, accessFlags := 26, slot := 4, constantValue := 0 }, { name := "negativeZeroFloatBits", type := .long, accessFlags := 26, slot := 5, constantValue := 0 }, { name := "negativeZeroDoubleBits", type := .long, accessFlags := 26, slot := 6, constantValue := 0 }, { name := "twoToTheDoubleScaleUp", type := .double, accessFlags := 8, slot := 7, constantValue := 0 }, { name := "twoToTheDoubleScaleDown", type := .double, accessFlags := 8, slot := 8, constantValue := 0 }, { name := "$assertionsDisabled", type := .boolean, accessFlags := 4120, slot := 9, constantValue := 0 }]
  methods := #[k24m0, k24m1, k24m2]
  instanceTypes := #[]
  staticTypes := #[.double, .double, .double, .double, .double, .long, .long, .double, .double, .boolean]
  resolved := Array.replicate 460 none
  statics := none }

def pool25 : Array CpInfo := pool [(2, .class_ 4), (1, u "java/lang/Object"), (0, u "<init>"), (0, u "()V"), (35, .class_ 44), (1, u "java/util/Objects"), (60, .methodref 106 107), (0, .class_ 108), (0, .nameAndType 109 110), (0, u "jdk/internal/util/Preconditions"), (0, u "checkIndex"), (0, u "(IILjava/util/function/BiFunction;)I"), (60, u "(II)I")] 12

def k25m0 : Method := { name := "<init>", desc := "()V", sig := { parameters := [], returnType := none }, accessFlags := 2, code := none }
def k25c1 : Code := { maxStack := 3, maxLocals := 2, code := jdk_31_method_17_code, exceptionTable := #[], attributes := #[] }
def k25m1 : Method := { name := "checkIndex", desc := "(II)I", sig := { parameters := [.int, .int], returnType := some .int }, accessFlags := 9, code := some k25c1 }
/-- java/util/Objects -/
def k25 : Class := { plain "java/util/Objects" (some 0) with
  accessFlags := 49
  interfaces := #[]
  cf := some (fileOf pool25 42 #[] #[{ accessFlags := 2, nameIndex := 5, descriptorIndex := 6, attributes := #[] }, { accessFlags := 9, nameIndex := 109, descriptorIndex := 171, attributes := #[] }] 49 2 #[] #[])
  fields := #[]
  methods := #[k25m0, k25m1]
  instanceTypes := #[]
  staticTypes := #[]
  resolved := Array.replicate 184 none
  statics := none }

def pool26 : Array CpInfo := pool [(2, .class_ 4), (1, u "java/lang/Object"), (0, u "<init>"), (0, u "()V"), (17, .class_ 26), (1, u "jdk/internal/util/Preconditions"), (6, u "checkIndex"), (21, .class_ 56), (0, u "jdk/internal/util/Preconditions$4"), (57, .class_ 115), (0, u "jdk/internal/util/Preconditions$1"), (7, u "SIOOBE_FORMATTER"), (0, u "Ljava/util/function/BiFunction;"), (0, .class_ 126), (0, u "jdk/internal/util/Preconditions$2"), (3, u "AIOOBE_FORMATTER"), (0, .class_ 132), (0, u "jdk/internal/util/Preconditions$3"), (3, u "IOOBE_FORMATTER"), (41, u "(IILjava/util/function/BiFunction;)I")] 15

def k26m0 : Method := { name := "<init>", desc := "()V", sig := { parameters := [], returnType := none }, accessFlags := 1, code := none }
def k26c1 : Code := { maxStack := 3, maxLocals := 3, code := jdk_41_method_11_code, exceptionTable := #[], attributes := #[] }
def k26m1 : Method := { name := "checkIndex", desc := "(IILjava/util/function/BiFunction;)I", sig := { parameters := [.int, .int, (.object "java/util/function/BiFunction")], returnType := some .int }, accessFlags := 9, code := some k26c1 }
/-- jdk/internal/util/Preconditions -/
def k26 : Class := { plain "jdk/internal/util/Preconditions" (some 0) with
  accessFlags := 33
  interfaces := #[]
  cf := some (fileOf pool26 24 #[.nestMembers #[55, 131, 125, 114]] #[{ accessFlags := 1, nameIndex := 5, descriptorIndex := 6, attributes := #[] }, { accessFlags := 9, nameIndex := 33, descriptorIndex := 178, attributes := #[] }] 33 2 #[] #[{ accessFlags := 25, nameIndex := 123, descriptorIndex := 124, attributes := #[] }, { accessFlags := 25, nameIndex := 130, descriptorIndex := 124, attributes := #[] }, { accessFlags := 25, nameIndex := 136, descriptorIndex := 124, attributes := #[] }])
  fields := #[{ name := "SIOOBE_FORMATTER", type := (.object "java/util/function/BiFunction"), accessFlags := 25, slot := 0, constantValue := 0 }, { name := "AIOOBE_FORMATTER", type := (.object "java/util/function/BiFunction"), accessFlags := 25, slot := 1, constantValue := 0 }, { name := "IOOBE_FORMATTER", type := (.object "java/util/function/BiFunction"), accessFlags := 25, slot := 2, constantValue := 0 }]
  methods := #[k26m0, k26m1]
  instanceTypes := #[]
  staticTypes := #[(.object "java/util/function/BiFunction"), (.object "java/util/function/BiFunction"), (.object "java/util/function/BiFunction")]
  resolved := Array.replicate 194 none
  statics := some 2 }

def pool27 : Array CpInfo := pool [(6, .class_ 8), (1, u "java/lang/Object"), (0, u "<init>"), (0, u "()V"), (1, .class_ 14), (1, u "java/lang/StringUTF16"), (31, u "$assertionsDisabled"), (0, u "Z"), (13, u "HI_BYTE_SHIFT"), (0, u "I"), (2, u "LO_BYTE_SHIFT"), (49, .methodref 12 116), (0, .nameAndType 117 118), (0, u "compress"), (0, u "([CI[BII)I"), (3, u "([CII)[B"), (138, u "coderFromArrayLen"), (0, u "([BI)B"), (106, .class_ 371), (1, u "java/lang/StringUTF16$LinesSpliterator"), (58, u "MAX_LENGTH"), (196, .class_ 628), (0, u "java/lang/StringUTF16$CodePointsSpliterator"), (0, .class_ 630), (0, u "java/lang/StringUTF16$CharsSpliterator")] 4

def k27m0 : Method := { name := "<init>", desc := "()V", sig := { parameters := [], returnType := none }, accessFlags := 0, code := none }
def k27c1 : Code := { maxStack := 2, maxLocals := 2, code := jdk_52_method_15_code, exceptionTable := #[], attributes := #[] }
def k27m1 : Method := { name := "coderFromArrayLen", desc := "([BI)B", sig := { parameters := [(.array .byte), .int], returnType := some .byte }, accessFlags := 8, code := some k27c1 }
def k27c2 : Code := { maxStack := 5, maxLocals := 6, code := jdk_52_method_16_code, exceptionTable := #[], attributes := #[] }
def k27m2 : Method := { name := "compress", desc := "([CII)[B", sig := { parameters := [(.array .char), .int, .int], returnType := some (.array .byte) }, accessFlags := 9, code := some k27c2 }
def k27c3 : Code := { maxStack := 3, maxLocals := 7, code := jdk_52_method_21_code, exceptionTable := #[], attributes := #[] }
def k27m3 : Method := { name := "compress", desc := "([CI[BII)I", sig := { parameters := [(.array .char), .int, (.array .byte), .int, .int], returnType := some .int }, accessFlags := 9, code := some k27c3 }
/-- java/lang/StringUTF16 -/
def k27 : Class := { plain "java/lang/StringUTF16" (some 0) with
  accessFlags := 48
  interfaces := #[]
  cf := some (fileOf pool27 12 #[.nestMembers #[627, 629, 369]] #[{ accessFlags := 0, nameIndex := 9, descriptorIndex := 10, attributes := #[] }, { accessFlags := 8, nameIndex := 261, descriptorIndex := 262, attributes := #[] }, { accessFlags := 9, nameIndex := 117, descriptorIndex := 122, attributes := #[] }, { accessFlags := 9, nameIndex := 117, descriptorIndex := 118, attributes := #[] }] 48 6 #[] #[{ accessFlags := 26, nameIndex := 61, descriptorIndex := 62, attributes := #[] }, { accessFlags := 26, nameIndex := 65, descriptorIndex := 62, attributes := #[] }, { accessFlags := 24, nameIndex := 430, descriptorIndex := 62, attributes := #[] }, { accessFlags := 4120, nameIndex := 46, descriptorIndex := 47, attributes := #[] }])
  fields := #[{ name := "HI_BYTE_SHIFT", type := .int, accessFlags := 26, slot := 0, constantValue := 0 }, { name := "LO_BYTE_SHIFT", type := .int, accessFlags := 26, slot := 1, constantValue := 0 }, { name := "MAX_LENGTH", type := .int, accessFlags := 24, slot := 2, constantValue := 0 }, { name := "$assertionsDisabled", type := .boolean, accessFlags := 4120, slot := 3, constantValue := 0 }]
  methods := #[k27m0, k27m1, k27m2, k27m3]
  instanceTypes := #[]
  staticTypes := #[.int, .int, .int, .boolean]
  resolved := Array.replicate 635 none
  statics := none }

def pool28 : Array CpInfo := pool [(9, u "<init>"), (6, .class_ 18), (1, u "java/lang/Object"), (0, u "()V"), (1, .class_ 23), (1, u "jdk/internal/util/ArraysSupport"), (0, u "LOG2_ARRAY_LONG_INDEX_SCALE"), (0, u "I"), (2, u "U"), (0, u "Ljdk/internal/misc/Unsafe;"), (8, u "BIG_ENDIAN"), (0, u "Z"), (8, u "LOG2_BYTE_BIT_SIZE"), (4, u "LOG2_ARRAY_INT_INDEX_SCALE"), (54, u "JLA"), (0, u "Ljdk/internal/access/JavaLangAccess;"), (11, u "LOG2_ARRAY_BOOLEAN_INDEX_SCALE"), (9, u "LOG2_ARRAY_BYTE_INDEX_SCALE"), (5, u "LOG2_ARRAY_CHAR_INDEX_SCALE"), (5, u "LOG2_ARRAY_SHORT_INDEX_SCALE"), (18, u "LOG2_ARRAY_FLOAT_INDEX_SCALE"), (24, u "LOG2_ARRAY_DOUBLE_INDEX_SCALE"), (6, .methodref 195 196), (0, .class_ 197), (0, .nameAndType 198 199), (0, u "java/lang/Math"), (0, u "max"), (0, u "(II)I"), (0, .integer 2147483639), (76, u "T_BOOLEAN"), (2, u "T_CHAR"), (1, u "T_FLOAT"), (1, u "T_DOUBLE"), (1, u "T_BYTE"), (1, u "T_SHORT"), (1, u "T_INT"), (1, u "T_LONG"), (1, u "SOFT_MAX_ARRAY_LENGTH"), (56, u "newLength"), (0, u "(III)I")] 25

def k28m0 : Method := { name := "<init>", desc := "()V", sig := { parameters := [], returnType := none }, accessFlags := 2, code := none }
def k28c1 : Code := { maxStack := 3, maxLocals := 4, code := jdk_48_method_27_code, exceptionTable := #[], attributes := #[] }
def k28m1 : Method := { name := "newLength", desc := "(III)I", sig := { parameters := [.int, .int, .int], returnType := some .int }, accessFlags := 9, code := some k28c1 }
/-- jdk/internal/util/ArraysSupport -/
def k28 : Class := { plain "jdk/internal/util/ArraysSupport" (some 0) with
  accessFlags := 33
  interfaces := #[]
  cf := some (fileOf pool28 21 #[] #[{ accessFlags := 2, nameIndex := 9, descriptorIndex := 19, attributes := #[] }, { accessFlags := 9, nameIndex := 351, descriptorIndex := 352, attributes := #[] }] 33 16 #[] #[{ accessFlags := 24, nameIndex := 28, descriptorIndex := 29, attributes := #[] }, { accessFlags := 26, nameIndex := 38, descriptorIndex := 39, attributes := #[] }, { accessFlags := 25, nameIndex := 121, descriptorIndex := 25, attributes := #[] }, { accessFlags := 25, nameIndex := 131, descriptorIndex := 25, attributes := #[] }, { accessFlags := 25, nameIndex := 137, descriptorIndex := 25, attributes := #[] }, { accessFlags := 25, nameIndex := 143, descriptorIndex := 25, attributes := #[] }, { accessFlags := 25, nameIndex := 53, descriptorIndex := 25, attributes := #[] }, { accessFlags := 25, nameIndex := 24, descriptorIndex := 25, attributes := #[] }, { accessFlags := 25, nameIndex := 162, descriptorIndex := 25, attributes := #[] }, { accessFlags := 25, nameIndex := 187, descriptorIndex := 25, attributes := #[] }, { accessFlags := 26, nameIndex := 48, descriptorIndex := 25, attributes := #[] }, { accessFlags := 25, nameIndex := 277, descriptorIndex := 25, attributes := #[] }, { accessFlags := 25, nameIndex := 280, descriptorIndex := 25, attributes := #[] }, { accessFlags := 25, nameIndex := 282, descriptorIndex := 25, attributes := #[] }, { accessFlags := 25, nameIndex := 284, descriptorIndex := 25, attributes := #[] }, { accessFlags := 25, nameIndex := 286, descriptorIndex := 25, attributes := #[] }, { accessFlags := 25, nameIndex := 288, descriptorIndex := 25, attributes := #[] }, { accessFlags := 25, nameIndex := 290, descriptorIndex := 25, attributes := #[] }, { accessFlags := 25, nameIndex := 292, descriptorIndex := 25, attributes := #[] }, { accessFlags := 26, nameIndex := 108, descriptorIndex := 109, attributes := #[] }, { accessFlags := 25, nameIndex := 294, descriptorIndex := 25, attributes := #[] }])
  fields := #[{ name := "U", type := (.object "jdk/internal/misc/Unsafe"), accessFlags := 24, slot := 0, constantValue := 0 }, { name := "BIG_ENDIAN", type := .boolean, accessFlags := 26, slot := 1, constantValue := 0 }, { name := "LOG2_ARRAY_BOOLEAN_INDEX_SCALE", type := .int, accessFlags := 25, slot := 2, constantValue := 0 }, { name := "LOG2_ARRAY_BYTE_INDEX_SCALE", type := .int, accessFlags := 25, slot := 3, constantValue := 0 }, { name := "LOG2_ARRAY_CHAR_INDEX_SCALE", type := .int, accessFlags := 25, slot := 4, constantValue := 0 }, { name := "LOG2_ARRAY_SHORT_INDEX_SCALE", type := .int, accessFlags := 25, slot := 5, constantValue := 0 }, { name := "LOG2_ARRAY_INT_INDEX_SCALE", type := .int, accessFlags := 25, slot := 6, constantValue := 0 }, { name := "LOG2_ARRAY_LONG_INDEX_SCALE", type := .int, accessFlags := 25, slot := 7, constantValue := 0 }, { name := "LOG2_ARRAY_FLOAT_INDEX_SCALE", type := .int, accessFlags := 25, slot := 8, constantValue := 0 }, { name := "LOG2_ARRAY_DOUBLE_INDEX_SCALE", type := .int, accessFlags := 25, slot := 9, constantValue := 0 }, { name := "LOG2_BYTE_BIT_SIZE", type := .int, accessFlags := 26, slot := 10, constantValue := 0 }, { name := "T_BOOLEAN", type := .int, accessFlags := 25, slot := 11, constantValue := 0 }, { name := "T_CHAR", type := .int, accessFlags := 25, slot := 12, constantValue := 0 }, { name := "T_FLOAT", type := .int, accessFlags := 25, slot := 13, constantValue := 0 }, { name := "T_DOUBLE", type := .int, accessFlags := 25, slot := 14, constantValue := 0 }, { name := "T_BYTE", type := .int, accessFlags := 25, slot := 15, constantValue := 0 }, { name := "T_SHORT", type := .int, accessFlags := 25, slot := 16, constantValue := 0 }, { name := "T_INT", type := .int, accessFlags := 25, slot := 17, constantValue := 0 }, { name := "T_LONG", type := .int, accessFlags := 25, slot := 18, constantValue := 0 }, { name := "JLA", type := (.object "jdk/internal/access/JavaLangAccess"), accessFlags := 26, slot := 19, constantValue := 0 }, { name := "SOFT_MAX_ARRAY_LENGTH", type := .int, accessFlags := 25, slot := 20, constantValue := 0 }]
  methods := #[k28m0, k28m1]
  instanceTypes := #[]
  staticTypes := #[(.object "jdk/internal/misc/Unsafe"), .boolean, .int, .int, .int, .int, .int, .int, .int, .int, .int, .int, .int, .int, .int, .int, .int, .int, .int, (.object "jdk/internal/access/JavaLangAccess"), .int]
  resolved := Array.replicate 378 none
  statics := none }

/-- the primitive byte -/
def k29 : Class := { plain "byte" none with kind := .primitive 'B', accessFlags := 0x411 }
/-- [B -/
def k30 : Class := { plain "[B" (some 0) with kind := .array 29 .byte, interfaces := #[10, 11], accessFlags := 1041 }

/-- the primitive char -/
def k31 : Class := { plain "char" none with kind := .primitive 'C', accessFlags := 0x411 }
/-- [C -/
def k32 : Class := { plain "[C" (some 0) with kind := .array 31 .char, interfaces := #[10, 11], accessFlags := 1041 }

/-- the primitive int -/
def k33 : Class := { plain "int" none with kind := .primitive 'I', accessFlags := 0x411 }
/-- [I -/
def k34 : Class := { plain "[I" (some 0) with kind := .array 33 .int, interfaces := #[10, 11], accessFlags := 1041 }

/-- [Ljava/lang/Object; -/
def k35 : Class := { plain "[Ljava/lang/Object;" (some 0) with kind := .array 0 (.object "java/lang/Object"), interfaces := #[10, 11], accessFlags := 1041 }

def heap : Heap := #[{ cls := 12, slots := #[.long 0, .int 0, .ref 3, .ref 4], vm := .statics 12 },
  { cls := 17, slots := #[.long 0, .int 1, .null, .int 0, .null, .int 0, .int 0], vm := .statics 17 },
  { cls := 26, slots := #[.null, .null, .null], vm := .statics 26 },
  { cls := 35, slots := #[], vm := .none },
  { cls := 35, slots := #[], vm := .none }]
def classes : Array Class := #[k0, k1, k2, k3, k4, k5, k6, k7, k8, k9, k10, k11, k12, k13, k14, k15, k16, k17, k18, k19, k20, k21, k22, k23, k24, k25, k26, k27, k28, k29, k30, k31, k32, k33, k34, k35]
def interned : List (Array UInt16 × Addr) := []
def slotsUsed : Nat := 14
def theMethod : MethodId := ⟨1, 5⟩
def args0 : Array Value := #[.int 5, .int 6, .int 7]
def aboutOver (below : List Frame) : State where
  vm := { classes := classes, interned := interned.toArray }
  heap := heap
  slotsUsed := slotsUsed
  threads := #[{ frames := .invoking theMethod args0 :: below }]
def below0 : List Frame := [.native { method := ⟨0, 0⟩, args := #[] }]
def about1 : State := aboutOver below0
def p0 : Program := .bare "" "" ""
def e0 : Env := launch0.env 0 0 0
theorem w_frames : about1.frames = Frame.invoking theMethod args0 :: below0 := rfl
set_option maxRecDepth 65536 in
theorem w_args : argsFit about1.vm theMethod args0 = true := by decide +kernel
set_option maxRecDepth 65536 in
theorem w_heap : heapFits about1 = true := by decide +kernel
set_option maxRecDepth 65536 in
theorem w_runnable : about1.curStatus? = some .runnable := by decide +kernel
set_option maxRecDepth 65536 in
theorem w_alone : about1.alone = true := by decide +kernel
set_option maxRecDepth 65536 in
theorem w_named : about1.methodNamed? x = some theMethod := by decide +kernel
set_option maxRecDepth 65536 in
theorem w_hears : about1.hears theMethod below0 = true := by decide +kernel
set_option maxRecDepth 65536 in
theorem w_ripe : about1.ripe theMethod args0 below0 = true := by decide +kernel
theorem w_running : about1.status = .running := rfl
set_option maxRecDepth 65536 in
theorem w_room : about1.hasRoom e0.platform room_1 = true :=
  launch0.hasRoom_least _ room_1 (by decide +kernel) (by decide +kernel) (by decide +kernel) (by decide +kernel) (by decide +kernel) (by decide +kernel)
theorem allAtoms_all (ts : List Jvm.Cond) (a : Array Jvm.Value) (st : Jvm.State) : (allAtoms ts).before a st = ts.all (fun c => c.before a st) := by
  induction ts with
  | nil => rfl
  | cons c t ih =>
    show (Jvm.Cond.and c (allAtoms t)).before a st = _
    rw [Jvm.Cond.before_and, ih, List.all_cons]
def words1 : List Jvm.Cond := Jvm.Cond.code x code maxLocals ret :: tables_1
/-- a 'code' word, met by the world's own term for the bytes: nothing is compared byte by byte -/
theorem code_word {y : MethodName} {bytes : ByteArray} {mx : Nat} {rt : Option FieldType} {a : Array Value} {s : State} {m : MethodId} {meth : Method} {c : Code} (h1 : s.methodNamed? y = some m) (h2 : s.vm.method? m = some meth) (h3 : meth.code = some c) (h4 : c.code = bytes)
    (h5 : (c.maxLocals == mx && c.exceptionTable.isEmpty && decide (c.maxStack ≤ mostOperands) && decide (meth.sig.returnType = rt) && !meth.locks && decide (parseMethodDescriptor y.desc = some meth.sig)) = true) : (Jvm.Cond.code y bytes mx rt).before a s = true := by
  simp only [Bool.and_eq_true, beq_iff_eq, Bool.not_eq_true', decide_eq_true_eq] at h5
  obtain ⟨⟨⟨⟨⟨g1, g2⟩, g3⟩, g4⟩, g5⟩, g6⟩ := h5
  simp [Cond.before, Cond.holds, Cond.value, h1, h2, h3, h4, g1, g2, g3, g4, g5, g6]
def isCode : Jvm.Cond → Bool
  | .code _ _ _ _ => true
  | _ => false
theorem all_split {L : List Jvm.Cond} {P : Jvm.Cond → Bool} (h1 : L.all (fun c => isCode c || P c) = true) (h2 : ∀ c ∈ L.filter isCode, P c = true) : L.all P = true := by
  refine List.all_eq_true.mpr fun c hc => ?_
  have h := List.all_eq_true.mp h1 c hc
  rcases Bool.eq_false_or_eq_true (isCode c) with hi | hi
  · exact h2 c (List.mem_filter.mpr ⟨hc, hi⟩)
  · simpa [hi] using h
set_option maxRecDepth 65536 in
theorem w_c0 : (Jvm.Cond.code x code maxLocals ret).before args0 about1 = true := code_word (m := ⟨1, 5⟩) (meth := k1m5) (c := k1c5) (by decide +kernel) rfl rfl rfl (by decide +kernel)
set_option maxRecDepth 65536 in
theorem w_c1 : (Jvm.Cond.code ({ cls := "com/example/shaper/shaper/core/ConfigProblems", name := "<init>", desc := "()V" } : Jvm.MethodName) prog_4_method_1_code (1 : Nat) (Option.none : Option Jvm.ClassFile.FieldType)).before args0 about1 = true := code_word (m := ⟨2, 0⟩) (meth := k2m0) (c := k2c0) (by decide +kernel) rfl rfl rfl (by decide +kernel)
set_option maxRecDepth 65536 in
theorem w_c2 : (Jvm.Cond.code ({ cls := "java/lang/Object", name := "<init>", desc := "()V" } : Jvm.MethodName) object_method_1_code (1 : Nat) (Option.none : Option Jvm.ClassFile.FieldType)).before args0 about1 = true := code_word (m := ⟨0, 0⟩) (meth := k0m0) (c := k0c0) (by decide +kernel) rfl rfl rfl (by decide +kernel)
set_option maxRecDepth 65536 in
theorem w_c3 : (Jvm.Cond.code ({ cls := "java/util/ArrayList", name := "<init>", desc := "()V" } : Jvm.MethodName) jdk_38_method_2_code (1 : Nat) (Option.none : Option Jvm.ClassFile.FieldType)).before args0 about1 = true := code_word (m := ⟨12, 0⟩) (meth := k12m0) (c := k12c0) (by decide +kernel) rfl rfl rfl (by decide +kernel)
set_option maxRecDepth 65536 in
theorem w_c4 : (Jvm.Cond.code ({ cls := "java/util/AbstractList", name := "<init>", desc := "()V" } : Jvm.MethodName) jdk_39_method_1_code (1 : Nat) (Option.none : Option Jvm.ClassFile.FieldType)).before args0 about1 = true := code_word (m := ⟨8, 0⟩) (meth := k8m0) (c := k8c0) (by decide +kernel) rfl rfl rfl (by decide +kernel)
set_option maxRecDepth 65536 in
theorem w_c5 : (Jvm.Cond.code ({ cls := "java/util/AbstractCollection", name := "<init>", desc := "()V" } : Jvm.MethodName) jdk_22_method_1_code (1 : Nat) (Option.none : Option Jvm.ClassFile.FieldType)).before args0 about1 = true := code_word (m := ⟨5, 0⟩) (meth := k5m0) (c := k5c0) (by decide +kernel) rfl rfl rfl (by decide +kernel)
set_option maxRecDepth 65536 in
theorem w_c6 : (Jvm.Cond.code ({ cls := "com/example/shaper/shaper/core/ConfigProblemsFirstPinLaw", name := "addViolations", desc := "(Lcom/example/shaper/shaper/core/ConfigProblems;II)V" } : Jvm.MethodName) method_4_code (3 : Nat) (Option.none : Option Jvm.ClassFile.FieldType)).before args0 about1 = true := code_word (m := ⟨1, 3⟩) (meth := k1m3) (c := k1c3) (by decide +kernel) rfl rfl rfl (by decide +kernel)
set_option maxRecDepth 65536 in
theorem w_c7 : (Jvm.Cond.code ({ cls := "java/lang/String", name := "valueOf", desc := "(C)Ljava/lang/String;" } : Jvm.MethodName) jdk_42_method_139_code (1 : Nat) (Option.some (Jvm.ClassFile.FieldType.object "java/lang/String"))).before args0 about1 = true := code_word (m := ⟨17, 5⟩) (meth := k17m5) (c := k17c5) (by decide +kernel) rfl rfl rfl (by decide +kernel)
set_option maxRecDepth 65536 in
theorem w_c8 : (Jvm.Cond.code ({ cls := "java/lang/StringLatin1", name := "canEncode", desc := "(C)Z" } : Jvm.MethodName) jdk_43_method_3_code (1 : Nat) (Option.some Jvm.ClassFile.FieldType.boolean)).before args0 about1 = true := code_word (m := ⟨18, 1⟩) (meth := k18m1) (c := k18c1) (by decide +kernel) rfl rfl rfl (by decide +kernel)
set_option maxRecDepth 65536 in
theorem w_c9 : (Jvm.Cond.code ({ cls := "java/lang/StringLatin1", name := "toBytes", desc := "(C)[B" } : Jvm.MethodName) jdk_43_method_46_code (1 : Nat) (Option.some (Jvm.ClassFile.FieldType.array Jvm.ClassFile.FieldType.byte))).before args0 about1 = true := code_word (m := ⟨18, 3⟩) (meth := k18m3) (c := k18c3) (by decide +kernel) rfl rfl rfl (by decide +kernel)
set_option maxRecDepth 65536 in
theorem w_c10 : (Jvm.Cond.code ({ cls := "java/lang/String", name := "<init>", desc := "([BB)V" } : Jvm.MethodName) jdk_42_method_151_code (3 : Nat) (Option.none : Option Jvm.ClassFile.FieldType)).before args0 about1 = true := code_word (m := ⟨17, 9⟩) (meth := k17m9) (c := k17c9) (by decide +kernel) rfl rfl rfl (by decide +kernel)
set_option maxRecDepth 65536 in
theorem w_c11 : (Jvm.Cond.code ({ cls := "com/example/shaper/shaper/core/ConfigProblems", name := "invalid", desc := "(Ljava/lang/String;Ljava/lang/String;)V" } : Jvm.MethodName) prog_4_method_2_code (3 : Nat) (Option.none : Option Jvm.ClassFile.FieldType)).before args0 about1 = true := code_word (m := ⟨2, 1⟩) (meth := k2m1) (c := k2c1) (by decide +kernel) rfl rfl rfl (by decide +kernel)
set_option maxRecDepth 65536 in
theorem w_c12 : (Jvm.Cond.code ({ cls := "java/lang/StringBuilder", name := "<init>", desc := "()V" } : Jvm.MethodName) jdk_67_method_1_code (1 : Nat) (Option.none : Option Jvm.ClassFile.FieldType)).before args0 about1 = true := code_word (m := ⟨21, 0⟩) (meth := k21m0) (c := k21c0) (by decide +kernel) rfl rfl rfl (by decide +kernel)
set_option maxRecDepth 65536 in
theorem w_c13 : (Jvm.Cond.code ({ cls := "java/lang/AbstractStringBuilder", name := "<init>", desc := "(I)V" } : Jvm.MethodName) jdk_68_method_2_code (2 : Nat) (Option.none : Option Jvm.ClassFile.FieldType)).before args0 about1 = true := code_word (m := ⟨20, 1⟩) (meth := k20m1) (c := k20c1) (by decide +kernel) rfl rfl rfl (by decide +kernel)
set_option maxRecDepth 65536 in
theorem w_c14 : (Jvm.Cond.code ({ cls := "java/lang/StringBuilder", name := "append", desc := "(Ljava/lang/String;)Ljava/lang/StringBuilder;" } : Jvm.MethodName) jdk_67_method_7_code (2 : Nat) (Option.some (Jvm.ClassFile.FieldType.object "java/lang/StringBuilder"))).before args0 about1 = true := code_word (m := ⟨21, 1⟩) (meth := k21m1) (c := k21c1) (by decide +kernel) rfl rfl rfl (by decide +kernel)
set_option maxRecDepth 65536 in
theorem w_c15 : (Jvm.Cond.code ({ cls := "java/lang/AbstractStringBuilder", name := "append", desc := "(Ljava/lang/String;)Ljava/lang/AbstractStringBuilder;" } : Jvm.MethodName) jdk_68_method_22_code (3 : Nat) (Option.some (Jvm.ClassFile.FieldType.object "java/lang/AbstractStringBuilder"))).before args0 about1 = true := code_word (m := ⟨20, 5⟩) (meth := k20m5) (c := k20c5) (by decide +kernel) rfl rfl rfl (by decide +kernel)
set_option maxRecDepth 65536 in
theorem w_c16 : (Jvm.Cond.code ({ cls := "java/lang/String", name := "length", desc := "()I" } : Jvm.MethodName) jdk_42_method_54_code (1 : Nat) (Option.some Jvm.ClassFile.FieldType.int)).before args0 about1 = true := code_word (m := ⟨17, 3⟩) (meth := k17m3) (c := k17c3) (by decide +kernel) rfl rfl rfl (by decide +kernel)
set_option maxRecDepth 65536 in
theorem w_c17 : (Jvm.Cond.code ({ cls := "java/lang/String", name := "coder", desc := "()B" } : Jvm.MethodName) jdk_42_method_152_code (1 : Nat) (Option.some Jvm.ClassFile.FieldType.byte)).before args0 about1 = true := code_word (m := ⟨17, 10⟩) (meth := k17m10) (c := k17c10) (by decide +kernel) rfl rfl rfl (by decide +kernel)
set_option maxRecDepth 65536 in
theorem w_c18 : (Jvm.Cond.code ({ cls := "java/lang/AbstractStringBuilder", name := "ensureCapacityInternal", desc := "(I)V" } : Jvm.MethodName) jdk_68_method_9_code (3 : Nat) (Option.none : Option Jvm.ClassFile.FieldType)).before args0 about1 = true := code_word (m := ⟨20, 3⟩) (meth := k20m3) (c := k20c3) (by decide +kernel) rfl rfl rfl (by decide +kernel)
set_option maxRecDepth 65536 in
theorem w_c19 : (Jvm.Cond.code ({ cls := "java/lang/AbstractStringBuilder", name := "putStringAt", desc := "(ILjava/lang/String;)V" } : Jvm.MethodName) jdk_68_method_73_code (3 : Nat) (Option.none : Option Jvm.ClassFile.FieldType)).before args0 about1 = true := code_word (m := ⟨20, 9⟩) (meth := k20m9) (c := k20c9) (by decide +kernel) rfl rfl rfl (by decide +kernel)
set_option maxRecDepth 65536 in
theorem w_c20 : (Jvm.Cond.code ({ cls := "java/lang/AbstractStringBuilder", name := "inflateIfNeededFor", desc := "(Ljava/lang/String;)V" } : Jvm.MethodName) jdk_68_method_71_code (2 : Nat) (Option.none : Option Jvm.ClassFile.FieldType)).before args0 about1 = true := code_word (m := ⟨20, 8⟩) (meth := k20m8) (c := k20c8) (by decide +kernel) rfl rfl rfl (by decide +kernel)
set_option maxRecDepth 65536 in
theorem w_c21 : (Jvm.Cond.code ({ cls := "java/lang/String", name := "getBytes", desc := "([BIB)V" } : Jvm.MethodName) jdk_42_method_147_code (4 : Nat) (Option.none : Option Jvm.ClassFile.FieldType)).before args0 about1 = true := code_word (m := ⟨17, 6⟩) (meth := k17m6) (c := k17c6) (by decide +kernel) rfl rfl rfl (by decide +kernel)
set_option maxRecDepth 65536 in
theorem w_c22 : (Jvm.Cond.code ({ cls := "java/lang/StringBuilder", name := "toString", desc := "()Ljava/lang/String;" } : Jvm.MethodName) jdk_67_method_42_code (1 : Nat) (Option.some (Jvm.ClassFile.FieldType.object "java/lang/String"))).before args0 about1 = true := code_word (m := ⟨21, 2⟩) (meth := k21m2) (c := k21c2) (by decide +kernel) rfl rfl rfl (by decide +kernel)
set_option maxRecDepth 65536 in
theorem w_c23 : (Jvm.Cond.code ({ cls := "java/lang/String", name := "<init>", desc := "(Ljava/lang/StringBuilder;)V" } : Jvm.MethodName) jdk_42_method_53_code (2 : Nat) (Option.none : Option Jvm.ClassFile.FieldType)).before args0 about1 = true := code_word (m := ⟨17, 2⟩) (meth := k17m2) (c := k17c2) (by decide +kernel) rfl rfl rfl (by decide +kernel)
set_option maxRecDepth 65536 in
theorem w_c24 : (Jvm.Cond.code ({ cls := "java/lang/String", name := "<init>", desc := "(Ljava/lang/AbstractStringBuilder;Ljava/lang/Void;)V" } : Jvm.MethodName) jdk_42_method_150_code (5 : Nat) (Option.none : Option Jvm.ClassFile.FieldType)).before args0 about1 = true := code_word (m := ⟨17, 8⟩) (meth := k17m8) (c := k17c8) (by decide +kernel) rfl rfl rfl (by decide +kernel)
set_option maxRecDepth 65536 in
theorem w_c25 : (Jvm.Cond.code ({ cls := "java/lang/AbstractStringBuilder", name := "getValue", desc := "()[B" } : Jvm.MethodName) jdk_68_method_64_code (1 : Nat) (Option.some (Jvm.ClassFile.FieldType.array Jvm.ClassFile.FieldType.byte))).before args0 about1 = true := code_word (m := ⟨20, 6⟩) (meth := k20m6) (c := k20c6) (by decide +kernel) rfl rfl rfl (by decide +kernel)
set_option maxRecDepth 65536 in
theorem w_c26 : (Jvm.Cond.code ({ cls := "java/lang/StringBuilder", name := "length", desc := "()I" } : Jvm.MethodName) jdk_67_method_93_code (1 : Nat) (Option.some Jvm.ClassFile.FieldType.int)).before args0 about1 = true := code_word (m := ⟨21, 3⟩) (meth := k21m3) (c := k21c3) (by decide +kernel) rfl rfl rfl (by decide +kernel)
set_option maxRecDepth 65536 in
theorem w_c27 : (Jvm.Cond.code ({ cls := "java/lang/AbstractStringBuilder", name := "length", desc := "()I" } : Jvm.MethodName) jdk_68_method_6_code (1 : Nat) (Option.some Jvm.ClassFile.FieldType.int)).before args0 about1 = true := code_word (m := ⟨20, 2⟩) (meth := k20m2) (c := k20c2) (by decide +kernel) rfl rfl rfl (by decide +kernel)
set_option maxRecDepth 65536 in
theorem w_c28 : (Jvm.Cond.code ({ cls := "java/lang/AbstractStringBuilder", name := "isLatin1", desc := "()Z" } : Jvm.MethodName) jdk_68_method_68_code (1 : Nat) (Option.some Jvm.ClassFile.FieldType.boolean)).before args0 about1 = true := code_word (m := ⟨20, 7⟩) (meth := k20m7) (c := k20c7) (by decide +kernel) rfl rfl rfl (by decide +kernel)
set_option maxRecDepth 65536 in
theorem w_c29 : (Jvm.Cond.code ({ cls := "java/util/Arrays", name := "copyOfRange", desc := "([BII)[B" } : Jvm.MethodName) jdk_65_method_132_code (3 : Nat) (Option.some (Jvm.ClassFile.FieldType.array Jvm.ClassFile.FieldType.byte))).before args0 about1 = true := code_word (m := ⟨23, 3⟩) (meth := k23m3) (c := k23c3) (by decide +kernel) rfl rfl rfl (by decide +kernel)
set_option maxRecDepth 65536 in
theorem w_c30 : (Jvm.Cond.code ({ cls := "java/util/Arrays", name := "copyOfRangeByte", desc := "([BII)[B" } : Jvm.MethodName) jdk_65_method_133_code (5 : Nat) (Option.some (Jvm.ClassFile.FieldType.array Jvm.ClassFile.FieldType.byte))).before args0 about1 = true := code_word (m := ⟨23, 4⟩) (meth := k23m4) (c := k23c4) (by decide +kernel) rfl rfl rfl (by decide +kernel)
set_option maxRecDepth 65536 in
theorem w_c31 : (Jvm.Cond.code ({ cls := "java/util/Arrays", name := "checkLength", desc := "(II)V" } : Jvm.MethodName) jdk_65_method_131_code (2 : Nat) (Option.none : Option Jvm.ClassFile.FieldType)).before args0 about1 = true := code_word (m := ⟨23, 2⟩) (meth := k23m2) (c := k23c2) (by decide +kernel) rfl rfl rfl (by decide +kernel)
set_option maxRecDepth 65536 in
theorem w_c32 : (Jvm.Cond.code ({ cls := "java/lang/Math", name := "min", desc := "(II)I" } : Jvm.MethodName) jdk_29_method_69_code (2 : Nat) (Option.some Jvm.ClassFile.FieldType.int)).before args0 about1 = true := code_word (m := ⟨24, 2⟩) (meth := k24m2) (c := k24c2) (by decide +kernel) rfl rfl rfl (by decide +kernel)
set_option maxRecDepth 65536 in
theorem w_c33 : (Jvm.Cond.code ({ cls := "java/util/ArrayList", name := "add", desc := "(Ljava/lang/Object;)Z" } : Jvm.MethodName) jdk_38_method_25_code (2 : Nat) (Option.some Jvm.ClassFile.FieldType.boolean)).before args0 about1 = true := code_word (m := ⟨12, 7⟩) (meth := k12m7) (c := k12c7) (by decide +kernel) rfl rfl rfl (by decide +kernel)
set_option maxRecDepth 65536 in
theorem w_c34 : (Jvm.Cond.code ({ cls := "java/util/ArrayList", name := "add", desc := "(Ljava/lang/Object;[Ljava/lang/Object;I)V" } : Jvm.MethodName) jdk_38_method_24_code (4 : Nat) (Option.none : Option Jvm.ClassFile.FieldType)).before args0 about1 = true := code_word (m := ⟨12, 6⟩) (meth := k12m6) (c := k12c6) (by decide +kernel) rfl rfl rfl (by decide +kernel)
set_option maxRecDepth 65536 in
theorem w_c35 : (Jvm.Cond.code ({ cls := "java/util/ArrayList", name := "grow", desc := "()[Ljava/lang/Object;" } : Jvm.MethodName) jdk_38_method_7_code (1 : Nat) (Option.some (Jvm.ClassFile.FieldType.array (Jvm.ClassFile.FieldType.object "java/lang/Object")))).before args0 about1 = true := code_word (m := ⟨12, 2⟩) (meth := k12m2) (c := k12c2) (by decide +kernel) rfl rfl rfl (by decide +kernel)
set_option maxRecDepth 65536 in
theorem w_c36 : (Jvm.Cond.code ({ cls := "java/util/ArrayList", name := "grow", desc := "(I)[Ljava/lang/Object;" } : Jvm.MethodName) jdk_38_method_6_code (4 : Nat) (Option.some (Jvm.ClassFile.FieldType.array (Jvm.ClassFile.FieldType.object "java/lang/Object")))).before args0 about1 = true := code_word (m := ⟨12, 1⟩) (meth := k12m1) (c := k12c1) (by decide +kernel) rfl rfl rfl (by decide +kernel)
set_option maxRecDepth 65536 in
theorem w_c37 : (Jvm.Cond.code ({ cls := "java/lang/Math", name := "max", desc := "(II)I" } : Jvm.MethodName) jdk_29_method_65_code (2 : Nat) (Option.some Jvm.ClassFile.FieldType.int)).before args0 about1 = true := code_word (m := ⟨24, 1⟩) (meth := k24m1) (c := k24c1) (by decide +kernel) rfl rfl rfl (by decide +kernel)
set_option maxRecDepth 65536 in
theorem w_c38 : (Jvm.Cond.code ({ cls := "com/example/shaper/shaper/core/ConfigProblemsFirstPinLaw", name := "addUnsupported", desc := "(Lcom/example/shaper/shaper/core/ConfigProblems;IZI)V" } : Jvm.MethodName) method_5_code (4 : Nat) (Option.none : Option Jvm.ClassFile.FieldType)).before args0 about1 = true := code_word (m := ⟨1, 4⟩) (meth := k1m4) (c := k1c4) (by decide +kernel) rfl rfl rfl (by decide +kernel)
set_option maxRecDepth 65536 in
theorem w_c39 : (Jvm.Cond.code ({ cls := "com/example/shaper/shaper/core/ConfigProblems", name := "first", desc := "()Ljava/lang/String;" } : Jvm.MethodName) prog_4_method_14_code (2 : Nat) (Option.some (Jvm.ClassFile.FieldType.object "java/lang/String"))).before args0 about1 = true := code_word (m := ⟨2, 4⟩) (meth := k2m4) (c := k2c4) (by decide +kernel) rfl rfl rfl (by decide +kernel)
set_option maxRecDepth 65536 in
theorem w_c40 : (Jvm.Cond.code ({ cls := "com/example/shaper/shaper/core/ConfigProblems", name := "refusing", desc := "()Ljava/util/List;" } : Jvm.MethodName) prog_4_method_16_code (1 : Nat) (Option.some (Jvm.ClassFile.FieldType.object "java/util/List"))).before args0 about1 = true := code_word (m := ⟨2, 5⟩) (meth := k2m5) (c := k2c5) (by decide +kernel) rfl rfl rfl (by decide +kernel)
set_option maxRecDepth 65536 in
theorem w_c41 : (Jvm.Cond.code ({ cls := "java/util/ArrayList", name := "isEmpty", desc := "()Z" } : Jvm.MethodName) jdk_38_method_9_code (1 : Nat) (Option.some Jvm.ClassFile.FieldType.boolean)).before args0 about1 = true := code_word (m := ⟨12, 3⟩) (meth := k12m3) (c := k12c3) (by decide +kernel) rfl rfl rfl (by decide +kernel)
set_option maxRecDepth 65536 in
theorem w_c42 : (Jvm.Cond.code ({ cls := "java/util/ArrayList", name := "get", desc := "(I)Ljava/lang/Object;" } : Jvm.MethodName) jdk_38_method_20_code (2 : Nat) (Option.some (Jvm.ClassFile.FieldType.object "java/lang/Object"))).before args0 about1 = true := code_word (m := ⟨12, 5⟩) (meth := k12m5) (c := k12c5) (by decide +kernel) rfl rfl rfl (by decide +kernel)
set_option maxRecDepth 65536 in
theorem w_c43 : (Jvm.Cond.code ({ cls := "java/util/Objects", name := "checkIndex", desc := "(II)I" } : Jvm.MethodName) jdk_31_method_17_code (2 : Nat) (Option.some Jvm.ClassFile.FieldType.int)).before args0 about1 = true := code_word (m := ⟨25, 1⟩) (meth := k25m1) (c := k25c1) (by decide +kernel) rfl rfl rfl (by decide +kernel)
set_option maxRecDepth 65536 in
theorem w_c44 : (Jvm.Cond.code ({ cls := "jdk/internal/util/Preconditions", name := "checkIndex", desc := "(IILjava/util/function/BiFunction;)I" } : Jvm.MethodName) jdk_41_method_11_code (3 : Nat) (Option.some Jvm.ClassFile.FieldType.int)).before args0 about1 = true := code_word (m := ⟨26, 1⟩) (meth := k26m1) (c := k26c1) (by decide +kernel) rfl rfl rfl (by decide +kernel)
set_option maxRecDepth 65536 in
theorem w_c45 : (Jvm.Cond.code ({ cls := "java/util/ArrayList", name := "elementData", desc := "(I)Ljava/lang/Object;" } : Jvm.MethodName) jdk_38_method_18_code (2 : Nat) (Option.some (Jvm.ClassFile.FieldType.object "java/lang/Object"))).before args0 about1 = true := code_word (m := ⟨12, 4⟩) (meth := k12m4) (c := k12c4) (by decide +kernel) rfl rfl rfl (by decide +kernel)
set_option maxRecDepth 65536 in
theorem w_c46 : (Jvm.Cond.code ({ cls := "com/example/shaper/shaper/core/ConfigProblemsFirstPinLaw", name := "cat", desc := "(CC)Ljava/lang/String;" } : Jvm.MethodName) method_2_code (2 : Nat) (Option.some (Jvm.ClassFile.FieldType.object "java/lang/String"))).before args0 about1 = true := code_word (m := ⟨1, 1⟩) (meth := k1m1) (c := k1c1) (by decide +kernel) rfl rfl rfl (by decide +kernel)
set_option maxRecDepth 65536 in
theorem w_c47 : (Jvm.Cond.code ({ cls := "java/lang/String", name := "<init>", desc := "([C)V" } : Jvm.MethodName) jdk_42_method_3_code (2 : Nat) (Option.none : Option Jvm.ClassFile.FieldType)).before args0 about1 = true := code_word (m := ⟨17, 1⟩) (meth := k17m1) (c := k17c1) (by decide +kernel) rfl rfl rfl (by decide +kernel)
set_option maxRecDepth 65536 in
theorem w_c48 : (Jvm.Cond.code ({ cls := "java/lang/String", name := "<init>", desc := "([CIILjava/lang/Void;)V" } : Jvm.MethodName) jdk_42_method_149_code (6 : Nat) (Option.none : Option Jvm.ClassFile.FieldType)).before args0 about1 = true := code_word (m := ⟨17, 7⟩) (meth := k17m7) (c := k17c7) (by decide +kernel) rfl rfl rfl (by decide +kernel)
set_option maxRecDepth 65536 in
theorem w_c49 : (Jvm.Cond.code ({ cls := "java/lang/StringUTF16", name := "compress", desc := "([CII)[B" } : Jvm.MethodName) jdk_52_method_16_code (6 : Nat) (Option.some (Jvm.ClassFile.FieldType.array Jvm.ClassFile.FieldType.byte))).before args0 about1 = true := code_word (m := ⟨27, 2⟩) (meth := k27m2) (c := k27c2) (by decide +kernel) rfl rfl rfl (by decide +kernel)
set_option maxRecDepth 65536 in
theorem w_c50 : (Jvm.Cond.code ({ cls := "java/lang/StringUTF16", name := "compress", desc := "([CI[BII)I" } : Jvm.MethodName) jdk_52_method_21_code (7 : Nat) (Option.some Jvm.ClassFile.FieldType.int)).before args0 about1 = true := code_word (m := ⟨27, 3⟩) (meth := k27m3) (c := k27c3) (by decide +kernel) rfl rfl rfl (by decide +kernel)
set_option maxRecDepth 65536 in
theorem w_c51 : (Jvm.Cond.code ({ cls := "java/lang/StringUTF16", name := "coderFromArrayLen", desc := "([BI)B" } : Jvm.MethodName) jdk_52_method_15_code (2 : Nat) (Option.some Jvm.ClassFile.FieldType.byte)).before args0 about1 = true := code_word (m := ⟨27, 1⟩) (meth := k27m1) (c := k27c1) (by decide +kernel) rfl rfl rfl (by decide +kernel)
set_option maxRecDepth 65536 in
theorem w_c52 : (Jvm.Cond.code ({ cls := "java/lang/String", name := "equals", desc := "(Ljava/lang/Object;)Z" } : Jvm.MethodName) jdk_42_method_66_code (3 : Nat) (Option.some Jvm.ClassFile.FieldType.boolean)).before args0 about1 = true := code_word (m := ⟨17, 4⟩) (meth := k17m4) (c := k17c4) (by decide +kernel) rfl rfl rfl (by decide +kernel)
set_option maxRecDepth 65536 in
theorem w_c53 : (Jvm.Cond.code ({ cls := "java/lang/StringLatin1", name := "equals", desc := "([B[B)Z" } : Jvm.MethodName) jdk_43_method_13_code (3 : Nat) (Option.some Jvm.ClassFile.FieldType.boolean)).before args0 about1 = true := code_word (m := ⟨18, 2⟩) (meth := k18m2) (c := k18c2) (by decide +kernel) rfl rfl rfl (by decide +kernel)
set_option maxRecDepth 65536 in
theorem w_c54 : (Jvm.Cond.code ({ cls := "com/example/shaper/shaper/core/ConfigProblems", name := "unsupported", desc := "(Ljava/lang/String;Ljava/lang/String;)V" } : Jvm.MethodName) prog_4_method_4_code (3 : Nat) (Option.none : Option Jvm.ClassFile.FieldType)).before args0 about1 = true := code_word (m := ⟨2, 3⟩) (meth := k2m3) (c := k2c3) (by decide +kernel) rfl rfl rfl (by decide +kernel)
set_option maxRecDepth 65536 in
theorem w_c55 : (Jvm.Cond.code ({ cls := "com/example/shaper/shaper/core/ConfigProblems", name := "unsupported", desc := "(Ljava/lang/String;)V" } : Jvm.MethodName) prog_4_method_3_code (2 : Nat) (Option.none : Option Jvm.ClassFile.FieldType)).before args0 about1 = true := code_word (m := ⟨2, 2⟩) (meth := k2m2) (c := k2c2) (by decide +kernel) rfl rfl rfl (by decide +kernel)
set_option maxRecDepth 65536 in
theorem w_c56 : (Jvm.Cond.code ({ cls := "java/lang/AbstractStringBuilder", name := "newCapacity", desc := "(I)I" } : Jvm.MethodName) jdk_68_method_10_code (6 : Nat) (Option.some Jvm.ClassFile.FieldType.int)).before args0 about1 = true := code_word (m := ⟨20, 4⟩) (meth := k20m4) (c := k20c4) (by decide +kernel) rfl rfl rfl (by decide +kernel)
set_option maxRecDepth 65536 in
theorem w_c57 : (Jvm.Cond.code ({ cls := "jdk/internal/util/ArraysSupport", name := "newLength", desc := "(III)I" } : Jvm.MethodName) jdk_48_method_27_code (4 : Nat) (Option.some Jvm.ClassFile.FieldType.int)).before args0 about1 = true := code_word (m := ⟨28, 1⟩) (meth := k28m1) (c := k28c1) (by decide +kernel) rfl rfl rfl (by decide +kernel)
set_option maxRecDepth 65536 in
theorem w_c58 : (Jvm.Cond.code ({ cls := "java/util/Arrays", name := "copyOf", desc := "([BI)[B" } : Jvm.MethodName) jdk_65_method_121_code (3 : Nat) (Option.some (Jvm.ClassFile.FieldType.array Jvm.ClassFile.FieldType.byte))).before args0 about1 = true := code_word (m := ⟨23, 1⟩) (meth := k23m1) (c := k23c1) (by decide +kernel) rfl rfl rfl (by decide +kernel)
set_option maxRecDepth 65536 in
theorem w_c59 : (Jvm.Cond.code ({ cls := "com/example/shaper/shaper/core/ConfigProblemsFirstPinLaw", name := "catDefault", desc := "(C)Ljava/lang/String;" } : Jvm.MethodName) method_3_code (1 : Nat) (Option.some (Jvm.ClassFile.FieldType.object "java/lang/String"))).before args0 about1 = true := code_word (m := ⟨1, 2⟩) (meth := k1m2) (c := k1c2) (by decide +kernel) rfl rfl rfl (by decide +kernel)
def codes1 : List Jvm.Cond := [Jvm.Cond.code x code maxLocals ret, Jvm.Cond.code ({ cls := "com/example/shaper/shaper/core/ConfigProblems", name := "<init>", desc := "()V" } : Jvm.MethodName) prog_4_method_1_code (1 : Nat) (Option.none : Option Jvm.ClassFile.FieldType), Jvm.Cond.code ({ cls := "java/lang/Object", name := "<init>", desc := "()V" } : Jvm.MethodName) object_method_1_code (1 : Nat) (Option.none : Option Jvm.ClassFile.FieldType), Jvm.Cond.code ({ cls := "java/util/ArrayList", name := "<init>", desc := "()V" } : Jvm.MethodName) jdk_38_method_2_code (1 : Nat) (Option.none : Option Jvm.ClassFile.FieldType), Jvm.Cond.code ({ cls := "java/util/AbstractList", name := "<init>", desc := "()V" } : Jvm.MethodName) jdk_39_method_1_code (1 : Nat) (Option.none : Option Jvm.ClassFile.FieldType), Jvm.Cond.code ({ cls := "java/util/AbstractCollection", name := "<init>", desc := "()V" } : Jvm.MethodName) jdk_22_method_1_code (1 : Nat) (Option.none : Option Jvm.ClassFile.FieldType), Jvm.Cond.code ({ cls := "com/example/shaper/shaper/core/ConfigProblemsFirstPinLaw", name := "addViolations", desc := "(Lcom/example/shaper/shaper/core/ConfigProblems;II)V" } : Jvm.MethodName) method_4_code (3 : Nat) (Option.none : Option Jvm.ClassFile.FieldType), Jvm.Cond.code ({ cls := "java/lang/String", name := "valueOf", desc := "(C)Ljava/lang/String;" } : Jvm.MethodName) jdk_42_method_139_code (1 : Nat) (Option.some (Jvm.ClassFile.FieldType.object "java/lang/String")), Jvm.Cond.code ({ cls := "java/lang/StringLatin1", name := "canEncode", desc := "(C)Z" } : Jvm.MethodName) jdk_43_method_3_code (1 : Nat) (Option.some Jvm.ClassFile.FieldType.boolean), Jvm.Cond.code ({ cls := "java/lang/StringLatin1", name := "toBytes", desc := "(C)[B" } : Jvm.MethodName) jdk_43_method_46_code (1 : Nat) (Option.some (Jvm.ClassFile.FieldType.array Jvm.ClassFile.FieldType.byte)), Jvm.Cond.code ({ cls := "java/lang/String", name := "<init>", desc := "([BB)V" } : Jvm.MethodName) jdk_42_method_151_code (3 : Nat) (Option.none : Option Jvm.ClassFile.FieldType), Jvm.Cond.code ({ cls := "com/example/shaper/shaper/core/ConfigProblems", name := "invalid", desc := "(Ljava/lang/String;Ljava/lang/String;)V" } : Jvm.MethodName) prog_4_method_2_code (3 : Nat) (Option.none : Option Jvm.ClassFile.FieldType), Jvm.Cond.code ({ cls := "java/lang/StringBuilder", name := "<init>", desc := "()V" } : Jvm.MethodName) jdk_67_method_1_code (1 : Nat) (Option.none : Option Jvm.ClassFile.FieldType), Jvm.Cond.code ({ cls := "java/lang/AbstractStringBuilder", name := "<init>", desc := "(I)V" } : Jvm.MethodName) jdk_68_method_2_code (2 : Nat) (Option.none : Option Jvm.ClassFile.FieldType), Jvm.Cond.code ({ cls := "java/lang/StringBuilder", name := "append", desc := "(Ljava/lang/String;)Ljava/lang/StringBuilder;" } : Jvm.MethodName) jdk_67_method_7_code (2 : Nat) (Option.some (Jvm.ClassFile.FieldType.object "java/lang/StringBuilder")), Jvm.Cond.code ({ cls := "java/lang/AbstractStringBuilder", name := "append", desc := "(Ljava/lang/String;)Ljava/lang/AbstractStringBuilder;" } : Jvm.MethodName) jdk_68_method_22_code (3 : Nat) (Option.some (Jvm.ClassFile.FieldType.object "java/lang/AbstractStringBuilder")), Jvm.Cond.code ({ cls := "java/lang/String", name := "length", desc := "()I" } : Jvm.MethodName) jdk_42_method_54_code (1 : Nat) (Option.some Jvm.ClassFile.FieldType.int), Jvm.Cond.code ({ cls := "java/lang/String", name := "coder", desc := "()B" } : Jvm.MethodName) jdk_42_method_152_code (1 : Nat) (Option.some Jvm.ClassFile.FieldType.byte), Jvm.Cond.code ({ cls := "java/lang/AbstractStringBuilder", name := "ensureCapacityInternal", desc := "(I)V" } : Jvm.MethodName) jdk_68_method_9_code (3 : Nat) (Option.none : Option Jvm.ClassFile.FieldType), Jvm.Cond.code ({ cls := "java/lang/AbstractStringBuilder", name := "putStringAt", desc := "(ILjava/lang/String;)V" } : Jvm.MethodName) jdk_68_method_73_code (3 : Nat) (Option.none : Option Jvm.ClassFile.FieldType), Jvm.Cond.code ({ cls := "java/lang/AbstractStringBuilder", name := "inflateIfNeededFor", desc := "(Ljava/lang/String;)V" } : Jvm.MethodName) jdk_68_method_71_code (2 : Nat) (Option.none : Option Jvm.ClassFile.FieldType), Jvm.Cond.code ({ cls := "java/lang/String", name := "getBytes", desc := "([BIB)V" } : Jvm.MethodName) jdk_42_method_147_code (4 : Nat) (Option.none : Option Jvm.ClassFile.FieldType), Jvm.Cond.code ({ cls := "java/lang/StringBuilder", name := "toString", desc := "()Ljava/lang/String;" } : Jvm.MethodName) jdk_67_method_42_code (1 : Nat) (Option.some (Jvm.ClassFile.FieldType.object "java/lang/String")), Jvm.Cond.code ({ cls := "java/lang/String", name := "<init>", desc := "(Ljava/lang/StringBuilder;)V" } : Jvm.MethodName) jdk_42_method_53_code (2 : Nat) (Option.none : Option Jvm.ClassFile.FieldType), Jvm.Cond.code ({ cls := "java/lang/String", name := "<init>", desc := "(Ljava/lang/AbstractStringBuilder;Ljava/lang/Void;)V" } : Jvm.MethodName) jdk_42_method_150_code (5 : Nat) (Option.none : Option Jvm.ClassFile.FieldType), Jvm.Cond.code ({ cls := "java/lang/AbstractStringBuilder", name := "getValue", desc := "()[B" } : Jvm.MethodName) jdk_68_method_64_code (1 : Nat) (Option.some (Jvm.ClassFile.FieldType.array Jvm.ClassFile.FieldType.byte)), Jvm.Cond.code ({ cls := "java/lang/StringBuilder", name := "length", desc := "()I" } : Jvm.MethodName) jdk_67_method_93_code (1 : Nat) (Option.some Jvm.ClassFile.FieldType.int), Jvm.Cond.code ({ cls := "java/lang/AbstractStringBuilder", name := "length", desc := "()I" } : Jvm.MethodName) jdk_68_method_6_code (1 : Nat) (Option.some Jvm.ClassFile.FieldType.int), Jvm.Cond.code ({ cls := "java/lang/AbstractStringBuilder", name := "isLatin1", desc := "()Z" } : Jvm.MethodName) jdk_68_method_68_code (1 : Nat) (Option.some Jvm.ClassFile.FieldType.boolean), Jvm.Cond.code ({ cls := "java/util/Arrays", name := "copyOfRange", desc := "([BII)[B" } : Jvm.MethodName) jdk_65_method_132_code (3 : Nat) (Option.some (Jvm.ClassFile.FieldType.array Jvm.ClassFile.FieldType.byte)), Jvm.Cond.code ({ cls := "java/util/Arrays", name := "copyOfRangeByte", desc := "([BII)[B" } : Jvm.MethodName) jdk_65_method_133_code (5 : Nat) (Option.some (Jvm.ClassFile.FieldType.array Jvm.ClassFile.FieldType.byte)), Jvm.Cond.code ({ cls := "java/util/Arrays", name := "checkLength", desc := "(II)V" } : Jvm.MethodName) jdk_65_method_131_code (2 : Nat) (Option.none : Option Jvm.ClassFile.FieldType), Jvm.Cond.code ({ cls := "java/lang/Math", name := "min", desc := "(II)I" } : Jvm.MethodName) jdk_29_method_69_code (2 : Nat) (Option.some Jvm.ClassFile.FieldType.int), Jvm.Cond.code ({ cls := "java/util/ArrayList", name := "add", desc := "(Ljava/lang/Object;)Z" } : Jvm.MethodName) jdk_38_method_25_code (2 : Nat) (Option.some Jvm.ClassFile.FieldType.boolean), Jvm.Cond.code ({ cls := "java/util/ArrayList", name := "add", desc := "(Ljava/lang/Object;[Ljava/lang/Object;I)V" } : Jvm.MethodName) jdk_38_method_24_code (4 : Nat) (Option.none : Option Jvm.ClassFile.FieldType), Jvm.Cond.code ({ cls := "java/util/ArrayList", name := "grow", desc := "()[Ljava/lang/Object;" } : Jvm.MethodName) jdk_38_method_7_code (1 : Nat) (Option.some (Jvm.ClassFile.FieldType.array (Jvm.ClassFile.FieldType.object "java/lang/Object"))), Jvm.Cond.code ({ cls := "java/util/ArrayList", name := "grow", desc := "(I)[Ljava/lang/Object;" } : Jvm.MethodName) jdk_38_method_6_code (4 : Nat) (Option.some (Jvm.ClassFile.FieldType.array (Jvm.ClassFile.FieldType.object "java/lang/Object"))), Jvm.Cond.code ({ cls := "java/lang/Math", name := "max", desc := "(II)I" } : Jvm.MethodName) jdk_29_method_65_code (2 : Nat) (Option.some Jvm.ClassFile.FieldType.int), Jvm.Cond.code ({ cls := "com/example/shaper/shaper/core/ConfigProblemsFirstPinLaw", name := "addUnsupported", desc := "(Lcom/example/shaper/shaper/core/ConfigProblems;IZI)V" } : Jvm.MethodName) method_5_code (4 : Nat) (Option.none : Option Jvm.ClassFile.FieldType), Jvm.Cond.code ({ cls := "com/example/shaper/shaper/core/ConfigProblems", name := "first", desc := "()Ljava/lang/String;" } : Jvm.MethodName) prog_4_method_14_code (2 : Nat) (Option.some (Jvm.ClassFile.FieldType.object "java/lang/String")), Jvm.Cond.code ({ cls := "com/example/shaper/shaper/core/ConfigProblems", name := "refusing", desc := "()Ljava/util/List;" } : Jvm.MethodName) prog_4_method_16_code (1 : Nat) (Option.some (Jvm.ClassFile.FieldType.object "java/util/List")), Jvm.Cond.code ({ cls := "java/util/ArrayList", name := "isEmpty", desc := "()Z" } : Jvm.MethodName) jdk_38_method_9_code (1 : Nat) (Option.some Jvm.ClassFile.FieldType.boolean), Jvm.Cond.code ({ cls := "java/util/ArrayList", name := "get", desc := "(I)Ljava/lang/Object;" } : Jvm.MethodName) jdk_38_method_20_code (2 : Nat) (Option.some (Jvm.ClassFile.FieldType.object "java/lang/Object")), Jvm.Cond.code ({ cls := "java/util/Objects", name := "checkIndex", desc := "(II)I" } : Jvm.MethodName) jdk_31_method_17_code (2 : Nat) (Option.some Jvm.ClassFile.FieldType.int), Jvm.Cond.code ({ cls := "jdk/internal/util/Preconditions", name := "checkIndex", desc := "(IILjava/util/function/BiFunction;)I" } : Jvm.MethodName) jdk_41_method_11_code (3 : Nat) (Option.some Jvm.ClassFile.FieldType.int), Jvm.Cond.code ({ cls := "java/util/ArrayList", name := "elementData", desc := "(I)Ljava/lang/Object;" } : Jvm.MethodName) jdk_38_method_18_code (2 : Nat) (Option.some (Jvm.ClassFile.FieldType.object "java/lang/Object")), Jvm.Cond.code ({ cls := "com/example/shaper/shaper/core/ConfigProblemsFirstPinLaw", name := "cat", desc := "(CC)Ljava/lang/String;" } : Jvm.MethodName) method_2_code (2 : Nat) (Option.some (Jvm.ClassFile.FieldType.object "java/lang/String")), Jvm.Cond.code ({ cls := "java/lang/String", name := "<init>", desc := "([C)V" } : Jvm.MethodName) jdk_42_method_3_code (2 : Nat) (Option.none : Option Jvm.ClassFile.FieldType), Jvm.Cond.code ({ cls := "java/lang/String", name := "<init>", desc := "([CIILjava/lang/Void;)V" } : Jvm.MethodName) jdk_42_method_149_code (6 : Nat) (Option.none : Option Jvm.ClassFile.FieldType), Jvm.Cond.code ({ cls := "java/lang/StringUTF16", name := "compress", desc := "([CII)[B" } : Jvm.MethodName) jdk_52_method_16_code (6 : Nat) (Option.some (Jvm.ClassFile.FieldType.array Jvm.ClassFile.FieldType.byte)), Jvm.Cond.code ({ cls := "java/lang/StringUTF16", name := "compress", desc := "([CI[BII)I" } : Jvm.MethodName) jdk_52_method_21_code (7 : Nat) (Option.some Jvm.ClassFile.FieldType.int), Jvm.Cond.code ({ cls := "java/lang/StringUTF16", name := "coderFromArrayLen", desc := "([BI)B" } : Jvm.MethodName) jdk_52_method_15_code (2 : Nat) (Option.some Jvm.ClassFile.FieldType.byte), Jvm.Cond.code ({ cls := "java/lang/String", name := "equals", desc := "(Ljava/lang/Object;)Z" } : Jvm.MethodName) jdk_42_method_66_code (3 : Nat) (Option.some Jvm.ClassFile.FieldType.boolean), Jvm.Cond.code ({ cls := "java/lang/StringLatin1", name := "equals", desc := "([B[B)Z" } : Jvm.MethodName) jdk_43_method_13_code (3 : Nat) (Option.some Jvm.ClassFile.FieldType.boolean), Jvm.Cond.code ({ cls := "com/example/shaper/shaper/core/ConfigProblems", name := "unsupported", desc := "(Ljava/lang/String;Ljava/lang/String;)V" } : Jvm.MethodName) prog_4_method_4_code (3 : Nat) (Option.none : Option Jvm.ClassFile.FieldType), Jvm.Cond.code ({ cls := "com/example/shaper/shaper/core/ConfigProblems", name := "unsupported", desc := "(Ljava/lang/String;)V" } : Jvm.MethodName) prog_4_method_3_code (2 : Nat) (Option.none : Option Jvm.ClassFile.FieldType), Jvm.Cond.code ({ cls := "java/lang/AbstractStringBuilder", name := "newCapacity", desc := "(I)I" } : Jvm.MethodName) jdk_68_method_10_code (6 : Nat) (Option.some Jvm.ClassFile.FieldType.int), Jvm.Cond.code ({ cls := "jdk/internal/util/ArraysSupport", name := "newLength", desc := "(III)I" } : Jvm.MethodName) jdk_48_method_27_code (4 : Nat) (Option.some Jvm.ClassFile.FieldType.int), Jvm.Cond.code ({ cls := "java/util/Arrays", name := "copyOf", desc := "([BI)[B" } : Jvm.MethodName) jdk_65_method_121_code (3 : Nat) (Option.some (Jvm.ClassFile.FieldType.array Jvm.ClassFile.FieldType.byte)), Jvm.Cond.code ({ cls := "com/example/shaper/shaper/core/ConfigProblemsFirstPinLaw", name := "catDefault", desc := "(C)Ljava/lang/String;" } : Jvm.MethodName) method_3_code (1 : Nat) (Option.some (Jvm.ClassFile.FieldType.object "java/lang/String"))]
set_option maxRecDepth 65536 in
theorem codes_eq : words1.filter isCode = codes1 := rfl
theorem w_codes : ∀ c ∈ words1.filter isCode, c.before args0 about1 = true := by
  rw [codes_eq]
  intro c hc
  simp only [codes1, List.mem_cons, List.not_mem_nil, or_false] at hc
  rcases hc with rfl | rfl | rfl | rfl | rfl | rfl | rfl | rfl | rfl | rfl | rfl | rfl | rfl | rfl | rfl | rfl | rfl | rfl | rfl | rfl | rfl | rfl | rfl | rfl | rfl | rfl | rfl | rfl | rfl | rfl | rfl | rfl | rfl | rfl | rfl | rfl | rfl | rfl | rfl | rfl | rfl | rfl | rfl | rfl | rfl | rfl | rfl | rfl | rfl | rfl | rfl | rfl | rfl | rfl | rfl | rfl | rfl | rfl | rfl | rfl
  · exact w_c0
  · exact w_c1
  · exact w_c2
  · exact w_c3
  · exact w_c4
  · exact w_c5
  · exact w_c6
  · exact w_c7
  · exact w_c8
  · exact w_c9
  · exact w_c10
  · exact w_c11
  · exact w_c12
  · exact w_c13
  · exact w_c14
  · exact w_c15
  · exact w_c16
  · exact w_c17
  · exact w_c18
  · exact w_c19
  · exact w_c20
  · exact w_c21
  · exact w_c22
  · exact w_c23
  · exact w_c24
  · exact w_c25
  · exact w_c26
  · exact w_c27
  · exact w_c28
  · exact w_c29
  · exact w_c30
  · exact w_c31
  · exact w_c32
  · exact w_c33
  · exact w_c34
  · exact w_c35
  · exact w_c36
  · exact w_c37
  · exact w_c38
  · exact w_c39
  · exact w_c40
  · exact w_c41
  · exact w_c42
  · exact w_c43
  · exact w_c44
  · exact w_c45
  · exact w_c46
  · exact w_c47
  · exact w_c48
  · exact w_c49
  · exact w_c50
  · exact w_c51
  · exact w_c52
  · exact w_c53
  · exact w_c54
  · exact w_c55
  · exact w_c56
  · exact w_c57
  · exact w_c58
  · exact w_c59
set_option maxRecDepth 65536 in
theorem w_t1 : (words1.take 24).all (fun c => isCode c || c.before args0 about1) = true := by decide +kernel
set_option maxRecDepth 65536 in
theorem w_t2 : ((words1.drop 24).take 24).all (fun c => isCode c || c.before args0 about1) = true := by decide +kernel
set_option maxRecDepth 65536 in
theorem w_t3 : (((words1.drop 24).drop 24).take 24).all (fun c => isCode c || c.before args0 about1) = true := by decide +kernel
set_option maxRecDepth 65536 in
theorem w_t4 : ((((words1.drop 24).drop 24).drop 24).take 24).all (fun c => isCode c || c.before args0 about1) = true := by decide +kernel
set_option maxRecDepth 65536 in
theorem w_t5 : (((((words1.drop 24).drop 24).drop 24).drop 24).take 24).all (fun c => isCode c || c.before args0 about1) = true := by decide +kernel
set_option maxRecDepth 65536 in
theorem w_t6 : ((((((words1.drop 24).drop 24).drop 24).drop 24).drop 24).take 24).all (fun c => isCode c || c.before args0 about1) = true := by decide +kernel
set_option maxRecDepth 65536 in
theorem w_t7 : (((((((words1.drop 24).drop 24).drop 24).drop 24).drop 24).drop 24).take 24).all (fun c => isCode c || c.before args0 about1) = true := by decide +kernel
set_option maxRecDepth 65536 in
theorem w_t8 : ((((((((words1.drop 24).drop 24).drop 24).drop 24).drop 24).drop 24).drop 24).take 24).all (fun c => isCode c || c.before args0 about1) = true := by decide +kernel
set_option maxRecDepth 65536 in
theorem w_t9 : (((((((((words1.drop 24).drop 24).drop 24).drop 24).drop 24).drop 24).drop 24).drop 24).take 24).all (fun c => isCode c || c.before args0 about1) = true := by decide +kernel
set_option maxRecDepth 65536 in
theorem w_t10 : ((((((((((words1.drop 24).drop 24).drop 24).drop 24).drop 24).drop 24).drop 24).drop 24).drop 24).take 24).all (fun c => isCode c || c.before args0 about1) = true := by decide +kernel
set_option maxRecDepth 65536 in
theorem w_t11 : (((((((((((words1.drop 24).drop 24).drop 24).drop 24).drop 24).drop 24).drop 24).drop 24).drop 24).drop 24).take 24).all (fun c => isCode c || c.before args0 about1) = true := by decide +kernel
set_option maxRecDepth 65536 in
theorem w_t12 : ((((((((((((words1.drop 24).drop 24).drop 24).drop 24).drop 24).drop 24).drop 24).drop 24).drop 24).drop 24).drop 24).take 24).all (fun c => isCode c || c.before args0 about1) = true := by decide +kernel
set_option maxRecDepth 65536 in
theorem w_t13 : (((((((((((((words1.drop 24).drop 24).drop 24).drop 24).drop 24).drop 24).drop 24).drop 24).drop 24).drop 24).drop 24).drop 24).take 24).all (fun c => isCode c || c.before args0 about1) = true := by decide +kernel
set_option maxRecDepth 65536 in
theorem w_t14 : (((((((((((((words1.drop 24).drop 24).drop 24).drop 24).drop 24).drop 24).drop 24).drop 24).drop 24).drop 24).drop 24).drop 24).drop 24).all (fun c => isCode c || c.before args0 about1) = true := by decide +kernel
theorem w_tables : (allAtoms (Jvm.Cond.code x code maxLocals ret :: tables_1)).before args0 about1 = true := by
  rw [allAtoms_all]
  show words1.all (fun c => c.before args0 about1) = true
  refine all_split ?_ w_codes
  rw [← List.take_append_drop 24 words1, List.all_append, w_t1, ← List.take_append_drop 24 (words1.drop 24), List.all_append, w_t2, ← List.take_append_drop 24 ((words1.drop 24).drop 24), List.all_append, w_t3, ← List.take_append_drop 24 (((words1.drop 24).drop 24).drop 24), List.all_append, w_t4, ← List.take_append_drop 24 ((((words1.drop 24).drop 24).drop 24).drop 24), List.all_append, w_t5, ← List.take_append_drop 24 (((((words1.drop 24).drop 24).drop 24).drop 24).drop 24), List.all_append, w_t6, ← List.take_append_drop 24 ((((((words1.drop 24).drop 24).drop 24).drop 24).drop 24).drop 24), List.all_append, w_t7, ← List.take_append_drop 24 (((((((words1.drop 24).drop 24).drop 24).drop 24).drop 24).drop 24).drop 24), List.all_append, w_t8, ← List.take_append_drop 24 ((((((((words1.drop 24).drop 24).drop 24).drop 24).drop 24).drop 24).drop 24).drop 24), List.all_append, w_t9, ← List.take_append_drop 24 (((((((((words1.drop 24).drop 24).drop 24).drop 24).drop 24).drop 24).drop 24).drop 24).drop 24), List.all_append, w_t10, ← List.take_append_drop 24 ((((((((((words1.drop 24).drop 24).drop 24).drop 24).drop 24).drop 24).drop 24).drop 24).drop 24).drop 24), List.all_append, w_t11, ← List.take_append_drop 24 (((((((((((words1.drop 24).drop 24).drop 24).drop 24).drop 24).drop 24).drop 24).drop 24).drop 24).drop 24).drop 24), List.all_append, w_t12, ← List.take_append_drop 24 ((((((((((((words1.drop 24).drop 24).drop 24).drop 24).drop 24).drop 24).drop 24).drop 24).drop 24).drop 24).drop 24).drop 24), List.all_append, w_t13, w_t14]
  rfl
set_option maxRecDepth 65536 in
theorem w_rest : rest_1_c.before args0 about1 = true := by decide +kernel
set_option maxRecDepth 65536 in
theorem w_case : (Jvm.Cond.and given_1 narrow_1).before args0 about1 = true := by decide +kernel
set_option maxRecDepth 65536 in
theorem w_consts : constsHeld consts_1 about1 := Jvm.Lit.constsHeldB_iff.mp (by decide +kernel)
theorem w_applies : (headSpec (Jvm.Cond.code x code maxLocals ret :: tables_1) room_1).applies x e0.platform about1 = true :=
  (Spec.applies_iff w_frames).mpr ⟨w_running, w_runnable, w_alone, w_named, w_hears, w_ripe, w_room, w_tables⟩
theorem atStart : AtStart classFile x code maxLocals ret World_1 tables_1 room_1 Calls_1 rest_1 Pre_1 launch0 p0 e0 about1 theMethod args0 below0 :=
  ⟨lists_1, trivial, launch0.admits_env _ _ _, launch0.least_env, fairChoices_fair.cas, fairChoices_fair.clock, w_frames, w_args, w_heap, w_applies, ⟨w_consts, trivial⟩, w_rest, w_case⟩
end start1
theorem witness_1 : WitnessClaimed_1 := ⟨start1.p0, start1.e0, start1.about1, start1.theMethod, start1.args0, start1.below0, start1.atStart⟩
end Jvm.Pilot.@@N@@
