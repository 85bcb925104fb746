import JvmDerived
import JvmDerived.Pilot.@@N@@Statement
import JvmDerived.Pilot.@@N@@Code
set_option linter.unusedVariables false
set_option linter.unusedSimpArgs false
/- laws to paste: Road.backV, Road.lenW, Road.chN, Road.eqW (cut by pick.py; bodies as the Statement names them) -/
namespace Jvm.Pilot.@@N@@
namespace StrChars
open Jvm Sem ClassFile Op Lib Jvm.Stand Jvm.Free.XT Jvm.Free.ALB Jvm.Free.JM Jvm.Free
open Jvm.Lib.Cold (StaticIs)
/-- a char array whose places are chars -/
def Ch (a : Addr) (A : Cell) (U : State) : Prop := Arr .char a A U ∧ Typed .char A
theorem Ch.mv {a : Addr} {A : Cell} {U U' : State} (h : Ch a A U) (hal : U.vm.Alike U'.vm) (hh : U'.heap = U.heap) : Ch a A U' := ⟨h.1.mv hal hh, h.2⟩
theorem Ch.keep {a : Addr} {A : Cell} {U U' : State} (h : Ch a A U) (hal : U.vm.Alike U'.vm) (hk : U'.heap[a]? = some A) : Ch a A U' := ⟨h.1.keep hal hk, h.2⟩
/-- what place i of a char[]'s cell holds -/
def cv (A : Cell) (i : Nat) : Int32 := match A.slots[i]? with | some (.int x) => x | _ => 0
theorem Ch.get {a : Addr} {A : Cell} {U : State} (h : Ch a A U) {i : Nat} (hi : i < A.slots.size) : A.slots[i]? = some (.int (cv A i)) := by
  have e := Array.getElem?_eq_getElem hi
  have f := h.2 i _ e
  unfold cv; rw [e]
  generalize A.slots[i] = v at f
  cases v <;> simp [fits] at f ⊢
/-- the byte that i2b leaves of a char -/
def lo8 (x : Int32) : Int32 := x.toInt8.toInt32
theorem fits_lo8 (y : Int32) : fits .byte (.int (lo8 y)) = true := by
  have h1 := y.toInt8.le_toInt
  have h2 := y.toInt8.toInt_lt
  simp only [lo8, fits, Bool.and_eq_true, decide_eq_true_eq, Int32.le_iff_toInt_le, Int8.toInt_toInt32, show (-128 : Int32).toInt = -128 from by decide, show (127 : Int32).toInt = 127 from by decide]
  omega
/-- A' is A but that each place j of lo .. hi - 1 holds f j -/
def Laid (A A' : Cell) (lo hi : Nat) (f : Nat → Value) : Prop := A'.cls = A.cls ∧ A'.vm = A.vm ∧ A'.slots.size = A.slots.size ∧ ∀ i, A'.slots[i]? = if lo ≤ i ∧ i < hi then some (f i) else A.slots[i]?
theorem Laid.zero (A : Cell) (lo : Nat) (f : Nat → Value) : Laid A A lo (lo + 0) f := ⟨rfl, rfl, rfl, fun i => by rw [if_neg (by omega)]⟩
theorem Laid.step {A Ak : Cell} {lo k : Nat} {f : Nat → Value} {v : Value} (h : Laid A Ak lo k f) (hlo : lo ≤ k) (hk : k < Ak.slots.size) (hv : v = f k) : Laid A (Ak.setSlot k v) lo (k + 1) f := by
  refine ⟨h.1, h.2.1, by simpa [Cell.setSlot] using h.2.2.1, fun i => ?_⟩
  by_cases e : k = i
  · subst e; rw [Cell.slots_setSlot_self v hk, if_pos (by omega), hv]
  · rw [Cell.slots_setSlot_ne v e, h.2.2.2 i]
    by_cases q : lo ≤ i ∧ i < k
    · rw [if_pos q, if_pos (by omega)]
    · rw [if_neg q, if_neg (by omega)]
def U16 : String := "java/lang/StringUTF16"
namespace Cmp5
def yN : MethodName := ⟨"java/lang/StringUTF16", "compress", "([CI[BII)I"⟩
abbrev yB : ByteArray := jdk_52_method_21_code
theorem d0 : decode yB 0 = .ok (.iconst 0, 1) := by decide +kernel
theorem d1 : decode yB 1 = .ok (.istore 5, 2) := by decide +kernel
theorem d3 : decode yB 3 = .ok (.iload 5, 2) := by decide +kernel
theorem d5 : decode yB 5 = .ok (.iload 4, 2) := by decide +kernel
theorem d7 : decode yB 7 = .ok (.if_icmp (.ge) 37, 3) := by decide +kernel
theorem d10 : decode yB 10 = .ok (.aload_n 0, 1) := by decide +kernel
theorem d11 : decode yB 11 = .ok (.iload_n 1, 1) := by decide +kernel
theorem d12 : decode yB 12 = .ok (.caload, 1) := by decide +kernel
theorem d13 : decode yB 13 = .ok (.istore 6, 2) := by decide +kernel
theorem d15 : decode yB 15 = .ok (.iload 6, 2) := by decide +kernel
theorem d17 : decode yB 17 = .ok (.sipush 255, 3) := by decide +kernel
theorem d20 : decode yB 20 = .ok (.if_icmp (.le) 6, 3) := by decide +kernel
theorem d26 : decode yB 26 = .ok (.aload_n 2, 1) := by decide +kernel
theorem d27 : decode yB 27 = .ok (.iload_n 3, 1) := by decide +kernel
theorem d28 : decode yB 28 = .ok (.iload 6, 2) := by decide +kernel
theorem d30 : decode yB 30 = .ok (.i2b, 1) := by decide +kernel
theorem d31 : decode yB 31 = .ok (.bastore, 1) := by decide +kernel
theorem d32 : decode yB 32 = .ok (.iinc 1 1, 3) := by decide +kernel
theorem d35 : decode yB 35 = .ok (.iinc 3 1, 3) := by decide +kernel
theorem d38 : decode yB 38 = .ok (.iinc 5 1, 3) := by decide +kernel
theorem d41 : decode yB 41 = .ok (.goto (-38), 3) := by decide +kernel
theorem d44 : decode yB 44 = .ok (.iload 4, 2) := by decide +kernel
theorem d46 : decode yB 46 = .ok (.ireturn, 1) := by decide +kernel
def site : List Cond := []
def tab : Cond := tabOf yN yB 7 (some .int) site
def P (b : Addr) (A : Cell) (d : Addr) (B : Cell) (o q len : Nat) (args : Array Value) (s : State) : Prop := args = #[.ref b, .int (Int32.ofNat o), .ref d, .int (Int32.ofNat q), .int (Int32.ofNat len)] ∧ Ch b A s ∧ Arr .byte d B s ∧ b ≠ d ∧ o + len ≤ A.slots.size ∧ q + len ≤ B.slots.size ∧ ∀ i, i < len → ¬ 255 < cv A (o + i)
def E (b : Addr) (A : Cell) (d : Addr) (B : Cell) (o q len : Nat) (r : Option Value) (s u : State) : Prop := r = some (.int (Int32.ofNat len)) ∧ ∃ B', Put d B' s u ∧ Laid B B' q (q + len) (fun j => Value.int (lo8 (cv A (o + (j - q)))))
/-- no char of the range above 255: len; the places written hold each char's low byte -/
theorem law (l : Launch) (b : Addr) (A : Cell) (d : Addr) (B : Cell) (o q len : Nat) : Law l yN 5 5 0 0 yB 7 (some .int) site (P b A d B o q len) (E b A d B o q len) (copyLocs d q len) 0 0 := by
  refine Law.of_walk (plainFor_of_name (by decide +kernel)) (by decide +kernel) (by decide +kernel) (by decide) (fun _ _ h => by rw [h.1]; rfl) (fun _ U U' hal hh h => ⟨h.1, h.2.1.mv hal hh, h.2.2.1.mv hal hh, h.2.2.2⟩) (fun r U U' V V' h1 hal h2 h => ⟨h.1, h.2.elim fun B' q => ⟨B', q.1.mv h1 h2, q.2⟩⟩) ?_
  intro p e s m args below meth c s₁ X0 hexec hbytes hml hret hlk hnm hown hh0 W hP
  obtain ⟨rfl, hA, hB, hne, l1, l2, hp⟩ := hP
  have c1 : Steps p.tables e below (s₁.setTop (entryFrame m #[.ref b, .int (Int32.ofNat o), .ref d, .int (Int32.ofNat q), .int (Int32.ofNat len)] 7)) (s₁.setTop (mkF m 0 #[.val (.ref b), .val (.int (Int32.ofNat o)), .val (.ref d), .val (.int (Int32.ofNat q)), .val (.int (Int32.ofNat len)), .unset, .unset] [])) := entry rfl
  have hA0 := hA.1.mv X0.warmed.alike hh0
  have hB0 := hB.mv X0.warmed.alike hh0
  have a31 := hA.1.2.2.2
  have c2 : Steps p.tables e below (s₁.setTop (entryFrame m #[.ref b, .int (Int32.ofNat o), .ref d, .int (Int32.ofNat q), .int (Int32.ofNat len)] 7)) (s₁.setTop (mkF m 3 #[.val (.ref b), .val (.int (Int32.ofNat o)), .val (.ref d), .val (.int (Int32.ofNat q)), .val (.int (Int32.ofNat len)), .val (.int 0), .unset] [])) := c1.trans (by
    refine iconstV X0.here hexec rfl 0 (hb hbytes d0) (by decide) ?_
    refine XS.istore X0.here hexec rfl (hb hbytes d1) rfl rfl ?_
    exact Steps.refl _)
  have loop : ∀ (r i : Nat), i + r = len → ∀ (z : Slot), (z = .unset ∨ ∃ w, z = .val w ∧ w.category = 1) → ∀ (Tl : State) (Bk : Cell), Stand p l e { frames := 0, locals := 0, cells := 0, slots := 0 } s m #[.ref b, .int (Int32.ofNat o), .ref d, .int (Int32.ofNat q), .int (Int32.ofNat len)] below meth c Tl ([] ++ copyLocs d q i) 0 0 → Put d Bk s₁ Tl → Laid B Bk q (q + i) (fun j => Value.int (lo8 (cv A (o + (j - q))))) →
      Steps p.tables e below (s₁.setTop (entryFrame m #[.ref b, .int (Int32.ofNat o), .ref d, .int (Int32.ofNat q), .int (Int32.ofNat len)] 7)) (Tl.setTop (mkF m 3 #[.val (.ref b), .val (.int (Int32.ofNat (o + i))), .val (.ref d), .val (.int (Int32.ofNat (q + i))), .val (.int (Int32.ofNat len)), .val (.int (Int32.ofNat i)), z] [])) → ∃ (T' : State) (B' : Cell) (z' : Slot), Stand p l e { frames := 0, locals := 0, cells := 0, slots := 0 } s m #[.ref b, .int (Int32.ofNat o), .ref d, .int (Int32.ofNat q), .int (Int32.ofNat len)] below meth c T' ([] ++ copyLocs d q len) 0 0 ∧ Put d B' s₁ T' ∧ Laid B B' q (q + len) (fun j => Value.int (lo8 (cv A (o + (j - q))))) ∧
      Steps p.tables e below (s₁.setTop (entryFrame m #[.ref b, .int (Int32.ofNat o), .ref d, .int (Int32.ofNat q), .int (Int32.ofNat len)] 7)) (T'.setTop (mkF m 3 #[.val (.ref b), .val (.int (Int32.ofNat (o + len))), .val (.ref d), .val (.int (Int32.ofNat (q + len))), .val (.int (Int32.ofNat len)), .val (.int (Int32.ofNat len)), z'] [])) := by
    intro r
    induction r with
    | zero =>
      intro i hi z hz Tl Bk Xl pl fl cl
      have hil : i = len := by omega
      rw [hil] at Xl fl cl
      exact ⟨Tl, Bk, z, Xl, pl, fl, cl⟩
    | succ r ih =>
      intro i hi z hz Tl Bk Xl pl fl cl
      have all := X0.warmed.alike.symm.trans Xl.warmed.alike
      have hAl := hA0.keep all (pl.other hne hA0.1)
      have hBk := hB0.like all pl.1 fl.1 fl.2.1 fl.2.2.1
      have hlt : q + i < Bk.slots.size := by rw [fl.2.2.1]; omega
      have c3 : Steps p.tables e below (s₁.setTop (entryFrame m #[.ref b, .int (Int32.ofNat o), .ref d, .int (Int32.ofNat q), .int (Int32.ofNat len)] 7)) (Tl.setTop (mkF m 12 #[.val (.ref b), .val (.int (Int32.ofNat (o + i))), .val (.ref d), .val (.int (Int32.ofNat (q + i))), .val (.int (Int32.ofNat len)), .val (.int (Int32.ofNat i)), z] [.int (Int32.ofNat (o + i)), .ref b])) := cl.trans (by
        refine XS.iload Xl.here hexec rfl (hb hbytes d3) rfl ?_
        refine XS.iload Xl.here hexec rfl (hb hbytes d5) rfl ?_
        refine XS.icmpNo Xl.here hexec rfl (hb hbytes d7) rfl (ii_ge_f (lt32 (by omega) (by omega))) ?_
        refine XS.aloadN Xl.here hexec rfl (hb hbytes d10) rfl rfl ?_
        refine XS.iloadN Xl.here hexec rfl (hb hbytes d11) rfl ?_
        exact Steps.refl _)
      have c4 : Steps p.tables e below (s₁.setTop (entryFrame m #[.ref b, .int (Int32.ofNat o), .ref d, .int (Int32.ofNat q), .int (Int32.ofNat len)] 7)) (Tl.setTop (mkF m 13 #[.val (.ref b), .val (.int (Int32.ofNat (o + i))), .val (.ref d), .val (.int (Int32.ofNat (q + i))), .val (.int (Int32.ofNat len)), .val (.int (Int32.ofNat i)), z] [.int (cv A (o + i))])) := c3.trans (by
        refine Xl.aget hexec hAl rfl (hA.get (i := o + i) (by omega)) rfl rfl (hb hbytes d12) ?_
        exact Steps.refl _)
      have c5 : Steps p.tables e below (s₁.setTop (entryFrame m #[.ref b, .int (Int32.ofNat o), .ref d, .int (Int32.ofNat q), .int (Int32.ofNat len)] 7)) (Tl.setTop (mkF m 15 #[.val (.ref b), .val (.int (Int32.ofNat (o + i))), .val (.ref d), .val (.int (Int32.ofNat (q + i))), .val (.int (Int32.ofNat len)), .val (.int (Int32.ofNat i)), .val (.int (cv A (o + i)))] [])) := c4.trans (by
        refine XS.istoreS Xl.here hexec rfl (hb hbytes d13) rfl rfl hz ?_
        exact Steps.refl _)
      have c6 : Steps p.tables e below (s₁.setTop (entryFrame m #[.ref b, .int (Int32.ofNat o), .ref d, .int (Int32.ofNat q), .int (Int32.ofNat len)] 7)) (Tl.setTop (mkF m 31 #[.val (.ref b), .val (.int (Int32.ofNat (o + i))), .val (.ref d), .val (.int (Int32.ofNat (q + i))), .val (.int (Int32.ofNat len)), .val (.int (Int32.ofNat i)), .val (.int (cv A (o + i)))] [.int (lo8 (cv A (o + i))), .int (Int32.ofNat (q + i)), .ref d])) := c5.trans (by
        refine XS.iload Xl.here hexec rfl (hb hbytes d15) rfl ?_
        refine sipushV Xl.here hexec rfl 255 (hb hbytes d17) (by decide) ?_
        refine XS.icmpYes Xl.here hexec rfl (pc0 := 20) rfl (hb hbytes d20) rfl (ii_le_t (hp i (by omega))) (by decide) rfl ?_
        refine XS.aloadN Xl.here hexec rfl (hb hbytes d26) rfl rfl ?_
        refine XS.iloadN Xl.here hexec rfl (hb hbytes d27) rfl ?_
        refine XS.iload Xl.here hexec rfl (hb hbytes d28) rfl ?_
        refine i2b Xl.here hexec rfl (hb hbytes d30) rfl ?_
        exact Steps.refl _)
      obtain ⟨T7, X7, p7, st7⟩ := Xl.aput hexec hBk rfl hlt rfl (fits_lo8 (cv A (o + i))) (g := (mkF m 31 #[.val (.ref b), .val (.int (Int32.ofNat (o + i))), .val (.ref d), .val (.int (Int32.ofNat (q + i))), .val (.int (Int32.ofNat len)), .val (.int (Int32.ofNat i)), .val (.int (cv A (o + i)))] [.int (lo8 (cv A (o + i))), .int (Int32.ofNat (q + i)), .ref d])) rfl (rest := []) rfl (hb hbytes d31)
      have c8 : Steps p.tables e below (s₁.setTop (entryFrame m #[.ref b, .int (Int32.ofNat o), .ref d, .int (Int32.ofNat q), .int (Int32.ofNat len)] 7)) (T7.setTop (mkF m 32 #[.val (.ref b), .val (.int (Int32.ofNat (o + i))), .val (.ref d), .val (.int (Int32.ofNat (q + i))), .val (.int (Int32.ofNat len)), .val (.int (Int32.ofNat i)), .val (.int (cv A (o + i)))] [])) := c6.trans (st7 _ (Steps.refl _))
      have c9 : Steps p.tables e below (s₁.setTop (entryFrame m #[.ref b, .int (Int32.ofNat o), .ref d, .int (Int32.ofNat q), .int (Int32.ofNat len)] 7)) (T7.setTop (mkF m 3 #[.val (.ref b), .val (.int (Int32.ofNat (o + i) + 1)), .val (.ref d), .val (.int (Int32.ofNat (q + i) + 1)), .val (.int (Int32.ofNat len)), .val (.int (Int32.ofNat i + 1)), .val (.int (cv A (o + i)))] [])) := c8.trans (by
        refine iincV X7.here hexec rfl 1 (hb hbytes d32) (by decide) rfl rfl ?_
        refine iincV X7.here hexec rfl 1 (hb hbytes d35) (by decide) rfl rfl ?_
        refine iincV X7.here hexec rfl 1 (hb hbytes d38) (by decide) rfl rfl ?_
        refine XS.goto X7.here hexec rfl (pc0 := 41) rfl (hb hbytes d41) (by decide) rfl ?_
        exact Steps.refl _)
      have c10 : Steps p.tables e below (s₁.setTop (entryFrame m #[.ref b, .int (Int32.ofNat o), .ref d, .int (Int32.ofNat q), .int (Int32.ofNat len)] 7)) (T7.setTop (mkF m 3 #[.val (.ref b), .val (.int (Int32.ofNat (o + (i + 1)))), .val (.ref d), .val (.int (Int32.ofNat (q + (i + 1)))), .val (.int (Int32.ofNat len)), .val (.int (Int32.ofNat (i + 1))), .val (.int (cv A (o + i)))] [])) := by
        have := c9
        rw [succ32, succ32, succ32] at this
        exact this
      exact ih (i + 1) (by omega) _ (Or.inr ⟨_, rfl, rfl⟩) T7 _ (by rw [copyLocs_step, ← List.append_assoc]; exact X7) (pl.trans p7) (fl.step (by omega) hlt (by simp)) c10
  obtain ⟨T9, B9, z9, X9, p9, f9, g9⟩ := loop len 0 (by omega) .unset (Or.inl rfl) s₁ B (by simpa [copyLocs] using X0) ⟨hB0.1, fun _ _ => rfl, rfl⟩ (Laid.zero _ _ _) c2
  have c11 : Steps p.tables e below (s₁.setTop (entryFrame m #[.ref b, .int (Int32.ofNat o), .ref d, .int (Int32.ofNat q), .int (Int32.ofNat len)] 7)) (T9.setTop (mkF m 46 #[.val (.ref b), .val (.int (Int32.ofNat (o + len))), .val (.ref d), .val (.int (Int32.ofNat (q + len))), .val (.int (Int32.ofNat len)), .val (.int (Int32.ofNat len)), z9] [.int (Int32.ofNat len)])) := g9.trans (by
    refine XS.iload X9.here hexec rfl (hb hbytes d3) rfl ?_
    refine XS.iload X9.here hexec rfl (hb hbytes d5) rfl ?_
    refine XS.icmpYes X9.here hexec rfl (pc0 := 7) rfl (hb hbytes d7) rfl (ii_ge_t (nlt32 (by omega) (Nat.le_refl _))) (by decide) rfl ?_
    refine XS.iload X9.here hexec rfl (hb hbytes d44) rfl ?_
    exact Steps.refl _)
  exact ⟨T9, some (.int (Int32.ofNat len)), _, _, _, X9, by simp, rfl, rfl, (fun h => by cases h), ⟨rfl, B9, p9.from hh0, f9⟩, fun fs hl => c11.trans (X9.ireturnOut hexec hret rfl (Or.inl rfl) (hb hbytes d46) hl)⟩
end Cmp5
namespace Cmp3
def yN : MethodName := ⟨"java/lang/StringUTF16", "compress", "([CII)[B"⟩
abbrev yB : ByteArray := jdk_52_method_16_code
theorem d0 : decode yB 0 = .ok (.iload_n 2, 1) := by decide +kernel
theorem d1 : decode yB 1 = .ok (.newarray .byte, 2) := by decide +kernel
theorem d3 : decode yB 3 = .ok (.astore_n 3, 1) := by decide +kernel
theorem d4 : decode yB 4 = .ok (.aload_n 0, 1) := by decide +kernel
theorem d5 : decode yB 5 = .ok (.iload_n 1, 1) := by decide +kernel
theorem d6 : decode yB 6 = .ok (.aload_n 3, 1) := by decide +kernel
theorem d7 : decode yB 7 = .ok (.iconst 0, 1) := by decide +kernel
theorem d8 : decode yB 8 = .ok (.iload_n 2, 1) := by decide +kernel
theorem d9 : decode yB 9 = .ok (.invokestatic 115, 3) := by decide +kernel
theorem d12 : decode yB 12 = .ok (.istore 4, 2) := by decide +kernel
theorem d14 : decode yB 14 = .ok (.iload 4, 2) := by decide +kernel
theorem d16 : decode yB 16 = .ok (.iload_n 2, 1) := by decide +kernel
theorem d17 : decode yB 17 = .ok (.if_icmp (.eq) 40, 3) := by decide +kernel
theorem d57 : decode yB 57 = .ok (.aload_n 3, 1) := by decide +kernel
theorem d58 : decode yB 58 = .ok (.areturn, 1) := by decide +kernel
def site : List Cond := [.arrayClass .byte, Cmp5.tab] ++ staticW U16 115 Cmp5.yN
def tab : Cond := tabOf yN yB 6 (some (.array .byte)) site
def P (b : Addr) (A : Cell) (o len : Nat) (args : Array Value) (s : State) : Prop := args = #[.ref b, .int (Int32.ofNat o), .int (Int32.ofNat len)] ∧ Ch b A s ∧ o + len ≤ A.slots.size ∧ len ≤ 536870912 ∧ ∀ i, i < len → ¬ 255 < cv A (o + i)
def E (b : Addr) (A : Cell) (o len : Nat) (r : Option Value) (s u : State) : Prop := NewArr .byte "[B" len (fun j => .int (lo8 (cv A (o + j)))) r s u ∧ u.heap.size = s.heap.size + 1
/-- no char of the range above 255: a new byte[] of their low bytes -/
theorem law (l : Launch) (b : Addr) (A : Cell) (o len : Nat) : Law l yN 3 3 1 18 yB 6 (some (.array .byte)) site (P b A o len) (E b A o len) [] 1 len := by
  refine Law.of_walk (plainFor_of_name (by decide +kernel)) (by decide +kernel) (by decide +kernel) (by decide) (fun _ _ h => by rw [h.1]; rfl) (fun _ U U' hal hh h => ⟨h.1, h.2.1.mv hal hh, h.2.2⟩) (fun r U U' V V' h1 hal h2 h => ⟨NewArr.mv r U U' V V' h1 hal h2 h.1, by rw [h1, h2]; exact h.2⟩) ?_
  intro p e s m args below meth c s₁ X0 hexec hbytes hml hret hlk hnm hown hh0 W hP
  obtain ⟨rfl, hA, l1, l2, hp⟩ := hP
  have a31 := hA.1.2.2.2
  have c1 : Steps p.tables e below (s₁.setTop (entryFrame m #[.ref b, .int (Int32.ofNat o), .int (Int32.ofNat len)] 6)) (s₁.setTop (mkF m 0 #[.val (.ref b), .val (.int (Int32.ofNat o)), .val (.int (Int32.ofNat len)), .unset, .unset, .unset] [])) := entry rfl
  have c2 : Steps p.tables e below (s₁.setTop (entryFrame m #[.ref b, .int (Int32.ofNat o), .int (Int32.ofNat len)] 6)) (s₁.setTop (mkF m 1 #[.val (.ref b), .val (.int (Int32.ofNat o)), .val (.int (Int32.ofNat len)), .unset, .unset, .unset] [.int (Int32.ofNat len)])) := c1.trans (by
    refine XS.iloadN X0.here hexec rfl (hb hbytes d0) rfl ?_
    exact Steps.refl _)
  obtain ⟨T3, B3, X3, ba3, bs3, bv3, bh3, bf3, st3⟩ := X0.anew hexec (atype := .byte) (wk W (.arrayClass .byte)) rfl (by show len * 1 ≤ _; omega) (by omega) (g := (mkF m 1 #[.val (.ref b), .val (.int (Int32.ofNat o)), .val (.int (Int32.ofNat len)), .unset, .unset, .unset] [.int (Int32.ofNat len)])) rfl (hb hbytes d1) (rest := []) rfl (Nat.le_refl _) (by show 0 + len ≤ len; omega)
  rw [hh0] at ba3 st3
  have kp3 : XT.Kept s T3 := (XT.Kept.of_eq hh0).push bh3
  have hA3 := hA.keep X3.warmed.alike (kp3 _ _ hA.1.1)
  have hne : b ≠ s.heap.size := hA.1.ne
  have c4 : Steps p.tables e below (s₁.setTop (entryFrame m #[.ref b, .int (Int32.ofNat o), .int (Int32.ofNat len)] 6)) (T3.setTop (mkF m 3 #[.val (.ref b), .val (.int (Int32.ofNat o)), .val (.int (Int32.ofNat len)), .unset, .unset, .unset] [.ref s.heap.size])) := c2.trans (st3 _ (Steps.refl _))
  have c5 : Steps p.tables e below (s₁.setTop (entryFrame m #[.ref b, .int (Int32.ofNat o), .int (Int32.ofNat len)] 6)) (T3.setTop (mkF m 9 #[.val (.ref b), .val (.int (Int32.ofNat o)), .val (.int (Int32.ofNat len)), .val (.ref s.heap.size), .unset, .unset] [.int (Int32.ofNat len), .int 0, .ref s.heap.size, .int (Int32.ofNat o), .ref b])) := c4.trans (by
    refine XS.astoreN X3.here hexec rfl (hb hbytes d3) rfl rfl rfl ?_
    refine XS.aloadN X3.here hexec rfl (hb hbytes d4) rfl rfl ?_
    refine XS.iloadN X3.here hexec rfl (hb hbytes d5) rfl ?_
    refine XS.aloadN X3.here hexec rfl (hb hbytes d6) rfl rfl ?_
    refine iconstV X3.here hexec rfl 0 (hb hbytes d7) (by decide) ?_
    refine XS.iloadN X3.here hexec rfl (hb hbytes d8) rfl ?_
    exact Steps.refl _)
  obtain ⟨v6, T6, X6, E6, g6⟩ := X3.callS hexec (Cmp5.law l b A s.heap.size B3 o 0 len) hown (wks W (staticW U16 115 Cmp5.yN)) (wk W Cmp5.tab) (W := 0) (Nat.le_of_ble_eq_true rfl) (Nat.le_of_ble_eq_true rfl) (Nat.le_refl _) (by show 0 + len + 0 ≤ len; omega) (g := (mkF m 9 #[.val (.ref b), .val (.int (Int32.ofNat o)), .val (.int (Int32.ofNat len)), .val (.ref s.heap.size), .unset, .unset] [.int (Int32.ofNat len), .int (Int32.ofNat 0), .ref s.heap.size, .int (Int32.ofNat o), .ref b])) rfl (by rw [hml]; rfl) c5 (argsL := [.ref b, .int (Int32.ofNat o), .ref s.heap.size, .int (Int32.ofNat 0), .int (Int32.ofNat len)]) (rest := []) rfl rfl (by show 2 * 0 + 0 ≤ _; decide) (hb hbytes d9) (⟨rfl, hA3, ba3, hne, l1, by rw [bs3]; simp, hp⟩)
  obtain ⟨rfl, B6, p6, f6⟩ := E6
  have c7 : Steps p.tables e below (s₁.setTop (entryFrame m #[.ref b, .int (Int32.ofNat o), .int (Int32.ofNat len)] 6)) (T6.setTop (mkF m 12 #[.val (.ref b), .val (.int (Int32.ofNat o)), .val (.int (Int32.ofNat len)), .val (.ref s.heap.size), .unset, .unset] [.int (Int32.ofNat len)])) := g6
  have c8 : Steps p.tables e below (s₁.setTop (entryFrame m #[.ref b, .int (Int32.ofNat o), .int (Int32.ofNat len)] 6)) (T6.setTop (mkF m 58 #[.val (.ref b), .val (.int (Int32.ofNat o)), .val (.int (Int32.ofNat len)), .val (.ref s.heap.size), .val (.int (Int32.ofNat len)), .unset] [.ref s.heap.size])) := c7.trans (by
    refine XS.istore X6.here hexec rfl (hb hbytes d12) rfl rfl ?_
    refine XS.iload X6.here hexec rfl (hb hbytes d14) rfl ?_
    refine XS.iloadN X6.here hexec rfl (hb hbytes d16) rfl ?_
    refine XS.icmpYes X6.here hexec rfl (pc0 := 17) rfl (hb hbytes d17) rfl (ii_eq_t rfl) (by decide) rfl ?_
    refine XS.aloadN X6.here hexec rfl (hb hbytes d57) rfl rfl ?_
    exact Steps.refl _)
  have X8 := X6.wide (L' := []) (cells' := 1) (slots' := len) (fun x hx hlt => by
    simp only [List.nil_append, copyLocs, List.mem_map, List.mem_range] at hx
    obtain ⟨i, -, rfl⟩ := hx
    exact absurd hlt (Nat.lt_irrefl _)) (Nat.le_refl _) (by omega)
  exact ⟨T6, some (.ref s.heap.size), _, _, _, X8, rfl, rfl, rfl, (fun h => by cases h), ⟨⟨rfl, B6, ba3.like (X3.warmed.alike.symm.trans X6.warmed.alike) p6.1 f6.1 f6.2.1 f6.2.2.1, f6.2.1.trans bv3, by rw [X6.warmed.alike.findClass, f6.1]; exact bf3, by rw [f6.2.2.1, bs3]; simp, fun j hj => by rw [f6.2.2.2 j, if_pos (by omega)]; rfl, kp3.put p6 (Nat.le_refl _)⟩, by rw [p6.2.2, bh3, hh0]; simp⟩, fun fs hl => c8.trans (X8.areturnOut hexec rfl hret rfl (hb hbytes d58) hl)⟩
end Cmp3
namespace CodL
def yN : MethodName := ⟨"java/lang/StringUTF16", "coderFromArrayLen", "([BI)B"⟩
abbrev yB : ByteArray := jdk_52_method_15_code
theorem d0 : decode yB 0 = .ok (.iload_n 1, 1) := by decide +kernel
theorem d1 : decode yB 1 = .ok (.aload_n 0, 1) := by decide +kernel
theorem d2 : decode yB 2 = .ok (.arraylength, 1) := by decide +kernel
theorem d3 : decode yB 3 = .ok (.isub, 1) := by decide +kernel
theorem d4 : decode yB 4 = .ok (.bipush 31, 2) := by decide +kernel
theorem d6 : decode yB 6 = .ok (.iushr, 1) := by decide +kernel
theorem d7 : decode yB 7 = .ok (.i2b, 1) := by decide +kernel
theorem d8 : decode yB 8 = .ok (.ireturn, 1) := by decide +kernel
def site : List Cond := []
def tab : Cond := tabOf yN yB 2 (some .byte) site
def P (d : Addr) (B : Cell) (args : Array Value) (s : State) : Prop := args = #[.ref d, .int (Int32.ofNat B.slots.size)] ∧ Arr .byte d B s
def E (r : Option Value) (s u : State) : Prop := XT.PureE (some (.int 0)) r s u
/-- an array as long as the number of chars: LATIN1 -/
theorem law (l : Launch) (d : Addr) (B : Cell) : Law l yN 2 2 0 0 yB 2 (some .byte) site (P d B) E [] 0 0 := by
  refine Law.of_walk (plainFor_of_name (by decide +kernel)) (by decide +kernel) (by decide +kernel) (by decide) (fun _ _ h => by rw [h.1]; rfl) (fun _ U U' hal hh h => ⟨h.1, h.2.mv hal hh⟩) (fun r U U' V V' h1 hal h2 h => XT.PureE.mv r U U' V V' h1 hal h2 h) ?_
  intro p e s m args below meth c s₁ X0 hexec hbytes hml hret hlk hnm hown hh0 W hP
  obtain ⟨rfl, hB⟩ := hP
  have hB0 := hB.mv X0.warmed.alike hh0
  have c1 : Steps p.tables e below (s₁.setTop (entryFrame m #[.ref d, .int (Int32.ofNat B.slots.size)] 2)) (s₁.setTop (mkF m 0 #[.val (.ref d), .val (.int (Int32.ofNat B.slots.size))] [])) := entry rfl
  have c2 : Steps p.tables e below (s₁.setTop (entryFrame m #[.ref d, .int (Int32.ofNat B.slots.size)] 2)) (s₁.setTop (mkF m 2 #[.val (.ref d), .val (.int (Int32.ofNat B.slots.size))] [.ref d, .int (Int32.ofNat B.slots.size)])) := c1.trans (by
    refine XS.iloadN X0.here hexec rfl (hb hbytes d0) rfl ?_
    refine XS.aloadN X0.here hexec rfl (hb hbytes d1) rfl rfl ?_
    exact Steps.refl _)
  have c3 : Steps p.tables e below (s₁.setTop (entryFrame m #[.ref d, .int (Int32.ofNat B.slots.size)] 2)) (s₁.setTop (mkF m 8 #[.val (.ref d), .val (.int (Int32.ofNat B.slots.size))] [.int (lo8 (ushr (Int32.ofNat B.slots.size - Int32.ofNat B.slots.size) 31))])) := c2.trans (by
    refine X0.alen hexec hB0 rfl rfl (hb hbytes d2) ?_
    refine XS.isub X0.here hexec rfl (hb hbytes d3) rfl ?_
    refine bipushV X0.here hexec rfl 31 (hb hbytes d4) (by decide) ?_
    refine iushr X0.here hexec rfl (hb hbytes d6) rfl ?_
    refine i2b X0.here hexec rfl (hb hbytes d7) rfl ?_
    exact Steps.refl _)
  have e0 : lo8 (ushr (Int32.ofNat B.slots.size - Int32.ofNat B.slots.size) 31) = 0 := by rw [Int32.sub_self]; decide
  rw [e0] at c3
  exact ⟨s₁, some (.int 0), _, _, _, X0, rfl, rfl, rfl, (fun h => by cases h), ⟨rfl, hh0⟩, fun fs hl => c3.trans (X0.ireturnOut hexec hret rfl (Or.inr (Or.inr (Or.inl rfl))) (hb hbytes d8) hl)⟩
end CodL
/-- the String at a is Latin-1 over a new byte[] (the heap's one new cell): the low bytes of the len chars of A from o on; every cell but a is kept -/
def Got (a : Addr) (D : Cell) (fV fC : Field) (A : Cell) (o len : Nat) (r : Option Value) (s u : State) : Prop := r = none ∧ ∃ D' V : Cell, Blank "java/lang/String" a D' u ∧ Same D D' [fV.slot, fC.slot] ∧ D'.slots[fV.slot]? = some (.ref s.heap.size) ∧ D'.slots[fC.slot]? = some (.int 0) ∧ Arr .byte s.heap.size V u ∧ V.vm = .none ∧ u.vm.findClass "[B" = some V.cls ∧ V.slots.size = len ∧ (∀ j, j < len → V.slots[j]? = some (.int (lo8 (cv A (o + j))))) ∧ (∀ (y : Addr) (c : Cell), y ≠ a → s.heap[y]? = some c → u.heap[y]? = some c) ∧ u.heap.size = s.heap.size + 1
theorem Got.mv {a : Addr} {D A : Cell} {fV fC : Field} {o len : Nat} : ∀ r (U U' V V' : State), U'.heap = U.heap → V.vm.Alike V'.vm → V'.heap = V.heap → Got a D fV fC A o len r U V → Got a D fV fC A o len r U' V' :=
  fun r U U' V V' h1 hal h2 ⟨e0, D', X, a1, a2, a3, a4, a5, a6, a7, a8, a9, a10, a11⟩ => ⟨e0, D', X, a1.mv hal h2, a2, by rw [h1]; exact a3, a4, by rw [h1]; exact a5.mv hal h2, a6, by rw [hal.findClass]; exact a7, a8, a9, by rw [h1, h2]; exact a10, by rw [h1, h2]; exact a11⟩
namespace New4
def yN : MethodName := ⟨"java/lang/String", "<init>", "([CIILjava/lang/Void;)V"⟩
abbrev yB : ByteArray := jdk_42_method_149_code
theorem d0 : decode yB 0 = .ok (.aload_n 0, 1) := by decide +kernel
theorem d1 : decode yB 1 = .ok (.invokespecial 1, 3) := by decide +kernel
theorem d4 : decode yB 4 = .ok (.iload_n 3, 1) := by decide +kernel
theorem d5 : decode yB 5 = .ok (.ifCond (.ne) 22, 3) := by decide +kernel
theorem d27 : decode yB 27 = .ok (.getstatic 38, 3) := by decide +kernel
theorem d30 : decode yB 30 = .ok (.ifCond (.eq) 28, 3) := by decide +kernel
theorem d33 : decode yB 33 = .ok (.aload_n 1, 1) := by decide +kernel
theorem d34 : decode yB 34 = .ok (.iload_n 2, 1) := by decide +kernel
theorem d35 : decode yB 35 = .ok (.iload_n 3, 1) := by decide +kernel
theorem d36 : decode yB 36 = .ok (.invokestatic 177, 3) := by decide +kernel
theorem d39 : decode yB 39 = .ok (.astore 5, 2) := by decide +kernel
theorem d41 : decode yB 41 = .ok (.aload_n 0, 1) := by decide +kernel
theorem d42 : decode yB 42 = .ok (.aload 5, 2) := by decide +kernel
theorem d44 : decode yB 44 = .ok (.iload_n 3, 1) := by decide +kernel
theorem d45 : decode yB 45 = .ok (.invokestatic 47, 3) := by decide +kernel
theorem d48 : decode yB 48 = .ok (.putfield 15, 3) := by decide +kernel
theorem d51 : decode yB 51 = .ok (.aload_n 0, 1) := by decide +kernel
theorem d52 : decode yB 52 = .ok (.aload 5, 2) := by decide +kernel
theorem d54 : decode yB 54 = .ok (.putfield 9, 3) := by decide +kernel
theorem d57 : decode yB 57 = .ok (.return_, 1) := by decide +kernel
def site : List Cond := [.fieldLink "java/lang/String" 38 "java/lang/String" "COMPACT_STRINGS" "Z", Cmp3.tab, CodL.tab, .laysFinal "java/lang/String" "java/lang/String" "value" "[B", .fieldLink "java/lang/String" 9 "java/lang/String" "value" "[B", .laysFinal "java/lang/String" "java/lang/String" "coder" "B", .fieldLink "java/lang/String" 15 "java/lang/String" "coder" "B"] ++ objW "java/lang/String" 1 ++ staticW "java/lang/String" 177 Cmp3.yN ++ staticW "java/lang/String" 47 CodL.yN
def tab : Cond := tabOf yN yB 6 none site
def P (a : Addr) (D : Cell) (fV fC : Field) (b : Addr) (A : Cell) (z : Int32) (o len : Nat) (args : Array Value) (s : State) : Prop := args = #[.ref a, .ref b, .int (Int32.ofNat o), .int (Int32.ofNat len), .null] ∧ Blank "java/lang/String" a D s ∧ Found "java/lang/String" "value" "[B" fV s ∧ Found "java/lang/String" "coder" "B" fC s ∧ Ch b A s ∧ StaticIs s "java/lang/String" "COMPACT_STRINGS" "Z" (.int z) ∧ ¬ z = 0 ∧ 0 < len ∧ o + len ≤ A.slots.size ∧ len ≤ 536870912 ∧ ∀ i, i < len → ¬ 255 < cv A (o + i)
def E (a : Addr) (D : Cell) (fV fC : Field) (A : Cell) (o len : Nat) (r : Option Value) (s u : State) : Prop := Got a D fV fC A o len r s u
/-- len > 0, no char of the range above 255: a Latin-1 String of their low bytes -/
theorem law (l : Launch) (a : Addr) (D : Cell) (fV fC : Field) (b : Addr) (A : Cell) (z : Int32) (o len : Nat) : Law l yN 5 4 2 35 yB 6 none site (P a D fV fC b A z o len) (E a D fV fC A o len) [⟨a, fC.slot⟩, ⟨a, fV.slot⟩] 1 len := by
  refine Law.of_walk (plainFor_of_name (by decide +kernel)) (by decide +kernel) (by decide +kernel) (by decide) (fun _ _ h => by rw [h.1]; rfl) (fun _ U U' hal hh h => ⟨h.1, h.2.1.mv hal hh, h.2.2.1.al hal, h.2.2.2.1.al hal, h.2.2.2.2.1.mv hal hh, h.2.2.2.2.2.1.there hal hh, h.2.2.2.2.2.2⟩) (fun r U U' V V' h1 hal h2 h => Got.mv r U U' V V' h1 hal h2 h) ?_
  intro p e s m args below meth c s₁ X0 hexec hbytes hml hret hlk hnm hown hh0 W hP
  obtain ⟨rfl, hB, f1, f2, hA, s1, hz, l0, l1, l2, hp⟩ := hP
  have a31 := hA.1.2.2.2
  have c1 : Steps p.tables e below (s₁.setTop (entryFrame m #[.ref a, .ref b, .int (Int32.ofNat o), .int (Int32.ofNat len), .null] 6)) (s₁.setTop (mkF m 0 #[.val (.ref a), .val (.ref b), .val (.int (Int32.ofNat o)), .val (.int (Int32.ofNat len)), .val .null, .unset] [])) := entry rfl
  have c2 : Steps p.tables e below (s₁.setTop (entryFrame m #[.ref a, .ref b, .int (Int32.ofNat o), .int (Int32.ofNat len), .null] 6)) (s₁.setTop (mkF m 1 #[.val (.ref a), .val (.ref b), .val (.int (Int32.ofNat o)), .val (.int (Int32.ofNat len)), .val .null, .unset] [.ref a])) := c1.trans (by
    refine XS.aloadN X0.here hexec rfl (hb hbytes d0) rfl rfl ?_
    exact Steps.refl _)
  obtain ⟨T3, X3, q3, st3⟩ := X0.oinit hexec hown (wks W (objW "java/lang/String" 1)) (g := (mkF m 1 #[.val (.ref a), .val (.ref b), .val (.int (Int32.ofNat o)), .val (.int (Int32.ofNat len)), .val .null, .unset] [.ref a])) rfl (by rw [hml]; rfl) (rest := []) rfl (hb hbytes d1) (W := 0) (by show 2 * 0 + 0 ≤ _; decide) (Nat.le_of_ble_eq_true rfl) (Nat.le_of_ble_eq_true rfl)
  have hh3 := q3.trans hh0
  have c4 : Steps p.tables e below (s₁.setTop (entryFrame m #[.ref a, .ref b, .int (Int32.ofNat o), .int (Int32.ofNat len), .null] 6)) (T3.setTop (mkF m 27 #[.val (.ref a), .val (.ref b), .val (.int (Int32.ofNat o)), .val (.int (Int32.ofNat len)), .val .null, .unset] [])) := (c2.trans (st3 _ (Steps.refl _))).trans (by
    refine XS.iloadN X3.here hexec rfl (hb hbytes d4) rfl ?_
    refine XS.ifYes X3.here hexec rfl (pc0 := 5) rfl (hb hbytes d5) rfl (i0_ne_t (nz32 (by omega) l0)) (by decide) rfl ?_
    exact Steps.refl _)
  obtain ⟨T5, X5, q5, st5⟩ := X3.sget hexec hown (wk W (.fieldLink "java/lang/String" 38 "java/lang/String" "COMPACT_STRINGS" "Z")) s1 (fun _ _ h => by rw [hh3]; exact h) (g := (mkF m 27 #[.val (.ref a), .val (.ref b), .val (.int (Int32.ofNat o)), .val (.int (Int32.ofNat len)), .val .null, .unset] [])) rfl (hb hbytes d27)
  have hh5 := q5.trans hh3
  have c6 : Steps p.tables e below (s₁.setTop (entryFrame m #[.ref a, .ref b, .int (Int32.ofNat o), .int (Int32.ofNat len), .null] 6)) (T5.setTop (mkF m 30 #[.val (.ref a), .val (.ref b), .val (.int (Int32.ofNat o)), .val (.int (Int32.ofNat len)), .val .null, .unset] [.int z])) := c4.trans (st5 _ (Steps.refl _))
  have c7 : Steps p.tables e below (s₁.setTop (entryFrame m #[.ref a, .ref b, .int (Int32.ofNat o), .int (Int32.ofNat len), .null] 6)) (T5.setTop (mkF m 36 #[.val (.ref a), .val (.ref b), .val (.int (Int32.ofNat o)), .val (.int (Int32.ofNat len)), .val .null, .unset] [.int (Int32.ofNat len), .int (Int32.ofNat o), .ref b])) := c6.trans (by
    refine XS.ifNo X5.here hexec rfl (hb hbytes d30) rfl (i0_eq_f hz) ?_
    refine XS.aloadN X5.here hexec rfl (hb hbytes d33) rfl rfl ?_
    refine XS.iloadN X5.here hexec rfl (hb hbytes d34) rfl ?_
    refine XS.iloadN X5.here hexec rfl (hb hbytes d35) rfl ?_
    exact Steps.refl _)
  obtain ⟨v8, T8, X8, E8, g8⟩ := X5.callS hexec (Cmp3.law l b A o len) hown (wks W (staticW "java/lang/String" 177 Cmp3.yN)) (wk W Cmp3.tab) (W := 0) (Nat.le_of_ble_eq_true rfl) (Nat.le_of_ble_eq_true rfl) (Nat.le_refl _) (by show 0 + len ≤ len; omega) (g := (mkF m 36 #[.val (.ref a), .val (.ref b), .val (.int (Int32.ofNat o)), .val (.int (Int32.ofNat len)), .val .null, .unset] [.int (Int32.ofNat len), .int (Int32.ofNat o), .ref b])) rfl (by rw [hml]; rfl) c7 (argsL := [.ref b, .int (Int32.ofNat o), .int (Int32.ofNat len)]) (rest := []) rfl rfl (by show 2 * 0 + 0 ≤ _; decide) (hb hbytes d36) (⟨rfl, hA.mv X5.warmed.alike hh5, l1, l2, hp⟩)
  obtain ⟨e8, z8⟩ := E8
  obtain ⟨rfl, N, n1, n2, n3, n4, n5, n6⟩ := NewArr.mv _ T5 s _ _ hh5.symm (Vm.Alike.refl _) rfl e8
  rw [hh5] at z8
  have hB1 := hB.keep X8.warmed.alike (n6 _ _ hB.1)
  have hne : s.heap.size ≠ a := (Nat.ne_of_lt (Array.getElem?_eq_some_iff.mp hB.1).1).symm
  have c9 : Steps p.tables e below (s₁.setTop (entryFrame m #[.ref a, .ref b, .int (Int32.ofNat o), .int (Int32.ofNat len), .null] 6)) (T8.setTop (mkF m 39 #[.val (.ref a), .val (.ref b), .val (.int (Int32.ofNat o)), .val (.int (Int32.ofNat len)), .val .null, .unset] [.ref s.heap.size])) := g8
  have c10 : Steps p.tables e below (s₁.setTop (entryFrame m #[.ref a, .ref b, .int (Int32.ofNat o), .int (Int32.ofNat len), .null] 6)) (T8.setTop (mkF m 45 #[.val (.ref a), .val (.ref b), .val (.int (Int32.ofNat o)), .val (.int (Int32.ofNat len)), .val .null, .val (.ref s.heap.size)] [.int (Int32.ofNat N.slots.size), .ref s.heap.size, .ref a])) := by
    have hc : Steps p.tables e below (s₁.setTop (entryFrame m #[.ref a, .ref b, .int (Int32.ofNat o), .int (Int32.ofNat len), .null] 6)) (T8.setTop (mkF m 45 #[.val (.ref a), .val (.ref b), .val (.int (Int32.ofNat o)), .val (.int (Int32.ofNat len)), .val .null, .val (.ref s.heap.size)] [.int (Int32.ofNat len), .ref s.heap.size, .ref a])) := c9.trans (by
      refine XS.astore X8.here hexec rfl (hb hbytes d39) rfl rfl rfl ?_
      refine XS.aloadN X8.here hexec rfl (hb hbytes d41) rfl rfl ?_
      refine XS.aload X8.here hexec rfl (hb hbytes d42) rfl rfl ?_
      refine XS.iloadN X8.here hexec rfl (hb hbytes d44) rfl ?_
      exact Steps.refl _)
    rw [n4]; exact hc
  obtain ⟨v11, T11, X11, E11, g11⟩ := X8.callS hexec (CodL.law l s.heap.size N) hown (wks W (staticW "java/lang/String" 47 CodL.yN)) (wk W CodL.tab) (W := 1) (Nat.le_of_ble_eq_true rfl) (Nat.le_of_ble_eq_true rfl) (Nat.le_refl _) (by show 0 + len + 0 ≤ len; omega) (g := (mkF m 45 #[.val (.ref a), .val (.ref b), .val (.int (Int32.ofNat o)), .val (.int (Int32.ofNat len)), .val .null, .val (.ref s.heap.size)] [.int (Int32.ofNat N.slots.size), .ref s.heap.size, .ref a])) rfl (by rw [hml]; rfl) c10 (argsL := [.ref s.heap.size, .int (Int32.ofNat N.slots.size)]) (rest := [.ref a]) rfl rfl (by show 2 * 0 + (1 + 0) ≤ _; decide) (hb hbytes d45) (⟨rfl, n1⟩)
  obtain ⟨rfl, q11⟩ := E11
  have hB11 := hB1.mv (X8.warmed.alike.symm.trans X11.warmed.alike) q11
  have c12 : Steps p.tables e below (s₁.setTop (entryFrame m #[.ref a, .ref b, .int (Int32.ofNat o), .int (Int32.ofNat len), .null] 6)) (T11.setTop (mkF m 48 #[.val (.ref a), .val (.ref b), .val (.int (Int32.ofNat o)), .val (.int (Int32.ofNat len)), .val .null, .val (.ref s.heap.size)] [.int 0, .ref a])) := g11
  obtain ⟨T13, X13, p13, bl13, sl13, st13⟩ := X11.finit hexec hown (wk W (.fieldLink "java/lang/String" 15 "java/lang/String" "coder" "B")) (Or.inr ⟨_, (wk W (.laysFinal "java/lang/String" "java/lang/String" "coder" "B"))⟩) (Or.inl ⟨rfl, hnm⟩) f2 (Or.inl rfl) hB11 (t := .byte) (by decide +kernel) rfl (g := (mkF m 48 #[.val (.ref a), .val (.ref b), .val (.int (Int32.ofNat o)), .val (.int (Int32.ofNat len)), .val .null, .val (.ref s.heap.size)] [.int 0, .ref a])) rfl (rest := []) rfl (hb hbytes d48)
  have c14 : Steps p.tables e below (s₁.setTop (entryFrame m #[.ref a, .ref b, .int (Int32.ofNat o), .int (Int32.ofNat len), .null] 6)) (T13.setTop (mkF m 54 #[.val (.ref a), .val (.ref b), .val (.int (Int32.ofNat o)), .val (.int (Int32.ofNat len)), .val .null, .val (.ref s.heap.size)] [.ref s.heap.size, .ref a])) := (c12.trans (st13 _ (Steps.refl _))).trans (by
    refine XS.aloadN X13.here hexec rfl (hb hbytes d51) rfl rfl ?_
    refine XS.aload X13.here hexec rfl (hb hbytes d52) rfl rfl ?_
    exact Steps.refl _)
  obtain ⟨T15, X15, p15, bl15, sl15, st15⟩ := X13.finit hexec hown (wk W (.fieldLink "java/lang/String" 9 "java/lang/String" "value" "[B")) (Or.inr ⟨_, (wk W (.laysFinal "java/lang/String" "java/lang/String" "value" "[B"))⟩) (Or.inl ⟨rfl, hnm⟩) f1 (Or.inl rfl) bl13 (t := (.array .byte)) (by decide +kernel) rfl (g := (mkF m 54 #[.val (.ref a), .val (.ref b), .val (.int (Int32.ofNat o)), .val (.int (Int32.ofNat len)), .val .null, .val (.ref s.heap.size)] [.ref s.heap.size, .ref a])) rfl (rest := []) rfl (hb hbytes d54)
  have c16 : Steps p.tables e below (s₁.setTop (entryFrame m #[.ref a, .ref b, .int (Int32.ofNat o), .int (Int32.ofNat len), .null] 6)) (T15.setTop (mkF m 57 #[.val (.ref a), .val (.ref b), .val (.int (Int32.ofNat o)), .val (.int (Int32.ofNat len)), .val .null, .val (.ref s.heap.size)] [])) := c14.trans (st15 _ (Steps.refl _))
  have ap := apart (Or.inr ⟨_, (wk W (.laysFinal "java/lang/String" "java/lang/String" "value" "[B"))⟩) (Or.inr ⟨_, (wk W (.laysFinal "java/lang/String" "java/lang/String" "coder" "B"))⟩) f1 f2 (t₁ := .array .byte) (t₂ := .byte) (by decide +kernel) (by decide +kernel) (by decide)
  have al := X8.warmed.alike.symm.trans X15.warmed.alike
  have n7 : T11.heap[s.heap.size]? = some N := by rw [q11]; exact n1.1
  exact ⟨T15, none, _, _, _, X15, by simp, rfl, by omega, (fun _ => rfl), ⟨rfl, _, N, bl15, ((Same.refl D _).set _ (by simp)).set _ (by simp), sl15, (Cell.slots_setSlot_ne _ ap).trans sl13, n1.keep al (p15.other hne (p13.other hne n7)), n2, by rw [al.findClass]; exact n3, n4, n5, fun y c h1 h2 => p15.other h1 (p13.other h1 (by rw [q11]; exact n6 y c h2)), by rw [p15.2.2, p13.2.2, q11]; exact z8⟩, fun fs hl => c16.trans (X15.returnOut hexec hret (hb hbytes d57) hl)⟩
end New4
namespace New1
def yN : MethodName := ⟨"java/lang/String", "<init>", "([C)V"⟩
abbrev yB : ByteArray := jdk_42_method_3_code
theorem d0 : decode yB 0 = .ok (.aload_n 0, 1) := by decide +kernel
theorem d1 : decode yB 1 = .ok (.aload_n 1, 1) := by decide +kernel
theorem d2 : decode yB 2 = .ok (.iconst 0, 1) := by decide +kernel
theorem d3 : decode yB 3 = .ok (.aload_n 1, 1) := by decide +kernel
theorem d4 : decode yB 4 = .ok (.arraylength, 1) := by decide +kernel
theorem d5 : decode yB 5 = .ok (.aconst_null, 1) := by decide +kernel
theorem d6 : decode yB 6 = .ok (.invokespecial 27, 3) := by decide +kernel
theorem d9 : decode yB 9 = .ok (.return_, 1) := by decide +kernel
def site : List Cond := [New4.tab] ++ initW "java/lang/String" 27 New4.yN
def tab : Cond := tabOf yN yB 2 none site
def P (a : Addr) (D : Cell) (fV fC : Field) (b : Addr) (A : Cell) (z : Int32) (args : Array Value) (s : State) : Prop := args = #[.ref a, .ref b] ∧ Blank "java/lang/String" a D s ∧ Found "java/lang/String" "value" "[B" fV s ∧ Found "java/lang/String" "coder" "B" fC s ∧ Ch b A s ∧ StaticIs s "java/lang/String" "COMPACT_STRINGS" "Z" (.int z) ∧ ¬ z = 0 ∧ 0 < A.slots.size ∧ A.slots.size ≤ 536870912 ∧ ∀ i, i < A.slots.size → ¬ 255 < cv A i
def E (a : Addr) (D : Cell) (fV fC : Field) (A : Cell) (r : Option Value) (s u : State) : Prop := Got a D fV fC A 0 A.slots.size r s u
/-- new String(chars), not empty, no char above 255: a Latin-1 String of their low bytes -/
theorem law (l : Launch) (a : Addr) (D : Cell) (fV fC : Field) (b : Addr) (A : Cell) (z : Int32) : Law l yN 2 1 3 52 yB 2 none site (P a D fV fC b A z) (E a D fV fC A) [⟨a, fC.slot⟩, ⟨a, fV.slot⟩] 1 A.slots.size := by
  refine Law.of_walk (plainFor_of_name (by decide +kernel)) (by decide +kernel) (by decide +kernel) (by decide) (fun _ _ h => by rw [h.1]; rfl) (fun _ U U' hal hh h => ⟨h.1, h.2.1.mv hal hh, h.2.2.1.al hal, h.2.2.2.1.al hal, h.2.2.2.2.1.mv hal hh, h.2.2.2.2.2.1.there hal hh, h.2.2.2.2.2.2⟩) (fun r U U' V V' h1 hal h2 h => Got.mv r U U' V V' h1 hal h2 h) ?_
  intro p e s m args below meth c s₁ X0 hexec hbytes hml hret hlk hnm hown hh0 W hP
  obtain ⟨rfl, hB, f1, f2, hA, s1, hz, l0, l2, hp⟩ := hP
  have c1 : Steps p.tables e below (s₁.setTop (entryFrame m #[.ref a, .ref b] 2)) (s₁.setTop (mkF m 0 #[.val (.ref a), .val (.ref b)] [])) := entry rfl
  have c2 : Steps p.tables e below (s₁.setTop (entryFrame m #[.ref a, .ref b] 2)) (s₁.setTop (mkF m 6 #[.val (.ref a), .val (.ref b)] [.null, .int (Int32.ofNat A.slots.size), .int 0, .ref b, .ref a])) := c1.trans (by
    refine XS.aloadN X0.here hexec rfl (hb hbytes d0) rfl rfl ?_
    refine XS.aloadN X0.here hexec rfl (hb hbytes d1) rfl rfl ?_
    refine iconstV X0.here hexec rfl 0 (hb hbytes d2) (by decide) ?_
    refine XS.aloadN X0.here hexec rfl (hb hbytes d3) rfl rfl ?_
    refine X0.alen hexec (hA.1.mv X0.warmed.alike hh0) rfl rfl (hb hbytes d4) ?_
    refine XS.aconstNull X0.here hexec rfl (hb hbytes d5) ?_
    exact Steps.refl _)
  obtain ⟨v3, T3, X3, E3, g3⟩ := X0.callN hexec (New4.law l a D fV fC b A z 0 A.slots.size) rfl hown (wks W (initW "java/lang/String" 27 New4.yN)) (W New4.tab (by simp only [site, List.mem_cons, List.mem_append, true_or, or_true])) (W := 0) (Nat.le_of_ble_eq_true rfl) (Nat.le_of_ble_eq_true rfl) (Nat.le_refl _) (by show 0 + A.slots.size ≤ A.slots.size; omega) (g := (mkF m 6 #[.val (.ref a), .val (.ref b)] [.null, .int (Int32.ofNat A.slots.size), .int (Int32.ofNat 0), .ref b, .ref a])) rfl (by rw [hml]; rfl) c2 (argsL := [.ref b, .int (Int32.ofNat 0), .int (Int32.ofNat A.slots.size), .null]) (rest := []) rfl rfl (by show 2 * 0 + 0 ≤ _; decide) (hb hbytes d6) (⟨rfl, hB.mv X0.warmed.alike hh0, f1.al X0.warmed.alike, f2.al X0.warmed.alike, hA.mv X0.warmed.alike hh0, s1.there X0.warmed.alike hh0, hz, l0, by omega, l2, fun i hi => by rw [Nat.zero_add]; exact hp i hi⟩)
  have e0 := Got.mv _ s₁ s _ _ hh0.symm (Vm.Alike.refl _) rfl E3
  obtain rfl := e0.1
  have c4 : Steps p.tables e below (s₁.setTop (entryFrame m #[.ref a, .ref b] 2)) (T3.setTop (mkF m 9 #[.val (.ref a), .val (.ref b)] [])) := g3
  exact ⟨T3, none, _, _, _, X3, by simp, rfl, by omega, (fun _ => rfl), e0, fun fs hl => c4.trans (X3.returnOut hexec hret (hb hbytes d9) hl)⟩
theorem pays {l : Launch} {R : Room} {p : Program} {e : Env} {below : List Frame} {s : State} {sargs : Array Value} {len W : Nat} (a : Addr) (D : Cell) (fV fC : Field) (b : Addr) (A : Cell) (z : Int32) (htab : tab.before sargs s = true) (hfr : 4 ≤ R.frames) (hlo : W + 65 ≤ R.locals) :
    Back l R p e below s sargs yN len W (fun A₁ a₁ => A₁.cells + 1 ≤ R.cells ∧ A₁.slots + A.slots.size ≤ R.slots ∧ P a D fV fC b A z a₁ A₁.U) (fun A₁ _ v₁ B₁ => E a D fV fC A v₁ A₁.U B₁.U ∧ B₁.locs = A₁.locs ++ [⟨a, fC.slot⟩, ⟨a, fV.slot⟩] ∧ B₁.cells = A₁.cells + 1 ∧ B₁.slots = A₁.slots + A.slots.size) :=
  (law l a D fV fC b A z).pays htab hfr (by omega)
end New1
/-- the byte, read back as charAt reads it, is the char -/
theorem lo8_mask {x : Int32} (h0 : ¬ x < 0) (h1 : ¬ 255 < x) : lo8 x &&& 255 = x := by
  have t : ∀ k : Fin 256, lo8 (Int32.ofNat k.val) &&& 255 = Int32.ofNat k.val := by decide +kernel
  rw [Int32.lt_iff_toInt_lt] at h0 h1
  have e0 : (0 : Int32).toInt = 0 := rfl
  have e1 : (255 : Int32).toInt = 255 := rfl
  obtain ⟨k, hk⟩ : ∃ k : Nat, x.toInt = k := ⟨x.toInt.toNat, by omega⟩
  have hx : x = Int32.ofNat k := Int32.toInt_inj.mp (by rw [hk, Int32.toInt_ofNat_small (by omega)])
  rw [hx]
  exact t ⟨k, by omega⟩
end StrChars
namespace StrChars.Road
open Jvm Sem ClassFile Op Lib Jvm.Stand Jvm.Free Jvm.Free.XT
open Jvm.Lib.Cold (StaticIs)
abbrev ST : String := "java/lang/String"
/-- every table word that New1's law asks, flat -/
abbrev words : List Jvm.Cond := [.code New1.yN New1.yB 2 none, .initialized ST, .methodLink ST 27 New4.yN, .instanceMethod New4.yN,
  .code New4.yN New4.yB 6 none, .fieldLink ST 38 ST "COMPACT_STRINGS" "Z", .laysFinal ST ST "value" "[B", .fieldLink ST 9 ST "value" "[B", .laysFinal ST ST "coder" "B", .fieldLink ST 15 ST "coder" "B",
  .methodLink ST 1 Lib.objectInit, .instanceMethod Lib.objectInit, .code Lib.objectInit ⟨#[0xb1]⟩ 1 none, .methodLink ST 177 Cmp3.yN, .static Cmp3.yN, .methodLink ST 47 CodL.yN, .static CodL.yN,
  .code Cmp3.yN Cmp3.yB 6 (some (.array .byte)), .initialized U16, .arrayClass .byte, .methodLink U16 115 Cmp5.yN, .static Cmp5.yN, .code Cmp5.yN Cmp5.yB 7 (some .int), .code CodL.yN CodL.yB 2 (some .byte)]
theorem tab_of {a : Array Value} {s : State} (h : ∀ w ∈ words, w.before a s = true) : New1.tab.before a s = true := by
  have h5 : Cmp5.tab.before a s = true := unparts (wk h (.code Cmp5.yN Cmp5.yB 7 (some .int))) (wks h (.initialized Cmp5.yN.cls :: Cmp5.site))
  have hc : CodL.tab.before a s = true := unparts (wk h (.code CodL.yN CodL.yB 2 (some .byte))) (wks h (.initialized CodL.yN.cls :: CodL.site))
  have q5 : ∀ w ∈ Cmp5.tab :: words, w.before a s = true := fun w hw => (List.mem_cons.mp hw).elim (fun e => e ▸ h5) (h w)
  have h3 : Cmp3.tab.before a s = true := unparts (wk q5 (.code Cmp3.yN Cmp3.yB 6 (some (.array .byte)))) (wks q5 (.initialized Cmp3.yN.cls :: Cmp3.site))
  have q3 : ∀ w ∈ Cmp3.tab :: CodL.tab :: words, w.before a s = true := fun w hw => (List.mem_cons.mp hw).elim (fun e => e ▸ h3) fun hw => (List.mem_cons.mp hw).elim (fun e => e ▸ hc) (h w)
  have h4 : New4.tab.before a s = true := unparts (wk q3 (.code New4.yN New4.yB 6 none)) (wks q3 (.initialized New4.yN.cls :: New4.site))
  have q4 : ∀ w ∈ New4.tab :: words, w.before a s = true := fun w hw => (List.mem_cons.mp hw).elim (fun e => e ▸ h4) (h w)
  exact unparts (wk q4 (.code New1.yN New1.yB 2 none)) (wks q4 (.initialized New1.yN.cls :: New1.site))
/-- the words ride from the start Z to the walk's own state -/
theorem moved {Z s : State} {a0 args : Array Value} (hZ : Z.Warmed39 s.vm) (hw : ∀ d ∈ words, d.before a0 Z = true) : ∀ d ∈ words, d.before args s = true := fun d hd => by
  have q := hw d hd
  have t : ∀ d ∈ words, d = .arrayClass .byte ∨ (d.onTables && d.keepsFace) = true := by decide +kernel
  rcases t d hd with rfl | t
  · exact RoadKit.mvA hZ q
  · exact RoadKit.mv hZ q t
/-- WHAT COMES BACK, over the tables of the start Z: h the heap at the call, h' behind it -/
def Q (Z : State) (x : Addr) (A : Cell) (h : Heap) (v : Option Value) (h' : Heap) (L : List Loc) : Prop := v = none ∧ (∀ y ∈ L, y.base = x) ∧ RoadKit.Keep h h' [x] ∧ h'.size = h.size + 1 ∧ RoadKit.Exa Z h' x ST ∧ RoadKit.Fld Z h' x ST "value" "[B" (.ref h.size) ∧ RoadKit.Fld Z h' x ST "coder" "B" (.int 0) ∧
  (∃ V : Cell, RoadKit.Arr Z h' h.size V .byte ∧ V.vm = .none ∧ Z.vm.findClass "[B" = some V.cls ∧ V.slots.size = A.slots.size ∧ ∀ j, j < A.slots.size → V.slots[j]? = some (.int (lo8 (cv A j)))) ∧
  ∀ (O n d : String) (w : Value), RoadKit.Fld Z h x O n d w → RoadKit.slotOf Z O n d ≠ RoadKit.slotOf Z ST "value" "[B" → RoadKit.slotOf Z O n d ≠ RoadKit.slotOf Z ST "coder" "B" → RoadKit.Fld Z h' x O n d w
/-- **new String(chars) AT A CALL, IN THE ROAD'S FORM**: for specialBack behind newO: x the fresh String, b the char[] with the cell A -/
theorem back {p : Program} {l : Launch} {e : Env} {R : Room} {s : State} {args : Array Value} {below : List Frame} {len W : Nat} {Z : State} {a0 : Array Value} {h : Heap} (hZ : Z.Warmed39 s.vm) (hw : ∀ d ∈ words, d.before a0 Z = true) {kI : Nat} (wi : (Jvm.Cond.instantiable ST kI).before a0 Z = true)
    {x b : Addr} {A : Cell} {z : Int32} {v0 c0 : Value} (E : RoadKit.Exa Z h x ST) (V : RoadKit.Fld Z h x ST "value" "[B" v0) (C : RoadKit.Fld Z h x ST "coder" "B" c0) (K : RoadKit.Arr Z h b A .char) (hty : Typed .char A) (S : RoadKit.Sta Z h ST "COMPACT_STRINGS" "Z" (.int z)) (hz : ¬ z = 0)
    (l0 : 0 < A.slots.size) (l2 : A.slots.size ≤ 536870912) (hp : ∀ i, i < A.slots.size → ¬ 255 < cv A i) (hfr : 4 ≤ R.frames) (hlo : W + 65 ≤ R.locals) :
    Back l R p e below s args New1.yN len W (fun P a => a = #[.ref x, .ref b] ∧ P.U.heap = h ∧ P.cells + 1 ≤ R.cells ∧ P.slots + A.slots.size ≤ R.slots)
      (fun P _ v B => ∃ L, Q Z x A h v B.U.heap L ∧ B.locs = P.locs ++ L ∧ B.cells = P.cells + 1 ∧ B.slots = P.slots + A.slots.size) := by
  intro m meth c P g ig mk a X hg hsize hdg hW hn hp'
  obtain ⟨rfl, rfl, r1, r2⟩ := hp'
  have al : Z.vm.Alike P.U.vm := hZ.alike.trans X.warmed.alike
  obtain ⟨D, cfV, kV, iV, fV, hD, gV, stV, knV, obV, asV, slV⟩ := id V
  obtain ⟨D', cfC, kC, iC, fC, hD', gC, stC, -, -, asC, slC⟩ := id C
  cases hD.symm.trans hD'
  obtain ⟨D2, kD, e1, e2, e3, e4, e5⟩ := id E
  cases hD.symm.trans e1
  obtain ⟨c2, k2, i1, i2, i3, -⟩ := Cond.instantiable_spec wi
  cases e2.symm.trans i1
  cases e3.symm.trans i2
  obtain ⟨kU, u1, u2⟩ := al.2.2 _ _ e3
  have hB : Blank ST x D P.U := ⟨hD, ⟨knV, fun q hq => by rw [hq] at obV; cases obV⟩, by rw [al.findClass]; exact e2, kU, u1, by rw [u2]; exact i3, by rw [u2]; exact e5 i3⟩
  have F1 : Found ST "value" "[B" fV P.U := ⟨SBG.found_only al ⟨cfV, kV, iV, gV⟩, stV⟩
  have F2 : Found ST "coder" "B" fC P.U := ⟨SBG.found_only al ⟨cfC, kC, iC, gC⟩, stC⟩
  have hA : Ch b A P.U := ⟨⟨K.1, State.isArrayOf_alike al K.2.1, K.2.2, by omega⟩, hty⟩
  have hS : StaticIs P.U ST "COMPACT_STRINGS" "Z" (.int z) := by
    obtain ⟨cfS, iS, kS, fS, st, cS, t1, t2, t3, t4, t5, t6, t7⟩ := S
    exact StaticIs.there (s := { Z with heap := P.U.heap }) ⟨cfS, iS, kS, fS, st, cS, t1, t2, t3, t4, t5, (fun q => by rw [q] at t6; cases t6), t7⟩ al rfl
  obtain ⟨v, B, X', ⟨⟨hv, E', V', q1, q2, q3, q4, q5, q6, q7, q8, q9, q10, q11⟩, hl, hc, hs⟩, st⟩ := New1.pays x D fV fC b A z (tab_of (moved hZ hw)) hfr hlo m meth c P g ig mk _ X hg hsize hdg hW hn ⟨r1, r2, rfl, hB, F1, F2, hA, hS, hz, l0, l2, hp⟩
  have al' : Z.vm.Alike B.U.vm := hZ.alike.trans X'.warmed.alike
  have hsz : E'.slots.size = D.slots.size := by
    obtain ⟨-, -, -, kB, w1, w2, w3⟩ := q1
    obtain ⟨kB', y1, y2⟩ := al'.2.2 _ _ e3
    rw [q2.2.1] at w1
    cases w1.symm.trans y1
    rw [w3, e5 i3, y2]
  refine ⟨v, B, X', ⟨_, ⟨hv, ?_, ⟨by omega, fun y cy hy hn' => q10 y cy (by simpa using hn') hy, fun y cy hy => ?_⟩, q11, ⟨E', _, q1.1, by rw [q2.2.1]; exact e2, by rw [q2.2.1]; exact e3, by rw [q2.1]; exact obV, fun _ => by rw [hsz]; exact e5 i3⟩,
    ⟨E', cfV, kV, iV, fV, q1.1, gV, stV, by rw [q2.1]; exact knV, by rw [q2.1]; exact obV, by rw [q2.2.1]; exact asV, q3⟩, ⟨E', cfC, kC, iC, fC, q1.1, gC, stC, by rw [q2.1]; exact knV, by rw [q2.1]; exact obV, by rw [q2.2.1]; exact asC, q4⟩,
    ⟨V', ⟨q5.1, State.isArrayOf_alike al'.symm q5.2.1, q5.2.2.1⟩, q6, by rw [← al'.findClass]; exact q7, q8, fun j hj => by have := q9 j hj; rwa [Nat.zero_add] at this⟩, fun O n d w F n1 n2 => ?_⟩, hl, hc, hs⟩, st⟩
  · intro y hy
    simp only [List.mem_cons, List.not_mem_nil, or_false] at hy
    rcases hy with rfl | rfl <;> rfl
  · by_cases q : y = x
    · subst q
      cases hD.symm.trans hy
      exact ⟨E', q1.1, q2.2.1, q2.1, hsz⟩
    · exact ⟨cy, q10 y cy q hy, rfl, rfl, rfl⟩
  · obtain ⟨D3, cf, k, i, f, g1, g2, g3, g4, g5, g6, g7⟩ := F
    cases hD.symm.trans g1
    simp only [RoadKit.slotOf, g2, gV, gC, Option.map_some, Option.getD_some] at n1 n2
    exact ⟨E', cf, k, i, f, q1.1, g2, g3, by rw [q2.1]; exact g4, by rw [q2.1]; exact g5, by rw [q2.2.1]; exact g6, by rw [q2.2.2 f.slot (by simp [n1, n2])]; exact g7⟩
end StrChars.Road
namespace StrChars.Road
open Jvm Sem ClassFile Op Lib Jvm.Stand Jvm.Free Jvm.Free.XT
/-- WHAT COMES BACK, the byte[] as a list of values -/
def QA (Z : State) (x : Addr) (zn : Int32) (cs : List Int32) (h : Heap) (v : Option Value) (h' : Heap) (L : List Loc) : Prop := v = none ∧ (∀ y ∈ L, y.base = x) ∧ RoadKit.Keep h h' [x] ∧ h'.size = h.size + 1 ∧ RoadKit.Exa Z h' x ST ∧ RoadKit.Fld Z h' x ST "value" "[B" (.ref h.size) ∧ RoadKit.Fld Z h' x ST "coder" "B" (.int 0) ∧
  (∃ kb, Z.vm.findClass "[B" = some kb ∧ RoadKit.Arv Z h' h.size kb .byte zn (cs.map fun c => .int (lo8 c)) (.int 0)) ∧
  ∀ (O n d : String) (w : Value), RoadKit.Fld Z h x O n d w → RoadKit.slotOf Z O n d ≠ RoadKit.slotOf Z ST "value" "[B" → RoadKit.slotOf Z O n d ≠ RoadKit.slotOf Z ST "coder" "B" → RoadKit.Fld Z h' x O n d w
/-- **new String(chars) AT A CALL, THE ARRAYS AS LISTS**: the char[] at b holds cs, not empty, no char above 255 -/
theorem backArv {p : Program} {l : Launch} {e : Env} {R : Room} {s : State} {args : Array Value} {below : List Frame} {len W : Nat} {Z : State} {a0 : Array Value} {h : Heap} (hZ : Z.Warmed39 s.vm) (hw : ∀ d ∈ words, d.before a0 Z = true) {kI : Nat} (wi : (Jvm.Cond.instantiable ST kI).before a0 Z = true)
    {x b : Addr} {k : ClassId} {zn z : Int32} {cs : List Int32} {dv v0 c0 : Value} (E : RoadKit.Exa Z h x ST) (V : RoadKit.Fld Z h x ST "value" "[B" v0) (C : RoadKit.Fld Z h x ST "coder" "B" c0) (K : RoadKit.Arv Z h b k .char zn (cs.map Value.int) dv) (S : RoadKit.Sta Z h ST "COMPACT_STRINGS" "Z" (.int z)) (hz : ¬ z = 0)
    (hlen : zn.toNatClampNeg = cs.length) (h0 : 0 < cs.length) (hbig : cs.length ≤ 536870912) (hall : ∀ c ∈ cs, ¬ 255 < c) (hfr : 4 ≤ R.frames) (hlo : W + 65 ≤ R.locals) :
    Back l R p e below s args New1.yN len W (fun P a => a = #[.ref x, .ref b] ∧ P.U.heap = h ∧ P.cells + 1 ≤ R.cells ∧ P.slots + cs.length ≤ R.slots)
      (fun P _ v B => ∃ L, QA Z x zn cs h v B.U.heap L ∧ B.locs = P.locs ++ L ∧ B.cells = P.cells + 1 ∧ B.slots = P.slots + cs.length) := by
  obtain ⟨A, K1, K2, K3, K4, K5, K6⟩ := K
  have e : A.slots.size = cs.length := K3.trans hlen
  have hat : ∀ (i : Nat) (hi : i < cs.length), A.slots[i]? = some (.int cs[i]) := fun i hi => by rw [K5 i (by omega)]; simp [List.getD_eq_getElem?_getD, hi]
  have hcv : ∀ (i : Nat) (hi : i < cs.length), cv A i = cs[i] := fun i hi => by unfold cv; rw [hat i hi]
  have hty : Typed .char A := fun i v hv => by
    have hi : i < A.slots.size := (Array.getElem?_eq_some_iff.mp hv).1
    have q := K5 i hi
    rw [hv] at q
    rw [Option.some.inj q]
    exact K6 i hi
  refine Back.mono (back hZ hw wi E V C K1 hty S hz (by omega) (by omega) (fun i hi => by rw [hcv i (by omega)]; exact hall _ (List.getElem_mem _)) hfr hlo) (fun P a hp => ⟨hp.1, hp.2.1, hp.2.2.1, by rw [e]; exact hp.2.2.2⟩) (fun P a v B hp hq => ?_)
  obtain ⟨L, ⟨q1, q2, q3, q4, q5, q6, q7, ⟨V', v1, v2, v3, v4, v5⟩, q9⟩, hl, hc, hs⟩ := hq
  refine ⟨L, ⟨q1, q2, q3, q4, q5, q6, q7, ⟨V'.cls, v3, V', v1, rfl, by rw [v4, e, hlen], K4, fun i hi => ?_, fun i hi => ?_⟩, q9⟩, hl, hc, by rw [hs, e]⟩
  · have hi' : i < cs.length := by omega
    rw [v5 i (by omega), hcv i hi']; simp [List.getD_eq_getElem?_getD, hi']
  · have hi' : i < cs.length := by omega
    simp only [List.getD_eq_getElem?_getD, List.getElem?_map, List.getElem?_eq_getElem hi', Option.map_some, Option.getD_some]
    exact fits_lo8 _
end StrChars.Road
namespace StrChars.Road
open Jvm Sem ClassFile Op Lib Jvm.Stand Jvm.Free Jvm.Free.XT
/-- WHAT COMES BACK, in the writer's own shape -/
def QV (Z : State) (x : Addr) (N : Int32) (bs : List Int32) (h : Heap) (n0 : Nat) (v : Option Value) (h' : Heap) (L : List Loc) : Prop := v = none ∧ RoadKit.Fr n0 L ∧ RoadKit.Keep h h' [x] ∧ RoadKit.Exa Z h' x ST ∧ RoadKit.Fld Z h' x ST "coder" "B" (.int 0) ∧
  ∃ (t : Addr) (kb : ClassId), n0 ≤ t ∧ h.size ≤ t ∧ ¬ t = x ∧ RoadKit.Fld Z h' x ST "value" "[B" (.ref t) ∧ RoadKit.Arv Z h' t kb .byte N (bs.map Value.int) (.int 0)
/-- **new String(chars) AT A CALL, FOR THE WRITER**: a char[] of n known ints, each 0 to 255 -/
theorem backV {p : Program} {l : Launch} {e : Env} {R : Room} {s : State} {args : Array Value} {below : List Frame} {len W : Nat} {Z : State} {a0 : Array Value} {h : Heap} (hZ : Z.Warmed39 s.vm) (hw : ∀ d ∈ words, d.before a0 Z = true) {kI : Nat} (wi : (Jvm.Cond.instantiable ST kI).before a0 Z = true)
    {x b : Addr} {kC : ClassId} {cs bs : List Int32} {d v0 c0 : Value} {z N : Int32} {n n0 : Nat} (hx0 : n0 ≤ x) (hh0 : n0 ≤ h.size) (E : RoadKit.Exa Z h x ST) (V : RoadKit.Fld Z h x ST "value" "[B" v0) (C : RoadKit.Fld Z h x ST "coder" "B" c0) (K : RoadKit.Arv Z h b kC .char N (cs.map Value.int) d) (S : RoadKit.Sta Z h ST "COMPACT_STRINGS" "Z" (.int z)) (hz : ¬ z = 0)
    (hn : cs.length = n) (hN : N = Int32.ofNat n) (l0 : 0 < n) (l2 : n ≤ 4000) (hp : ∀ c ∈ cs, ¬ c < 0 ∧ ¬ (255 : Int32) < c) (hb : bs = cs.map (fun c => c.toInt8.toInt32)) (hfr : 4 ≤ R.frames) (hlo : W + 65 ≤ R.locals) :
    Back l R p e below s args (⟨"java/lang/String", "<init>", "([C)V"⟩ : MethodName) len W (fun P a => a = #[.ref x, .ref b] ∧ P.U.heap = h ∧ P.cells + 1 ≤ R.cells ∧ P.slots + n ≤ R.slots)
      (fun P _ v B => ∃ L, QV Z x N bs h n0 v B.U.heap L ∧ B.locs = P.locs ++ L ∧ B.cells = P.cells + 1 ∧ B.slots = P.slots + n) := by
  subst hn hN hb
  refine Back.mono (backArv hZ hw wi E V C K S hz (n32 (by omega)) l0 (by omega) (fun c hc => (hp c hc).2) hfr hlo) (fun P a hp => hp) (fun P a v B hp hq => ?_)
  obtain ⟨L, ⟨q1, q2, q3, q4, q5, q6, q7, ⟨kb, v1, v2⟩, q9⟩, hl, hc, hs⟩ := hq
  exact ⟨L, ⟨q1, fun y hy => by rw [q2 y hy]; exact hx0, q3, q5, q7, h.size, kb, hh0, Nat.le_refl _, Nat.ne_of_gt E.lt, q6, by rw [List.map_map]; exact v2⟩, hl, hc, hs⟩
end StrChars.Road
namespace StrChars
open Jvm Sem ClassFile Op Lib Jvm.Stand Jvm.Free.XT Jvm.Free.ALB Jvm.Free.JM Jvm.Free
open Jvm.Lib.Cold (StaticIs)
def hi8 (x : Int32) : Int32 := lo8 (x >>> ((8 : Int32) &&& 31))
/-- what StringUTF16.getChar makes of two bytes -/
def pairCh (u v : Int32) : Int32 := (((u &&& 255) <<< ((0 : Int32) &&& 31)) ||| ((v &&& 255) <<< ((8 : Int32) &&& 31))).toUInt32.toUInt16.toUInt32.toInt32
theorem shr0 (c : Int32) : c >>> ((0 : Int32) &&& 31) = c := by
  have e : ((0 : Int32) &&& 31) = 0 := by decide
  rw [e]
  apply Int32.toBitVec_inj.mp
  rw [Int32.toBitVec_shiftRight]
  have e1 : ((0 : Int32).toBitVec.smod 32) = 0#32 := by decide
  rw [e1, BitVec.sshiftRight_eq']
  exact BitVec.sshiftRight_zero
theorem lo8_and (x : Int32) : (lo8 x &&& 255).toBitVec.toNat = x.toBitVec.toNat % 256 := by
  have h : (lo8 x).toBitVec = (x.toBitVec.signExtend 8).signExtend 32 := by rw [lo8, Int8.toBitVec_toInt32, Int32.toBitVec_toInt8]
  rw [Int32.toBitVec_and, BitVec.toNat_and, h]
  have e : ((x.toBitVec.signExtend 8).signExtend 32).toNat % 256 = x.toBitVec.toNat % 256 := by
    rw [BitVec.toNat_signExtend]
    have hlt := x.toBitVec.isLt
    simp only [BitVec.toNat_setWidth, BitVec.toNat_signExtend]
    split <;> split <;> omega
  rw [← e]
  exact Nat.and_two_pow_sub_one_eq_mod _ 8
theorem pair_says {c : Int32} (h0 : ¬ c < 0) (h1 : ¬ 65535 < c) : pairCh (lo8 c) (hi8 c) = c := by
  rw [Int32.lt_iff_toInt_lt] at h0 h1
  have e0 : (0 : Int32).toInt = 0 := rfl
  have e1 : (65535 : Int32).toInt = 65535 := rfl
  have hc : c.toInt = c.toBitVec.toNat := by
    have := c.toBitVec.isLt
    have e : c.toInt = c.toBitVec.toInt := rfl
    rw [e] at h0 h1
    rw [e]
    rw [BitVec.toInt_eq_toNat_cond] at h0 h1 ⊢
    split at h0 <;> split <;> omega
  have hn : c.toBitVec.toNat < 65536 := by omega
  have a1 := lo8_and c
  have a2 : (hi8 c &&& 255).toBitVec.toNat = c.toBitVec.toNat / 256 := by
    rw [hi8, lo8_and]
    have e : ((8 : Int32) &&& 31) = 8 := by decide
    rw [e, Int32.toBitVec_shiftRight]
    have e2 : ((8 : Int32).toBitVec.smod 32) = 8#32 := by decide
    rw [e2, BitVec.sshiftRight_eq', BitVec.toNat_sshiftRight_of_msb_false (by rw [BitVec.msb_eq_false_iff_two_mul_lt]; omega)]
    show c.toBitVec.toNat >>> 8 % 256 = _
    rw [Nat.shiftRight_eq_div_pow]
    omega
  unfold pairCh
  apply Int32.toBitVec_inj.mp
  apply BitVec.eq_of_toNat_eq
  have f0 : ((0 : Int32) &&& 31) = 0 := by decide
  have f8 : ((8 : Int32) &&& 31) = 8 := by decide
  rw [f0, f8]
  have g : (((lo8 c &&& 255) <<< (0 : Int32)) ||| ((hi8 c &&& 255) <<< (8 : Int32))).toBitVec.toNat = c.toBitVec.toNat := by
    rw [Int32.toBitVec_or, Int32.toBitVec_shiftLeft, Int32.toBitVec_shiftLeft]
    have s0 : ((0 : Int32).toBitVec.smod 32) = 0#32 := by decide
    have s8 : ((8 : Int32).toBitVec.smod 32) = 8#32 := by decide
    rw [s0, s8, BitVec.toNat_or]
    simp only [BitVec.shiftLeft_eq', BitVec.toNat_shiftLeft, a1, a2]
    show (c.toBitVec.toNat % 256) <<< 0 % 2 ^ 32 ||| (c.toBitVec.toNat / 256) <<< 8 % 2 ^ 32 = _
    rw [Nat.shiftLeft_zero, Nat.mod_eq_of_lt (show c.toBitVec.toNat % 256 < 2 ^ 32 by omega), Nat.mod_eq_of_lt (show (c.toBitVec.toNat / 256) <<< 8 < 2 ^ 32 by rw [Nat.shiftLeft_eq]; omega), Nat.or_comm, ← Nat.shiftLeft_add_eq_or_of_lt (by omega), Nat.shiftLeft_eq]
    omega
  show BitVec.toNat (((((lo8 c &&& 255) <<< (0 : Int32)) ||| ((hi8 c &&& 255) <<< (8 : Int32))).toBitVec.setWidth 16).setWidth 32) = _
  rw [BitVec.toNat_setWidth, BitVec.toNat_setWidth, g]
  omega
end StrChars
namespace StrChars
open Jvm Sem ClassFile Op Lib Jvm.Stand Jvm.Free.XT Jvm.Free.ALB Jvm.Free.JM Jvm.Free
open Jvm.Lib.Cold (StaticIs)
theorem shr1 {n : Nat} (h : 2 * n < 2 ^ 31) : Int32.ofNat (2 * n) >>> ((1 : Int32) &&& 31) = Int32.ofNat n := by
  have e : ((1 : Int32) &&& 31) = 1 := by decide
  rw [e]
  apply Int32.toBitVec_inj.mp
  rw [Int32.toBitVec_shiftRight]
  have e1 : ((1 : Int32).toBitVec.smod 32) = 1#32 := by decide
  have hm : (BitVec.ofNat 32 (2 * n)).toNat = 2 * n := by rw [BitVec.toNat_ofNat, Nat.mod_eq_of_lt (by omega)]
  rw [e1, BitVec.sshiftRight_eq']
  apply BitVec.eq_of_toNat_eq
  show ((BitVec.ofNat 32 (2 * n)).sshiftRight 1).toNat = (BitVec.ofNat 32 n).toNat
  rw [BitVec.toNat_sshiftRight_of_msb_false (by rw [BitVec.msb_eq_false_iff_two_mul_lt, hm]; omega), hm, BitVec.toNat_ofNat, Nat.shiftRight_eq_div_pow]
  omega
/-- charAt's cast of a byte read back -/
def chr8 (u : Int32) : Int32 := (u &&& 255).toUInt32.toUInt16.toUInt32.toInt32
theorem chr8_lo8 {c : Int32} (h0 : ¬ c < 0) (h1 : ¬ 255 < c) : chr8 (lo8 c) = c := by
  have t : ∀ k : Fin 256, (Int32.ofNat k.val).toUInt32.toUInt16.toUInt32.toInt32 = Int32.ofNat k.val := by decide +kernel
  unfold chr8
  rw [lo8_mask h0 h1]
  rw [Int32.lt_iff_toInt_lt] at h0 h1
  have e0 : (0 : Int32).toInt = 0 := rfl
  have e1 : (255 : Int32).toInt = 255 := rfl
  obtain ⟨k, hk⟩ : ∃ k : Nat, c.toInt = k := ⟨c.toInt.toNat, by omega⟩
  have hx : c = Int32.ofNat k := Int32.toInt_inj.mp (by rw [hk, Int32.toInt_ofNat_small (by omega)])
  rw [hx]
  exact t ⟨k, by omega⟩
theorem narrow_ch {c : Int32} (h0 : ¬ c < 0) (h1 : ¬ 65535 < c) : narrow .char (.int c) = .int c := by
  have q : narrow .char (.int (pairCh (lo8 c) (hi8 c))) = .int (pairCh (lo8 c) (hi8 c)) := narrow_c _
  rwa [pair_says h0 h1] at q
/-- the array's cell V codes the n chars f 0 .. f (n - 1) by the coder cd, as the JDK does: coder 1 just where some char is above 255 -/
def Cod (cd : Int32) (n : Nat) (f : Nat → Int32) (V : Cell) : Prop := (cd = 0 ∧ V.slots.size = n ∧ ∀ j, j < n → V.slots[j]? = some (.int (lo8 (f j))) ∧ ¬ 255 < f j) ∨ (cd = 1 ∧ V.slots.size = 2 * n ∧ (∀ j, j < n → V.slots[2 * j]? = some (.int (lo8 (f j))) ∧ V.slots[2 * j + 1]? = some (.int (hi8 (f j)))) ∧ ∃ j, j < n ∧ 255 < f j)
theorem Cod.cd {cd : Int32} {n : Nat} {f : Nat → Int32} {V : Cell} (h : Cod cd n f V) : cd = 0 ∨ cd = 1 := h.imp (fun q => q.1) fun q => q.1
theorem Cod.len {cd : Int32} {n : Nat} {f : Nat → Int32} {V : Cell} (h : Cod cd n f V) (hs : V.slots.size < 2 ^ 31) : Int32.ofNat V.slots.size >>> (cd &&& 31) = Int32.ofNat n := by
  rcases h with ⟨rfl, h, -⟩ | ⟨rfl, h, -⟩
  · rw [shr0, h]
  · rw [h, shr1 (by omega)]
/-- **x is a String of the n chars f 0 .. f (n - 1)**, Latin-1 or UTF-16; its array at t has the cell V -/
def Txt (x t : Addr) (V : Cell) (cd : Int32) (n : Nat) (f : Nat → Int32) (U : State) : Prop := Exact "java/lang/String" x U ∧ Has x "java/lang/String" "value" "[B" (.ref t) U ∧ Has x "java/lang/String" "coder" "B" (.int cd) U ∧ XT.Arr .byte t V U ∧ Cod cd n f V ∧ ∀ j, j < n → ¬ f j < 0 ∧ ¬ 65535 < f j
theorem Txt.mv {x t : Addr} {V : Cell} {cd : Int32} {n : Nat} {f : Nat → Int32} {U U' : State} (h : Txt x t V cd n f U) (hal : U.vm.Alike U'.vm) (hh : U'.heap = U.heap) : Txt x t V cd n f U' := ⟨h.1.mv hal hh, h.2.1.mv hal hh, h.2.2.1.mv hal hh, h.2.2.2.1.mv hal hh, h.2.2.2.2⟩
namespace Cdr
def yN : MethodName := ⟨"java/lang/String", "coder", "()B"⟩
abbrev yB : ByteArray := jdk_42_method_152_code
theorem d0 : decode yB 0 = .ok (.getstatic 38, 3) := by decide +kernel
theorem d3 : decode yB 3 = .ok (.ifCond (.eq) 10, 3) := by decide +kernel
theorem d6 : decode yB 6 = .ok (.aload_n 0, 1) := by decide +kernel
theorem d7 : decode yB 7 = .ok (.getfield 15, 3) := by decide +kernel
theorem d10 : decode yB 10 = .ok (.goto 4, 3) := by decide +kernel
theorem d14 : decode yB 14 = .ok (.ireturn, 1) := by decide +kernel
def site : List Cond := [.fieldLink "java/lang/String" 38 "java/lang/String" "COMPACT_STRINGS" "Z", .fieldLink "java/lang/String" 15 "java/lang/String" "coder" "B"]
def tab : Cond := tabOf yN yB 1 (some .byte) site
def P (x : Addr) (cd z : Int32) (args : Array Value) (s : State) : Prop := args = #[.ref x] ∧ Has x "java/lang/String" "coder" "B" (.int cd) s ∧ (cd = 0 ∨ cd = 1) ∧ StaticIs s "java/lang/String" "COMPACT_STRINGS" "Z" (.int z) ∧ ¬ z = 0
def E (cd : Int32) (r : Option Value) (s u : State) : Prop := XT.PureE (some (.int cd)) r s u
theorem law (l : Launch) (x : Addr) (cd z : Int32) : Law l yN 1 0 0 0 yB 1 (some .byte) site (P x cd z) (E cd) [] 0 0 := by
  refine Law.of_walk (plainFor_of_name (by decide +kernel)) (by decide +kernel) (by decide +kernel) (by decide) (fun _ _ h => by rw [h.1]; rfl) (fun _ U U' hal hh h => ⟨h.1, h.2.1.mv hal hh, h.2.2.1, h.2.2.2.1.there hal hh, h.2.2.2.2⟩) (fun r U U' V V' h1 hal h2 h => XT.PureE.mv r U U' V V' h1 hal h2 h) ?_
  intro p e s m args below meth c s₁ X0 hexec hbytes hml hret hlk hnm hown hh0 W hP
  obtain ⟨rfl, hx, hc, s1, hz⟩ := hP
  have c1 : Steps p.tables e below (s₁.setTop (entryFrame m #[.ref x] 1)) (s₁.setTop (mkF m 0 #[.val (.ref x)] [])) := entry rfl
  obtain ⟨T2, X2, q2, st2⟩ := X0.sget hexec hown (wk W (.fieldLink "java/lang/String" 38 "java/lang/String" "COMPACT_STRINGS" "Z")) s1 (fun _ _ h => by rw [hh0]; exact h) (g := (mkF m 0 #[.val (.ref x)] [])) rfl (hb hbytes d0)
  have hh2 := q2.trans hh0
  have c3 : Steps p.tables e below (s₁.setTop (entryFrame m #[.ref x] 1)) (T2.setTop (mkF m 7 #[.val (.ref x)] [.ref x])) := (c1.trans (st2 _ (Steps.refl _))).trans (by
    refine XS.ifNo X2.here hexec rfl (hb hbytes d3) rfl (i0_eq_f hz) ?_
    refine XS.aloadN X2.here hexec rfl (hb hbytes d6) rfl rfl ?_
    exact Steps.refl _)
  obtain ⟨T4, X4, q4, st4⟩ := X2.hget hexec hown (wk W (.fieldLink "java/lang/String" 15 "java/lang/String" "coder" "B")) (hx.mv X2.warmed.alike hh2) (g := (mkF m 7 #[.val (.ref x)] [.ref x])) rfl (rest := []) rfl (hb hbytes d7)
  have c5 : Steps p.tables e below (s₁.setTop (entryFrame m #[.ref x] 1)) (T4.setTop (mkF m 14 #[.val (.ref x)] [.int cd])) := (c3.trans (st4 _ (Steps.refl _))).trans (by
    refine XS.goto X4.here hexec rfl (pc0 := 10) rfl (hb hbytes d10) (by decide) rfl ?_
    exact Steps.refl _)
  exact ⟨T4, some (.int cd), _, _, _, X4, rfl, rfl, rfl, (fun h => by cases h), ⟨rfl, q4.trans hh2⟩, fun fs hl => c5.trans (X4.ireturnOut hexec hret (by rcases hc with rfl | rfl <;> rfl) (Or.inr (Or.inr (Or.inl rfl))) (hb hbytes d14) hl)⟩
end Cdr
namespace Len
def yN : MethodName := ⟨"java/lang/String", "length", "()I"⟩
abbrev yB : ByteArray := jdk_42_method_54_code
theorem d0 : decode yB 0 = .ok (.aload_n 0, 1) := by decide +kernel
theorem d1 : decode yB 1 = .ok (.getfield 9, 3) := by decide +kernel
theorem d4 : decode yB 4 = .ok (.arraylength, 1) := by decide +kernel
theorem d5 : decode yB 5 = .ok (.aload_n 0, 1) := by decide +kernel
theorem d6 : decode yB 6 = .ok (.invokevirtual 335, 3) := by decide +kernel
theorem d9 : decode yB 9 = .ok (.ishr, 1) := by decide +kernel
theorem d10 : decode yB 10 = .ok (.ireturn, 1) := by decide +kernel
def site : List Cond := [.fieldLink "java/lang/String" 9 "java/lang/String" "value" "[B", Cdr.tab] ++ virtW "java/lang/String" 335 "java/lang/String" Cdr.yN Cdr.yN
def tab : Cond := tabOf yN yB 1 (some .int) site
def P (x t : Addr) (V : Cell) (cd : Int32) (n : Nat) (f : Nat → Int32) (z : Int32) (args : Array Value) (s : State) : Prop := args = #[.ref x] ∧ Txt x t V cd n f s ∧ StaticIs s "java/lang/String" "COMPACT_STRINGS" "Z" (.int z) ∧ ¬ z = 0
def E (n : Nat) (r : Option Value) (s u : State) : Prop := XT.PureE (some (.int (Int32.ofNat n))) r s u
/-- length() of a String of n chars, in either coding -/
theorem law (l : Launch) (x t : Addr) (V : Cell) (cd : Int32) (n : Nat) (f : Nat → Int32) (z : Int32) : Law l yN 1 0 1 13 yB 1 (some .int) site (P x t V cd n f z) (E n) [] 0 0 := by
  refine Law.of_walk (plainFor_of_name (by decide +kernel)) (by decide +kernel) (by decide +kernel) (by decide) (fun _ _ h => by rw [h.1]; rfl) (fun _ U U' hal hh h => ⟨h.1, h.2.1.mv hal hh, h.2.2.1.there hal hh, h.2.2.2⟩) (fun r U U' V V' h1 hal h2 h => XT.PureE.mv r U U' V V' h1 hal h2 h) ?_
  intro p e s m args below meth c s₁ X0 hexec hbytes hml hret hlk hnm hown hh0 W hP
  obtain ⟨rfl, hx, s1, hz⟩ := hP
  have v31 := hx.2.2.2.1.2.2.2
  have c1 : Steps p.tables e below (s₁.setTop (entryFrame m #[.ref x] 1)) (s₁.setTop (mkF m 1 #[.val (.ref x)] [.ref x])) := Steps.trans (entry rfl) (by
    show Steps p.tables e below (s₁.setTop (mkF m 0 #[.val (.ref x)] [])) _
    refine XS.aloadN X0.here hexec rfl (hb hbytes d0) rfl rfl ?_
    exact Steps.refl _)
  obtain ⟨T2, X2, q2, st2⟩ := X0.hget hexec hown (wk W (.fieldLink "java/lang/String" 9 "java/lang/String" "value" "[B")) (hx.mv X0.warmed.alike hh0).2.1 (g := (mkF m 1 #[.val (.ref x)] [.ref x])) rfl (rest := []) rfl (hb hbytes d1)
  have hh2 := q2.trans hh0
  have hx2 := hx.mv X2.warmed.alike hh2
  have c3 : Steps p.tables e below (s₁.setTop (entryFrame m #[.ref x] 1)) (T2.setTop (mkF m 6 #[.val (.ref x)] [.ref x, .int (Int32.ofNat V.slots.size)])) := (c1.trans (st2 _ (Steps.refl _))).trans (by
    refine X2.alen hexec hx2.2.2.2.1 rfl rfl (hb hbytes d4) ?_
    refine XS.aloadN X2.here hexec rfl (hb hbytes d5) rfl rfl ?_
    exact Steps.refl _)
  obtain ⟨v4, T4, X4, E4, g4⟩ := X2.callV hexec (Cdr.law l x cd z) hown (wks W (virtW "java/lang/String" 335 "java/lang/String" Cdr.yN Cdr.yN)) rfl (by decide) (wk W Cdr.tab) (W := 1) (Nat.le_of_ble_eq_true rfl) (Nat.le_of_ble_eq_true rfl) (Nat.le_refl _) (Nat.le_refl _) (hx2.1.fc X2.warmed.alike) hx2.1.is (g := (mkF m 6 #[.val (.ref x)] [.ref x, .int (Int32.ofNat V.slots.size)])) rfl (by rw [hml]; rfl) c3 (argsL := []) (rest := [.int (Int32.ofNat V.slots.size)]) rfl rfl (by show 2 * 0 + (1 + 0) ≤ _; decide) (hb hbytes d6) (⟨rfl, hx2.2.2.1, hx.2.2.2.2.1.cd, s1.there X2.warmed.alike hh2, hz⟩)
  obtain ⟨rfl, q4⟩ := E4
  have c5 : Steps p.tables e below (s₁.setTop (entryFrame m #[.ref x] 1)) (T4.setTop (mkF m 10 #[.val (.ref x)] [.int (Int32.ofNat V.slots.size >>> (cd &&& 31))])) := Steps.trans g4 (by
    refine ishr X4.here hexec rfl (hb hbytes d9) rfl ?_
    exact Steps.refl _)
  rw [hx.2.2.2.2.1.len v31] at c5
  exact ⟨T4, some (.int (Int32.ofNat n)), _, _, _, X4, rfl, rfl, rfl, (fun h => by cases h), ⟨rfl, q4.trans hh2⟩, fun fs hl => c5.trans (X4.ireturnOut hexec hret rfl (Or.inl rfl) (hb hbytes d10) hl)⟩
theorem pays {l : Launch} {R : Room} {p : Program} {e : Env} {below : List Frame} {s : State} {sargs : Array Value} {len W : Nat} (x t : Addr) (V : Cell) (cd : Int32) (n : Nat) (f : Nat → Int32) (z : Int32) (htab : tab.before sargs s = true) (hfr : 2 ≤ R.frames) (hlo : W + 25 ≤ R.locals) :
    Back l R p e below s sargs yN len W (fun A₁ a₁ => A₁.cells + 0 ≤ R.cells ∧ A₁.slots + 0 ≤ R.slots ∧ P x t V cd n f z a₁ A₁.U) (fun A₁ _ v₁ B₁ => E n v₁ A₁.U B₁.U ∧ B₁.locs = A₁.locs ++ [] ∧ B₁.cells = A₁.cells + 0 ∧ B₁.slots = A₁.slots + 0) :=
  (law l x t V cd n f z).pays htab hfr (by omega)
end Len
namespace IsL
def yN : MethodName := ⟨"java/lang/String", "isLatin1", "()Z"⟩
abbrev yB : ByteArray := jdk_42_method_154_code
theorem d0 : decode yB 0 = .ok (.getstatic 38, 3) := by decide +kernel
theorem d3 : decode yB 3 = .ok (.ifCond (.eq) 14, 3) := by decide +kernel
theorem d6 : decode yB 6 = .ok (.aload_n 0, 1) := by decide +kernel
theorem d7 : decode yB 7 = .ok (.getfield 15, 3) := by decide +kernel
theorem d10 : decode yB 10 = .ok (.ifCond (.ne) 7, 3) := by decide +kernel
theorem d13 : decode yB 13 = .ok (.iconst 1, 1) := by decide +kernel
theorem d14 : decode yB 14 = .ok (.goto 4, 3) := by decide +kernel
theorem d17 : decode yB 17 = .ok (.iconst 0, 1) := by decide +kernel
theorem d18 : decode yB 18 = .ok (.ireturn, 1) := by decide +kernel
def site : List Cond := [.fieldLink "java/lang/String" 38 "java/lang/String" "COMPACT_STRINGS" "Z", .fieldLink "java/lang/String" 15 "java/lang/String" "coder" "B"]
def tab : Cond := tabOf yN yB 1 (some .boolean) site
def P (x : Addr) (cd z : Int32) (args : Array Value) (s : State) : Prop := args = #[.ref x] ∧ Has x "java/lang/String" "coder" "B" (.int cd) s ∧ (cd = 0 ∨ cd = 1) ∧ StaticIs s "java/lang/String" "COMPACT_STRINGS" "Z" (.int z) ∧ ¬ z = 0
def E (cd : Int32) (r : Option Value) (s u : State) : Prop := XT.PureE (some (.int (1 - cd))) r s u
theorem law (l : Launch) (x : Addr) (cd z : Int32) : Law l yN 1 0 0 0 yB 1 (some .boolean) site (P x cd z) (E cd) [] 0 0 := by
  refine Law.of_walk (plainFor_of_name (by decide +kernel)) (by decide +kernel) (by decide +kernel) (by decide) (fun _ _ h => by rw [h.1]; rfl) (fun _ U U' hal hh h => ⟨h.1, h.2.1.mv hal hh, h.2.2.1, h.2.2.2.1.there hal hh, h.2.2.2.2⟩) (fun r U U' V V' h1 hal h2 h => XT.PureE.mv r U U' V V' h1 hal h2 h) ?_
  intro p e s m args below meth c s₁ X0 hexec hbytes hml hret hlk hnm hown hh0 W hP
  obtain ⟨rfl, hx, hc, s1, hz⟩ := hP
  have c1 : Steps p.tables e below (s₁.setTop (entryFrame m #[.ref x] 1)) (s₁.setTop (mkF m 0 #[.val (.ref x)] [])) := entry rfl
  obtain ⟨T2, X2, q2, st2⟩ := X0.sget hexec hown (wk W (.fieldLink "java/lang/String" 38 "java/lang/String" "COMPACT_STRINGS" "Z")) s1 (fun _ _ h => by rw [hh0]; exact h) (g := (mkF m 0 #[.val (.ref x)] [])) rfl (hb hbytes d0)
  have hh2 := q2.trans hh0
  have c3 : Steps p.tables e below (s₁.setTop (entryFrame m #[.ref x] 1)) (T2.setTop (mkF m 7 #[.val (.ref x)] [.ref x])) := (c1.trans (st2 _ (Steps.refl _))).trans (by
    refine XS.ifNo X2.here hexec rfl (hb hbytes d3) rfl (i0_eq_f hz) ?_
    refine XS.aloadN X2.here hexec rfl (hb hbytes d6) rfl rfl ?_
    exact Steps.refl _)
  obtain ⟨T4, X4, q4, st4⟩ := X2.hget hexec hown (wk W (.fieldLink "java/lang/String" 15 "java/lang/String" "coder" "B")) (hx.mv X2.warmed.alike hh2) (g := (mkF m 7 #[.val (.ref x)] [.ref x])) rfl (rest := []) rfl (hb hbytes d7)
  have c5 : Steps p.tables e below (s₁.setTop (entryFrame m #[.ref x] 1)) (T4.setTop (mkF m 10 #[.val (.ref x)] [.int cd])) := c3.trans (st4 _ (Steps.refl _))
  have c6 : Steps p.tables e below (s₁.setTop (entryFrame m #[.ref x] 1)) (T4.setTop (mkF m 18 #[.val (.ref x)] [.int (1 - cd)])) := by
    rcases hc with rfl | rfl
    · exact c5.trans (by
        refine XS.ifNo X4.here hexec rfl (hb hbytes d10) rfl (i0_ne_f rfl) ?_
        refine iconstV X4.here hexec rfl 1 (hb hbytes d13) (by decide) ?_
        refine XS.goto X4.here hexec rfl (pc0 := 14) rfl (hb hbytes d14) (by decide) rfl ?_
        exact Steps.refl _)
    · exact c5.trans (by
        refine XS.ifYes X4.here hexec rfl (pc0 := 10) rfl (hb hbytes d10) rfl (i0_ne_t (by decide)) (by decide) rfl ?_
        refine iconstV X4.here hexec rfl 0 (hb hbytes d17) (by decide) ?_
        exact Steps.refl _)
  exact ⟨T4, some (.int (1 - cd)), _, _, _, X4, rfl, rfl, rfl, (fun h => by cases h), ⟨rfl, q4.trans hh2⟩, fun fs hl => c6.trans (X4.ireturnOut hexec hret (by rcases hc with rfl | rfl <;> rfl) (Or.inr (Or.inl rfl)) (hb hbytes d18) hl)⟩
end IsL
namespace LChA
def yN : MethodName := ⟨"java/lang/StringLatin1", "charAt", "([BI)C"⟩
abbrev yB : ByteArray := jdk_43_method_2_code
theorem d0 : decode yB 0 = .ok (.iload_n 1, 1) := by decide +kernel
theorem d1 : decode yB 1 = .ok (.aload_n 0, 1) := by decide +kernel
theorem d2 : decode yB 2 = .ok (.arraylength, 1) := by decide +kernel
theorem d3 : decode yB 3 = .ok (.invokestatic 9, 3) := by decide +kernel
theorem d6 : decode yB 6 = .ok (.aload_n 0, 1) := by decide +kernel
theorem d7 : decode yB 7 = .ok (.iload_n 1, 1) := by decide +kernel
theorem d8 : decode yB 8 = .ok (.baload, 1) := by decide +kernel
theorem d9 : decode yB 9 = .ok (.sipush 255, 3) := by decide +kernel
theorem d12 : decode yB 12 = .ok (.iand, 1) := by decide +kernel
theorem d13 : decode yB 13 = .ok (.i2c, 1) := by decide +kernel
theorem d14 : decode yB 14 = .ok (.ireturn, 1) := by decide +kernel
def site : List Cond := [JO.Str_checkIndex.tab] ++ staticW "java/lang/StringLatin1" 9 JO.Str_checkIndex.yN
def tab : Cond := tabOf yN yB 2 (some .char) site
def P (t : Addr) (V : Cell) (i : Nat) (u : Int32) (fm : Value) (args : Array Value) (s : State) : Prop := args = #[.ref t, .int (Int32.ofNat i)] ∧ XT.Arr .byte t V s ∧ V.slots[i]? = some (.int u) ∧ (StaticIs s "jdk/internal/util/Preconditions" "SIOOBE_FORMATTER" "Ljava/util/function/BiFunction;" fm ∧ fm.isRef = true)
def E (u : Int32) (r : Option Value) (s w : State) : Prop := XT.PureE (some (.int (chr8 u))) r s w
theorem law (l : Launch) (t : Addr) (V : Cell) (i : Nat) (u : Int32) (fm : Value) : Law l yN 2 2 2 27 yB 2 (some .char) site (P t V i u fm) (E u) [] 0 0 := by
  refine Law.of_walk (plainFor_of_name (by decide +kernel)) (by decide +kernel) (by decide +kernel) (by decide) (fun _ _ h => by rw [h.1]; rfl) (fun _ U U' hal hh h => ⟨h.1, h.2.1.mv hal hh, h.2.2.1, h.2.2.2.1.there hal hh, h.2.2.2.2⟩) (fun r U U' V V' h1 hal h2 h => XT.PureE.mv r U U' V V' h1 hal h2 h) ?_
  intro p e s m args below meth c s₁ X0 hexec hbytes hml hret hlk hnm hown hh0 W hP
  obtain ⟨rfl, hV, hu, s1, rf⟩ := hP
  have v31 := hV.2.2.2
  have hi : i < V.slots.size := (Array.getElem?_eq_some_iff.mp hu).1
  have c1 : Steps p.tables e below (s₁.setTop (entryFrame m #[.ref t, .int (Int32.ofNat i)] 2)) (s₁.setTop (mkF m 0 #[.val (.ref t), .val (.int (Int32.ofNat i))] [])) := entry rfl
  have c2 : Steps p.tables e below (s₁.setTop (entryFrame m #[.ref t, .int (Int32.ofNat i)] 2)) (s₁.setTop (mkF m 3 #[.val (.ref t), .val (.int (Int32.ofNat i))] [.int (Int32.ofNat V.slots.size), .int (Int32.ofNat i)])) := c1.trans (by
    refine XS.iloadN X0.here hexec rfl (hb hbytes d0) rfl ?_
    refine XS.aloadN X0.here hexec rfl (hb hbytes d1) rfl rfl ?_
    refine X0.alen hexec (hV.mv X0.warmed.alike hh0) rfl rfl (hb hbytes d2) ?_
    exact Steps.refl _)
  obtain ⟨v3, T3, X3, E3, g3⟩ := X0.callS hexec (JO.Str_checkIndex.law l (Int32.ofNat i) (Int32.ofNat V.slots.size) fm) hown (wks W (staticW "java/lang/StringLatin1" 9 JO.Str_checkIndex.yN)) (wk W JO.Str_checkIndex.tab) (W := 0) (Nat.le_of_ble_eq_true rfl) (Nat.le_of_ble_eq_true rfl) (Nat.le_refl _) (Nat.le_refl _) (g := (mkF m 3 #[.val (.ref t), .val (.int (Int32.ofNat i))] [.int (Int32.ofNat V.slots.size), .int (Int32.ofNat i)])) rfl (by rw [hml]; rfl) c2 (argsL := [.int (Int32.ofNat i), .int (Int32.ofNat V.slots.size)]) (rest := []) rfl rfl (by show 2 * 0 + 0 ≤ _; decide) (hb hbytes d3) (⟨rfl, rf, s1.there X0.warmed.alike hh0, Int32.ofNat_not_neg (by omega), lt32 v31 hi⟩)
  obtain ⟨rfl, q3⟩ := E3
  have hh3 := q3.trans hh0
  have c4 : Steps p.tables e below (s₁.setTop (entryFrame m #[.ref t, .int (Int32.ofNat i)] 2)) (T3.setTop (mkF m 14 #[.val (.ref t), .val (.int (Int32.ofNat i))] [.int (chr8 u)])) := Steps.trans g3 (by
    refine XS.aloadN X3.here hexec rfl (hb hbytes d6) rfl rfl ?_
    refine XS.iloadN X3.here hexec rfl (hb hbytes d7) rfl ?_
    refine X3.aget hexec (hV.mv X3.warmed.alike hh3) rfl hu rfl rfl (hb hbytes d8) ?_
    refine sipushV X3.here hexec rfl 255 (hb hbytes d9) (by decide) ?_
    refine XS.iand X3.here hexec rfl (hb hbytes d12) rfl ?_
    refine i2c X3.here hexec rfl (hb hbytes d13) rfl ?_
    exact Steps.refl _)
  exact ⟨T3, some (.int (chr8 u)), _, _, _, X3, rfl, rfl, rfl, (fun h => by cases h), ⟨rfl, hh3⟩, fun fs hl => c4.trans (X3.ireturnOut hexec hret (narrow_c _) (Or.inr (Or.inr (Or.inr (Or.inl rfl)))) (hb hbytes d14) hl)⟩
end LChA
end StrChars
namespace StrChars.Road
open Jvm Sem ClassFile Op Lib Jvm.Stand Jvm.Free Jvm.Free.XT
open Jvm.Lib.Cold (StaticIs)
theorem consq {a : Array Value} {s : State} {c : Jvm.Cond} {L : List Jvm.Cond} (h0 : c.before a s = true) (h : ∀ w ∈ L, w.before a s = true) : ∀ w ∈ c :: L, w.before a s = true := fun w hw => (List.mem_cons.mp hw).elim (fun e => e ▸ h0) (h w)
/-- the words of String.length(), either coding -/
abbrev wordsLen : List Jvm.Cond := [.code Len.yN Len.yB 1 (some .int), .initialized ST, .fieldLink ST 9 ST "value" "[B", .fieldLink ST 38 ST "COMPACT_STRINGS" "Z", .fieldLink ST 15 ST "coder" "B", .code Cdr.yN Cdr.yB 1 (some .byte), .methodLink ST 335 Cdr.yN, .declares Cdr.yN, .selects ST Cdr.yN Cdr.yN, .instanceMethod Cdr.yN]
theorem tabLen_of {a : Array Value} {s : State} (h : ∀ w ∈ wordsLen, w.before a s = true) : Len.tab.before a s = true := by
  have hc : Cdr.tab.before a s = true := unparts (wk h (.code Cdr.yN Cdr.yB 1 (some .byte))) (wks h (.initialized Cdr.yN.cls :: Cdr.site))
  have q := consq hc h
  exact unparts (wk q (.code Len.yN Len.yB 1 (some .int))) (wks q (.initialized Len.yN.cls :: Len.site))
theorem movedLen {Z s : State} {a0 args : Array Value} (hZ : Z.Warmed39 s.vm) (hw : ∀ d ∈ wordsLen, d.before a0 Z = true) : ∀ d ∈ wordsLen, d.before args s = true := fun d hd => by
  have q := hw d hd
  have t : ∀ d ∈ wordsLen, d = .arrayClass .byte ∨ (d.onTables && d.keepsFace) = true := by decide +kernel
  rcases t d hd with rfl | t
  · exact RoadKit.mvA hZ q
  · exact RoadKit.mv hZ q t
/-- the bytes of the chars cs, low before high -/
def wideBytes : List Int32 → List Value
  | [] => []
  | c :: cs => .int (lo8 c) :: .int (hi8 c) :: wideBytes cs
theorem wide_lo (d : Value) : ∀ (cs : List Int32) (j : Nat), j < cs.length → (wideBytes cs).getD (2 * j) d = .int (lo8 (cs.getD j 0))
  | [], j, h => absurd h (Nat.not_lt_zero j)
  | c :: cs, 0, _ => rfl
  | c :: cs, j + 1, h => by
    have q := wide_lo d cs j (by simpa using h)
    rw [show 2 * (j + 1) = 2 * j + 1 + 1 from by omega]
    simpa [wideBytes] using q
theorem wide_hi (d : Value) : ∀ (cs : List Int32) (j : Nat), j < cs.length → (wideBytes cs).getD (2 * j + 1) d = .int (hi8 (cs.getD j 0))
  | [], j, h => absurd h (Nat.not_lt_zero j)
  | c :: cs, 0, _ => rfl
  | c :: cs, j + 1, h => by
    have q := wide_hi d cs j (by simpa using h)
    rw [show 2 * (j + 1) + 1 = 2 * j + 1 + 1 + 1 from by omega]
    simpa [wideBytes] using q
theorem low_at (d : Value) (cs : List Int32) (j : Nat) (h : j < cs.length) : (cs.map fun c => Value.int (lo8 c)).getD j d = .int (lo8 (cs.getD j 0)) := by
  simp [List.getD_eq_getElem?_getD, h]
/-- an array of N2 bytes vs codes the chars cs by the coder cd -/
def CodA (cs : List Int32) (cd N2 : Int32) (vs : List Value) : Prop := (cd = 0 ∧ N2 = Int32.ofNat cs.length ∧ vs = (cs.map fun c => Value.int (lo8 c)) ∧ ∀ c ∈ cs, ¬ 255 < c) ∨ (cd = 1 ∧ N2 = Int32.ofNat (2 * cs.length) ∧ vs = wideBytes cs ∧ ∃ c ∈ cs, 255 < c)
theorem CodA.cod {cs : List Int32} {cd N2 : Int32} {vs : List Value} {V : Cell} (h : CodA cs cd N2 vs) (hn : 2 * cs.length < 2 ^ 31) (hs : V.slots.size = N2.toNatClampNeg) (hv : RoadKit.Has V vs (.int 0)) : Cod cd cs.length (fun j => cs.getD j 0) V := by
  rcases h with ⟨rfl, rfl, rfl, h⟩ | ⟨rfl, rfl, rfl, c, hc, hw⟩
  · rw [n32 (by omega)] at hs
    exact Or.inl ⟨rfl, hs, fun j hj => ⟨by rw [hv j (by omega), low_at _ _ _ hj], by
      have e : cs.getD j 0 = cs[j] := by simp [List.getD_eq_getElem?_getD, hj]
      show ¬ 255 < cs.getD j 0
      rw [e]; exact h _ (List.getElem_mem _)⟩⟩
  · rw [n32 (by omega)] at hs
    obtain ⟨j, hj, rfl⟩ := List.getElem_of_mem hc
    exact Or.inr ⟨rfl, hs, fun j hj => ⟨by rw [hv _ (by omega), wide_lo _ _ _ hj], by rw [hv _ (by omega), wide_hi _ _ _ hj]⟩, j, hj, by
      have e : cs.getD j 0 = cs[j] := by simp [List.getD_eq_getElem?_getD, hj]
      show 255 < cs.getD j 0
      rw [e]; exact hw⟩
/-- an object of exactly java/lang/String, its two fields found: as the laws ask it -/
theorem strObj {Z U : State} {a0 : Array Value} {kI : Nat} (wi : (Jvm.Cond.instantiable ST kI).before a0 Z = true) (al : Z.vm.Alike U.vm) {x : Addr} {v0 c0 : Value} (E : RoadKit.Exa Z U.heap x ST) (V : RoadKit.Fld Z U.heap x ST "value" "[B" v0) (C : RoadKit.Fld Z U.heap x ST "coder" "B" c0) :
    ∃ (D : Cell) (fV fC : Field), Blank ST x D U ∧ Found ST "value" "[B" fV U ∧ Found ST "coder" "B" fC U ∧ D.slots[fV.slot]? = some v0 ∧ D.slots[fC.slot]? = some c0 ∧ RoadKit.slotOf Z ST "value" "[B" = fV.slot ∧ RoadKit.slotOf Z ST "coder" "B" = fC.slot := by
  obtain ⟨D, cfV, kV, iV, fV, hD, gV, stV, knV, obV, asV, slV⟩ := V
  obtain ⟨D', cfC, kC, iC, fC, hD', gC, stC, -, -, asC, slC⟩ := C
  cases hD.symm.trans hD'
  obtain ⟨D2, kD, e1, e2, e3, e4, e5⟩ := E
  cases hD.symm.trans e1
  obtain ⟨c2, k2, i1, i2, i3, -⟩ := Cond.instantiable_spec wi
  cases e2.symm.trans i1
  cases e3.symm.trans i2
  obtain ⟨kU, u1, u2⟩ := al.2.2 _ _ e3
  exact ⟨D, fV, fC, ⟨hD, ⟨knV, fun q hq => by rw [hq] at obV; cases obV⟩, by rw [al.findClass]; exact e2, kU, u1, by rw [u2]; exact i3, by rw [u2]; exact e5 i3⟩, ⟨SBG.found_only al ⟨cfV, kV, iV, gV⟩, stV⟩, ⟨SBG.found_only al ⟨cfC, kC, iC, gC⟩, stC⟩, slV, slC, by simp [RoadKit.slotOf, gV], by simp [RoadKit.slotOf, gC]⟩
theorem sta_is {Z U : State} (al : Z.vm.Alike U.vm) {C n d : String} {v : Value} (S : RoadKit.Sta Z U.heap C n d v) : StaticIs U C n d v := by
  obtain ⟨cfS, iS, kS, fS, st, cS, t1, t2, t3, t4, t5, t6, t7⟩ := S
  exact StaticIs.there (s := { Z with heap := U.heap }) ⟨cfS, iS, kS, fS, st, cS, t1, t2, t3, t4, t5, (fun q => by rw [q] at t6; cases t6), t7⟩ al rfl
/-- **length() OF SUCH A STRING** -/
theorem lenW {p : Program} {l : Launch} {e : Env} {R : Room} {s : State} {args : Array Value} {below : List Frame} {len W : Nat} {Z : State} {a0 : Array Value} {h : Heap} (hZ : Z.Warmed39 s.vm) (hw : ∀ d ∈ wordsLen, d.before a0 Z = true) {kI : Nat} (wi : (Jvm.Cond.instantiable ST kI).before a0 Z = true)
    {x t : Addr} {kb : ClassId} {cs : List Int32} {cd N2 z : Int32} {vs : List Value} (E : RoadKit.Exa Z h x ST) (V : RoadKit.Fld Z h x ST "value" "[B" (.ref t)) (C : RoadKit.Fld Z h x ST "coder" "B" (.int cd)) (K : RoadKit.Arv Z h t kb .byte N2 vs (.int 0)) (hc : CodA cs cd N2 vs) (hb : ∀ c ∈ cs, ¬ c < 0 ∧ ¬ (65535 : Int32) < c)
    (S : RoadKit.Sta Z h ST "COMPACT_STRINGS" "Z" (.int z)) (hz : ¬ z = 0) (l2 : cs.length ≤ 4000) (hfr : 2 ≤ R.frames) (hlo : W + 25 ≤ R.locals) :
    Back l R p e below s args (⟨"java/lang/String", "length", "()I"⟩ : MethodName) len W (fun P a => a = #[.ref x] ∧ P.U.heap = h ∧ P.cells + 0 ≤ R.cells ∧ P.slots + 0 ≤ R.slots)
      (fun P _ v B => ∃ L, (v = some (.int (Int32.ofNat cs.length)) ∧ L = [] ∧ B.U.heap = h) ∧ B.locs = P.locs ++ L ∧ B.cells = P.cells + 0 ∧ B.slots = P.slots + 0) := by
  obtain ⟨A, K1, K2, K3, K4, K5, K6⟩ := K
  have hcod := hc.cod (by omega) K3 K5
  intro m meth c P g ig mk a X hg hsize hdg hW hn hp'
  obtain ⟨rfl, rfl, r1, r2⟩ := hp'
  have al : Z.vm.Alike P.U.vm := hZ.alike.trans X.warmed.alike
  obtain ⟨D, fV, fC, hB, F1, F2, g1, g2, -, -⟩ := strObj wi al E V C
  have hx : Txt x t A cd cs.length (fun j => cs.getD j 0) P.U := ⟨⟨_, hB.2.2.1, D, hB.1, rfl, by cases q : D.vm <;> first | rfl | exact absurd q (hB.2.1.2 _)⟩, Has.of hB F1 g1, Has.of hB F2 g2, ⟨K1.1, State.isArrayOf_alike al K1.2.1, K1.2.2, by rcases hcod with ⟨-, q, -⟩ | ⟨-, q, -⟩ <;> omega⟩, hcod, fun j hj => by
    have e : cs.getD j 0 = cs[j] := by simp [List.getD_eq_getElem?_getD, hj]
    show ¬ cs.getD j 0 < 0 ∧ ¬ 65535 < cs.getD j 0
    rw [e]; exact hb _ (List.getElem_mem _)⟩
  obtain ⟨v, B, X', ⟨⟨hv, hh⟩, hl, hk, hs⟩, st⟩ := Len.pays x t A cd cs.length (fun j => cs.getD j 0) z (tabLen_of (movedLen hZ hw)) hfr hlo m meth c P g ig mk _ X hg hsize hdg hW hn ⟨r1, r2, rfl, hx, sta_is al S, hz⟩
  exact ⟨v, B, X', ⟨[], ⟨hv, rfl, hh⟩, hl, hk, hs⟩, st⟩
end StrChars.Road
namespace StrChars
open Jvm Sem ClassFile Op Lib Jvm.Stand Jvm.Free.XT Jvm.Free.ALB Jvm.Free.JM Jvm.Free
open Jvm.Lib.Cold (StaticIs)
/-- what place i of a byte[]'s cell holds -/
def yv (A : Cell) (i : Nat) : Int32 := match A.slots[i]? with | some (.int x) => x | _ => 0
theorem yv_get {a : Addr} {A : Cell} {U : State} (h : XT.Arr .byte a A U) (ht : Typed .byte A) {i : Nat} (hi : i < A.slots.size) : A.slots[i]? = some (.int (yv A i)) := by
  have e := Array.getElem?_eq_getElem hi
  have f := ht i _ e
  unfold yv; rw [e]
  generalize A.slots[i] = v at f
  cases v <;> simp [fits] at f ⊢
/-- the two arrays are equal, place for place -/
def EqC (A B : Cell) : Prop := A.slots.size = B.slots.size ∧ ∀ i, i < A.slots.size → yv A i = yv B i
/-- a boolean that says whether p -/
def Says01 (q : Prop) (r : Option Value) (s u : State) : Prop := ∃ v : Int32, r = some (.int v) ∧ u.heap = s.heap ∧ ((v = 1 ∧ q) ∨ (v = 0 ∧ ¬ q))
theorem Says01.mv {q : Prop} : ∀ r (U U' V V' : State), U'.heap = U.heap → V.vm.Alike V'.vm → V'.heap = V.heap → Says01 q r U V → Says01 q r U' V' :=
  fun r U U' V V' h1 _ h2 ⟨v, a, b, c⟩ => ⟨v, a, by rw [h1, h2]; exact b, c⟩
namespace LEq
def yN : MethodName := ⟨"java/lang/StringLatin1", "equals", "([B[B)Z"⟩
abbrev yB : ByteArray := jdk_43_method_13_code
theorem d0 : decode yB 0 = .ok (.aload_n 0, 1) := by decide +kernel
theorem d1 : decode yB 1 = .ok (.arraylength, 1) := by decide +kernel
theorem d2 : decode yB 2 = .ok (.aload_n 1, 1) := by decide +kernel
theorem d3 : decode yB 3 = .ok (.arraylength, 1) := by decide +kernel
theorem d4 : decode yB 4 = .ok (.if_icmp (.ne) 30, 3) := by decide +kernel
theorem d7 : decode yB 7 = .ok (.iconst 0, 1) := by decide +kernel
theorem d8 : decode yB 8 = .ok (.istore_n 2, 1) := by decide +kernel
theorem d9 : decode yB 9 = .ok (.iload_n 2, 1) := by decide +kernel
theorem d10 : decode yB 10 = .ok (.aload_n 0, 1) := by decide +kernel
theorem d11 : decode yB 11 = .ok (.arraylength, 1) := by decide +kernel
theorem d12 : decode yB 12 = .ok (.if_icmp (.ge) 20, 3) := by decide +kernel
theorem d15 : decode yB 15 = .ok (.aload_n 0, 1) := by decide +kernel
theorem d16 : decode yB 16 = .ok (.iload_n 2, 1) := by decide +kernel
theorem d17 : decode yB 17 = .ok (.baload, 1) := by decide +kernel
theorem d18 : decode yB 18 = .ok (.aload_n 1, 1) := by decide +kernel
theorem d19 : decode yB 19 = .ok (.iload_n 2, 1) := by decide +kernel
theorem d20 : decode yB 20 = .ok (.baload, 1) := by decide +kernel
theorem d21 : decode yB 21 = .ok (.if_icmp (.eq) 5, 3) := by decide +kernel
theorem d24 : decode yB 24 = .ok (.iconst 0, 1) := by decide +kernel
theorem d25 : decode yB 25 = .ok (.ireturn, 1) := by decide +kernel
theorem d26 : decode yB 26 = .ok (.iinc 2 1, 3) := by decide +kernel
theorem d29 : decode yB 29 = .ok (.goto (-20), 3) := by decide +kernel
theorem d32 : decode yB 32 = .ok (.iconst 1, 1) := by decide +kernel
theorem d33 : decode yB 33 = .ok (.ireturn, 1) := by decide +kernel
theorem d34 : decode yB 34 = .ok (.iconst 0, 1) := by decide +kernel
theorem d35 : decode yB 35 = .ok (.ireturn, 1) := by decide +kernel
def site : List Cond := []
def tab : Cond := tabOf yN yB 3 (some .boolean) site
def P (a : Addr) (A : Cell) (b : Addr) (B : Cell) (args : Array Value) (s : State) : Prop := args = #[.ref a, .ref b] ∧ XT.Arr .byte a A s ∧ Typed .byte A ∧ XT.Arr .byte b B s ∧ Typed .byte B
/-- whether two byte[] are equal, place for place -/
theorem law (l : Launch) (a : Addr) (A : Cell) (b : Addr) (B : Cell) : Law l yN 2 2 0 0 yB 3 (some .boolean) site (P a A b B) (Says01 (EqC A B)) [] 0 0 := by
  refine Law.of_walk (plainFor_of_name (by decide +kernel)) (by decide +kernel) (by decide +kernel) (by decide) (fun _ _ h => by rw [h.1]; rfl) (fun _ U U' hal hh h => ⟨h.1, h.2.1.mv hal hh, h.2.2.1, h.2.2.2.1.mv hal hh, h.2.2.2.2⟩) (fun r U U' V V' h1 hal h2 h => Says01.mv r U U' V V' h1 hal h2 h) ?_
  intro p e s m args below meth c s₁ X0 hexec hbytes hml hret hlk hnm hown hh0 W hP
  obtain ⟨rfl, hA, tA, hB, tB⟩ := hP
  have a31 := hA.2.2.2
  have b31 := hB.2.2.2
  have hA0 := hA.mv X0.warmed.alike hh0
  have hB0 := hB.mv X0.warmed.alike hh0
  have c1 : Steps p.tables e below (s₁.setTop (entryFrame m #[.ref a, .ref b] 3)) (s₁.setTop (mkF m 0 #[.val (.ref a), .val (.ref b), .unset] [])) := entry rfl
  have c2 : Steps p.tables e below (s₁.setTop (entryFrame m #[.ref a, .ref b] 3)) (s₁.setTop (mkF m 4 #[.val (.ref a), .val (.ref b), .unset] [.int (Int32.ofNat B.slots.size), .int (Int32.ofNat A.slots.size)])) := c1.trans (by
    refine XS.aloadN X0.here hexec rfl (hb hbytes d0) rfl rfl ?_
    refine X0.alen hexec hA0 rfl rfl (hb hbytes d1) ?_
    refine XS.aloadN X0.here hexec rfl (hb hbytes d2) rfl rfl ?_
    refine X0.alen hexec hB0 rfl rfl (hb hbytes d3) ?_
    exact Steps.refl _)
  by_cases hs : A.slots.size = B.slots.size
  · have c3 : Steps p.tables e below (s₁.setTop (entryFrame m #[.ref a, .ref b] 3)) (s₁.setTop (mkF m 9 #[.val (.ref a), .val (.ref b), .val (.int 0)] [])) := c2.trans (by
      refine XS.icmpNo X0.here hexec rfl (hb hbytes d4) rfl (ii_ne_f (by rw [hs])) ?_
      refine iconstV X0.here hexec rfl 0 (hb hbytes d7) (by decide) ?_
      refine XS.istoreN X0.here hexec rfl (hb hbytes d8) rfl rfl ?_
      exact Steps.refl _)
    have loop : ∀ (r i : Nat), i + r = A.slots.size → (∀ j, j < i → yv A j = yv B j) → Steps p.tables e below (s₁.setTop (entryFrame m #[.ref a, .ref b] 3)) (s₁.setTop (mkF m 9 #[.val (.ref a), .val (.ref b), .val (.int (Int32.ofNat i))] [])) → ∃ (pc : Nat) (Ls : Array Slot) (v : Int32), (pc = 25 ∨ pc = 33) ∧ ((v = 1 ∧ EqC A B) ∨ (v = 0 ∧ ¬ EqC A B)) ∧ Steps p.tables e below (s₁.setTop (entryFrame m #[.ref a, .ref b] 3)) (s₁.setTop (mkF m pc Ls [.int v])) := by
      intro r
      induction r with
      | zero =>
        intro i hi he cl
        exact ⟨33, _, 1, Or.inr rfl, Or.inl ⟨rfl, hs, fun j hj => he j (by omega)⟩, cl.trans (by
          refine XS.iloadN X0.here hexec rfl (hb hbytes d9) rfl ?_
          refine XS.aloadN X0.here hexec rfl (hb hbytes d10) rfl rfl ?_
          refine X0.alen hexec hA0 rfl rfl (hb hbytes d11) ?_
          refine XS.icmpYes X0.here hexec rfl (pc0 := 12) rfl (hb hbytes d12) rfl (ii_ge_t (nlt32 (by omega) (by omega))) (by decide) rfl ?_
          refine iconstV X0.here hexec rfl 1 (hb hbytes d32) (by decide) ?_
          exact Steps.refl _)⟩
      | succ r ih =>
        intro i hi he cl
        have c4 : Steps p.tables e below (s₁.setTop (entryFrame m #[.ref a, .ref b] 3)) (s₁.setTop (mkF m 21 #[.val (.ref a), .val (.ref b), .val (.int (Int32.ofNat i))] [.int (yv B i), .int (yv A i)])) := cl.trans (by
          refine XS.iloadN X0.here hexec rfl (hb hbytes d9) rfl ?_
          refine XS.aloadN X0.here hexec rfl (hb hbytes d10) rfl rfl ?_
          refine X0.alen hexec hA0 rfl rfl (hb hbytes d11) ?_
          refine XS.icmpNo X0.here hexec rfl (hb hbytes d12) rfl (ii_ge_f (lt32 (by omega) (by omega))) ?_
          refine XS.aloadN X0.here hexec rfl (hb hbytes d15) rfl rfl ?_
          refine XS.iloadN X0.here hexec rfl (hb hbytes d16) rfl ?_
          refine X0.aget hexec hA0 rfl (yv_get hA tA (i := i) (by omega)) rfl rfl (hb hbytes d17) ?_
          refine XS.aloadN X0.here hexec rfl (hb hbytes d18) rfl rfl ?_
          refine XS.iloadN X0.here hexec rfl (hb hbytes d19) rfl ?_
          refine X0.aget hexec hB0 rfl (yv_get hB tB (i := i) (by omega)) rfl rfl (hb hbytes d20) ?_
          exact Steps.refl _)
        by_cases hv : yv A i = yv B i
        · have c5 : Steps p.tables e below (s₁.setTop (entryFrame m #[.ref a, .ref b] 3)) (s₁.setTop (mkF m 9 #[.val (.ref a), .val (.ref b), .val (.int (Int32.ofNat i + 1))] [])) := c4.trans (by
            refine XS.icmpYes X0.here hexec rfl (pc0 := 21) rfl (hb hbytes d21) rfl (ii_eq_t hv) (by decide) rfl ?_
            refine iincV X0.here hexec rfl 1 (hb hbytes d26) (by decide) rfl rfl ?_
            refine XS.goto X0.here hexec rfl (pc0 := 29) rfl (hb hbytes d29) (by decide) rfl ?_
            exact Steps.refl _)
          rw [succ32] at c5
          exact ih (i + 1) (by omega) (fun j hj => by
            by_cases e : j = i
            · rw [e]; exact hv
            · exact he j (by omega)) c5
        · exact ⟨25, _, 0, Or.inl rfl, Or.inr ⟨rfl, fun q => hv (q.2 i (by omega))⟩, c4.trans (by
            refine XS.icmpNo X0.here hexec rfl (hb hbytes d21) rfl (ii_eq_f hv) ?_
            refine iconstV X0.here hexec rfl 0 (hb hbytes d24) (by decide) ?_
            exact Steps.refl _)⟩
    obtain ⟨pc, Ls, v, hpc, hv, cz⟩ := loop A.slots.size 0 (by omega) (fun j hj => absurd hj (Nat.not_lt_zero j)) c3
    have nv : narrow .boolean (.int v) = .int v := by rcases hv with ⟨rfl, -⟩ | ⟨rfl, -⟩ <;> rfl
    rcases hpc with rfl | rfl
    · exact ⟨s₁, some (.int v), _, _, _, X0, rfl, rfl, rfl, (fun h => by cases h), ⟨v, rfl, hh0, hv⟩, fun fs hl => cz.trans (X0.ireturnOut hexec hret nv (Or.inr (Or.inl rfl)) (hb hbytes d25) hl)⟩
    · exact ⟨s₁, some (.int v), _, _, _, X0, rfl, rfl, rfl, (fun h => by cases h), ⟨v, rfl, hh0, hv⟩, fun fs hl => cz.trans (X0.ireturnOut hexec hret nv (Or.inr (Or.inl rfl)) (hb hbytes d33) hl)⟩
  · have c3 : Steps p.tables e below (s₁.setTop (entryFrame m #[.ref a, .ref b] 3)) (s₁.setTop (mkF m 35 #[.val (.ref a), .val (.ref b), .unset] [.int 0])) := c2.trans (by
      refine XS.icmpYes X0.here hexec rfl (pc0 := 4) rfl (hb hbytes d4) rfl (ii_ne_t (ne32 a31 b31 hs)) (by decide) rfl ?_
      refine iconstV X0.here hexec rfl 0 (hb hbytes d34) (by decide) ?_
      exact Steps.refl _)
    exact ⟨s₁, some (.int 0), _, _, _, X0, rfl, rfl, rfl, (fun h => by cases h), ⟨0, rfl, hh0, Or.inr ⟨rfl, fun q => hs q.1⟩⟩, fun fs hl => c3.trans (X0.ireturnOut hexec hret rfl (Or.inr (Or.inl rfl)) (hb hbytes d35) hl)⟩
end LEq
theorem Cod.ty {cd : Int32} {n : Nat} {f : Nat → Int32} {V : Cell} (h : Cod cd n f V) : Typed .byte V := fun i v hv => by
  have hi : i < V.slots.size := (Array.getElem?_eq_some_iff.mp hv).1
  rcases h with ⟨-, k1, k2⟩ | ⟨-, k1, k2, -⟩
  · rw [(k2 i (by omega)).1] at hv; cases hv; exact fits_lo8 _
  · rcases Nat.mod_two_eq_zero_or_one i with e | e
    · obtain ⟨j, rfl⟩ : ∃ j, i = 2 * j := ⟨i / 2, by omega⟩
      rw [(k2 j (by omega)).1] at hv; cases hv; exact fits_lo8 _
    · obtain ⟨j, rfl⟩ : ∃ j, i = 2 * j + 1 := ⟨i / 2, by omega⟩
      rw [(k2 j (by omega)).2] at hv; cases hv; exact fits_lo8 _
/-- the same text -/
def SameT (n : Nat) (f : Nat → Int32) (k : Nat) (g : Nat → Int32) : Prop := n = k ∧ ∀ j, j < n → f j = g j
theorem lo8_inj {x y : Int32} (h0 : ¬ x < 0) (h1 : ¬ 255 < x) (k0 : ¬ y < 0) (k1 : ¬ 255 < y) (h : lo8 x = lo8 y) : x = y := by
  rw [← lo8_mask h0 h1, ← lo8_mask k0 k1, h]
/-- arrays coded by one coder are equal just where the texts are -/
theorem Cod.eqv {cd : Int32} {n k : Nat} {f g : Nat → Int32} {V V' : Cell} (h : Cod cd n f V) (h' : Cod cd k g V') (hf : ∀ j, j < n → ¬ f j < 0 ∧ ¬ 65535 < f j) (hg : ∀ j, j < k → ¬ g j < 0 ∧ ¬ 65535 < g j) : EqC V V' ↔ SameT n f k g := by
  have yvv : ∀ {W : Cell} {i : Nat} {x : Int32}, W.slots[i]? = some (.int x) → yv W i = x := fun q => by unfold yv; rw [q]
  rcases h with ⟨rfl, k1, k2⟩ | ⟨rfl, k1, k2, -⟩
  · rcases h' with ⟨-, m1, m2⟩ | ⟨e, -⟩
    · constructor
      · rintro ⟨e1, e2⟩
        refine ⟨by omega, fun j hj => ?_⟩
        have q := e2 j (by omega)
        rw [yvv (k2 j hj).1, yvv (m2 j (by omega)).1] at q
        exact lo8_inj (hf j hj).1 (k2 j hj).2 (hg j (by omega)).1 (m2 j (by omega)).2 q
      · rintro ⟨rfl, e2⟩
        refine ⟨by omega, fun j hj => ?_⟩
        rw [yvv (k2 j (by omega)).1, yvv (m2 j (by omega)).1, e2 j (by omega)]
    · exact absurd e (by decide)
  · rcases h' with ⟨e, -⟩ | ⟨-, m1, m2, -⟩
    · exact absurd e (by decide)
    · constructor
      · rintro ⟨e1, e2⟩
        refine ⟨by omega, fun j hj => ?_⟩
        have q1 := e2 (2 * j) (by omega)
        have q2 := e2 (2 * j + 1) (by omega)
        rw [yvv (k2 j hj).1, yvv (m2 j (by omega)).1] at q1
        rw [yvv (k2 j hj).2, yvv (m2 j (by omega)).2] at q2
        rw [← pair_says (hf j hj).1 (hf j hj).2, ← pair_says (hg j (by omega)).1 (hg j (by omega)).2, q1, q2]
      · rintro ⟨rfl, e2⟩
        refine ⟨by omega, fun i hi => ?_⟩
        rcases Nat.mod_two_eq_zero_or_one i with e | e
        · obtain ⟨j, rfl⟩ : ∃ j, i = 2 * j := ⟨i / 2, by omega⟩
          rw [yvv (k2 j (by omega)).1, yvv (m2 j (by omega)).1, e2 j (by omega)]
        · obtain ⟨j, rfl⟩ : ∃ j, i = 2 * j + 1 := ⟨i / 2, by omega⟩
          rw [yvv (k2 j (by omega)).2, yvv (m2 j (by omega)).2, e2 j (by omega)]
/-- two codings differ: so do the texts -/
theorem Cod.dif {cd cd' : Int32} {n k : Nat} {f g : Nat → Int32} {V V' : Cell} (h : Cod cd n f V) (h' : Cod cd' k g V') (hne : ¬ cd = cd') : ¬ SameT n f k g := by
  rintro ⟨rfl, e⟩
  rcases h with ⟨rfl, -, k2⟩ | ⟨rfl, -, -, j, hj, hw⟩
  · rcases h' with ⟨rfl, -⟩ | ⟨-, -, -, j, hj, hw⟩
    · exact hne rfl
    · exact (k2 j hj).2 (by rw [e j hj]; exact hw)
  · rcases h' with ⟨-, -, m2⟩ | ⟨rfl, -⟩
    · exact (m2 j hj).2 (by rw [← e j hj]; exact hw)
    · exact hne rfl
/-- an object of exactly C is an instance of C -/
theorem cinst {p : Program} {l : Launch} {e : Env} {R : Room} {s : State} {m : MethodId} {args : Array Value} {below : List Frame} {meth : Method} {c : Code} {T : State} {locs : List Loc} {cells slots : Nat} (X : Stand p l e R s m args below meth c T locs cells slots) (hexec : p.tables.exec = Jvm.exec) {own C : String} {index : Nat} (hown : s.vm.findClass own = some m.cls) (hlink : (Cond.classLink own index C).before args s = true) {a : Addr} (hE : Exact C a T)
    {g : JFrame} (hg : g.method = m) {rest : List Value} (hstack : g.stack = .ref a :: rest) (hdg : decode c.code g.pc = .ok (.instanceof index, 3)) :
    ∃ T', Stand p l e R s m args below meth c T' locs cells slots ∧ T'.heap = T.heap ∧ ∀ target, Steps p.tables e below (T'.setTop { g with pc := g.pc + 3, stack := .int 1 :: rest }) target → Steps p.tables e below (T.setTop g) target := by
  obtain ⟨cB, h1, D, h2, h3, h4⟩ := hE
  have h1' : s.vm.findClass C = some cB := by rw [← X.warmed.alike.findClass]; exact h1
  obtain ⟨vm', X', st⟩ := X.instanceofYes hexec hown hlink h2 h4 h1' (by rw [h3]; exact Jvm.Free.SB.assignable_self _ _) hg hstack hdg
  exact ⟨_, X', rfl, st⟩
theorem cself {p : Program} {l : Launch} {e : Env} {R : Room} {s : State} {m : MethodId} {args : Array Value} {below : List Frame} {meth : Method} {c : Code} {T : State} {locs : List Loc} {cells slots : Nat} (X : Stand p l e R s m args below meth c T locs cells slots) (hexec : p.tables.exec = Jvm.exec) {own C : String} {index : Nat} (hown : s.vm.findClass own = some m.cls) (hlink : (Cond.classLink own index C).before args s = true) {a : Addr} (hE : Exact C a T)
    {g : JFrame} (hg : g.method = m) {rest : List Value} (hstack : g.stack = .ref a :: rest) (hdg : decode c.code g.pc = .ok (.checkcast index, 3)) :
    ∃ T', Stand p l e R s m args below meth c T' locs cells slots ∧ T'.heap = T.heap ∧ ∀ target, Steps p.tables e below (T'.setTop { g with pc := g.pc + 3, stack := .ref a :: rest }) target → Steps p.tables e below (T.setTop g) target := by
  obtain ⟨cB, h1, D, h2, h3, h4⟩ := hE
  have h1' : s.vm.findClass C = some cB := by rw [← X.warmed.alike.findClass]; exact h1
  obtain ⟨vm', X', st⟩ := X.checkcastYes hexec hown hlink h2 h4 h1' (by rw [h3]; exact Jvm.Free.SB.assignable_self _ _) hg hstack hdg
  exact ⟨_, X', rfl, fun t h => st t (by rw [← hstack] at h; exact h)⟩
namespace SEq
def yN : MethodName := ⟨"java/lang/String", "equals", "(Ljava/lang/Object;)Z"⟩
abbrev yB : ByteArray := jdk_42_method_66_code
theorem d0 : decode yB 0 = .ok (.aload_n 0, 1) := by decide +kernel
theorem d1 : decode yB 1 = .ok (.aload_n 1, 1) := by decide +kernel
theorem d2 : decode yB 2 = .ok (.if_acmp (.ne) 5, 3) := by decide +kernel
theorem d5 : decode yB 5 = .ok (.iconst 1, 1) := by decide +kernel
theorem d6 : decode yB 6 = .ok (.ireturn, 1) := by decide +kernel
theorem d7 : decode yB 7 = .ok (.aload_n 1, 1) := by decide +kernel
theorem d8 : decode yB 8 = .ok (.instanceof 10, 3) := by decide +kernel
theorem d11 : decode yB 11 = .ok (.ifCond (.eq) 43, 3) := by decide +kernel
theorem d14 : decode yB 14 = .ok (.aload_n 1, 1) := by decide +kernel
theorem d15 : decode yB 15 = .ok (.checkcast 10, 3) := by decide +kernel
theorem d18 : decode yB 18 = .ok (.astore_n 2, 1) := by decide +kernel
theorem d19 : decode yB 19 = .ok (.getstatic 38, 3) := by decide +kernel
theorem d22 : decode yB 22 = .ok (.ifCond (.eq) 14, 3) := by decide +kernel
theorem d25 : decode yB 25 = .ok (.aload_n 0, 1) := by decide +kernel
theorem d26 : decode yB 26 = .ok (.getfield 15, 3) := by decide +kernel
theorem d29 : decode yB 29 = .ok (.aload_n 2, 1) := by decide +kernel
theorem d30 : decode yB 30 = .ok (.getfield 15, 3) := by decide +kernel
theorem d33 : decode yB 33 = .ok (.if_icmp (.ne) 21, 3) := by decide +kernel
theorem d36 : decode yB 36 = .ok (.aload_n 0, 1) := by decide +kernel
theorem d37 : decode yB 37 = .ok (.getfield 9, 3) := by decide +kernel
theorem d40 : decode yB 40 = .ok (.aload_n 2, 1) := by decide +kernel
theorem d41 : decode yB 41 = .ok (.getfield 9, 3) := by decide +kernel
theorem d44 : decode yB 44 = .ok (.invokestatic 541, 3) := by decide +kernel
theorem d47 : decode yB 47 = .ok (.ifCond (.eq) 7, 3) := by decide +kernel
theorem d50 : decode yB 50 = .ok (.iconst 1, 1) := by decide +kernel
theorem d51 : decode yB 51 = .ok (.goto 4, 3) := by decide +kernel
theorem d54 : decode yB 54 = .ok (.iconst 0, 1) := by decide +kernel
theorem d55 : decode yB 55 = .ok (.ireturn, 1) := by decide +kernel
def site : List Cond := [.classLink "java/lang/String" 10 "java/lang/String", .fieldLink "java/lang/String" 38 "java/lang/String" "COMPACT_STRINGS" "Z", .fieldLink "java/lang/String" 15 "java/lang/String" "coder" "B", .fieldLink "java/lang/String" 9 "java/lang/String" "value" "[B", LEq.tab] ++ staticW "java/lang/String" 541 LEq.yN
def tab : Cond := tabOf yN yB 3 (some .boolean) site
def P (x t : Addr) (V : Cell) (cd : Int32) (n : Nat) (f : Nat → Int32) (y t' : Addr) (V' : Cell) (cd' : Int32) (k : Nat) (g : Nat → Int32) (z : Int32) (args : Array Value) (s : State) : Prop := args = #[.ref x, .ref y] ∧ Txt x t V cd n f s ∧ Txt y t' V' cd' k g s ∧ StaticIs s "java/lang/String" "COMPACT_STRINGS" "Z" (.int z) ∧ ¬ z = 0
/-- equals(Object) of two Strings: whether the texts are the same -/
theorem law (l : Launch) (x t : Addr) (V : Cell) (cd : Int32) (n : Nat) (f : Nat → Int32) (y t' : Addr) (V' : Cell) (cd' : Int32) (k : Nat) (g : Nat → Int32) (z : Int32) : Law l yN 2 1 1 14 yB 3 (some .boolean) site (P x t V cd n f y t' V' cd' k g z) (Says01 (SameT n f k g)) [] 0 0 := by
  refine Law.of_walk (plainFor_of_name (by decide +kernel)) (by decide +kernel) (by decide +kernel) (by decide) (fun _ _ h => by rw [h.1]; rfl) (fun _ U U' hal hh h => ⟨h.1, h.2.1.mv hal hh, h.2.2.1.mv hal hh, h.2.2.2.1.there hal hh, h.2.2.2.2⟩) (fun r U U' V V' h1 hal h2 h => Says01.mv r U U' V V' h1 hal h2 h) ?_
  intro p e s m args below meth c s₁ X0 hexec hbytes hml hret hlk hnm hown hh0 W hP
  obtain ⟨rfl, hx, hy, s1, hz⟩ := hP
  have c1 : Steps p.tables e below (s₁.setTop (entryFrame m #[.ref x, .ref y] 3)) (s₁.setTop (mkF m 2 #[.val (.ref x), .val (.ref y), .unset] [.ref y, .ref x])) := Steps.trans (entry rfl) (by
    show Steps p.tables e below (s₁.setTop (mkF m 0 #[.val (.ref x), .val (.ref y), .unset] [])) _
    refine XS.aloadN X0.here hexec rfl (hb hbytes d0) rfl rfl ?_
    refine XS.aloadN X0.here hexec rfl (hb hbytes d1) rfl rfl ?_
    exact Steps.refl _)
  by_cases hxy : x = y
  · have c2 : Steps p.tables e below (s₁.setTop (entryFrame m #[.ref x, .ref y] 3)) (s₁.setTop (mkF m 6 #[.val (.ref x), .val (.ref y), .unset] [.int 1])) := c1.trans (by
      refine acmpNo X0.here hexec rfl (hb hbytes d2) rfl rfl rfl (by simp [acmp, hxy]) ?_
      refine iconstV X0.here hexec rfl 1 (hb hbytes d5) (by decide) ?_
      exact Steps.refl _)
    subst hxy
    have ec : cd = cd' := by
      obtain ⟨D, fd, a1, a2, a3⟩ := hx.2.2.1
      obtain ⟨D', fd', b1, b2, b3⟩ := hy.2.2.1
      cases a1.symm.trans b1
      obtain ⟨q1, q2, q3, q4⟩ := a2.1
      obtain ⟨r1, r2, r3, r4⟩ := b2.1
      cases q4.symm.trans r4
      cases a3.symm.trans b3; rfl
    have et : t = t' := by
      obtain ⟨D, fd, a1, a2, a3⟩ := hx.2.1
      obtain ⟨D', fd', b1, b2, b3⟩ := hy.2.1
      cases a1.symm.trans b1
      obtain ⟨q1, q2, q3, q4⟩ := a2.1
      obtain ⟨r1, r2, r3, r4⟩ := b2.1
      cases q4.symm.trans r4
      cases a3.symm.trans b3; rfl
    subst ec et
    have ev : V = V' := by cases hx.2.2.2.1.1.symm.trans hy.2.2.2.1.1; rfl
    subst ev
    have hs : SameT n f k g := (Cod.eqv hx.2.2.2.2.1 hy.2.2.2.2.1 hx.2.2.2.2.2 hy.2.2.2.2.2).mp ⟨rfl, fun _ _ => rfl⟩
    exact ⟨s₁, some (.int 1), _, _, _, X0, rfl, rfl, rfl, (fun h => by cases h), ⟨1, rfl, hh0, Or.inl ⟨rfl, hs⟩⟩, fun fs hl => c2.trans (X0.ireturnOut hexec hret rfl (Or.inr (Or.inl rfl)) (hb hbytes d6) hl)⟩
  · have c2 : Steps p.tables e below (s₁.setTop (entryFrame m #[.ref x, .ref y] 3)) (s₁.setTop (mkF m 8 #[.val (.ref x), .val (.ref y), .unset] [.ref y])) := c1.trans (by
      refine acmpYes X0.here hexec rfl (pc0 := 2) rfl (hb hbytes d2) rfl rfl rfl (by simp [acmp, hxy]) (by decide) rfl ?_
      refine XS.aloadN X0.here hexec rfl (hb hbytes d7) rfl rfl ?_
      exact Steps.refl _)
    obtain ⟨T3, X3, q3, st3⟩ := cinst X0 hexec hown (wk W (.classLink "java/lang/String" 10 "java/lang/String")) (hy.mv X0.warmed.alike hh0).1 (g := (mkF m 8 #[.val (.ref x), .val (.ref y), .unset] [.ref y])) rfl (rest := []) rfl (hb hbytes d8)
    have hh3 := q3.trans hh0
    have c4 : Steps p.tables e below (s₁.setTop (entryFrame m #[.ref x, .ref y] 3)) (T3.setTop (mkF m 15 #[.val (.ref x), .val (.ref y), .unset] [.ref y])) := (c2.trans (st3 _ (Steps.refl _))).trans (by
      refine XS.ifNo X3.here hexec rfl (hb hbytes d11) rfl (i0_eq_f (by decide)) ?_
      refine XS.aloadN X3.here hexec rfl (hb hbytes d14) rfl rfl ?_
      exact Steps.refl _)
    obtain ⟨T5, X5, q5, st5⟩ := cself X3 hexec hown (wk W (.classLink "java/lang/String" 10 "java/lang/String")) (hy.mv X3.warmed.alike hh3).1 (g := (mkF m 15 #[.val (.ref x), .val (.ref y), .unset] [.ref y])) rfl (rest := []) rfl (hb hbytes d15)
    have hh5 := q5.trans hh3
    have c6 : Steps p.tables e below (s₁.setTop (entryFrame m #[.ref x, .ref y] 3)) (T5.setTop (mkF m 19 #[.val (.ref x), .val (.ref y), .val (.ref y)] [])) := (c4.trans (st5 _ (Steps.refl _))).trans (by
      refine XS.astoreN X5.here hexec rfl (hb hbytes d18) rfl rfl rfl ?_
      exact Steps.refl _)
    obtain ⟨T7, X7, q7, st7⟩ := X5.sget hexec hown (wk W (.fieldLink "java/lang/String" 38 "java/lang/String" "COMPACT_STRINGS" "Z")) s1 (fun _ _ h => by rw [hh5]; exact h) (g := (mkF m 19 #[.val (.ref x), .val (.ref y), .val (.ref y)] [])) rfl (hb hbytes d19)
    have hh7 := q7.trans hh5
    have c8 : Steps p.tables e below (s₁.setTop (entryFrame m #[.ref x, .ref y] 3)) (T7.setTop (mkF m 26 #[.val (.ref x), .val (.ref y), .val (.ref y)] [.ref x])) := (c6.trans (st7 _ (Steps.refl _))).trans (by
      refine XS.ifNo X7.here hexec rfl (hb hbytes d22) rfl (i0_eq_f hz) ?_
      refine XS.aloadN X7.here hexec rfl (hb hbytes d25) rfl rfl ?_
      exact Steps.refl _)
    obtain ⟨T9, X9, q9, st9⟩ := X7.hget hexec hown (wk W (.fieldLink "java/lang/String" 15 "java/lang/String" "coder" "B")) (hx.mv X7.warmed.alike hh7).2.2.1 (g := (mkF m 26 #[.val (.ref x), .val (.ref y), .val (.ref y)] [.ref x])) rfl (rest := []) rfl (hb hbytes d26)
    have hh9 := q9.trans hh7
    have c10 : Steps p.tables e below (s₁.setTop (entryFrame m #[.ref x, .ref y] 3)) (T9.setTop (mkF m 30 #[.val (.ref x), .val (.ref y), .val (.ref y)] [.ref y, .int cd])) := (c8.trans (st9 _ (Steps.refl _))).trans (by
      refine XS.aloadN X9.here hexec rfl (hb hbytes d29) rfl rfl ?_
      exact Steps.refl _)
    obtain ⟨T11, X11, q11, st11⟩ := X9.hget hexec hown (wk W (.fieldLink "java/lang/String" 15 "java/lang/String" "coder" "B")) (hy.mv X9.warmed.alike hh9).2.2.1 (g := (mkF m 30 #[.val (.ref x), .val (.ref y), .val (.ref y)] [.ref y, .int cd])) rfl (rest := [.int cd]) rfl (hb hbytes d30)
    have hh11 := q11.trans hh9
    have c12 : Steps p.tables e below (s₁.setTop (entryFrame m #[.ref x, .ref y] 3)) (T11.setTop (mkF m 33 #[.val (.ref x), .val (.ref y), .val (.ref y)] [.int cd', .int cd])) := c10.trans (st11 _ (Steps.refl _))
    by_cases hcd : cd = cd'
    · subst hcd
      have c13 : Steps p.tables e below (s₁.setTop (entryFrame m #[.ref x, .ref y] 3)) (T11.setTop (mkF m 37 #[.val (.ref x), .val (.ref y), .val (.ref y)] [.ref x])) := c12.trans (by
        refine XS.icmpNo X11.here hexec rfl (hb hbytes d33) rfl (ii_ne_f rfl) ?_
        refine XS.aloadN X11.here hexec rfl (hb hbytes d36) rfl rfl ?_
        exact Steps.refl _)
      obtain ⟨T14, X14, q14, st14⟩ := X11.hget hexec hown (wk W (.fieldLink "java/lang/String" 9 "java/lang/String" "value" "[B")) (hx.mv X11.warmed.alike hh11).2.1 (g := (mkF m 37 #[.val (.ref x), .val (.ref y), .val (.ref y)] [.ref x])) rfl (rest := []) rfl (hb hbytes d37)
      have hh14 := q14.trans hh11
      have c15 : Steps p.tables e below (s₁.setTop (entryFrame m #[.ref x, .ref y] 3)) (T14.setTop (mkF m 41 #[.val (.ref x), .val (.ref y), .val (.ref y)] [.ref y, .ref t])) := (c13.trans (st14 _ (Steps.refl _))).trans (by
        refine XS.aloadN X14.here hexec rfl (hb hbytes d40) rfl rfl ?_
        exact Steps.refl _)
      obtain ⟨T16, X16, q16, st16⟩ := X14.hget hexec hown (wk W (.fieldLink "java/lang/String" 9 "java/lang/String" "value" "[B")) (hy.mv X14.warmed.alike hh14).2.1 (g := (mkF m 41 #[.val (.ref x), .val (.ref y), .val (.ref y)] [.ref y, .ref t])) rfl (rest := [.ref t]) rfl (hb hbytes d41)
      have hh16 := q16.trans hh14
      have c17 : Steps p.tables e below (s₁.setTop (entryFrame m #[.ref x, .ref y] 3)) (T16.setTop (mkF m 44 #[.val (.ref x), .val (.ref y), .val (.ref y)] [.ref t', .ref t])) := c15.trans (st16 _ (Steps.refl _))
      obtain ⟨v18, T18, X18, E18, g18⟩ := X16.callS hexec (LEq.law l t V t' V') hown (wks W (staticW "java/lang/String" 541 LEq.yN)) (wk W LEq.tab) (W := 0) (Nat.le_of_ble_eq_true rfl) (Nat.le_of_ble_eq_true rfl) (Nat.le_refl _) (Nat.le_refl _) (g := (mkF m 44 #[.val (.ref x), .val (.ref y), .val (.ref y)] [.ref t', .ref t])) rfl (by rw [hml]; rfl) c17 (argsL := [.ref t, .ref t']) (rest := []) rfl rfl (by show 2 * 0 + 0 ≤ _; decide) (hb hbytes d44) (⟨rfl, hx.2.2.2.1.mv X16.warmed.alike hh16, hx.2.2.2.2.1.ty, hy.2.2.2.1.mv X16.warmed.alike hh16, hy.2.2.2.2.1.ty⟩)
      obtain ⟨v, rfl, q18, hv⟩ := E18
      have iff := Cod.eqv hx.2.2.2.2.1 hy.2.2.2.2.1 hx.2.2.2.2.2 hy.2.2.2.2.2
      rcases hv with ⟨rfl, he⟩ | ⟨rfl, he⟩
      · have c19 : Steps p.tables e below (s₁.setTop (entryFrame m #[.ref x, .ref y] 3)) (T18.setTop (mkF m 55 #[.val (.ref x), .val (.ref y), .val (.ref y)] [.int 1])) := Steps.trans g18 (by
          refine XS.ifNo X18.here hexec rfl (hb hbytes d47) rfl (i0_eq_f (by decide)) ?_
          refine iconstV X18.here hexec rfl 1 (hb hbytes d50) (by decide) ?_
          refine XS.goto X18.here hexec rfl (pc0 := 51) rfl (hb hbytes d51) (by decide) rfl ?_
          exact Steps.refl _)
        exact ⟨T18, some (.int 1), _, _, _, X18, rfl, rfl, rfl, (fun h => by cases h), ⟨1, rfl, q18.trans hh16, Or.inl ⟨rfl, iff.mp he⟩⟩, fun fs hl => c19.trans (X18.ireturnOut hexec hret rfl (Or.inr (Or.inl rfl)) (hb hbytes d55) hl)⟩
      · have c19 : Steps p.tables e below (s₁.setTop (entryFrame m #[.ref x, .ref y] 3)) (T18.setTop (mkF m 55 #[.val (.ref x), .val (.ref y), .val (.ref y)] [.int 0])) := Steps.trans g18 (by
          refine XS.ifYes X18.here hexec rfl (pc0 := 47) rfl (hb hbytes d47) rfl (i0_eq_t rfl) (by decide) rfl ?_
          refine iconstV X18.here hexec rfl 0 (hb hbytes d54) (by decide) ?_
          exact Steps.refl _)
        exact ⟨T18, some (.int 0), _, _, _, X18, rfl, rfl, rfl, (fun h => by cases h), ⟨0, rfl, q18.trans hh16, Or.inr ⟨rfl, fun q => he (iff.mpr q)⟩⟩, fun fs hl => c19.trans (X18.ireturnOut hexec hret rfl (Or.inr (Or.inl rfl)) (hb hbytes d55) hl)⟩
    · have c13 : Steps p.tables e below (s₁.setTop (entryFrame m #[.ref x, .ref y] 3)) (T11.setTop (mkF m 55 #[.val (.ref x), .val (.ref y), .val (.ref y)] [.int 0])) := c12.trans (by
        refine XS.icmpYes X11.here hexec rfl (pc0 := 33) rfl (hb hbytes d33) rfl (ii_ne_t hcd) (by decide) rfl ?_
        refine iconstV X11.here hexec rfl 0 (hb hbytes d54) (by decide) ?_
        exact Steps.refl _)
      exact ⟨T11, some (.int 0), _, _, _, X11, rfl, rfl, rfl, (fun h => by cases h), ⟨0, rfl, hh11, Or.inr ⟨rfl, Cod.dif hx.2.2.2.2.1 hy.2.2.2.2.1 hcd⟩⟩, fun fs hl => c13.trans (X11.ireturnOut hexec hret rfl (Or.inr (Or.inl rfl)) (hb hbytes d55) hl)⟩
theorem pays {l : Launch} {R : Room} {p : Program} {e : Env} {below : List Frame} {s : State} {sargs : Array Value} {len W : Nat} (x t : Addr) (V : Cell) (cd : Int32) (n : Nat) (f : Nat → Int32) (y t' : Addr) (V' : Cell) (cd' : Int32) (k : Nat) (g : Nat → Int32) (z : Int32) (htab : tab.before sargs s = true) (hfr : 2 ≤ R.frames) (hlo : W + 28 ≤ R.locals) :
    Back l R p e below s sargs yN len W (fun A₁ a₁ => A₁.cells + 0 ≤ R.cells ∧ A₁.slots + 0 ≤ R.slots ∧ P x t V cd n f y t' V' cd' k g z a₁ A₁.U) (fun A₁ _ v₁ B₁ => Says01 (SameT n f k g) v₁ A₁.U B₁.U ∧ B₁.locs = A₁.locs ++ [] ∧ B₁.cells = A₁.cells + 0 ∧ B₁.slots = A₁.slots + 0) :=
  (law l x t V cd n f y t' V' cd' k g z).pays htab hfr (by omega)
end SEq
end StrChars
namespace StrChars.Road
open Jvm Sem ClassFile Op Lib Jvm.Stand Jvm.Free Jvm.Free.XT
open Jvm.Lib.Cold (StaticIs)
/-- the words of String.equals(Object) -/
abbrev wordsEq : List Jvm.Cond := [.code SEq.yN SEq.yB 3 (some .boolean), .initialized ST, .classLink ST 10 ST, .fieldLink ST 38 ST "COMPACT_STRINGS" "Z", .fieldLink ST 15 ST "coder" "B", .fieldLink ST 9 ST "value" "[B", .methodLink ST 541 LEq.yN, .static LEq.yN, .code LEq.yN LEq.yB 3 (some .boolean), .initialized "java/lang/StringLatin1"]
theorem tabEq_of {a : Array Value} {s : State} (h : ∀ w ∈ wordsEq, w.before a s = true) : SEq.tab.before a s = true := by
  have hl : LEq.tab.before a s = true := unparts (wk h (.code LEq.yN LEq.yB 3 (some .boolean))) (wks h (.initialized LEq.yN.cls :: LEq.site))
  have q := consq hl h
  exact unparts (wk q (.code SEq.yN SEq.yB 3 (some .boolean))) (wks q (.initialized SEq.yN.cls :: SEq.site))
theorem movedEq {Z s : State} {a0 args : Array Value} (hZ : Z.Warmed39 s.vm) (hw : ∀ d ∈ wordsEq, d.before a0 Z = true) : ∀ d ∈ wordsEq, d.before args s = true := fun d hd => by
  have t : ∀ d ∈ wordsEq, (d.onTables && d.keepsFace) = true := by decide +kernel
  exact RoadKit.mv hZ (hw d hd) (t d hd)
/-- the road's facts of a String, as the laws ask it -/
theorem txt_of {Z U : State} {a0 : Array Value} {kI : Nat} (wi : (Jvm.Cond.instantiable ST kI).before a0 Z = true) (al : Z.vm.Alike U.vm) {x t : Addr} {kb : ClassId} {cs : List Int32} {cd N2 : Int32} {vs : List Value} (E : RoadKit.Exa Z U.heap x ST) (V : RoadKit.Fld Z U.heap x ST "value" "[B" (.ref t)) (C : RoadKit.Fld Z U.heap x ST "coder" "B" (.int cd)) (K : RoadKit.Arv Z U.heap t kb .byte N2 vs (.int 0)) (hc : CodA cs cd N2 vs) (hb : ∀ c ∈ cs, ¬ c < 0 ∧ ¬ (65535 : Int32) < c) (l2 : cs.length ≤ 4000) :
    ∃ A, Txt x t A cd cs.length (fun j => cs.getD j 0) U := by
  obtain ⟨A, K1, K2, K3, K4, K5, K6⟩ := K
  have hcod := hc.cod (by omega) K3 K5
  obtain ⟨D, fV, fC, hB, F1, F2, g1, g2, -, -⟩ := strObj wi al E V C
  exact ⟨A, ⟨_, hB.2.2.1, D, hB.1, rfl, by cases q : D.vm <;> first | rfl | exact absurd q (hB.2.1.2 _)⟩, Has.of hB F1 g1, Has.of hB F2 g2, ⟨K1.1, State.isArrayOf_alike al K1.2.1, K1.2.2, by rcases hcod with ⟨-, q, -⟩ | ⟨-, q, -⟩ <;> omega⟩, hcod, fun j hj => by
    have e : cs.getD j 0 = cs[j] := by simp [List.getD_eq_getElem?_getD, hj]
    show ¬ cs.getD j 0 < 0 ∧ ¬ 65535 < cs.getD j 0
    rw [e]; exact hb _ (List.getElem_mem _)⟩
theorem same_list (cs ds : List Int32) : SameT cs.length (fun j => cs.getD j 0) ds.length (fun j => ds.getD j 0) ↔ cs = ds := by
  constructor
  · rintro ⟨e, q⟩
    refine List.ext_getElem e fun j h1 h2 => ?_
    have := q j h1
    simpa [List.getD_eq_getElem?_getD, h1, h2] using this
  · rintro rfl
    exact ⟨rfl, fun _ _ => rfl⟩
/-- **equals(Object) OF TWO SUCH STRINGS**: 1 just where the chars are the same -/
theorem eqW {p : Program} {l : Launch} {e : Env} {R : Room} {s : State} {args : Array Value} {below : List Frame} {len W : Nat} {Z : State} {a0 : Array Value} {h : Heap} (hZ : Z.Warmed39 s.vm) (hw : ∀ d ∈ wordsEq, d.before a0 Z = true) {kI : Nat} (wi : (Jvm.Cond.instantiable ST kI).before a0 Z = true)
    {x t : Addr} {kb : ClassId} {cs : List Int32} {cd N2 : Int32} {vs : List Value} (E : RoadKit.Exa Z h x ST) (V : RoadKit.Fld Z h x ST "value" "[B" (.ref t)) (C : RoadKit.Fld Z h x ST "coder" "B" (.int cd)) (K : RoadKit.Arv Z h t kb .byte N2 vs (.int 0)) (hc : CodA cs cd N2 vs) (hb : ∀ c ∈ cs, ¬ c < 0 ∧ ¬ (65535 : Int32) < c) (l2 : cs.length ≤ 4000)
    {y t' : Addr} {kb' : ClassId} {ds : List Int32} {cd' N2' : Int32} {vs' : List Value} (E' : RoadKit.Exa Z h y ST) (V' : RoadKit.Fld Z h y ST "value" "[B" (.ref t')) (C' : RoadKit.Fld Z h y ST "coder" "B" (.int cd')) (K' : RoadKit.Arv Z h t' kb' .byte N2' vs' (.int 0)) (hc' : CodA ds cd' N2' vs') (hb' : ∀ c ∈ ds, ¬ c < 0 ∧ ¬ (65535 : Int32) < c) (l2' : ds.length ≤ 4000)
    {z : Int32} (S : RoadKit.Sta Z h ST "COMPACT_STRINGS" "Z" (.int z)) (hz : ¬ z = 0) (hfr : 2 ≤ R.frames) (hlo : W + 28 ≤ R.locals) :
    Back l R p e below s args (⟨"java/lang/String", "equals", "(Ljava/lang/Object;)Z"⟩ : MethodName) len W (fun P a => a = #[.ref x, .ref y] ∧ P.U.heap = h ∧ P.cells + 0 ≤ R.cells ∧ P.slots + 0 ≤ R.slots)
      (fun P _ v B => ∃ L, (((v = some (.int 1) ∧ cs = ds) ∨ (v = some (.int 0) ∧ ¬ cs = ds)) ∧ L = [] ∧ B.U.heap = h) ∧ B.locs = P.locs ++ L ∧ B.cells = P.cells + 0 ∧ B.slots = P.slots + 0) := by
  intro m meth c P g ig mk a X hg hsize hdg hW hn hp'
  obtain ⟨rfl, rfl, r1, r2⟩ := hp'
  have al : Z.vm.Alike P.U.vm := hZ.alike.trans X.warmed.alike
  obtain ⟨A, hx⟩ := txt_of wi al E V C K hc hb l2
  obtain ⟨A', hy⟩ := txt_of wi al E' V' C' K' hc' hb' l2'
  obtain ⟨v, B, X', ⟨⟨w, hv, hh, hq⟩, hl, hk, hs⟩, st⟩ := SEq.pays x t A cd cs.length (fun j => cs.getD j 0) y t' A' cd' ds.length (fun j => ds.getD j 0) z (tabEq_of (movedEq hZ hw)) hfr hlo m meth c P g ig mk _ X hg hsize hdg hW hn ⟨r1, r2, rfl, hx, hy, sta_is al S, hz⟩
  refine ⟨v, B, X', ⟨[], ⟨?_, rfl, hh⟩, hl, hk, hs⟩, st⟩
  rcases hq with ⟨rfl, q⟩ | ⟨rfl, q⟩
  · exact Or.inl ⟨hv, (same_list cs ds).mp q⟩
  · exact Or.inr ⟨hv, fun e => q ((same_list cs ds).mpr e)⟩
end StrChars.Road
namespace StrChars
open Jvm Sem ClassFile Op Lib Jvm.Stand Jvm.Free.XT Jvm.Free.ALB Jvm.Free.JM Jvm.Free
open Jvm.Lib.Cold (StaticIs)
namespace ChN
def yN : MethodName := ⟨"java/lang/String", "charAt", "(I)C"⟩
abbrev yB : ByteArray := jdk_42_method_56_code
theorem d0 : decode yB 0 = .ok (.aload_n 0, 1) := by decide +kernel
theorem d1 : decode yB 1 = .ok (.invokevirtual 492, 3) := by decide +kernel
theorem d4 : decode yB 4 = .ok (.ifCond (.eq) 12, 3) := by decide +kernel
theorem d7 : decode yB 7 = .ok (.aload_n 0, 1) := by decide +kernel
theorem d8 : decode yB 8 = .ok (.getfield 9, 3) := by decide +kernel
theorem d11 : decode yB 11 = .ok (.iload_n 1, 1) := by decide +kernel
theorem d12 : decode yB 12 = .ok (.invokestatic 495, 3) := by decide +kernel
theorem d15 : decode yB 15 = .ok (.ireturn, 1) := by decide +kernel
def site : List Cond := [.fieldLink "java/lang/String" 9 "java/lang/String" "value" "[B", IsL.tab, LChA.tab] ++ virtW "java/lang/String" 492 "java/lang/String" IsL.yN IsL.yN ++ staticW "java/lang/String" 495 LChA.yN
def tab : Cond := tabOf yN yB 2 (some .char) site
def P (x t : Addr) (V : Cell) (n : Nat) (f : Nat → Int32) (z : Int32) (fm : Value) (i : Nat) (args : Array Value) (s : State) : Prop := args = #[.ref x, .int (Int32.ofNat i)] ∧ Txt x t V 0 n f s ∧ i < n ∧ StaticIs s "java/lang/String" "COMPACT_STRINGS" "Z" (.int z) ∧ ¬ z = 0 ∧ StaticIs s "jdk/internal/util/Preconditions" "SIOOBE_FORMATTER" "Ljava/util/function/BiFunction;" fm ∧ fm.isRef = true
def E (f : Nat → Int32) (i : Nat) (r : Option Value) (s u : State) : Prop := XT.PureE (some (.int (f i))) r s u
/-- charAt(i) of a Latin-1 String of n chars, i < n: f i -/
theorem law (l : Launch) (x t : Addr) (V : Cell) (n : Nat) (f : Nat → Int32) (z : Int32) (fm : Value) (i : Nat) : Law l yN 2 1 3 40 yB 2 (some .char) site (P x t V n f z fm i) (E f i) [] 0 0 := by
  refine Law.of_walk (plainFor_of_name (by decide +kernel)) (by decide +kernel) (by decide +kernel) (by decide) (fun _ _ h => by rw [h.1]; rfl) (fun _ U U' hal hh h => ⟨h.1, h.2.1.mv hal hh, h.2.2.1, h.2.2.2.1.there hal hh, h.2.2.2.2.1, h.2.2.2.2.2.1.there hal hh, h.2.2.2.2.2.2⟩) (fun r U U' V V' h1 hal h2 h => XT.PureE.mv r U U' V V' h1 hal h2 h) ?_
  intro p e s m args below meth c s₁ X0 hexec hbytes hml hret hlk hnm hown hh0 W hP
  obtain ⟨rfl, hx, hi, s1, hz, s3, rf⟩ := hP
  have v31 := hx.2.2.2.1.2.2.2
  have hr := hx.2.2.2.2.2 i hi
  have hx0 := hx.mv X0.warmed.alike hh0
  have c1 : Steps p.tables e below (s₁.setTop (entryFrame m #[.ref x, .int (Int32.ofNat i)] 2)) (s₁.setTop (mkF m 1 #[.val (.ref x), .val (.int (Int32.ofNat i))] [.ref x])) := Steps.trans (entry rfl) (by
    show Steps p.tables e below (s₁.setTop (mkF m 0 #[.val (.ref x), .val (.int (Int32.ofNat i))] [])) _
    refine XS.aloadN X0.here hexec rfl (hb hbytes d0) rfl rfl ?_
    exact Steps.refl _)
  obtain ⟨v2, T2, X2, E2, g2⟩ := X0.callV hexec (IsL.law l x 0 z) hown (wks W (virtW "java/lang/String" 492 "java/lang/String" IsL.yN IsL.yN)) rfl (by decide) (wk W IsL.tab) (W := 0) (Nat.le_of_ble_eq_true rfl) (Nat.le_of_ble_eq_true rfl) (Nat.le_refl _) (Nat.le_refl _) (hx0.1.fc X0.warmed.alike) hx0.1.is (g := (mkF m 1 #[.val (.ref x), .val (.int (Int32.ofNat i))] [.ref x])) rfl (by rw [hml]; rfl) c1 (argsL := []) (rest := []) rfl rfl (by show 2 * 0 + 0 ≤ _; decide) (hb hbytes d1) (⟨rfl, hx0.2.2.1, hx.2.2.2.2.1.cd, s1.there X0.warmed.alike hh0, hz⟩)
  obtain ⟨rfl, q2⟩ := E2
  have hh2 := q2.trans hh0
  have hx2 := hx.mv X2.warmed.alike hh2
  obtain ⟨-, k1, k2⟩ | ⟨k0, -⟩ := hx.2.2.2.2.1
  · have c3 : Steps p.tables e below (s₁.setTop (entryFrame m #[.ref x, .int (Int32.ofNat i)] 2)) (T2.setTop (mkF m 8 #[.val (.ref x), .val (.int (Int32.ofNat i))] [.ref x])) := Steps.trans g2 (by
      refine XS.ifNo X2.here hexec rfl (hb hbytes d4) rfl (i0_eq_f (by decide)) ?_
      refine XS.aloadN X2.here hexec rfl (hb hbytes d7) rfl rfl ?_
      exact Steps.refl _)
    obtain ⟨T4, X4, q4, st4⟩ := X2.hget hexec hown (wk W (.fieldLink "java/lang/String" 9 "java/lang/String" "value" "[B")) hx2.2.1 (g := (mkF m 8 #[.val (.ref x), .val (.int (Int32.ofNat i))] [.ref x])) rfl (rest := []) rfl (hb hbytes d8)
    have hh4 := q4.trans hh2
    have c5 : Steps p.tables e below (s₁.setTop (entryFrame m #[.ref x, .int (Int32.ofNat i)] 2)) (T4.setTop (mkF m 12 #[.val (.ref x), .val (.int (Int32.ofNat i))] [.int (Int32.ofNat i), .ref t])) := (c3.trans (st4 _ (Steps.refl _))).trans (by
      refine XS.iloadN X4.here hexec rfl (hb hbytes d11) rfl ?_
      exact Steps.refl _)
    obtain ⟨v6, T6, X6, E6, g6⟩ := X4.callS hexec (LChA.law l t V i (lo8 (f i)) fm) hown (wks W (staticW "java/lang/String" 495 LChA.yN)) (wk W LChA.tab) (W := 0) (Nat.le_of_ble_eq_true rfl) (Nat.le_of_ble_eq_true rfl) (Nat.le_refl _) (Nat.le_refl _) (g := (mkF m 12 #[.val (.ref x), .val (.int (Int32.ofNat i))] [.int (Int32.ofNat i), .ref t])) rfl (by rw [hml]; rfl) c5 (argsL := [.ref t, .int (Int32.ofNat i)]) (rest := []) rfl rfl (by show 2 * 0 + 0 ≤ _; decide) (hb hbytes d12) (⟨rfl, hx.2.2.2.1.mv X4.warmed.alike hh4, (k2 i hi).1, s3.there X4.warmed.alike hh4, rf⟩)
    obtain ⟨rfl, q6⟩ := E6
    rw [chr8_lo8 hr.1 (k2 i hi).2] at g6
    exact ⟨T6, some (.int (f i)), _, _, _, X6, rfl, rfl, rfl, (fun h => by cases h), ⟨rfl, q6.trans hh4⟩, fun fs hl => Steps.trans g6 (X6.ireturnOut hexec hret (narrow_ch hr.1 hr.2) (Or.inr (Or.inr (Or.inr (Or.inl rfl)))) (hb hbytes d15) hl)⟩
  · exact absurd k0 (by decide)
theorem pays {l : Launch} {R : Room} {p : Program} {e : Env} {below : List Frame} {s : State} {sargs : Array Value} {len W : Nat} (x t : Addr) (V : Cell) (n : Nat) (f : Nat → Int32) (z : Int32) (fm : Value) (i : Nat) (htab : tab.before sargs s = true) (hfr : 4 ≤ R.frames) (hlo : W + 53 ≤ R.locals) :
    Back l R p e below s sargs yN len W (fun A₁ a₁ => A₁.cells + 0 ≤ R.cells ∧ A₁.slots + 0 ≤ R.slots ∧ P x t V n f z fm i a₁ A₁.U) (fun A₁ _ v₁ B₁ => E f i v₁ A₁.U B₁.U ∧ B₁.locs = A₁.locs ++ [] ∧ B₁.cells = A₁.cells + 0 ∧ B₁.slots = A₁.slots + 0) :=
  (law l x t V n f z fm i).pays htab hfr (by omega)
end ChN
end StrChars
namespace StrChars.Road
open Jvm Sem ClassFile Op Lib Jvm.Stand Jvm.Free Jvm.Free.XT
open Jvm.Lib.Cold (StaticIs)
/-- the words of String.charAt(int), the Latin-1 road alone -/
abbrev wordsChN : List Jvm.Cond := [.code ChN.yN ChN.yB 2 (some .char), .initialized ST, .fieldLink ST 9 ST "value" "[B", .fieldLink ST 38 ST "COMPACT_STRINGS" "Z", .fieldLink ST 15 ST "coder" "B", .code IsL.yN IsL.yB 1 (some .boolean), .methodLink ST 492 IsL.yN, .declares IsL.yN, .selects ST IsL.yN IsL.yN, .instanceMethod IsL.yN,
  .methodLink ST 495 LChA.yN, .static LChA.yN, .code LChA.yN LChA.yB 2 (some .char), .initialized "java/lang/StringLatin1", .methodLink "java/lang/StringLatin1" 9 JO.Str_checkIndex.yN, .static JO.Str_checkIndex.yN, .code JO.Str_checkIndex.yN JO.Str_checkIndex.yB 2 none,
  .fieldLink ST 1053 "jdk/internal/util/Preconditions" "SIOOBE_FORMATTER" "Ljava/util/function/BiFunction;", .methodLink ST 1059 JC.PreCheck.yN, .static JC.PreCheck.yN, .code JC.PreCheck.yN JC.PreCheck.yB 3 (some .int), .initialized "jdk/internal/util/Preconditions"]
theorem tabChN_of {a : Array Value} {s : State} (h : ∀ w ∈ wordsChN, w.before a s = true) : ChN.tab.before a s = true := by
  have hp : JC.PreCheck.tab.before a s = true := unparts (wk h (.code JC.PreCheck.yN JC.PreCheck.yB 3 (some .int))) (wks h (.initialized JC.PreCheck.yN.cls :: JC.PreCheck.site))
  have qk := consq hp h
  have hk : JO.Str_checkIndex.tab.before a s = true := unparts (wk qk (.code JO.Str_checkIndex.yN JO.Str_checkIndex.yB 2 none)) (wks qk (.initialized JO.Str_checkIndex.yN.cls :: JO.Str_checkIndex.site))
  have ql := consq hk h
  have hl : LChA.tab.before a s = true := unparts (wk ql (.code LChA.yN LChA.yB 2 (some .char))) (wks ql (.initialized LChA.yN.cls :: LChA.site))
  have hi : IsL.tab.before a s = true := unparts (wk h (.code IsL.yN IsL.yB 1 (some .boolean))) (wks h (.initialized IsL.yN.cls :: IsL.site))
  have q := consq hi (consq hl h)
  exact unparts (wk q (.code ChN.yN ChN.yB 2 (some .char))) (wks q (.initialized ChN.yN.cls :: ChN.site))
theorem movedChN {Z s : State} {a0 args : Array Value} (hZ : Z.Warmed39 s.vm) (hw : ∀ d ∈ wordsChN, d.before a0 Z = true) : ∀ d ∈ wordsChN, d.before args s = true := fun d hd => by
  have t : ∀ d ∈ wordsChN, (d.onTables && d.keepsFace) = true := by decide +kernel
  exact RoadKit.mv hZ (hw d hd) (t d hd)
/-- **charAt(i) OF A LATIN-1 STRING**, i < n: the char -/
theorem chN {p : Program} {l : Launch} {e : Env} {R : Room} {s : State} {args : Array Value} {below : List Frame} {len W : Nat} {Z : State} {a0 : Array Value} {h : Heap} (hZ : Z.Warmed39 s.vm) (hw : ∀ d ∈ wordsChN, d.before a0 Z = true) {kI : Nat} (wi : (Jvm.Cond.instantiable ST kI).before a0 Z = true)
    {x t : Addr} {kb : ClassId} {cs : List Int32} {N2 z : Int32} {vs : List Value} {fm : Value} {i : Nat} {j : Int32} (E : RoadKit.Exa Z h x ST) (V : RoadKit.Fld Z h x ST "value" "[B" (.ref t)) (C : RoadKit.Fld Z h x ST "coder" "B" (.int 0)) (K : RoadKit.Arv Z h t kb .byte N2 vs (.int 0)) (hc : CodA cs 0 N2 vs) (hb : ∀ c ∈ cs, ¬ c < 0 ∧ ¬ (65535 : Int32) < c)
    (S : RoadKit.Sta Z h ST "COMPACT_STRINGS" "Z" (.int z)) (hz : ¬ z = 0) (F : RoadKit.Sta Z h "jdk/internal/util/Preconditions" "SIOOBE_FORMATTER" "Ljava/util/function/BiFunction;" fm) (rf : fm.isRef = true) (l2 : cs.length ≤ 4000) (hi : i < cs.length) (hj : j = Int32.ofNat i) (hfr : 4 ≤ R.frames) (hlo : W + 53 ≤ R.locals) :
    Back l R p e below s args (⟨"java/lang/String", "charAt", "(I)C"⟩ : MethodName) len W (fun P a => a = #[.ref x, .int j] ∧ P.U.heap = h ∧ P.cells + 0 ≤ R.cells ∧ P.slots + 0 ≤ R.slots)
      (fun P _ v B => ∃ L, (v = some (.int (cs.getD i 0)) ∧ L = [] ∧ B.U.heap = h) ∧ B.locs = P.locs ++ L ∧ B.cells = P.cells + 0 ∧ B.slots = P.slots + 0) := by
  subst hj
  intro m meth c P g ig mk a X hg hsize hdg hW hn hp'
  obtain ⟨rfl, rfl, r1, r2⟩ := hp'
  have al : Z.vm.Alike P.U.vm := hZ.alike.trans X.warmed.alike
  obtain ⟨A, hx⟩ := txt_of wi al E V C K hc hb l2
  obtain ⟨v, B, X', ⟨⟨hv, hh⟩, hl, hk, hs⟩, st⟩ := ChN.pays x t A cs.length (fun j => cs.getD j 0) z fm i (tabChN_of (movedChN hZ hw)) hfr hlo m meth c P g ig mk _ X hg hsize hdg hW hn ⟨r1, r2, rfl, hx, hi, sta_is al S, hz, sta_is al F, rf⟩
  exact ⟨v, B, X', ⟨[], ⟨hv, rfl, hh⟩, hl, hk, hs⟩, st⟩
end StrChars.Road
end Jvm.Pilot.@@N@@
namespace Jvm.RoadKit
open Sem ClassFile Op Lib Jvm.Stand Jvm.Free Jvm.LawKit
section New
variable {p : Program} {l : Launch} {e : Env} {R : Room} {s : State} {m : MethodId} {args : Array Value} {below : List Frame} {meth : Method} {c : Code} {T : State} {locs : List Loc} {cells slots : Nat}
theorem retI (X : Stand p l e R s m args below meth c T locs cells slots) (hx : p.tables.exec = Jvm.exec) {pc : Nat} {Ls : Array Slot} {z : Int32} {rest : List Value} (hret : meth.sig.returnType = some .int) (hd : decode c.code pc = .ok (.ireturn, 1)) {fs : List Frame}
    (hl : ∀ (f : JFrame) (acts : List Action), f.method = m → f.locked = none → f.entered = [] → (doReturn e (T.setTop f) acts (some (.int z))).1 = T.setFrames fs) : Steps p.tables e below (T.setTop (mkF m pc Ls (.int z :: rest))) (T.setFrames fs) := by
  have hm' : T.vm.method? m = some meth := X.method'
  have hn : narrow .int (.int z) = .int z := rfl
  show Steps p.tables e below (T.setTop { method := m, pc := pc, locals := Ls, stack := _ :: rest, locked := none }) _
  jvm_step X.here [X.here.top, hx, hd, hm', hret, hn]
  first | (intro acts; rw [hl _ acts rfl rfl rfl]) | rw [hl _ _ rfl rfl rfl]
  exact Steps.refl _
end New
end Jvm.RoadKit
namespace Jvm.Pilot.@@N@@
open Jvm Jvm.ClassFile Sem Op Lib Jvm.Free Jvm.Stand Jvm.LawKit Jvm.RoadKit Bundle Jvm.Pilot.@@N@@.Jvm.D
theorem own_le {a b : Nat} (h : a = b) : 2 * 0 + a ≤ b := by omega
theorem own_m (i : Nat) {d : Jvm.Cond} (h : tables_1[i]? = some d) : d ∈ tables_1 := List.mem_of_getElem? h
/-- from the state T at the frame g the method comes to its return, with Q of what it returns -/
def own_Goes (tb : Tables) (e : Env) (below : List Frame) (s : State) (Q : Option Value → Heap → List Loc → Prop) (rc rs : Nat) (T : State) (g : JFrame) : Prop :=
  ∃ s₂ o, Steps tb e below (T.setTop g) s₂ ∧ s₂.status = .running ∧ Ended s₂ below o ∧ ∃ v L, o = .returned v ∧ Q v s₂.heap L ∧ FrameEnd s o s₂ L rc rs
theorem own_by {tb : Tables} {e : Env} {below : List Frame} {s : State} {Q : Option Value → Heap → List Loc → Prop} {rc rs : Nat} {T T' : State} {g g' : JFrame} (h : ∀ t, Steps tb e below (T'.setTop g') t → Steps tb e below (T.setTop g) t) (k : own_Goes tb e below s Q rc rs T' g') : own_Goes tb e below s Q rc rs T g := by
  obtain ⟨s₂, o, h1, h2⟩ := k
  exact ⟨s₂, o, h _ h1, h2⟩
section OwnRet
variable {p : Program} {l : Launch} {e : Env} {R : Room} {s : State} {m : MethodId} {args : Array Value} {below : List Frame} {meth : Method} {c : Code} {T : State} {locs : List Loc} {cells slots : Nat} {Q : Option Value → Heap → List Loc → Prop} {rc rs : Nat} {pc : Nat} {Ls : Array Slot} {rest : List Value}
theorem own_retI (X : Stand p l e R s m args below meth c T locs cells slots) (hx : p.tables.exec = Jvm.exec) {z : Int32} (hlk : meth.locks = false) (hret : meth.sig.returnType = some .int) (hd : decode c.code pc = .ok (.ireturn, 1)) (hc : cells ≤ rc) (hs : slots ≤ rs)
    (hQ : Q (some (.int z)) T.heap locs) : own_Goes p.tables e below s Q rc rs T (mkF m pc Ls (.int z :: rest)) := by
  obtain ⟨fs, hr, hrun, hended, hW, hsame⟩ := X.leave (v := some (.int z)) (fun h => by rw [hret] at h; cases h)
  exact ⟨_, _, retI X hx hret hd hr, hrun, hended, _, _, rfl, hQ, ⟨_, rfl⟩, hW, hsame.mono hc hs⟩
theorem own_retN (X : Stand p l e R s m args below meth c T locs cells slots) (hx : p.tables.exec = Jvm.exec) {z : Int32} {t : FieldType} (hlk : meth.locks = false) (hret : meth.sig.returnType = some t) (ht : t = .boolean ∨ t = .byte ∨ t = .char ∨ t = .short) (hd : decode c.code pc = .ok (.ireturn, 1)) (hc : cells ≤ rc) (hs : slots ≤ rs)
    (hQ : Q (some (.int (nar t z))) T.heap locs) : own_Goes p.tables e below s Q rc rs T (mkF m pc Ls (.int z :: rest)) := by
  obtain ⟨fs, hr, hrun, hended, hW, hsame⟩ := X.leave (v := some (.int (nar t z))) (fun h => by rw [hret] at h; cases h)
  exact ⟨_, _, retN X hx hret ht hd hr, hrun, hended, _, _, rfl, hQ, ⟨_, rfl⟩, hW, hsame.mono hc hs⟩
theorem own_retV (X : Stand p l e R s m args below meth c T locs cells slots) (hx : p.tables.exec = Jvm.exec) (hlk : meth.locks = false) (hret : meth.sig.returnType = none) (hd : decode c.code pc = .ok (.return_, 1)) (hc : cells ≤ rc) (hs : slots ≤ rs)
    (hQ : Q none T.heap locs) : own_Goes p.tables e below s Q rc rs T (mkF m pc Ls []) := by
  obtain ⟨fs, hr, hrun, hended, hW, hsame⟩ := X.leave (v := none) (fun _ => rfl)
  exact ⟨_, _, X.returnOut hx hret hd hr, hrun, hended, _, _, rfl, hQ, ⟨_, rfl⟩, hW, hsame.mono hc hs⟩
theorem own_retJ (X : Stand p l e R s m args below meth c T locs cells slots) (hx : p.tables.exec = Jvm.exec) {z : Int64} (hlk : meth.locks = false) (hret : meth.sig.returnType = some .long) (hd : decode c.code pc = .ok (.lreturn, 1)) (hc : cells ≤ rc) (hs : slots ≤ rs)
    (hQ : Q (some (.long z)) T.heap locs) : own_Goes p.tables e below s Q rc rs T (mkF m pc Ls (.long z :: rest)) := by
  obtain ⟨fs, hr, hrun, hended, hW, hsame⟩ := X.leave (v := some (.long z)) (fun h => by rw [hret] at h; cases h)
  exact ⟨_, _, retOut X hx hret rfl (Or.inr (Or.inl ⟨rfl, rfl, _, rfl⟩)) hd hr, hrun, hended, _, _, rfl, hQ, ⟨_, rfl⟩, hW, hsame.mono hc hs⟩
theorem own_retA (X : Stand p l e R s m args below meth c T locs cells slots) (hx : p.tables.exec = Jvm.exec) {w : Value} {t : FieldType} (hlk : meth.locks = false) (hret : meth.sig.returnType = some t) (ht : t.isReference = true) (hw : w.isRef = true) (hn : narrow t w = w) (hd : decode c.code pc = .ok (.areturn, 1)) (hc : cells ≤ rc) (hs : slots ≤ rs)
    (hQ : Q (some w) T.heap locs) : own_Goes p.tables e below s Q rc rs T (mkF m pc Ls (w :: rest)) := by
  obtain ⟨fs, hr, hrun, hended, hW, hsame⟩ := X.leave (v := some w) (fun h => by rw [hret] at h; cases h)
  exact ⟨_, _, retOut X hx hret hn (Or.inr (Or.inr (Or.inr (Or.inr ⟨rfl, ht, hw⟩)))) hd hr, hrun, hended, _, _, rfl, hQ, ⟨_, rfl⟩, hW, hsame.mono hc hs⟩
end OwnRet
theorem own_nsE {Z : State} {h : Heap} {a : Addr} {C : String} (E : Exa Z h a C) : ∃ c : Cell, h[a]? = some c ∧ c.vm.isStatics = false := by
  obtain ⟨c, k, h1, -, -, h4, -⟩ := E
  exact ⟨c, h1, h4⟩
theorem own_nsV {Z : State} {h : Heap} {a : Addr} {k : ClassId} {ty : FieldType} {n : Int32} {vs : List Value} {d : Value} (F : Arv Z h a k ty n vs d) : ∃ c : Cell, h[a]? = some c ∧ c.vm.isStatics = false := by
  obtain ⟨c, A, -⟩ := F
  exact ⟨c, A.1, A.plain⟩
theorem own_staKeep {Z : State} {h h' : Heap} {C n d : String} {v : Value} {ws : List Addr} (S : Sta Z h C n d v) (K : Keep h h' ws) (q : ∀ x ∈ ws, ∃ c : Cell, h[x]? = some c ∧ c.vm.isStatics = false) : Sta Z h' C n d v := by
  obtain ⟨cf, i, k, f, st, cell, h1, h2, h3, h4, h5, h6, h7⟩ := S
  refine ⟨cf, i, k, f, st, cell, h1, h2, h3, h4, K.2.1 st cell h5 (fun hin => ?_), h6, h7⟩
  obtain ⟨c, hc, hs⟩ := q st hin
  rw [h5] at hc
  cases hc
  rw [h6] at hs
  cases hs
theorem own_arrKeep {Z : State} {h h' : Heap} {a : Addr} {c : Cell} {ty : FieldType} {ws : List Addr} (A : Arr Z h a c ty) (K : Keep h h' ws) (q : a ∉ ws) : Arr Z h' a c ty := ⟨K.2.1 a c A.1 q, A.2⟩
/-- own_Goes for a method that may intern String constants -/
def own_GoesW (tb : Tables) (e : Env) (below : List Frame) (s : State) (Q : Option Value → Heap → List Loc → Prop) (rc rs : Nat) (T : State) (g : JFrame) : Prop :=
  ∃ s₂ o, Steps tb e below (T.setTop g) s₂ ∧ s₂.status = .running ∧ Ended s₂ below o ∧ ∃ v L, o = .returned v ∧ Q v s₂.heap L ∧ ReturnedEndW s o s₂ L rc rs
theorem own_byW {tb : Tables} {e : Env} {below : List Frame} {s : State} {Q : Option Value → Heap → List Loc → Prop} {rc rs : Nat} {T T' : State} {g g' : JFrame} (h : ∀ t, Steps tb e below (T'.setTop g') t → Steps tb e below (T.setTop g) t) (k : own_GoesW tb e below s Q rc rs T' g') : own_GoesW tb e below s Q rc rs T g := by
  obtain ⟨s₂, o, h1, h2⟩ := k
  exact ⟨s₂, o, h _ h1, h2⟩
theorem own_endW {s : State} {vm0 : Vm} {k0 : Nat} {T : State} {fs : List Frame} {v : Option Value} {L : List Loc} {cells slots rc rs : Nat} (hS : s.Since vm0 k0) (hk : k0 ≤ T.heap.size) (hW : (s.setVm vm0).WarmedH (T.setFrames fs).vm) (hsame : (s.setVm vm0).sameButNew ({ T.setFrames fs with vm := (s.setVm vm0).vm } : State) L cells slots) (hc : cells ≤ rc) (hs : slots ≤ rs) : ReturnedEndW s (.returned v) (T.setFrames fs) L rc rs := by
  have q : s.Since (T.setFrames fs).vm T.heap.size := hS.trans (hW.since _) hk
  exact ⟨⟨v, rfl⟩, q.1, q.2, (hsame.setVm s.vm).mono hc hs⟩
section OwnRetW
variable {p : Program} {l : Launch} {e : Env} {R : Room} {s : State} {vm0 : Vm} {k0 : Nat} {m : MethodId} {args : Array Value} {below : List Frame} {meth : Method} {c : Code} {T : State} {locs : List Loc} {cells slots : Nat} {Q : Option Value → Heap → List Loc → Prop} {rc rs : Nat} {pc : Nat} {Ls : Array Slot} {rest : List Value}
theorem own_retNW (X : Stand p l e R (s.setVm vm0) m args below meth c T locs cells slots) (hS : s.Since vm0 k0) (hk : k0 ≤ T.heap.size) (hx : p.tables.exec = Jvm.exec) {z : Int32} {t : FieldType} (hlk : meth.locks = false) (hret : meth.sig.returnType = some t) (ht : t = .boolean ∨ t = .byte ∨ t = .char ∨ t = .short) (hd : decode c.code pc = .ok (.ireturn, 1)) (hc : cells ≤ rc) (hs : slots ≤ rs)
    (hQ : Q (some (.int (nar t z))) T.heap locs) : own_GoesW p.tables e below s Q rc rs T (mkF m pc Ls (.int z :: rest)) := by
  obtain ⟨fs, hr, hrun, hended, hW, hsame⟩ := X.leave (v := some (.int (nar t z))) (fun h => by rw [hret] at h; cases h)
  exact ⟨_, _, retN X hx hret ht hd hr, hrun, hended, _, _, rfl, hQ, own_endW hS hk hW hsame hc hs⟩
theorem own_retAW (X : Stand p l e R (s.setVm vm0) m args below meth c T locs cells slots) (hS : s.Since vm0 k0) (hk : k0 ≤ T.heap.size) (hx : p.tables.exec = Jvm.exec) {w : Value} {t : FieldType} (hlk : meth.locks = false) (hret : meth.sig.returnType = some t) (ht : t.isReference = true) (hw : w.isRef = true) (hn : narrow t w = w) (hd : decode c.code pc = .ok (.areturn, 1)) (hc : cells ≤ rc) (hs : slots ≤ rs)
    (hQ : Q (some w) T.heap locs) : own_GoesW p.tables e below s Q rc rs T (mkF m pc Ls (w :: rest)) := by
  obtain ⟨fs, hr, hrun, hended, hW, hsame⟩ := X.leave (v := some w) (fun h => by rw [hret] at h; cases h)
  exact ⟨_, _, retOut X hx hret hn (Or.inr (Or.inr (Or.inr (Or.inr ⟨rfl, ht, hw⟩)))) hd hr, hrun, hended, _, _, rfl, hQ, own_endW hS hk hW hsame hc hs⟩
theorem own_retVW (X : Stand p l e R (s.setVm vm0) m args below meth c T locs cells slots) (hS : s.Since vm0 k0) (hk : k0 ≤ T.heap.size) (hx : p.tables.exec = Jvm.exec) (hlk : meth.locks = false) (hret : meth.sig.returnType = none) (hd : decode c.code pc = .ok (.return_, 1)) (hc : cells ≤ rc) (hs : slots ≤ rs)
    (hQ : Q none T.heap locs) : own_GoesW p.tables e below s Q rc rs T (mkF m pc Ls []) := by
  obtain ⟨fs, hr, hrun, hended, hW, hsame⟩ := X.leave (v := none) (fun _ => rfl)
  exact ⟨_, _, X.returnOut hx hret hd hr, hrun, hended, _, _, rfl, hQ, own_endW hS hk hW hsame hc hs⟩
end OwnRetW
theorem own_str {Z : State} {a0 : Array Value} (hw : ∀ d ∈ tables_1, d.before a0 Z = true) (h : ∀ d ∈ Bundle.stringAtoms, d ∈ tables_1) : ∀ d ∈ Bundle.stringAtoms, d.before a0 Z = true := fun d hd => hw d (h d hd)

theorem own_hws {Z : State} {a0 : Array Value} (hw : ∀ d ∈ tables_1, d.before a0 Z = true) : ∀ d ∈ StrChars.Road.words, d.before a0 Z = true := fun d hd => hw d ((by decide +kernel : ∀ d ∈ StrChars.Road.words, d ∈ tables_1) d hd)
theorem own_char (x : Int32) : nar .char ((x &&& (255 : Int32)).toUInt32.toUInt16.toUInt32.toInt32) = x &&& (255 : Int32) := by
  have h0 : nar .char ((x &&& (255 : Int32)).toUInt32.toUInt16.toUInt32.toInt32) = ((x &&& (255 : Int32)).toUInt32.toUInt16.toUInt32.toInt32).toUInt32.toUInt16.toUInt32.toInt32 := rfl
  rw [h0, i2c_mask, i2c_mask]
theorem own_255 (x : Int32) : ¬ (x &&& (255 : Int32)) < 0 ∧ ¬ (255 : Int32) < (x &&& (255 : Int32)) := by
  have h := c_mask x 255 8 (by decide) (by decide)
  rw [Int32.lt_iff_toInt_lt, Int32.lt_iff_toInt_lt]
  have e1 : (0 : Int32).toInt = 0 := by decide
  have e2 : (255 : Int32).toInt = 255 := by decide
  omega

theorem own_eq_int {args : Array Value} {s : State} {t : Term} {k : Int32} (h : (Jvm.Cond.eq t (.int k)).value args s none s [] = some true) : t.eval args s none [] s = some (.int k) := by
  obtain ⟨x, y, h1, h2, k1, k2⟩ := cmp_v (Or.inl h)
  cases h2
  obtain ⟨z, rfl⟩ := k2
  have : z = k := by simpa [Jvm.Cond.value, h1, Term.eval] using h
  rw [h1, this]
theorem own_eq_ref {args : Array Value} {s : State} {t u : Term} {b : Addr} (h : (Jvm.Cond.eq t u).value args s none s [] = some true) (hu : u.eval args s none [] s = some (.ref b)) : t.eval args s none [] s = some (.ref b) := by
  obtain ⟨x, y, h1, h2, k1, k2⟩ := cmp_v (Or.inl h)
  cases hu.symm.trans h2
  have hr : x.isRef = true := k2.2
  rcases ref_cases hr with rfl | ⟨z, rfl⟩
  · simp [Jvm.Cond.value, h1, h2] at h
  · have : z = b := by simpa [Jvm.Cond.value, h1, h2] using h
    rw [h1, this]

def own_EL : List (String × Nat) := [("com/example/gate2/gate2/DimensionByFieldPinLaw", 7), ("com/example/gate2/gate2/DimensionByFieldPinLaw", 9), ("com/example/gate2/gate2/DimensionByFieldPinLaw", 11), ("com/example/gate2/gate2/DimensionByFieldPinLaw", 13), ("java/lang/String", 7)]
/-- own_Goes for a walk that reads String constants: the books of the constants of own_EL stay true -/
def own_GoesH (Z : State) (tb : Tables) (e : Env) (below : List Frame) (s : State) (Q : Option Value → Heap → List Loc → Prop) (rc rs : Nat) (T : State) (g : JFrame) : Prop :=
  ∃ s₂ o, Steps tb e below (T.setTop g) s₂ ∧ s₂.status = .running ∧ Ended s₂ below o ∧ ∃ v L, o = .returned v ∧ Q v s₂.heap L ∧ CHr Z own_EL s.vm s.heap s₂.vm s₂.heap ∧ ReturnedEndW s o s₂ L rc rs
theorem own_byH {Z : State} {tb : Tables} {e : Env} {below : List Frame} {s : State} {Q : Option Value → Heap → List Loc → Prop} {rc rs : Nat} {T T' : State} {g g' : JFrame} (h : ∀ t, Steps tb e below (T'.setTop g') t → Steps tb e below (T.setTop g) t) (k : own_GoesH Z tb e below s Q rc rs T' g') : own_GoesH Z tb e below s Q rc rs T g := by
  obtain ⟨s₂, o, h1, h2⟩ := k
  exact ⟨s₂, o, h _ h1, h2⟩
section OwnRetH
variable {p : Program} {l : Launch} {e : Env} {R : Room} {s : State} {vm0 : Vm} {k0 : Nat} {m : MethodId} {args : Array Value} {below : List Frame} {meth : Method} {c : Code} {T : State} {locs : List Loc} {cells slots : Nat} {Q : Option Value → Heap → List Loc → Prop} {rc rs : Nat} {pc : Nat} {Ls : Array Slot} {rest : List Value} {Z : State} {a0 : Array Value}
theorem own_retNH (X : Stand p l e R (s.setVm vm0) m args below meth c T locs cells slots) (hS : s.Since vm0 k0) (hk : k0 ≤ T.heap.size) (hx : p.tables.exec = Jvm.exec) {z : Int32} {t : FieldType} (hlk : meth.locks = false) (hret : meth.sig.returnType = some t) (ht : t = .boolean ∨ t = .byte ∨ t = .char ∨ t = .short) (hd : decode c.code pc = .ok (.ireturn, 1)) (hc : cells ≤ rc) (hs : slots ≤ rs)
    (hZ : Z.Warmed39 vm0) (hEL : EW Z a0 own_EL) (hC : CHr Z own_EL s.vm s.heap vm0 T.heap) (hQ : Q (some (.int (nar t z))) T.heap locs) : own_GoesH Z p.tables e below s Q rc rs T (mkF m pc Ls (.int z :: rest)) := by
  obtain ⟨fs, hr, hrun, hended, hW, hsame⟩ := X.leave (v := some (.int (nar t z))) (fun h => by rw [hret] at h; cases h)
  have hC2 : CHr Z own_EL s.vm s.heap T.vm T.heap := hC.trans (CHv.at X hZ hEL hC.1)
  exact ⟨_, _, retN X hx hret ht hd hr, hrun, hended, _, _, rfl, hQ, hC2, own_endW hS hk hW hsame hc hs⟩
theorem own_retVH (X : Stand p l e R (s.setVm vm0) m args below meth c T locs cells slots) (hS : s.Since vm0 k0) (hk : k0 ≤ T.heap.size) (hx : p.tables.exec = Jvm.exec) (hlk : meth.locks = false) (hret : meth.sig.returnType = none) (hd : decode c.code pc = .ok (.return_, 1)) (hc : cells ≤ rc) (hs : slots ≤ rs)
    (hZ : Z.Warmed39 vm0) (hEL : EW Z a0 own_EL) (hC : CHr Z own_EL s.vm s.heap vm0 T.heap) (hQ : Q none T.heap locs) : own_GoesH Z p.tables e below s Q rc rs T (mkF m pc Ls []) := by
  obtain ⟨fs, hr, hrun, hended, hW, hsame⟩ := X.leave (v := none) (fun _ => rfl)
  have hC2 : CHr Z own_EL s.vm s.heap T.vm T.heap := hC.trans (CHv.at X hZ hEL hC.1)
  exact ⟨_, _, X.returnOut hx hret hd hr, hrun, hended, _, _, rfl, hQ, hC2, own_endW hS hk hW hsame hc hs⟩
end OwnRetH
/-- a String whose value is still null is no booked one -/
theorem own_safe {Z : State} {EL : List (String × Nat)} {vm : Vm} {h : Heap} {x : Addr} (hal : Z.vm.Alike vm) (E : Exa Z h x "java/lang/String") (F : Fld Z h x "java/lang/String" "value" "[B" .null) : Safe Z EL vm h x := fun B => by
  obtain ⟨p, -, u, a, -, q, -, G, rfl | rfl⟩ := B
  · obtain ⟨cS, ⟨⟨s1, s2, s3, ⟨cv, kv, iv, s4, s4'⟩, -, s6, s7, s8, -⟩, -⟩, -⟩ := G
    obtain ⟨kv', z4⟩ := ff_back (U := Wst Z vm h) hal s4
    have F2 : Fld Z h q.sa "java/lang/String" "value" "[B" (.ref q.sd) := ⟨q.sC, cv, kv', iv, q.fSV, s1, z4, s6, s2, s3, by rw [← hal.assignable]; exact s4', s8⟩
    exact F.ne F2 (by simp) rfl
  · obtain ⟨cell, k, e1, e2, e3, -, -⟩ := E
    have e4 : cell = q.SA := Option.some.inj (e1.symm.trans G.hd)
    obtain ⟨cS, -, -, f, -⟩ := G
    rw [show (Wst Z vm h).vm = vm from rfl, hal.findClass, ← e4] at f
    obtain ⟨k1, q1, q2⟩ := Vm.findClass_spec f
    obtain ⟨k2, q3, q4⟩ := Vm.findClass_spec e2
    cases q1.symm.trans q3
    have := q2.symm.trans q4
    revert this
    decide
theorem own_sfV {Z : State} {EL : List (String × Nat)} {vm : Vm} {h : Heap} {a : Addr} {k : ClassId} {ty : FieldType} {n : Int32} {vs : List Value} {d : Value} (F : Arv Z h a k ty n vs d) (hal : Z.vm.Alike vm) (ht : ty ≠ .byte) : Safe Z EL vm h a := by
  obtain ⟨c, A, -⟩ := F
  exact Safe.arr hal A ht
abbrev own_ok (x : Int32) : Prop := ¬ x < 0 ∧ ¬ (255 : Int32) < x
/-- the String x holds the chars cs, each 0 to 255 -/
def own_Str (Z : State) (h : Heap) (x t : Addr) (k : ClassId) (cs : List Int32) : Prop := Exa Z h x "java/lang/String" ∧ Fld Z h x "java/lang/String" "value" "[B" (.ref t) ∧ Fld Z h x "java/lang/String" "coder" "B" (.int 0) ∧ Arv Z h t k .byte (Int32.ofNat cs.length) (cs.map fun c => Value.int c.toInt8.toInt32) (.int 0) ∧ (∀ c ∈ cs, own_ok c) ∧ cs.length ≤ 9
theorem own_Str.ext {Z : State} {h h' : Heap} {x t : Addr} {k : ClassId} {cs : List Int32} (S : own_Str Z h x t k cs) (E : Ext h h') : own_Str Z h' x t k cs := ⟨S.1.ext E, S.2.1.ext E, S.2.2.1.ext E, S.2.2.2.1.ext E, S.2.2.2.2⟩
theorem own_Str.keep {Z : State} {h h' : Heap} {x t : Addr} {k : ClassId} {cs : List Int32} {ws : List Addr} (S : own_Str Z h x t k cs) (K : Keep h h' ws) (q : x ∉ ws) (r : t ∉ ws) : own_Str Z h' x t k cs := ⟨S.1.keep K, S.2.1.keep K q, S.2.2.1.keep K q, S.2.2.2.1.keep K r, S.2.2.2.2⟩
theorem own_Str.other {Z : State} {h h' : Heap} {x t : Addr} {k : ClassId} {cs : List Int32} {a : Addr} {sl : Nat} {v : Value} (S : own_Str Z h x t k cs) (W : Wr h h' a sl v) (q : x ≠ a) (r : t ≠ a) : own_Str Z h' x t k cs := ⟨S.1.wr W, S.2.1.other W (Or.inl q), S.2.2.1.other W (Or.inl q), S.2.2.2.1.other W r, S.2.2.2.2⟩
theorem own_cod {Z : State} {h : Heap} {x t : Addr} {k : ClassId} {cs : List Int32} (S : own_Str Z h x t k cs) : StrChars.Road.CodA cs 0 (Int32.ofNat cs.length) (cs.map fun c => Value.int c.toInt8.toInt32) := Or.inl ⟨rfl, rfl, rfl, fun c hc => (S.2.2.2.2.1 c hc).2⟩
theorem own_w16 {Z : State} {h : Heap} {x t : Addr} {k : ClassId} {cs : List Int32} (S : own_Str Z h x t k cs) : ∀ c ∈ cs, ¬ c < 0 ∧ ¬ (65535 : Int32) < c := fun c hc => by
  have q := S.2.2.2.2.1 c hc
  refine ⟨q.1, fun r => q.2 ?_⟩
  rw [Int32.lt_iff_toInt_lt] at r ⊢
  have e1 : (65535 : Int32).toInt = 65535 := by decide
  have e2 : (255 : Int32).toInt = 255 := by decide
  omega
theorem own_l4 {Z : State} {h : Heap} {x t : Addr} {k : ClassId} {cs : List Int32} (S : own_Str Z h x t k cs) : cs.length ≤ 4000 := Nat.le_trans S.2.2.2.2.2 (by decide)
theorem own_getD {cs : List Int32} (h : ∀ c ∈ cs, own_ok c) (i : Nat) : own_ok (cs.getD i 0) := by
  by_cases hi : i < cs.length
  · have e : cs.getD i 0 = cs[i] := by simp [List.getD_eq_getElem?_getD, hi]
    rw [e]
    exact h _ (List.getElem_mem _)
  · have e : cs.getD i 0 = 0 := by simp [List.getD_eq_getElem?_getD, Nat.le_of_not_lt hi]
    rw [e]
    exact ⟨by decide, by decide⟩
theorem own_narok {z : Int32} (h : own_ok z) : nar .char z = z := by
  have h0 : nar .char z = z.toUInt32.toUInt16.toUInt32.toInt32 := rfl
  have h1 := c_i2c z
  have q := h
  unfold own_ok at q
  rw [Int32.lt_iff_toInt_lt, Int32.lt_iff_toInt_lt] at q
  have e1 : (0 : Int32).toInt = 0 := by decide
  have e2 : (255 : Int32).toInt = 255 := by decide
  rw [h0]
  apply Int32.toInt_inj.mp
  omega
theorem own_m255 (x : Int32) : own_ok (x &&& (255 : Int32)).toUInt32.toUInt16.toUInt32.toInt32 := by
  rw [i2c_mask]
  exact own_255 x
theorem own_toInt {n : Nat} (h : n ≤ 4000) : (Int32.ofNat n).toInt = n := by
  have := Int32.toInt_ofNat_of_lt (n := n) (by omega)
  exact this
theorem own_ltN {i n : Nat} (hi : i ≤ 4000) (hn : n ≤ 4000) : (Int32.ofNat i < Int32.ofNat n) ↔ i < n := by
  rw [Int32.lt_iff_toInt_lt, own_toInt hi, own_toInt hn]
  omega
theorem own_set {cs : List Int32} {v : Int32} (i : Nat) (h : ∀ c ∈ cs, own_ok c) (hv : own_ok v) : (∀ c ∈ cs.set i v, own_ok c) ∧ (cs.set i v).length = cs.length := by
  refine ⟨fun c hc => ?_, by simp⟩
  rcases List.mem_or_eq_of_mem_set hc with q | q
  · exact h c q
  · rw [q]; exact hv
theorem own_n0 : nar .byte (0 : Int32) = 0 := by decide
theorem own_mono {p : Program} {l : Launch} {e : Env} {R : Room} {s : State} {m : MethodId} {args : Array Value} {below : List Frame} {meth : Method} {c : Code} {T : State} {locs : List Loc} {cells slots cells' slots' : Nat} (X : Stand p l e R s m args below meth c T locs cells slots) (hc : cells ≤ cells') (hs : slots ≤ slots') : Stand p l e R s m args below meth c T locs cells' slots' := { X with same := X.same.mono hc hs }
theorem own_rem10 (x : Int32) : ∃ N : Nat, N ≤ 9 ∧ (x &&& (2147483647 : Int32)) % (10 : Int32) = Int32.ofNat N := by
  have h1 := c_mask x 2147483647 31 (by decide) (by decide)
  have h2 := (c_irem (x &&& (2147483647 : Int32)) 10 10 (by decide)).1 (by omega)
  generalize (x &&& (2147483647 : Int32)) % (10 : Int32) = k at *
  refine ⟨k.toInt.toNat, by omega, ?_⟩
  apply Int32.toInt_inj.mp
  rw [own_toInt (by omega)]
  omega
theorem own_nneg {N : Nat} (h : N ≤ 9) : ¬ Int32.ofNat N < 0 := by
  rw [Int32.lt_iff_toInt_lt, own_toInt (by omega)]
  have : (0 : Int32).toInt = 0 := by decide
  omega
theorem own_clamp {N : Nat} (h : N ≤ 9) : (Int32.ofNat N).toNatClampNeg = N := by
  simp only [Int32.toNatClampNeg, own_toInt (show N ≤ 4000 by omega)]
  omega
theorem own_cap {N : Nat} (h : N ≤ 9) : (Int32.ofNat N).toNatClampNeg ≤ 9 := by rw [own_clamp h]; exact h
theorem own_c4 {N : Nat} {cs : List Int32} (hl : cs.length = N) (h : N ≤ 9) : cs.length ≤ 4000 := by omega
theorem own_arr0 {Z : State} {h : Heap} {a : Addr} {k : ClassId} {N : Nat} (hN : N ≤ 9) (F : Arv Z h a k .char (Int32.ofNat N) [] (.int 0)) : ∃ cs : List Int32, cs.length = N ∧ (∀ y ∈ cs, own_ok y) ∧ Arv Z h a k .char (Int32.ofNat N) (cs.map Value.int) (.int 0) := by
  refine ⟨List.replicate N 0, by simp, fun y hy => ?_, F.pad fun i => ?_⟩
  · rw [List.eq_of_mem_replicate hy]
    exact ⟨by decide, by decide⟩
  · simp [List.getD_eq_getElem?_getD, List.getElem?_replicate]
    split <;> rfl
theorem own_arr00 {Z : State} {h : Heap} {a : Addr} {k : ClassId} {N : Nat} {cs : List Int32} (hN : N ≤ 9) (hl : cs.length = N) (hz : N = 0) (F : Arv Z h a k .char (Int32.ofNat N) (cs.map Value.int) (.int 0)) : Arv Z h a k .char (0 : Int32) [] (.int 0) := by
  subst hz
  have e : cs = [] := List.length_eq_zero_iff.mp hl
  subst e
  exact F
theorem own_ix {ii : Int32} {N : Nat} (h0 : ¬ ii < 0) (h1 : ii < Int32.ofNat N) (h9 : N ≤ 9) : ii.toNatClampNeg < N := by
  rw [Int32.lt_iff_toInt_lt] at h0 h1
  rw [own_toInt (by omega)] at h1
  have : (0 : Int32).toInt = 0 := by decide
  simp only [Int32.toNatClampNeg]
  omega
theorem own_nzN {N : Nat} (h : (0 : Int32) < Int32.ofNat N) : ¬ Int32.ofNat N = 0 := fun q => by
  rw [q] at h
  revert h
  decide
theorem own_rmN (x : Int32) {N : Nat} (h : (0 : Int32) < Int32.ofNat N) (h9 : N ≤ 9) : ¬ (x &&& (2147483647 : Int32)) % Int32.ofNat N < 0 ∧ (x &&& (2147483647 : Int32)) % Int32.ofNat N < Int32.ofNat N := by
  rw [Int32.lt_iff_toInt_lt] at h
  have e0 : (0 : Int32).toInt = 0 := by decide
  rw [e0] at h
  have h1 := c_mask x 2147483647 31 (by decide) (by decide)
  have h2 := (c_iremV (x &&& (2147483647 : Int32)) (Int32.ofNat N)).1 (by omega) h
  rw [Int32.lt_iff_toInt_lt, Int32.lt_iff_toInt_lt, e0]
  omega
theorem own_vb {Z : State} {h : Heap} {a : Addr} {k : ClassId} {N : Nat} {cs : List Int32} {d : Value} (hl : cs.length = N) (F : Arv Z h a k .byte (Int32.ofNat N) ((cs.map (fun c => c.toInt8.toInt32)).map Value.int) d) : Arv Z h a k .byte (Int32.ofNat cs.length) (cs.map fun c => Value.int c.toInt8.toInt32) d := by
  rw [List.map_map] at F
  rw [hl]
  exact F
/-- what stands at the start, at a heap h -/
def own_W (Z : State) (h : Heap) (va d0 d1 d2 d3 f0 f1 f2 f3 t0 t1 t2 t3 em : Addr) (kvv ky0 ky1 ky2 ky3 : ClassId) (zC : Int32) (fm : Value) : Prop := Sta Z h "java/lang/String" "COMPACT_STRINGS" "Z" (.int zC) ∧ Sta Z h "jdk/internal/util/Preconditions" "SIOOBE_FORMATTER" "Ljava/util/function/BiFunction;" fm ∧ Sta Z h "java/util/Optional" "EMPTY" "Ljava/util/Optional;" (.ref em) ∧ Exa Z h em "java/util/Optional" ∧ Fld Z h em "java/util/Optional" "value" "Ljava/lang/Object;" .null ∧ Sta Z h "com/example/gate2/gate2/Dimension" "$VALUES" "[Lcom/example/gate2/gate2/Dimension;" (.ref va) ∧ Exa Z h va "[Lcom/example/gate2/gate2/Dimension;" ∧ Arv Z h va kvv (.object "com/example/gate2/gate2/Dimension") (4 : Int32) [(.ref d0), (.ref d1), (.ref d2), (.ref d3)] .null ∧ Sta Z h "com/example/gate2/gate2/Dimension" "PROJECT" "Lcom/example/gate2/gate2/Dimension;" (.ref d0) ∧ Exa Z h d0 "com/example/gate2/gate2/Dimension" ∧ Fld Z h d0 "com/example/gate2/gate2/Dimension" "field" "Ljava/lang/String;" (.ref f0) ∧ own_Str Z h f0 t0 ky0 ([112, 114, 111, 106, 101, 99, 116] : List Int32) ∧ Sta Z h "com/example/gate2/gate2/Dimension" "USER" "Lcom/example/gate2/gate2/Dimension;" (.ref d1) ∧ Exa Z h d1 "com/example/gate2/gate2/Dimension" ∧ Fld Z h d1 "com/example/gate2/gate2/Dimension" "field" "Ljava/lang/String;" (.ref f1) ∧ own_Str Z h f1 t1 ky1 ([117, 115, 101, 114] : List Int32) ∧ Sta Z h "com/example/gate2/gate2/Dimension" "REGION" "Lcom/example/gate2/gate2/Dimension;" (.ref d2) ∧ Exa Z h d2 "com/example/gate2/gate2/Dimension" ∧ Fld Z h d2 "com/example/gate2/gate2/Dimension" "field" "Ljava/lang/String;" (.ref f2) ∧ own_Str Z h f2 t2 ky2 ([114, 101, 103, 105, 111, 110] : List Int32) ∧ Sta Z h "com/example/gate2/gate2/Dimension" "INSTANCE" "Lcom/example/gate2/gate2/Dimension;" (.ref d3) ∧ Exa Z h d3 "com/example/gate2/gate2/Dimension" ∧ Fld Z h d3 "com/example/gate2/gate2/Dimension" "field" "Ljava/lang/String;" (.ref f3) ∧ own_Str Z h f3 t3 ky3 ([105, 110, 115, 116, 97, 110, 99, 101] : List Int32)
theorem own_W.ext {Z : State} {h h' : Heap} {va d0 d1 d2 d3 f0 f1 f2 f3 t0 t1 t2 t3 em : Addr} {kvv ky0 ky1 ky2 ky3 : ClassId} {zC : Int32} {fm : Value} (W : own_W Z h va d0 d1 d2 d3 f0 f1 f2 f3 t0 t1 t2 t3 em kvv ky0 ky1 ky2 ky3 zC fm) (E : Ext h h') : own_W Z h' va d0 d1 d2 d3 f0 f1 f2 f3 t0 t1 t2 t3 em kvv ky0 ky1 ky2 ky3 zC fm := by
  obtain ⟨w0, w1, w2, w3, w4, w5, w6, w7, w8, w9, w10, w11, w12, w13, w14, w15, w16, w17, w18, w19, w20, w21, w22, w23⟩ := W
  exact ⟨w0.ext E, w1.ext E, w2.ext E, w3.ext E, w4.ext E, w5.ext E, w6.ext E, w7.ext E, w8.ext E, w9.ext E, w10.ext E, w11.ext E, w12.ext E, w13.ext E, w14.ext E, w15.ext E, w16.ext E, w17.ext E, w18.ext E, w19.ext E, w20.ext E, w21.ext E, w22.ext E, w23.ext E⟩
theorem own_hwE {Z : State} {a0 : Array Value} (hw : ∀ d ∈ tables_1, d.before a0 Z = true) : ∀ d ∈ StrChars.Road.wordsEq, d.before a0 Z = true := fun d hd => hw d ((by decide +kernel : ∀ d ∈ StrChars.Road.wordsEq, d ∈ tables_1) d hd)
theorem own_hwL {Z : State} {a0 : Array Value} (hw : ∀ d ∈ tables_1, d.before a0 Z = true) : ∀ d ∈ StrChars.Road.wordsLen, d.before a0 Z = true := fun d hd => hw d ((by decide +kernel : ∀ d ∈ StrChars.Road.wordsLen, d ∈ tables_1) d hd)
theorem own_hwC {Z : State} {a0 : Array Value} (hw : ∀ d ∈ tables_1, d.before a0 Z = true) : ∀ d ∈ StrChars.Road.wordsChN, d.before a0 Z = true := fun d hd => hw d ((by decide +kernel : ∀ d ∈ StrChars.Road.wordsChN, d ∈ tables_1) d hd)

theorem own_len {args : Array Value} {s : State} {u : Term} {ta : Addr} {cl : Cell} {ty : FieldType} {n : Int32} (ev : u.eval args s none [] s = some (.ref ta)) (Ar : Arr s s.heap ta cl ty) (h : (Jvm.Cond.eq (.length u) (.int n)).value args s none s [] = some true) : cl.slots.size < 2 ^ 31 ∧ cl.slots.size.toInt32 = n := by
  have hf : s.arrayAt? ta = some cl := Ar.fin (Vm.Alike.refl _)
  by_cases hl : cl.slots.size < 2 ^ 31
  · have h1 := own_eq_int h
    have h2 : (Term.length u).eval args s none [] s = some (.int cl.slots.size.toInt32) := len_f ev hf hl
    rw [h1] at h2
    exact ⟨hl, by simpa using h2.symm⟩
  · have h1 := own_eq_int h
    simp [Term.eval, ev, hf, hl] at h1
theorem own_el {args : Array Value} {s : State} {u : Term} {ta : Addr} {cl : Cell} {ty : FieldType} {j w : Int32} (ev : u.eval args s none [] s = some (.ref ta)) (Ar : Arr s s.heap ta cl ty) (h : (Jvm.Cond.eq (.elem u (.int j)) (.int w)).value args s none s [] = some true) (hj : ¬ j < 0) : cl.slots[j.toNatClampNeg]? = some (.int w) := by
  have hf : s.arrayAt? ta = some cl := Ar.fin (Vm.Alike.refl _)
  rw [← elem_f ev (Term.int_eval j) hf hj]
  exact own_eq_int h
theorem own_elR {args : Array Value} {s : State} {u r : Term} {ta b : Addr} {cl : Cell} {ty : FieldType} {j : Int32} (ev : u.eval args s none [] s = some (.ref ta)) (Ar : Arr s s.heap ta cl ty) (h : (Jvm.Cond.eq (.elem u (.int j)) r).value args s none s [] = some true) (hr : r.eval args s none [] s = some (.ref b)) (hj : ¬ j < 0) : cl.slots[j.toNatClampNeg]? = some (.ref b) := by
  have hf : s.arrayAt? ta = some cl := Ar.fin (Vm.Alike.refl _)
  rw [← elem_f ev (Term.int_eval j) hf hj]
  exact own_eq_ref h hr

def Q3 (Z : State) (sb0 : Addr) (ii : Int32) (fl : Int32) (tb0 : Addr) (kb0 : ClassId) (cs : List Int32) (zC : Int32) (fm : Value) (iN : Nat) (h0 : Heap) (n0 : Nat) (v : Option Value) (h : Heap) (L : List Loc) : Prop := ∃ rr : Int32, v = some (.int rr) ∧ Fr n0 L ∧ own_ok rr ∧ h = h0
theorem pn_com_example_gate2_gate2_DimensionByFieldPinLaw : plainName "com/example/gate2/gate2/DimensionByFieldPinLaw" = true := by first | (simp [plainName, overriddenIn]; done) | decide +kernel
theorem ef_3 (m : MethodId) (sb0 : Addr) (ii : Int32) (fl : Int32) : entryFrame m #[(.ref sb0), (.int ii), (.int fl)] 3 = mkF m 0 #[.val (.ref sb0), .val (.int ii), .val (.int fl)] [] := by first | (simp [entryFrame, mkF, argsToLocals, Value.category]; done) | rfl
theorem d3_0 : decode method_3_code 0 = .ok (.iload_n 1, 1) := by decide +kernel
theorem d3_1 : decode method_3_code 1 = .ok (.aload_n 0, 1) := by decide +kernel
theorem d3_2 : decode method_3_code 2 = .ok (.invokevirtual 15, 3) := by decide +kernel
theorem pd_0 : parseMethodDescriptor "()I" = some ⟨[], some .int⟩ := by decide +kernel
theorem d3_5 : decode method_3_code 5 = .ok (.if_icmp .ge 11, 3) := by decide +kernel
theorem d3_8 : decode method_3_code 8 = .ok (.aload_n 0, 1) := by decide +kernel
theorem d3_9 : decode method_3_code 9 = .ok (.iload_n 1, 1) := by decide +kernel
theorem d3_10 : decode method_3_code 10 = .ok (.invokevirtual 64, 3) := by decide +kernel
theorem pd_3 : parseMethodDescriptor "(I)C" = some ⟨[.int], some .char⟩ := by decide +kernel
theorem d3_13 : decode method_3_code 13 = .ok (.goto 4, 3) := by decide +kernel
theorem d3_17 : decode method_3_code 17 = .ok (.ireturn, 1) := by decide +kernel
theorem d3_16 : decode method_3_code 16 = .ok (.iload_n 2, 1) := by decide +kernel
set_option maxRecDepth 65536 in
set_option maxHeartbeats 40000000 in
theorem rm3 (l : Launch) (Z : State) (a0 : Array Value) (hw : ∀ d ∈ tables_1, d.before a0 Z = true) (ws : List Jvm.Cond) (sb0 : Addr) (ii : Int32) (fl : Int32) (tb0 : Addr) (kb0 : ClassId) (cs : List Int32) (zC : Int32) (fm : Value) (iN : Nat) (h0 : Heap) (n0 : Nat) (Zle : n0 ≤ h0.size) (Q_sb0 : own_Str Z h0 sb0 tb0 kb0 cs) (S_COMPACT_STRINGS : Sta Z h0 "java/lang/String" "COMPACT_STRINGS" "Z" (.int zC)) (S_SIOOBE_FORMATTER : Sta Z h0 "jdk/internal/util/Preconditions" "SIOOBE_FORMATTER" "Ljava/util/function/BiFunction;" fm) (hzC : ¬ zC = 0) (hfm : fm.isRef = true) (hi : ii = Int32.ofNat iN ∧ iN ≤ 9) (hfl : own_ok fl) :
    MetFree l (⟨"com/example/gate2/gate2/DimensionByFieldPinLaw", "ch", "(Ljava/lang/String;IC)C"⟩ : MethodName) (head1 (Jvm.Cond.code (⟨"com/example/gate2/gate2/DimensionByFieldPinLaw", "ch", "(Ljava/lang/String;IC)C"⟩ : MethodName) method_3_code 3 (some .char) :: ws) ({ frames := 4, cells := 0, slots := 0, locals := 53 } : Room)) (fun a U => a = #[(.ref sb0), (.int ii), (.int fl)] ∧ Z.Warmed39 U.vm ∧ U.heap = h0) (fun _ _ _ _ _ => True) (fun _ U o U' => ∃ v L, o = .returned v ∧ Q3 Z sb0 ii fl tb0 kb0 cs zC fm iN h0 n0 v U'.heap L ∧ FrameEnd U o U' L ({ frames := 4, cells := 0, slots := 0, locals := 53 } : Room).cells ({ frames := 4, cells := 0, slots := 0, locals := 53 } : Room).slots) := by
  refine MetFree.of_bodySF (plainFor_of_name pn_com_example_gate2_gate2_DimensionByFieldPinLaw) hisR ?_
  intro p e s m args below meth c s₁ Bd hml0 hP hK
  obtain ⟨rfl, hZ, hh⟩ := hP
  have hx := Bd.exec
  have hby := Bd.bytes
  have hml : c.maxLocals = 3 := hml0
  have hown : s.vm.findClass "com/example/gate2/gate2/DimensionByFieldPinLaw" = some m.cls := findClass_of_methodNamed Bd.named
  have hnm := (name_of_methodNamed Bd.named Bd.method).1
  have X0 : Stand p l e ({ frames := 4, cells := 0, slots := 0, locals := 53 } : Room) s m #[(.ref sb0), (.int ii), (.int fl)] below meth c s₁ [] 0 0 := Stand.of_body Bd
  have e0 : s₁.heap = h0 := by rw [← hh, Bd.state]; rfl
  have N_ := Fr.nil n0
  show own_Goes p.tables e below s (Q3 Z sb0 ii fl tb0 kb0 cs zC fm iN h0 n0) ({ frames := 4, cells := 0, slots := 0, locals := 53 } : Room).cells ({ frames := 4, cells := 0, slots := 0, locals := 53 } : Room).slots s₁ (entryFrame m #[(.ref sb0), (.int ii), (.int fl)] 3)
  refine own_by (T' := s₁) (g' := (mkF m 0 #[.val (.ref sb0), .val (.int ii), .val (.int fl)] [])) (fun t k => castTop (ef_3 m sb0 ii fl) k) ?_
  refine own_by (T' := s₁) (g' := (mkF m 1 #[.val (.ref sb0), .val (.int ii), .val (.int fl)] [(.int ii)])) (fun t k => XS.iloadN X0.here hx rfl (hb hby d3_0) rfl k) ?_
  refine own_by (T' := s₁) (g' := (mkF m 2 #[.val (.ref sb0), .val (.int ii), .val (.int fl)] [(.ref sb0), (.int ii)])) (fun t k => XS.aloadN X0.here hx rfl (hb hby d3_1) rfl rfl k) ?_
  have E_sb0 := Q_sb0.1
  obtain ⟨cq1, kq1, q1a, q1b, q1c⟩ := isOf hZ e0 E_sb0
  obtain ⟨_, _, ⟨T1, L1, k1, n1⟩, -, X1, ⟨Lc1, hQ1, l1, y1, z1⟩, st1⟩ := X0.virtualBack hx (y := (⟨"java/lang/String", "length", "()I"⟩ : MethodName)) (z := (⟨"java/lang/String", "length", "()I"⟩ : MethodName)) hown (mvT hZ (hw _ (own_m 8 rfl))) (mvT hZ (hw _ (own_m 9 rfl))) (notFace_of_selects (args := #[]) (mvT hZ (hw _ (own_m 11 rfl)))) (mvT hZ (hw _ (own_m 11 rfl))) (mvT hZ (hw _ (own_m 10 rfl))) (by decide) (StrChars.Road.lenW (W := 1) hZ (own_hwL hw) (kI := 4) (hw _ (own_m 2 rfl)) Q_sb0.1 Q_sb0.2.1 Q_sb0.2.2.1 Q_sb0.2.2.2.1 (own_cod Q_sb0) (own_w16 Q_sb0) S_COMPACT_STRINGS hzC (own_l4 Q_sb0) (by decide) (by decide)) q1a q1c (g := (mkF m 2 #[.val (.ref sb0), .val (.int ii), .val (.int fl)] [(.ref sb0), (.int ii)])) rfl (by rw [hml]; rfl) (Steps.refl _) (argsL := []) (rest := [(.int ii)]) (lenOf pd_0 rfl) rfl (own_le rfl) (hb hby d3_2) (fun _ _ => ⟨rfl, e0, (by decide : 0 + 0 ≤ _), (by decide : 0 + 0 ≤ _)⟩)
  dsimp only [Pt.U, Pt.locs, Pt.cells, Pt.slots] at X1 l1 y1 z1 st1 hQ1
  subst l1 y1 z1
  obtain ⟨rfl, rfl, e1⟩ := hQ1
  replace N_ := Fr.app N_ (Fr.nil n0)
  refine own_by (T' := T1) (g' := (mkF m 5 #[.val (.ref sb0), .val (.int ii), .val (.int fl)] [(.int (Int32.ofNat cs.length)), (.int ii)])) (fun t k => st1.trans k) ?_
  clear st1 X0 e0
  by_cases hc5_2 : ii < (Int32.ofNat cs.length)
  · refine own_by (T' := T1) (g' := (mkF m 8 #[.val (.ref sb0), .val (.int ii), .val (.int fl)] [])) (fun t k => XS.icmpNo X1.here hx rfl (hb hby d3_5) rfl (tlt hc5_2).2.1 k) ?_
    refine own_by (T' := T1) (g' := (mkF m 9 #[.val (.ref sb0), .val (.int ii), .val (.int fl)] [(.ref sb0)])) (fun t k => XS.aloadN X1.here hx rfl (hb hby d3_8) rfl rfl k) ?_
    refine own_by (T' := T1) (g' := (mkF m 10 #[.val (.ref sb0), .val (.int ii), .val (.int fl)] [(.int ii), (.ref sb0)])) (fun t k => XS.iloadN X1.here hx rfl (hb hby d3_9) rfl k) ?_
    have E_sb0 := Q_sb0.1
    have hlt : iN < cs.length := by have hq := hc5_2; rw [hi.1] at hq; exact (own_ltN (Nat.le_trans hi.2 (by decide)) (own_l4 Q_sb0)).mp hq
    obtain ⟨cq3, kq3, q3a, q3b, q3c⟩ := isOf hZ e1 E_sb0
    obtain ⟨_, _, ⟨T3, L3, k3, n3⟩, -, X3, ⟨Lc3, hQ3, l3, y3, z3⟩, st3⟩ := X1.virtualBack hx (y := (⟨"java/lang/String", "charAt", "(I)C"⟩ : MethodName)) (z := (⟨"java/lang/String", "charAt", "(I)C"⟩ : MethodName)) hown (mvT hZ (hw _ (own_m 26 rfl))) (mvT hZ (hw _ (own_m 27 rfl))) (notFace_of_selects (args := #[]) (mvT hZ (hw _ (own_m 29 rfl)))) (mvT hZ (hw _ (own_m 29 rfl))) (mvT hZ (hw _ (own_m 28 rfl))) (by decide) (StrChars.Road.chN (W := 0) hZ (own_hwC hw) (kI := 4) (hw _ (own_m 2 rfl)) (i := iN) (j := ii) Q_sb0.1 Q_sb0.2.1 Q_sb0.2.2.1 Q_sb0.2.2.2.1 (own_cod Q_sb0) (own_w16 Q_sb0) S_COMPACT_STRINGS hzC S_SIOOBE_FORMATTER hfm (own_l4 Q_sb0) hlt hi.1 (by decide) (by decide)) q3a q3c (g := (mkF m 10 #[.val (.ref sb0), .val (.int ii), .val (.int fl)] [(.int ii), (.ref sb0)])) rfl (by rw [hml]; rfl) (Steps.refl _) (argsL := [(.int ii)]) (rest := []) (lenOf pd_3 rfl) rfl (own_le rfl) (hb hby d3_10) (fun _ _ => ⟨rfl, e1, (by decide : 0 + 0 ≤ _), (by decide : 0 + 0 ≤ _)⟩)
    dsimp only [Pt.U, Pt.locs, Pt.cells, Pt.slots] at X3 l3 y3 z3 st3 hQ3
    subst l3 y3 z3
    obtain ⟨rfl, rfl, e3⟩ := hQ3
    replace N_ := Fr.app N_ (Fr.nil n0)
    refine own_by (T' := T3) (g' := (mkF m 13 #[.val (.ref sb0), .val (.int ii), .val (.int fl)] [(.int (cs.getD iN 0))])) (fun t k => st3.trans k) ?_
    clear st3 X1 e1
    refine own_by (T' := T3) (g' := (mkF m 17 #[.val (.ref sb0), .val (.int ii), .val (.int fl)] [(.int (cs.getD iN 0))])) (fun t k => XS.goto X3.here hx rfl (pc0 := 13) (pc' := 17) rfl (hb hby d3_13) (by decide) (by decide) k) ?_
    exact own_retN X3 hx (t := .char) Bd.notSynchronized Bd.returns (by simp) (hb hby d3_17) (by decide) (by decide) (by rw [e3]; exact ⟨_, rfl, N_, by rw [own_narok (own_getD Q_sb0.2.2.2.2.1 iN)]; exact own_getD Q_sb0.2.2.2.2.1 iN, rfl⟩)
  · refine own_by (T' := T1) (g' := (mkF m 16 #[.val (.ref sb0), .val (.int ii), .val (.int fl)] [])) (fun t k => XS.icmpYes X1.here hx rfl (pc0 := 5) (pc' := 16) rfl (hb hby d3_5) rfl (flt hc5_2).2.1 (by decide) (by decide) k) ?_
    refine own_by (T' := T1) (g' := (mkF m 17 #[.val (.ref sb0), .val (.int ii), .val (.int fl)] [(.int fl)])) (fun t k => XS.iloadN X1.here hx rfl (hb hby d3_16) rfl k) ?_
    exact own_retN X1 hx (t := .char) Bd.notSynchronized Bd.returns (by simp) (hb hby d3_17) (by decide) (by decide) (by rw [e1]; exact ⟨_, rfl, N_, by rw [own_narok hfl]; exact hfl, rfl⟩)

def Q9 (Z : State) (aa : Addr) (ii : Int32) (vv : Int32) (kc : ClassId) (NN : Nat) (cs : List Int32) (h0 : Heap) (n0 : Nat) (v : Option Value) (h : Heap) (L : List Loc) : Prop := ∃ cs2 : List Int32, v = none ∧ Fr n0 L ∧ Keep h0 h [aa] ∧ cs2.length = NN ∧ (∀ y ∈ cs2, own_ok y) ∧ Arv Z h aa kc .char (Int32.ofNat NN) (cs2.map Value.int) (.int 0)
theorem ef_9 (m : MethodId) (aa : Addr) (ii : Int32) (vv : Int32) : entryFrame m #[(.ref aa), (.int ii), (.int vv)] 3 = mkF m 0 #[.val (.ref aa), .val (.int ii), .val (.int vv)] [] := by first | (simp [entryFrame, mkF, argsToLocals, Value.category]; done) | rfl
theorem d9_0 : decode method_4_code 0 = .ok (.iload_n 1, 1) := by decide +kernel
theorem d9_1 : decode method_4_code 1 = .ok (.aload_n 0, 1) := by decide +kernel
theorem d9_2 : decode method_4_code 2 = .ok (.arraylength, 1) := by decide +kernel
theorem d9_3 : decode method_4_code 3 = .ok (.if_icmp .ge 7, 3) := by decide +kernel
theorem d9_6 : decode method_4_code 6 = .ok (.aload_n 0, 1) := by decide +kernel
theorem d9_7 : decode method_4_code 7 = .ok (.iload_n 1, 1) := by decide +kernel
theorem d9_8 : decode method_4_code 8 = .ok (.iload_n 2, 1) := by decide +kernel
theorem d9_9 : decode method_4_code 9 = .ok (.castore, 1) := by decide +kernel
theorem d9_10 : decode method_4_code 10 = .ok (.return_, 1) := by decide +kernel
set_option maxRecDepth 65536 in
set_option maxHeartbeats 40000000 in
theorem rm9 (l : Launch) (Z : State) (a0 : Array Value) (hw : ∀ d ∈ tables_1, d.before a0 Z = true) (ws : List Jvm.Cond) (aa : Addr) (ii : Int32) (vv : Int32) (kc : ClassId) (NN : Nat) (cs : List Int32) (h0 : Heap) (n0 : Nat) (Zle : n0 ≤ h0.size) (V_aa : Arv Z h0 aa kc .char (Int32.ofNat NN) (cs.map Value.int) (.int 0)) (g_aa : n0 ≤ aa) (hl : cs.length = NN) (hN9 : NN ≤ 9) (hcs : ∀ y ∈ cs, own_ok y) (hv : own_ok vv) (hi : ¬ ii < 0) :
    MetFree l (⟨"com/example/gate2/gate2/DimensionByFieldPinLaw", "put", "([CIC)V"⟩ : MethodName) (head1 (Jvm.Cond.code (⟨"com/example/gate2/gate2/DimensionByFieldPinLaw", "put", "([CIC)V"⟩ : MethodName) method_4_code 3 none :: ws) ({ frames := 0, cells := 0, slots := 0, locals := 0 } : Room)) (fun a U => a = #[(.ref aa), (.int ii), (.int vv)] ∧ Z.Warmed39 U.vm ∧ U.heap = h0) (fun _ _ _ _ _ => True) (fun _ U o U' => ∃ v L, o = .returned v ∧ Q9 Z aa ii vv kc NN cs h0 n0 v U'.heap L ∧ FrameEnd U o U' L ({ frames := 0, cells := 0, slots := 0, locals := 0 } : Room).cells ({ frames := 0, cells := 0, slots := 0, locals := 0 } : Room).slots) := by
  refine MetFree.of_bodySF (plainFor_of_name pn_com_example_gate2_gate2_DimensionByFieldPinLaw) hisR ?_
  intro p e s m args below meth c s₁ Bd hml0 hP hK
  obtain ⟨rfl, hZ, hh⟩ := hP
  have hx := Bd.exec
  have hby := Bd.bytes
  have hml : c.maxLocals = 3 := hml0
  have hown : s.vm.findClass "com/example/gate2/gate2/DimensionByFieldPinLaw" = some m.cls := findClass_of_methodNamed Bd.named
  have hnm := (name_of_methodNamed Bd.named Bd.method).1
  have X0 : Stand p l e ({ frames := 0, cells := 0, slots := 0, locals := 0 } : Room) s m #[(.ref aa), (.int ii), (.int vv)] below meth c s₁ [] 0 0 := Stand.of_body Bd
  have e0 : s₁.heap = h0 := by rw [← hh, Bd.state]; rfl
  have N_ := Fr.nil n0
  have K_ := Keep.refl h0 [aa]
  show own_Goes p.tables e below s (Q9 Z aa ii vv kc NN cs h0 n0) ({ frames := 0, cells := 0, slots := 0, locals := 0 } : Room).cells ({ frames := 0, cells := 0, slots := 0, locals := 0 } : Room).slots s₁ (entryFrame m #[(.ref aa), (.int ii), (.int vv)] 3)
  refine own_by (T' := s₁) (g' := (mkF m 0 #[.val (.ref aa), .val (.int ii), .val (.int vv)] [])) (fun t k => castTop (ef_9 m aa ii vv) k) ?_
  refine own_by (T' := s₁) (g' := (mkF m 1 #[.val (.ref aa), .val (.int ii), .val (.int vv)] [(.int ii)])) (fun t k => XS.iloadN X0.here hx rfl (hb hby d9_0) rfl k) ?_
  refine own_by (T' := s₁) (g' := (mkF m 2 #[.val (.ref aa), .val (.int ii), .val (.int vv)] [(.ref aa), (.int ii)])) (fun t k => XS.aloadN X0.here hx rfl (hb hby d9_1) rfl rfl k) ?_
  obtain ⟨cl1, Ar1, -, S1, N1, -, -⟩ := id V_aa
  have st1 : ∀ t, Steps p.tables e below (s₁.setTop (mkF m 3 #[.val (.ref aa), .val (.int ii), .val (.int vv)] [(.int (Int32.ofNat NN)), (.int ii)])) t → Steps p.tables e below (s₁.setTop (mkF m 2 #[.val (.ref aa), .val (.int ii), .val (.int vv)] [(.ref aa), (.int ii)])) t := fun t k => X0.arraylength hx (by rw [e0]; exact Ar1.1) (State.isArrayOf_alike hZ.alike Ar1.2.1) (g := (mkF m 2 #[.val (.ref aa), .val (.int ii), .val (.int vv)] [(.ref aa), (.int ii)])) rfl rfl (hb hby d9_2) _ (by rw [len_of S1 N1]; exact k)
  refine own_by (T' := s₁) (g' := (mkF m 3 #[.val (.ref aa), .val (.int ii), .val (.int vv)] [(.int (Int32.ofNat NN)), (.int ii)])) (fun t k => st1 t k) ?_
  clear st1
  by_cases hc3_2 : ii < (Int32.ofNat NN)
  · refine own_by (T' := s₁) (g' := (mkF m 6 #[.val (.ref aa), .val (.int ii), .val (.int vv)] [])) (fun t k => XS.icmpNo X0.here hx rfl (hb hby d9_3) rfl (tlt hc3_2).2.1 k) ?_
    refine own_by (T' := s₁) (g' := (mkF m 7 #[.val (.ref aa), .val (.int ii), .val (.int vv)] [(.ref aa)])) (fun t k => XS.aloadN X0.here hx rfl (hb hby d9_6) rfl rfl k) ?_
    refine own_by (T' := s₁) (g' := (mkF m 8 #[.val (.ref aa), .val (.int ii), .val (.int vv)] [(.int ii), (.ref aa)])) (fun t k => XS.iloadN X0.here hx rfl (hb hby d9_7) rfl k) ?_
    refine own_by (T' := s₁) (g' := (mkF m 9 #[.val (.ref aa), .val (.int ii), .val (.int vv)] [(.int vv), (.int ii), (.ref aa)])) (fun t k => XS.iloadN X0.here hx rfl (hb hby d9_8) rfl k) ?_
    obtain ⟨cl3, Ar3, q3, S3, N3, Hs3, G3⟩ := id V_aa
    have hin3 : ¬ (ii < 0 ∨ cl3.slots.size ≤ (ii).toNatClampNeg) := inb_of S3 ⟨hi, hc3_2⟩
    obtain ⟨T3, h3, X3, e3, W3, st3⟩ := stC X0 hx hZ e0 Ar3 (j := ii) hin3 (g := (mkF m 9 #[.val (.ref aa), .val (.int ii), .val (.int vv)] [(.int vv), (.int ii), (.ref aa)])) rfl rfl (hb hby d9_9)
    rw [own_narok hv] at W3
    have V_aa_ : Arv Z h3 aa kc .char (Int32.ofNat NN) ((cs.set (ii).toNatClampNeg vv).map Value.int) (.int 0) := by rw [List.map_set]; exact Arv.set Ar3 q3 S3 N3 Hs3 G3 (by rw [← own_narok hv]; exact fits_nar_char _) W3 (ii).toNatClampNeg rfl (by rw [List.length_map, hl]; exact (own_ix hi hc3_2 hN9))
    replace Zle := Nat.le_trans Zle (Keep.of_wr W3).1
    replace K_ := K_.wr W3 (Or.inl (List.mem_of_getElem? (i := 0) rfl))
    replace V_aa := V_aa_
    clear V_aa_ W3 hin3 G3 Hs3 N3 S3 q3 Ar3
    replace N_ := Fr.snoc X3 N_ g_aa
    refine own_by (T' := T3) (g' := (mkF m 10 #[.val (.ref aa), .val (.int ii), .val (.int vv)] [])) (fun t k => st3 t k) ?_
    clear st3 X0 e0
    exact own_retV X3 hx Bd.notSynchronized Bd.returns (hb hby d9_10) (by decide) (by decide) (by rw [e3]; exact ⟨_, rfl, N_, K_, (own_set ii.toNatClampNeg hcs hv).2.trans hl, (own_set ii.toNatClampNeg hcs hv).1, V_aa⟩)
  · refine own_by (T' := s₁) (g' := (mkF m 10 #[.val (.ref aa), .val (.int ii), .val (.int vv)] [])) (fun t k => XS.icmpYes X0.here hx rfl (pc0 := 3) (pc' := 10) rfl (hb hby d9_3) rfl (flt hc3_2).2.1 (by decide) (by decide) k) ?_
    exact own_retV X0 hx Bd.notSynchronized Bd.returns (hb hby d9_10) (by decide) (by decide) (by rw [e0]; exact ⟨_, rfl, N_, K_, hl, hcs, V_aa⟩)

def Q11 (Z : State) (ob : Addr) (ca : Addr) (h0 : Heap) (n0 : Nat) (v : Option Value) (h : Heap) (L : List Loc) : Prop := v = none ∧ Fr n0 L ∧ Keep h0 h [ob] ∧ ∃ (tq : Addr) (kq : ClassId), own_Str Z h ob tq kq []
theorem pn_java_lang_String : plainName "java/lang/String" = true := by first | (simp [plainName, overriddenIn]; done) | decide +kernel
theorem ef_11 (m : MethodId) (ob : Addr) (ca : Addr) : entryFrame m #[(.ref ob), (.ref ca), (.int 0), (.int 0), .null] 6 = mkF m 0 #[.val (.ref ob), .val (.ref ca), .val (.int 0), .val (.int 0), .val .null, .unset] [] := by first | (simp [entryFrame, mkF, argsToLocals, Value.category]; done) | rfl
theorem d11_0 : decode jdk_42_method_149_code 0 = .ok (.aload_n 0, 1) := by decide +kernel
theorem d11_1 : decode jdk_42_method_149_code 1 = .ok (.invokespecial 1, 3) := by decide +kernel
theorem d11_4 : decode jdk_42_method_149_code 4 = .ok (.iload_n 3, 1) := by decide +kernel
theorem d11_5 : decode jdk_42_method_149_code 5 = .ok (.ifCond .ne 22, 3) := by decide +kernel
theorem d11_8 : decode jdk_42_method_149_code 8 = .ok (.aload_n 0, 1) := by decide +kernel
theorem d11_9 : decode jdk_42_method_149_code 9 = .ok (.ldc 7, 2) := by decide +kernel
theorem d11_11 : decode jdk_42_method_149_code 11 = .ok (.getfield 9, 3) := by decide +kernel
theorem d11_14 : decode jdk_42_method_149_code 14 = .ok (.putfield 9, 3) := by decide +kernel
theorem d11_17 : decode jdk_42_method_149_code 17 = .ok (.aload_n 0, 1) := by decide +kernel
theorem d11_18 : decode jdk_42_method_149_code 18 = .ok (.ldc 7, 2) := by decide +kernel
theorem d11_20 : decode jdk_42_method_149_code 20 = .ok (.getfield 15, 3) := by decide +kernel
theorem d11_23 : decode jdk_42_method_149_code 23 = .ok (.putfield 15, 3) := by decide +kernel
theorem d11_26 : decode jdk_42_method_149_code 26 = .ok (.return_, 1) := by decide +kernel
set_option maxRecDepth 65536 in
set_option maxHeartbeats 40000000 in
theorem rm11 (l : Launch) (Z : State) (a0 : Array Value) (hw : ∀ d ∈ tables_1, d.before a0 Z = true) (ws : List Jvm.Cond) (ob : Addr) (ca : Addr) (h0 : Heap) (n0 : Nat) (Zle : n0 ≤ h0.size) (E_ob : Exa Z h0 ob "java/lang/String") (g_ob : n0 ≤ ob) (F_value_ob : Fld Z h0 ob "java/lang/String" "value" "[B" .null) (F_coder_ob : Fld Z h0 ob "java/lang/String" "coder" "B" (.int 0)) (hEL : EW Z a0 own_EL) :
    MetFree l (⟨"java/lang/String", "<init>", "([CIILjava/lang/Void;)V"⟩ : MethodName) (head1 (Jvm.Cond.code (⟨"java/lang/String", "<init>", "([CIILjava/lang/Void;)V"⟩ : MethodName) jdk_42_method_149_code 6 none :: ws) ({ frames := 1, cells := 4, slots := 8, locals := 12 } : Room)) (fun a U => a = #[(.ref ob), (.ref ca), (.int 0), (.int 0), .null] ∧ Z.Warmed39 U.vm ∧ U.heap = h0 ∧ CHv Z own_EL U.vm h0) (fun _ _ _ _ _ => True) (fun _ U o U' => ∃ v L, o = .returned v ∧ Q11 Z ob ca h0 n0 v U'.heap L ∧ CHr Z own_EL U.vm U.heap U'.vm U'.heap ∧ ReturnedEndW U o U' L ({ frames := 1, cells := 4, slots := 8, locals := 12 } : Room).cells ({ frames := 1, cells := 4, slots := 8, locals := 12 } : Room).slots) := by
  refine MetFree.of_bodySF (plainFor_of_name pn_java_lang_String) hisR ?_
  intro p e s m args below meth c s₁ Bd hml0 hP hK
  obtain ⟨rfl, hZ, hh, hH⟩ := hP
  have hx := Bd.exec
  have hby := Bd.bytes
  have hml : c.maxLocals = 6 := hml0
  have hown : s.vm.findClass "java/lang/String" = some m.cls := findClass_of_methodNamed Bd.named
  have hnm := (name_of_methodNamed Bd.named Bd.method).1
  have X0 : Stand p l e ({ frames := 1, cells := 4, slots := 8, locals := 12 } : Room) s m #[(.ref ob), (.ref ca), (.int 0), (.int 0), .null] below meth c s₁ [] 0 0 := Stand.of_body Bd
  have e0 : s₁.heap = h0 := by rw [← hh, Bd.state]; rfl
  have hS : s.Since s.vm 0 := (State.WarmedH.refl s).since 0
  have X0 : Stand p l e ({ frames := 1, cells := 4, slots := 8, locals := 12 } : Room) (s.setVm s.vm) m #[(.ref ob), (.ref ca), (.int 0), (.int 0), .null] below meth c s₁ [] 0 0 := X0
  have hk_ : 0 ≤ h0.size := Nat.zero_le _
  have hZ : Z.Warmed39 (s.setVm s.vm).vm := hZ
  have hown : (s.setVm s.vm).vm.findClass "java/lang/String" = some m.cls := hown
  have R_ : CHr Z own_EL s.vm s.heap s.vm h0 := by rw [hh]; exact CHr.refl hH
  have N_ := Fr.nil n0
  have K_ := Keep.refl h0 [ob]
  show own_GoesH Z p.tables e below s (Q11 Z ob ca h0 n0) ({ frames := 1, cells := 4, slots := 8, locals := 12 } : Room).cells ({ frames := 1, cells := 4, slots := 8, locals := 12 } : Room).slots s₁ (entryFrame m #[(.ref ob), (.ref ca), (.int 0), (.int 0), .null] 6)
  refine own_byH (T' := s₁) (g' := (mkF m 0 #[.val (.ref ob), .val (.ref ca), .val (.int 0), .val (.int 0), .val .null, .unset] [])) (fun t k => castTop (ef_11 m ob ca) k) ?_
  have Sf_ob := own_safe (EL := own_EL) hZ.alike E_ob F_value_ob
  refine own_byH (T' := s₁) (g' := (mkF m 1 #[.val (.ref ob), .val (.ref ca), .val (.int 0), .val (.int 0), .val .null, .unset] [(.ref ob)])) (fun t k => XS.aloadN X0.here hx rfl (hb hby d11_0) rfl rfl k) ?_
  obtain ⟨T1, X1, e1, st1⟩ := initO X0 hx hZ hown (hw _ (own_m 59 rfl)) (hw _ (own_m 60 rfl)) (hw _ (own_m 61 rfl)) e0 (g := (mkF m 1 #[.val (.ref ob), .val (.ref ca), .val (.int 0), .val (.int 0), .val .null, .unset] [(.ref ob)])) rfl (by rw [hml]; rfl) rfl (hb hby d11_1) (by decide) (W := 0) (own_le rfl) (by decide)
  refine own_byH (T' := T1) (g' := (mkF m 4 #[.val (.ref ob), .val (.ref ca), .val (.int 0), .val (.int 0), .val .null, .unset] [])) (fun t k => st1 t k) ?_
  clear st1 X0 e0
  refine own_byH (T' := T1) (g' := (mkF m 5 #[.val (.ref ob), .val (.ref ca), .val (.int 0), .val (.int 0), .val .null, .unset] [(.int 0)])) (fun t k => XS.iloadN X1.here hx rfl (hb hby d11_4) rfl k) ?_
  refine own_byH (T' := T1) (g' := (mkF m 8 #[.val (.ref ob), .val (.ref ca), .val (.int 0), .val (.int 0), .val .null, .unset] [])) (fun t k => XS.ifNo X1.here hx rfl (hb hby d11_5) rfl ((if0 _ _).trans (teq (by decide)).2) k) ?_
  refine own_byH (T' := T1) (g' := (mkF m 9 #[.val (.ref ob), .val (.ref ca), .val (.int 0), .val (.int 0), .val .null, .unset] [(.ref ob)])) (fun t k => XS.aloadN X1.here hx rfl (hb hby d11_8) rfl rfl k) ?_
  have lt_Sf_ob := E_ob.lt
  obtain ⟨sa2, T2, h2, kk2, sb2, ck2, X2, e2, E2, hS, hk_, hZ, hown, Es2, Fc2, Fv2, Va2, -, -, C2, -, sf2, st2⟩ := ldcCH X1 hx hZ hown (hw _ (own_m 142 rfl)) (own_str hw (by decide +kernel)) e1 hS hk_ hEL (List.mem_of_getElem? (i := 4) rfl) R_.1 (vs := (([] : List Int32).map fun c => Value.int c.toInt8.toInt32)) (z := Int32.ofNat ([] : List Int32).length) ⟨by decide, by first | rfl | decide⟩ (by decide) (by first | rfl | decide) (g := (mkF m 9 #[.val (.ref ob), .val (.ref ca), .val (.int 0), .val (.int 0), .val .null, .unset] [(.ref ob)])) rfl (hb hby d11_9) (n := 0) (by decide) (by decide) (by decide) (by decide)
  replace Sf_ob := C2.safe lt_Sf_ob Sf_ob
  clear lt_Sf_ob
  have ne_ob_sa2 := (sf2 _ Sf_ob).1
  have ne_ob_sb2 := (sf2 _ Sf_ob).2
  clear sf2
  replace R_ := R_.trans C2
  clear C2
  replace E_ob := E_ob.ext E2
  replace F_value_ob := F_value_ob.ext E2
  replace F_coder_ob := F_coder_ob.ext E2
  replace Zle := Nat.le_trans Zle E2.1
  replace K_ := K_.ext E2
  have Q_sa2 : own_Str Z h2 sa2 sb2 ck2 ([] : List Int32) := ⟨Es2, Fv2, Fc2, Va2, by decide, by decide⟩
  clear Es2 Fv2 Fc2 Va2
  refine own_byH (T' := T2) (g' := (mkF m 11 #[.val (.ref ob), .val (.ref ca), .val (.int 0), .val (.int 0), .val .null, .unset] [(.ref sa2), (.ref ob)])) (fun t k => st2 t k) ?_
  clear st2 X1 e1
  have F_value_sa2 := Q_sa2.2.1
  obtain ⟨T3, X3, e3, st3⟩ := getF X2 hx hZ hown (host := "") (Or.inl (hw _ (own_m 13 rfl))) Via.refl e2 F_value_sa2 (g := (mkF m 11 #[.val (.ref ob), .val (.ref ca), .val (.int 0), .val (.int 0), .val .null, .unset] [(.ref sa2), (.ref ob)])) rfl rfl (hb hby d11_11)
  refine own_byH (T' := T3) (g' := (mkF m 14 #[.val (.ref ob), .val (.ref ca), .val (.int 0), .val (.int 0), .val .null, .unset] [(.ref sb2), (.ref ob)])) (fun t k => st3 t k) ?_
  clear st3 X2 e2
  obtain ⟨T4, h4, X4, e4, W4, st4⟩ := putF X3 hx hZ hown (host := "") (Or.inl (hw _ (own_m 13 rfl))) Via.refl e3 F_value_ob E_ob (Or.inr ⟨(hw _ (own_m 4 rfl)), rfl, hnm⟩) (hw _ (own_m 2 rfl)) (ty := (.array .byte)) (by decide) rfl rfl (g := (mkF m 14 #[.val (.ref ob), .val (.ref ca), .val (.int 0), .val (.int 0), .val .null, .unset] [(.ref sb2), (.ref ob)])) rfl rfl (hb hby d11_14)
  have F_value_ob_ := F_value_ob.same W4
  have Sf_ob' := Safe.wr W4 Sf_ob R_.1 Sf_ob
  replace R_ := R_.trans (CHr.wr W4 Sf_ob R_.1)
  replace Sf_ob := Sf_ob'
  replace E_ob := E_ob.wr W4
  replace F_coder_ob := F_coder_ob.other W4 (Or.inr (slot_ne (Or.inr (hw _ (own_m 5 rfl))) (Or.inr (hw _ (own_m 4 rfl))) (by decide) (t := .byte) (t' := (.array .byte)) (by decide) (by decide)))
  replace Zle := Nat.le_trans Zle (Keep.of_wr W4).1
  replace K_ := K_.wr W4 (Or.inl (List.mem_of_getElem? (i := 0) rfl))
  replace hk_ := Nat.le_trans hk_ (Keep.of_wr W4).1
  replace Q_sa2 := Q_sa2.other W4 ne_ob_sa2.symm ne_ob_sb2.symm
  replace F_value_sa2 := F_value_sa2.other W4 (Or.inl ne_ob_sa2.symm)
  replace F_value_ob := F_value_ob_
  clear F_value_ob_ W4
  replace N_ := Fr.snoc X4 N_ g_ob
  refine own_byH (T' := T4) (g' := (mkF m 17 #[.val (.ref ob), .val (.ref ca), .val (.int 0), .val (.int 0), .val .null, .unset] [])) (fun t k => st4 t k) ?_
  clear st4 X3 e3
  refine own_byH (T' := T4) (g' := (mkF m 18 #[.val (.ref ob), .val (.ref ca), .val (.int 0), .val (.int 0), .val .null, .unset] [(.ref ob)])) (fun t k => XS.aloadN X4.here hx rfl (hb hby d11_17) rfl rfl k) ?_
  have lt_Sf_ob := E_ob.lt
  obtain ⟨sa5, T5, h5, kk5, sb5, ck5, X5, e5, E5, hS, hk_, hZ, hown, Es5, Fc5, Fv5, Va5, -, -, C5, -, sf5, st5⟩ := ldcCH X4 hx hZ hown (hw _ (own_m 142 rfl)) (own_str hw (by decide +kernel)) e4 hS hk_ hEL (List.mem_of_getElem? (i := 4) rfl) R_.1 (vs := (([] : List Int32).map fun c => Value.int c.toInt8.toInt32)) (z := Int32.ofNat ([] : List Int32).length) ⟨by decide, by first | rfl | decide⟩ (by decide) (by first | rfl | decide) (g := (mkF m 18 #[.val (.ref ob), .val (.ref ca), .val (.int 0), .val (.int 0), .val .null, .unset] [(.ref ob)])) rfl (hb hby d11_18) (n := 0) (by decide) (by decide) (by decide) (by decide)
  replace Sf_ob := C5.safe lt_Sf_ob Sf_ob
  clear lt_Sf_ob
  have ne_ob_sa5 := (sf5 _ Sf_ob).1
  have ne_ob_sb5 := (sf5 _ Sf_ob).2
  clear sf5
  replace R_ := R_.trans C5
  clear C5
  replace E_ob := E_ob.ext E5
  replace F_coder_ob := F_coder_ob.ext E5
  replace Zle := Nat.le_trans Zle E5.1
  replace K_ := K_.ext E5
  replace Q_sa2 := Q_sa2.ext E5
  replace F_value_sa2 := F_value_sa2.ext E5
  replace F_value_ob := F_value_ob.ext E5
  have Q_sa5 : own_Str Z h5 sa5 sb5 ck5 ([] : List Int32) := ⟨Es5, Fv5, Fc5, Va5, by decide, by decide⟩
  clear Es5 Fv5 Fc5 Va5
  refine own_byH (T' := T5) (g' := (mkF m 20 #[.val (.ref ob), .val (.ref ca), .val (.int 0), .val (.int 0), .val .null, .unset] [(.ref sa5), (.ref ob)])) (fun t k => st5 t k) ?_
  clear st5 X4 e4
  have F_coder_sa5 := Q_sa5.2.2.1
  obtain ⟨T6, X6, e6, st6⟩ := getF X5 hx hZ hown (host := "") (Or.inl (hw _ (own_m 20 rfl))) Via.refl e5 F_coder_sa5 (g := (mkF m 20 #[.val (.ref ob), .val (.ref ca), .val (.int 0), .val (.int 0), .val .null, .unset] [(.ref sa5), (.ref ob)])) rfl rfl (hb hby d11_20)
  refine own_byH (T' := T6) (g' := (mkF m 23 #[.val (.ref ob), .val (.ref ca), .val (.int 0), .val (.int 0), .val .null, .unset] [(.int 0), (.ref ob)])) (fun t k => st6 t k) ?_
  clear st6 X5 e5
  obtain ⟨T7, h7, X7, e7, W7, st7⟩ := putFN X6 hx hZ hown (hw _ (own_m 20 rfl)) Via.refl e6 F_coder_ob E_ob (Or.inr ⟨(hw _ (own_m 5 rfl)), rfl, hnm⟩) (hw _ (own_m 2 rfl)) (ty := .byte) (v' := (.int (nar .byte (0 : Int32)))) (by decide) rfl (fits_nar_byte _) (g := (mkF m 23 #[.val (.ref ob), .val (.ref ca), .val (.int 0), .val (.int 0), .val .null, .unset] [(.int 0), (.ref ob)])) rfl rfl (hb hby d11_23)
  have F_coder_ob_ := F_coder_ob.same W7
  have Sf_ob' := Safe.wr W7 Sf_ob R_.1 Sf_ob
  replace R_ := R_.trans (CHr.wr W7 Sf_ob R_.1)
  replace Sf_ob := Sf_ob'
  replace E_ob := E_ob.wr W7
  replace Zle := Nat.le_trans Zle (Keep.of_wr W7).1
  replace K_ := K_.wr W7 (Or.inl (List.mem_of_getElem? (i := 0) rfl))
  replace Q_sa2 := Q_sa2.other W7 ne_ob_sa2.symm ne_ob_sb2.symm
  replace F_value_sa2 := F_value_sa2.other W7 (Or.inl ne_ob_sa2.symm)
  replace F_value_ob := F_value_ob.other W7 (Or.inr (slot_ne (Or.inr (hw _ (own_m 4 rfl))) (Or.inr (hw _ (own_m 5 rfl))) (by decide) (t := (.array .byte)) (t' := .byte) (by decide) (by decide)))
  replace hk_ := Nat.le_trans hk_ (Keep.of_wr W7).1
  replace Q_sa5 := Q_sa5.other W7 ne_ob_sa5.symm ne_ob_sb5.symm
  replace F_coder_sa5 := F_coder_sa5.other W7 (Or.inl ne_ob_sa5.symm)
  replace F_coder_ob := F_coder_ob_
  clear F_coder_ob_ W7
  replace N_ := Fr.snoc X7 N_ g_ob
  refine own_byH (T' := T7) (g' := (mkF m 26 #[.val (.ref ob), .val (.ref ca), .val (.int 0), .val (.int 0), .val .null, .unset] [])) (fun t k => st7 t k) ?_
  clear st7 X6 e6
  exact own_retVH X7 hS (by rw [e7]; exact hk_) hx Bd.notSynchronized Bd.returns (hb hby d11_26) (by decide) (by decide) hZ hEL (by rw [e7]; exact R_) (by rw [e7]; exact ⟨rfl, N_, K_, _, _, E_ob, F_value_ob, by have hq := F_coder_ob; rw [own_n0] at hq; exact hq, Q_sa2.2.2.2.1, nofun, Nat.zero_le _⟩)

def Q10 (Z : State) (ob : Addr) (ca : Addr) (kc : ClassId) (h0 : Heap) (n0 : Nat) (v : Option Value) (h : Heap) (L : List Loc) : Prop := v = none ∧ Fr n0 L ∧ Keep h0 h [ob] ∧ ∃ (tq : Addr) (kq : ClassId), own_Str Z h ob tq kq []
theorem ef_10 (m : MethodId) (ob : Addr) (ca : Addr) : entryFrame m #[(.ref ob), (.ref ca)] 2 = mkF m 0 #[.val (.ref ob), .val (.ref ca)] [] := by first | (simp [entryFrame, mkF, argsToLocals, Value.category]; done) | rfl
theorem d10_0 : decode jdk_42_method_3_code 0 = .ok (.aload_n 0, 1) := by decide +kernel
theorem d10_1 : decode jdk_42_method_3_code 1 = .ok (.aload_n 1, 1) := by decide +kernel
theorem d10_2 : decode jdk_42_method_3_code 2 = .ok (.iconst 0, 1) := by decide +kernel
theorem d10_3 : decode jdk_42_method_3_code 3 = .ok (.aload_n 1, 1) := by decide +kernel
theorem d10_4 : decode jdk_42_method_3_code 4 = .ok (.arraylength, 1) := by decide +kernel
theorem d10_5 : decode jdk_42_method_3_code 5 = .ok (.aconst_null, 1) := by decide +kernel
theorem d10_6 : decode jdk_42_method_3_code 6 = .ok (.invokespecial 27, 3) := by decide +kernel
theorem pd_10 : parseMethodDescriptor "([CIILjava/lang/Void;)V" = some ⟨[(.array .char), .int, .int, (.object "java/lang/Void")], none⟩ := by decide +kernel
theorem d10_9 : decode jdk_42_method_3_code 9 = .ok (.return_, 1) := by decide +kernel
set_option maxRecDepth 65536 in
set_option maxHeartbeats 40000000 in
theorem rm10 (l : Launch) (Z : State) (a0 : Array Value) (hw : ∀ d ∈ tables_1, d.before a0 Z = true) (ws : List Jvm.Cond) (ob : Addr) (ca : Addr) (kc : ClassId) (h0 : Heap) (n0 : Nat) (Zle : n0 ≤ h0.size) (E_ob : Exa Z h0 ob "java/lang/String") (g_ob : n0 ≤ ob) (F_value_ob : Fld Z h0 ob "java/lang/String" "value" "[B" .null) (F_coder_ob : Fld Z h0 ob "java/lang/String" "coder" "B" (.int 0)) (V_ca : Arv Z h0 ca kc .char (0 : Int32) [] (.int 0)) (ne_ca_ob : ca ≠ ob) (hEL : EW Z a0 own_EL) :
    MetFree l (⟨"java/lang/String", "<init>", "([C)V"⟩ : MethodName) (head1 (Jvm.Cond.code (⟨"java/lang/String", "<init>", "([C)V"⟩ : MethodName) jdk_42_method_3_code 2 none :: ws) ({ frames := 2, cells := 4, slots := 8, locals := 30 } : Room)) (fun a U => a = #[(.ref ob), (.ref ca)] ∧ Z.Warmed39 U.vm ∧ U.heap = h0 ∧ CHv Z own_EL U.vm h0) (fun _ _ _ _ _ => True) (fun _ U o U' => ∃ v L, o = .returned v ∧ Q10 Z ob ca kc h0 n0 v U'.heap L ∧ CHr Z own_EL U.vm U.heap U'.vm U'.heap ∧ ReturnedEndW U o U' L ({ frames := 2, cells := 4, slots := 8, locals := 30 } : Room).cells ({ frames := 2, cells := 4, slots := 8, locals := 30 } : Room).slots) := by
  refine MetFree.of_bodySF (plainFor_of_name pn_java_lang_String) hisR ?_
  intro p e s m args below meth c s₁ Bd hml0 hP hK
  obtain ⟨rfl, hZ, hh, hH⟩ := hP
  have hx := Bd.exec
  have hby := Bd.bytes
  have hml : c.maxLocals = 2 := hml0
  have hown : s.vm.findClass "java/lang/String" = some m.cls := findClass_of_methodNamed Bd.named
  have hnm := (name_of_methodNamed Bd.named Bd.method).1
  have X0 : Stand p l e ({ frames := 2, cells := 4, slots := 8, locals := 30 } : Room) s m #[(.ref ob), (.ref ca)] below meth c s₁ [] 0 0 := Stand.of_body Bd
  have e0 : s₁.heap = h0 := by rw [← hh, Bd.state]; rfl
  have hS : s.Since s.vm 0 := (State.WarmedH.refl s).since 0
  have X0 : Stand p l e ({ frames := 2, cells := 4, slots := 8, locals := 30 } : Room) (s.setVm s.vm) m #[(.ref ob), (.ref ca)] below meth c s₁ [] 0 0 := X0
  have hk_ : 0 ≤ h0.size := Nat.zero_le _
  have hZ : Z.Warmed39 (s.setVm s.vm).vm := hZ
  have hown : (s.setVm s.vm).vm.findClass "java/lang/String" = some m.cls := hown
  have R_ : CHr Z own_EL s.vm s.heap s.vm h0 := by rw [hh]; exact CHr.refl hH
  have N_ := Fr.nil n0
  have K_ := Keep.refl h0 [ob]
  show own_GoesH Z p.tables e below s (Q10 Z ob ca kc h0 n0) ({ frames := 2, cells := 4, slots := 8, locals := 30 } : Room).cells ({ frames := 2, cells := 4, slots := 8, locals := 30 } : Room).slots s₁ (entryFrame m #[(.ref ob), (.ref ca)] 2)
  refine own_byH (T' := s₁) (g' := (mkF m 0 #[.val (.ref ob), .val (.ref ca)] [])) (fun t k => castTop (ef_10 m ob ca) k) ?_
  refine own_byH (T' := s₁) (g' := (mkF m 1 #[.val (.ref ob), .val (.ref ca)] [(.ref ob)])) (fun t k => XS.aloadN X0.here hx rfl (hb hby d10_0) rfl rfl k) ?_
  refine own_byH (T' := s₁) (g' := (mkF m 2 #[.val (.ref ob), .val (.ref ca)] [(.ref ca), (.ref ob)])) (fun t k => XS.aloadN X0.here hx rfl (hb hby d10_1) rfl rfl k) ?_
  refine own_byH (T' := s₁) (g' := (mkF m 3 #[.val (.ref ob), .val (.ref ca)] [(.int 0), (.ref ca), (.ref ob)])) (fun t k => XS.iconst X0.here hx rfl (hb hby d10_2) k) ?_
  refine own_byH (T' := s₁) (g' := (mkF m 4 #[.val (.ref ob), .val (.ref ca)] [(.ref ca), (.int 0), (.ref ca), (.ref ob)])) (fun t k => XS.aloadN X0.here hx rfl (hb hby d10_3) rfl rfl k) ?_
  obtain ⟨cl1, Ar1, -, S1, N1, -, -⟩ := id V_ca
  have st1 : ∀ t, Steps p.tables e below (s₁.setTop (mkF m 5 #[.val (.ref ob), .val (.ref ca)] [(.int 0), (.int 0), (.ref ca), (.ref ob)])) t → Steps p.tables e below (s₁.setTop (mkF m 4 #[.val (.ref ob), .val (.ref ca)] [(.ref ca), (.int 0), (.ref ca), (.ref ob)])) t := fun t k => X0.arraylength hx (by rw [e0]; exact Ar1.1) (State.isArrayOf_alike hZ.alike Ar1.2.1) (g := (mkF m 4 #[.val (.ref ob), .val (.ref ca)] [(.ref ca), (.int 0), (.ref ca), (.ref ob)])) rfl rfl (hb hby d10_4) _ (by rw [len_of S1 N1]; exact k)
  refine own_byH (T' := s₁) (g' := (mkF m 5 #[.val (.ref ob), .val (.ref ca)] [(.int 0), (.int 0), (.ref ca), (.ref ob)])) (fun t k => st1 t k) ?_
  clear st1
  refine own_byH (T' := s₁) (g' := (mkF m 6 #[.val (.ref ob), .val (.ref ca)] [.null, (.int 0), (.int 0), (.ref ca), (.ref ob)])) (fun t k => XS.aconstNull X0.here hx rfl (hb hby d10_5) k) ?_
  obtain ⟨_, _, ⟨T2, L2, k2, n2⟩, -, X2, hS2, hg2, ⟨Lc2, hQ2, l2, y2, z2, C2⟩, st2⟩ := X0.specialBackS hx (y := (⟨"java/lang/String", "<init>", "([CIILjava/lang/Void;)V"⟩ : MethodName)) rfl hown (mvT hZ (hw _ (own_m 55 rfl))) (mvT hZ (hw _ (own_m 56 rfl))) (mvT hZ (hw _ (own_m 58 rfl))) (by decide) (backOfSH (W := 0) (rm11 l Z a0 hw [] ob ca h0 n0 Zle E_ob g_ob F_value_ob F_coder_ob (hEL)) hZ (hw _ (own_m 58 rfl)) (hw _ (own_m 1 rfl)) (by decide) (by decide) hEL R_.1) (g := (mkF m 6 #[.val (.ref ob), .val (.ref ca)] [.null, (.int 0), (.int 0), (.ref ca), (.ref ob)])) rfl (by rw [hml]; rfl) (Steps.refl _) (a := ob) (argsL := [(.ref ca), (.int 0), (.int 0), .null]) (rest := []) (lenOf pd_10 rfl) rfl (own_le rfl) (hb hby d10_6) (fun _ _ => ⟨rfl, e0, (by decide : 0 + 4 ≤ _), (by decide : 0 + 8 ≤ _)⟩)
  dsimp only [Pt.U, Pt.locs, Pt.cells, Pt.slots] at X2 l2 y2 z2 st2 hQ2 hS2 hg2 C2
  subst l2 y2 z2
  have hS := foldS (T := s₁) hS (by rw [e0]; exact hk_) hS2 hg2
  have hZ : Z.Warmed39 (s.setVm T2.vm).vm := State.Warmed39.trans (t := s.setVm _) hZ hS2.1
  have hown : (s.setVm T2.vm).vm.findClass "java/lang/String" = some m.cls := by rw [show (s.setVm T2.vm).vm = T2.vm from rfl, hS2.1.alike.findClass]; exact hown
  replace R_ := R_.trans C2
  obtain ⟨rfl, Nq2, c2_0, c2_1⟩ := hQ2
  replace N_ := Fr.app N_ Nq2
  clear Nq2
  replace E_ob := E_ob.keep c2_0
  replace V_ca := V_ca.keep c2_0 (ninS ne_ca_ob nin0)
  replace Zle := Nat.le_trans Zle c2_0.1
  replace K_ := K_.trans c2_0 (allS (Or.inl (List.mem_of_getElem? (i := 0) rfl)) all0)
  have hk_ : T2.heap.size ≤ T2.heap.size := Nat.le_refl _
  refine own_byH (T' := T2) (g' := (mkF m 9 #[.val (.ref ob), .val (.ref ca)] [])) (fun t k => st2.trans k) ?_
  clear st2 X0 e0
  exact own_retVH X2 hS hk_ hx Bd.notSynchronized Bd.returns (hb hby d10_9) (by decide) (by decide) hZ hEL R_ (by exact ⟨rfl, N_, K_, c2_1⟩)

def Q19 (Z : State) (va : Addr) (kv : ClassId) (d0 : Addr) (d1 : Addr) (d2 : Addr) (d3 : Addr) (h0 : Heap) (n0 : Nat) (v : Option Value) (h : Heap) (L : List Loc) : Prop := ∃ nv : Addr, v = some (.ref nv) ∧ Fr n0 L ∧ Keep h0 h [] ∧ h0.size ≤ nv ∧ Arv Z h nv kv (.object "com/example/gate2/gate2/Dimension") (4 : Int32) [(.ref d0), (.ref d1), (.ref d2), (.ref d3)] .null
theorem pn_com_example_gate2_gate2_Dimension : plainName "com/example/gate2/gate2/Dimension" = true := by first | (simp [plainName, overriddenIn]; done) | decide +kernel
theorem ef_19 (m : MethodId)  : entryFrame m #[] 0 = mkF m 0 #[] [] := by first | (simp [entryFrame, mkF, argsToLocals, Value.category]; done) | rfl
theorem d19_0 : decode prog_6_method_1_code 0 = .ok (.getstatic 16, 3) := by decide +kernel
theorem d19_3 : decode prog_6_method_1_code 3 = .ok (.invokevirtual 20, 3) := by decide +kernel
theorem d19_6 : decode prog_6_method_1_code 6 = .ok (.checkcast 21, 3) := by decide +kernel
theorem d19_9 : decode prog_6_method_1_code 9 = .ok (.areturn, 1) := by decide +kernel
set_option maxRecDepth 65536 in
set_option maxHeartbeats 40000000 in
theorem rm19 (l : Launch) (Z : State) (a0 : Array Value) (hw : ∀ d ∈ tables_1, d.before a0 Z = true) (ws : List Jvm.Cond) (va : Addr) (kv : ClassId) (d0 : Addr) (d1 : Addr) (d2 : Addr) (d3 : Addr) (h0 : Heap) (n0 : Nat) (Zle : n0 ≤ h0.size) (S__VALUES : Sta Z h0 "com/example/gate2/gate2/Dimension" "$VALUES" "[Lcom/example/gate2/gate2/Dimension;" (.ref va)) (E_va : Exa Z h0 va "[Lcom/example/gate2/gate2/Dimension;") (V_va : Arv Z h0 va kv (.object "com/example/gate2/gate2/Dimension") (4 : Int32) [(.ref d0), (.ref d1), (.ref d2), (.ref d3)] .null) :
    MetFree l (⟨"com/example/gate2/gate2/Dimension", "values", "()[Lcom/example/gate2/gate2/Dimension;"⟩ : MethodName) (head1 (Jvm.Cond.code (⟨"com/example/gate2/gate2/Dimension", "values", "()[Lcom/example/gate2/gate2/Dimension;"⟩ : MethodName) prog_6_method_1_code 0 (some (.array (.object "com/example/gate2/gate2/Dimension"))) :: ws) ({ frames := 1, cells := 1, slots := 4, locals := 24 } : Room)) (fun a U => a = #[] ∧ Z.Warmed39 U.vm ∧ U.heap = h0) (fun _ _ _ _ _ => True) (fun _ U o U' => ∃ v L, o = .returned v ∧ Q19 Z va kv d0 d1 d2 d3 h0 n0 v U'.heap L ∧ FrameEnd U o U' L ({ frames := 1, cells := 1, slots := 4, locals := 24 } : Room).cells ({ frames := 1, cells := 1, slots := 4, locals := 24 } : Room).slots) := by
  refine MetFree.of_bodySF (plainFor_of_name pn_com_example_gate2_gate2_Dimension) hisR ?_
  intro p e s m args below meth c s₁ Bd hml0 hP hK
  obtain ⟨rfl, hZ, hh⟩ := hP
  have hx := Bd.exec
  have hby := Bd.bytes
  have hml : c.maxLocals = 0 := hml0
  have hown : s.vm.findClass "com/example/gate2/gate2/Dimension" = some m.cls := findClass_of_methodNamed Bd.named
  have hnm := (name_of_methodNamed Bd.named Bd.method).1
  have X0 : Stand p l e ({ frames := 1, cells := 1, slots := 4, locals := 24 } : Room) s m #[] below meth c s₁ [] 0 0 := Stand.of_body Bd
  have e0 : s₁.heap = h0 := by rw [← hh, Bd.state]; rfl
  have N_ := Fr.nil n0
  have K_ := Keep.refl h0 []
  show own_Goes p.tables e below s (Q19 Z va kv d0 d1 d2 d3 h0 n0) ({ frames := 1, cells := 1, slots := 4, locals := 24 } : Room).cells ({ frames := 1, cells := 1, slots := 4, locals := 24 } : Room).slots s₁ (entryFrame m #[] 0)
  refine own_by (T' := s₁) (g' := (mkF m 0 #[] [])) (fun t k => castTop (ef_19 m ) k) ?_
  obtain ⟨T1, X1, e1, st1⟩ := getS2 X0 hx hZ hown (host := "") (Or.inl (hw _ (own_m 90 rfl))) Via.refl e0 S__VALUES (g := (mkF m 0 #[] [])) rfl (hb hby d19_0)
  refine own_by (T' := T1) (g' := (mkF m 3 #[] [(.ref va)])) (fun t k => st1 t k) ?_
  clear st1
  obtain ⟨T2, h2, X2, e2, E2, A2, AE2, st2⟩ := cloneH X1 hx hZ hown (hw _ (own_m 92 rfl)) (hw _ (own_m 93 rfl)) (hw _ (own_m 97 rfl)) (hw _ (own_m 95 rfl)) (hw _ (own_m 96 rfl)) (hw _ (own_m 98 rfl)) e1 V_va.arh E_va (g := (mkF m 3 #[] [(.ref va)])) rfl (by rw [hml]; rfl) rfl (hb hby d19_3) (by decide) (W := 0) (cap := 4) (own_le rfl) (by decide) (by decide) (by decide) (by decide)
  obtain ⟨b2, g2⟩ : ∃ z, z = h0.size := ⟨_, rfl⟩
  rw [← g2] at A2 AE2 st2
  have ne_va_b2 : va ≠ b2 := Nat.ne_of_lt (Nat.lt_of_lt_of_eq E_va.lt g2.symm)
  have g_b2 : n0 ≤ b2 := Nat.le_trans Zle (Nat.le_of_eq g2.symm)
  have sz_b2 : h0.size ≤ b2 := Nat.le_trans K_.1 (Nat.le_of_eq g2.symm)
  replace S__VALUES := S__VALUES.ext E2
  replace E_va := E_va.ext E2
  replace V_va := V_va.ext E2
  replace Zle := Nat.le_trans Zle E2.1
  replace K_ := K_.ext E2
  have E_b2 := AE2
  have V_b2 : Arv Z h2 b2 kv (.object "com/example/gate2/gate2/Dimension") (4 : Int32) [(.ref d0), (.ref d1), (.ref d2), (.ref d3)] .null := A2
  refine own_by (T' := T2) (g' := (mkF m 6 #[] [(.ref b2)])) (fun t k => st2 t k) ?_
  clear st2 X1 e1
  obtain ⟨T3, X3, e3, st3⟩ := castY X2 hx hZ hown (hw _ (own_m 103 rfl)) e2 (Ins.self E_b2) (g := (mkF m 6 #[] [(.ref b2)])) rfl rfl (hb hby d19_6)
  refine own_by (T' := T3) (g' := (mkF m 9 #[] [(.ref b2)])) (fun t k => st3 t k) ?_
  clear st3 X2 e2
  exact own_retA X3 hx (t := (.array (.object "com/example/gate2/gate2/Dimension"))) Bd.notSynchronized Bd.returns rfl rfl rfl (hb hby d19_9) (by decide) (by decide) (by rw [e3]; exact ⟨_, rfl, N_, K_, sz_b2, V_b2⟩)

def Q21 (Z : State) (dd : Addr) (h0 : Heap) (n0 : Nat) (v : Option Value) (h : Heap) (L : List Loc) : Prop := v = some (.ref dd) ∧ Fr n0 L ∧ h = h0
theorem pn_java_util_Objects : plainName "java/util/Objects" = true := by first | (simp [plainName, overriddenIn]; done) | decide +kernel
theorem ef_21 (m : MethodId) (dd : Addr) : entryFrame m #[(.ref dd)] 1 = mkF m 0 #[.val (.ref dd)] [] := by first | (simp [entryFrame, mkF, argsToLocals, Value.category]; done) | rfl
theorem d21_0 : decode jdk_31_method_10_code 0 = .ok (.aload_n 0, 1) := by decide +kernel
theorem d21_1 : decode jdk_31_method_10_code 1 = .ok (.ifnonnull 11, 3) := by decide +kernel
theorem d21_12 : decode jdk_31_method_10_code 12 = .ok (.aload_n 0, 1) := by decide +kernel
theorem d21_13 : decode jdk_31_method_10_code 13 = .ok (.areturn, 1) := by decide +kernel
set_option maxRecDepth 65536 in
set_option maxHeartbeats 40000000 in
theorem rm21 (l : Launch) (Z : State) (a0 : Array Value) (hw : ∀ d ∈ tables_1, d.before a0 Z = true) (ws : List Jvm.Cond) (dd : Addr) (h0 : Heap) (n0 : Nat) (Zle : n0 ≤ h0.size) :
    MetFree l (⟨"java/util/Objects", "requireNonNull", "(Ljava/lang/Object;)Ljava/lang/Object;"⟩ : MethodName) (head1 (Jvm.Cond.code (⟨"java/util/Objects", "requireNonNull", "(Ljava/lang/Object;)Ljava/lang/Object;"⟩ : MethodName) jdk_31_method_10_code 1 (some (.object "java/lang/Object")) :: ws) ({ frames := 0, cells := 0, slots := 0, locals := 0 } : Room)) (fun a U => a = #[(.ref dd)] ∧ Z.Warmed39 U.vm ∧ U.heap = h0) (fun _ _ _ _ _ => True) (fun _ U o U' => ∃ v L, o = .returned v ∧ Q21 Z dd h0 n0 v U'.heap L ∧ FrameEnd U o U' L ({ frames := 0, cells := 0, slots := 0, locals := 0 } : Room).cells ({ frames := 0, cells := 0, slots := 0, locals := 0 } : Room).slots) := by
  refine MetFree.of_bodySF (plainFor_of_name pn_java_util_Objects) hisR ?_
  intro p e s m args below meth c s₁ Bd hml0 hP hK
  obtain ⟨rfl, hZ, hh⟩ := hP
  have hx := Bd.exec
  have hby := Bd.bytes
  have hml : c.maxLocals = 1 := hml0
  have hown : s.vm.findClass "java/util/Objects" = some m.cls := findClass_of_methodNamed Bd.named
  have hnm := (name_of_methodNamed Bd.named Bd.method).1
  have X0 : Stand p l e ({ frames := 0, cells := 0, slots := 0, locals := 0 } : Room) s m #[(.ref dd)] below meth c s₁ [] 0 0 := Stand.of_body Bd
  have e0 : s₁.heap = h0 := by rw [← hh, Bd.state]; rfl
  have N_ := Fr.nil n0
  show own_Goes p.tables e below s (Q21 Z dd h0 n0) ({ frames := 0, cells := 0, slots := 0, locals := 0 } : Room).cells ({ frames := 0, cells := 0, slots := 0, locals := 0 } : Room).slots s₁ (entryFrame m #[(.ref dd)] 1)
  refine own_by (T' := s₁) (g' := (mkF m 0 #[.val (.ref dd)] [])) (fun t k => castTop (ef_21 m dd) k) ?_
  refine own_by (T' := s₁) (g' := (mkF m 1 #[.val (.ref dd)] [(.ref dd)])) (fun t k => XS.aloadN X0.here hx rfl (hb hby d21_0) rfl rfl k) ?_
  refine own_by (T' := s₁) (g' := (mkF m 12 #[.val (.ref dd)] [])) (fun t k => XS.ifnonnullYes X0.here hx rfl (pc0 := 1) (pc' := 12) rfl (hb hby d21_1) rfl (by decide) (by decide) k) ?_
  refine own_by (T' := s₁) (g' := (mkF m 13 #[.val (.ref dd)] [(.ref dd)])) (fun t k => XS.aloadN X0.here hx rfl (hb hby d21_12) rfl rfl k) ?_
  exact own_retA X0 hx (t := (.object "java/lang/Object")) Bd.notSynchronized Bd.returns rfl rfl rfl (hb hby d21_13) (by decide) (by decide) (by rw [e0]; exact ⟨rfl, N_, rfl⟩)

def Q22 (Z : State) (ob : Addr) (dd : Addr) (h0 : Heap) (n0 : Nat) (v : Option Value) (h : Heap) (L : List Loc) : Prop := v = none ∧ Fr n0 L ∧ Keep h0 h [ob] ∧ Exa Z h ob "java/util/Optional" ∧ Fld Z h ob "java/util/Optional" "value" "Ljava/lang/Object;" (.ref dd)
theorem pn_java_util_Optional : plainName "java/util/Optional" = true := by first | (simp [plainName, overriddenIn]; done) | decide +kernel
theorem ef_22 (m : MethodId) (ob : Addr) (dd : Addr) : entryFrame m #[(.ref ob), (.ref dd)] 2 = mkF m 0 #[.val (.ref ob), .val (.ref dd)] [] := by first | (simp [entryFrame, mkF, argsToLocals, Value.category]; done) | rfl
theorem d22_0 : decode jdk_32_method_2_code 0 = .ok (.aload_n 0, 1) := by decide +kernel
theorem d22_1 : decode jdk_32_method_2_code 1 = .ok (.invokespecial 7, 3) := by decide +kernel
theorem d22_4 : decode jdk_32_method_2_code 4 = .ok (.aload_n 0, 1) := by decide +kernel
theorem d22_5 : decode jdk_32_method_2_code 5 = .ok (.aload_n 1, 1) := by decide +kernel
theorem d22_6 : decode jdk_32_method_2_code 6 = .ok (.putfield 13, 3) := by decide +kernel
theorem d22_9 : decode jdk_32_method_2_code 9 = .ok (.return_, 1) := by decide +kernel
set_option maxRecDepth 65536 in
set_option maxHeartbeats 40000000 in
theorem rm22 (l : Launch) (Z : State) (a0 : Array Value) (hw : ∀ d ∈ tables_1, d.before a0 Z = true) (ws : List Jvm.Cond) (ob : Addr) (dd : Addr) (h0 : Heap) (n0 : Nat) (Zle : n0 ≤ h0.size) (E_ob : Exa Z h0 ob "java/util/Optional") (g_ob : n0 ≤ ob) (F_value_ob : Fld Z h0 ob "java/util/Optional" "value" "Ljava/lang/Object;" .null) :
    MetFree l (⟨"java/util/Optional", "<init>", "(Ljava/lang/Object;)V"⟩ : MethodName) (head1 (Jvm.Cond.code (⟨"java/util/Optional", "<init>", "(Ljava/lang/Object;)V"⟩ : MethodName) jdk_32_method_2_code 2 none :: ws) ({ frames := 1, cells := 0, slots := 0, locals := 12 } : Room)) (fun a U => a = #[(.ref ob), (.ref dd)] ∧ Z.Warmed39 U.vm ∧ U.heap = h0) (fun _ _ _ _ _ => True) (fun _ U o U' => ∃ v L, o = .returned v ∧ Q22 Z ob dd h0 n0 v U'.heap L ∧ FrameEnd U o U' L ({ frames := 1, cells := 0, slots := 0, locals := 12 } : Room).cells ({ frames := 1, cells := 0, slots := 0, locals := 12 } : Room).slots) := by
  refine MetFree.of_bodySF (plainFor_of_name pn_java_util_Optional) hisR ?_
  intro p e s m args below meth c s₁ Bd hml0 hP hK
  obtain ⟨rfl, hZ, hh⟩ := hP
  have hx := Bd.exec
  have hby := Bd.bytes
  have hml : c.maxLocals = 2 := hml0
  have hown : s.vm.findClass "java/util/Optional" = some m.cls := findClass_of_methodNamed Bd.named
  have hnm := (name_of_methodNamed Bd.named Bd.method).1
  have X0 : Stand p l e ({ frames := 1, cells := 0, slots := 0, locals := 12 } : Room) s m #[(.ref ob), (.ref dd)] below meth c s₁ [] 0 0 := Stand.of_body Bd
  have e0 : s₁.heap = h0 := by rw [← hh, Bd.state]; rfl
  have N_ := Fr.nil n0
  have K_ := Keep.refl h0 [ob]
  show own_Goes p.tables e below s (Q22 Z ob dd h0 n0) ({ frames := 1, cells := 0, slots := 0, locals := 12 } : Room).cells ({ frames := 1, cells := 0, slots := 0, locals := 12 } : Room).slots s₁ (entryFrame m #[(.ref ob), (.ref dd)] 2)
  refine own_by (T' := s₁) (g' := (mkF m 0 #[.val (.ref ob), .val (.ref dd)] [])) (fun t k => castTop (ef_22 m ob dd) k) ?_
  refine own_by (T' := s₁) (g' := (mkF m 1 #[.val (.ref ob), .val (.ref dd)] [(.ref ob)])) (fun t k => XS.aloadN X0.here hx rfl (hb hby d22_0) rfl rfl k) ?_
  obtain ⟨T1, X1, e1, st1⟩ := initO X0 hx hZ hown (hw _ (own_m 122 rfl)) (hw _ (own_m 60 rfl)) (hw _ (own_m 61 rfl)) e0 (g := (mkF m 1 #[.val (.ref ob), .val (.ref dd)] [(.ref ob)])) rfl (by rw [hml]; rfl) rfl (hb hby d22_1) (by decide) (W := 0) (own_le rfl) (by decide)
  refine own_by (T' := T1) (g' := (mkF m 4 #[.val (.ref ob), .val (.ref dd)] [])) (fun t k => st1 t k) ?_
  clear st1 X0 e0
  refine own_by (T' := T1) (g' := (mkF m 5 #[.val (.ref ob), .val (.ref dd)] [(.ref ob)])) (fun t k => XS.aloadN X1.here hx rfl (hb hby d22_4) rfl rfl k) ?_
  refine own_by (T' := T1) (g' := (mkF m 6 #[.val (.ref ob), .val (.ref dd)] [(.ref dd), (.ref ob)])) (fun t k => XS.aloadN X1.here hx rfl (hb hby d22_5) rfl rfl k) ?_
  obtain ⟨T2, h2, X2, e2, W2, st2⟩ := putF X1 hx hZ hown (host := "") (Or.inl (hw _ (own_m 123 rfl))) Via.refl e1 F_value_ob E_ob (Or.inr ⟨(hw _ (own_m 124 rfl)), rfl, hnm⟩) (hw _ (own_m 113 rfl)) (ty := (.object "java/lang/Object")) (by decide) rfl rfl (g := (mkF m 6 #[.val (.ref ob), .val (.ref dd)] [(.ref dd), (.ref ob)])) rfl rfl (hb hby d22_6)
  have F_value_ob_ := F_value_ob.same W2
  replace E_ob := E_ob.wr W2
  replace Zle := Nat.le_trans Zle (Keep.of_wr W2).1
  replace K_ := K_.wr W2 (Or.inl (List.mem_of_getElem? (i := 0) rfl))
  replace F_value_ob := F_value_ob_
  clear F_value_ob_ W2
  replace N_ := Fr.snoc X2 N_ g_ob
  refine own_by (T' := T2) (g' := (mkF m 9 #[.val (.ref ob), .val (.ref dd)] [])) (fun t k => st2 t k) ?_
  clear st2 X1 e1
  exact own_retV X2 hx Bd.notSynchronized Bd.returns (hb hby d22_9) (by decide) (by decide) (by rw [e2]; exact ⟨rfl, N_, K_, E_ob, F_value_ob⟩)

def Q20 (Z : State) (dd : Addr) (h0 : Heap) (n0 : Nat) (v : Option Value) (h : Heap) (L : List Loc) : Prop := ∃ po : Addr, v = some (.ref po) ∧ Fr n0 L ∧ Keep h0 h [] ∧ h0.size ≤ po ∧ Exa Z h po "java/util/Optional" ∧ Fld Z h po "java/util/Optional" "value" "Ljava/lang/Object;" (.ref dd)
theorem ef_20 (m : MethodId) (dd : Addr) : entryFrame m #[(.ref dd)] 1 = mkF m 0 #[.val (.ref dd)] [] := by first | (simp [entryFrame, mkF, argsToLocals, Value.category]; done) | rfl
theorem d20_0 : decode jdk_32_method_3_code 0 = .ok (.new 2, 3) := by decide +kernel
theorem d20_3 : decode jdk_32_method_3_code 3 = .ok (.dup, 1) := by decide +kernel
theorem d20_4 : decode jdk_32_method_3_code 4 = .ok (.aload_n 0, 1) := by decide +kernel
theorem d20_5 : decode jdk_32_method_3_code 5 = .ok (.invokestatic 17, 3) := by decide +kernel
theorem pd_21 : parseMethodDescriptor "(Ljava/lang/Object;)Ljava/lang/Object;" = some ⟨[(.object "java/lang/Object")], some (.object "java/lang/Object")⟩ := by decide +kernel
theorem d20_8 : decode jdk_32_method_3_code 8 = .ok (.invokespecial 23, 3) := by decide +kernel
theorem pd_22 : parseMethodDescriptor "(Ljava/lang/Object;)V" = some ⟨[(.object "java/lang/Object")], none⟩ := by decide +kernel
theorem d20_11 : decode jdk_32_method_3_code 11 = .ok (.areturn, 1) := by decide +kernel
set_option maxRecDepth 65536 in
set_option maxHeartbeats 40000000 in
theorem rm20 (l : Launch) (Z : State) (a0 : Array Value) (hw : ∀ d ∈ tables_1, d.before a0 Z = true) (ws : List Jvm.Cond) (dd : Addr) (h0 : Heap) (n0 : Nat) (Zle : n0 ≤ h0.size) :
    MetFree l (⟨"java/util/Optional", "of", "(Ljava/lang/Object;)Ljava/util/Optional;"⟩ : MethodName) (head1 (Jvm.Cond.code (⟨"java/util/Optional", "of", "(Ljava/lang/Object;)Ljava/util/Optional;"⟩ : MethodName) jdk_32_method_3_code 1 (some (.object "java/util/Optional")) :: ws) ({ frames := 2, cells := 1, slots := 1, locals := 30 } : Room)) (fun a U => a = #[(.ref dd)] ∧ Z.Warmed39 U.vm ∧ U.heap = h0) (fun _ _ _ _ _ => True) (fun _ U o U' => ∃ v L, o = .returned v ∧ Q20 Z dd h0 n0 v U'.heap L ∧ FrameEnd U o U' L ({ frames := 2, cells := 1, slots := 1, locals := 30 } : Room).cells ({ frames := 2, cells := 1, slots := 1, locals := 30 } : Room).slots) := by
  refine MetFree.of_bodySF (plainFor_of_name pn_java_util_Optional) hisR ?_
  intro p e s m args below meth c s₁ Bd hml0 hP hK
  obtain ⟨rfl, hZ, hh⟩ := hP
  have hx := Bd.exec
  have hby := Bd.bytes
  have hml : c.maxLocals = 1 := hml0
  have hown : s.vm.findClass "java/util/Optional" = some m.cls := findClass_of_methodNamed Bd.named
  have hnm := (name_of_methodNamed Bd.named Bd.method).1
  have X0 : Stand p l e ({ frames := 2, cells := 1, slots := 1, locals := 30 } : Room) s m #[(.ref dd)] below meth c s₁ [] 0 0 := Stand.of_body Bd
  have e0 : s₁.heap = h0 := by rw [← hh, Bd.state]; rfl
  have N_ := Fr.nil n0
  have K_ := Keep.refl h0 []
  show own_Goes p.tables e below s (Q20 Z dd h0 n0) ({ frames := 2, cells := 1, slots := 1, locals := 30 } : Room).cells ({ frames := 2, cells := 1, slots := 1, locals := 30 } : Room).slots s₁ (entryFrame m #[(.ref dd)] 1)
  refine own_by (T' := s₁) (g' := (mkF m 0 #[.val (.ref dd)] [])) (fun t k => castTop (ef_20 m dd) k) ?_
  obtain ⟨T1, h1, X1, e1, E1, A1, D1, -, st1⟩ := newO X0 hx hZ hown (hw _ (own_m 112 rfl)) (hw _ (own_m 113 rfl)) (hw _ (own_m 110 rfl)) e0 (g := (mkF m 0 #[.val (.ref dd)] [])) rfl (hb hby d20_0) (by decide) (by decide)
  obtain ⟨b1, g1⟩ : ∃ z, z = h0.size := ⟨_, rfl⟩
  rw [← g1] at A1 D1 st1
  have g_b1 : n0 ≤ b1 := Nat.le_trans Zle (Nat.le_of_eq g1.symm)
  have sz_b1 : h0.size ≤ b1 := Nat.le_trans K_.1 (Nat.le_of_eq g1.symm)
  replace Zle := Nat.le_trans Zle E1.1
  replace K_ := K_.ext E1
  have E_b1 := A1
  have F_value_b1 : Fld Z h1 b1 "java/util/Optional" "value" "Ljava/lang/Object;" .null := D1 (Or.inr (hw _ (own_m 124 rfl))) (ty := (.object "java/lang/Object")) (by decide)
  refine own_by (T' := T1) (g' := (mkF m 3 #[.val (.ref dd)] [(.ref b1)])) (fun t k => st1 t k) ?_
  clear st1
  refine own_by (T' := T1) (g' := (mkF m 4 #[.val (.ref dd)] [(.ref b1), (.ref b1)])) (fun t k => XS.dup X1.here hx rfl (hb hby d20_3) rfl rfl k) ?_
  refine own_by (T' := T1) (g' := (mkF m 5 #[.val (.ref dd)] [(.ref dd), (.ref b1), (.ref b1)])) (fun t k => XS.aloadN X1.here hx rfl (hb hby d20_4) rfl rfl k) ?_
  obtain ⟨_, _, ⟨T2, L2, k2, n2⟩, -, X2, ⟨Lc2, hQ2, l2, y2, z2⟩, st2⟩ := Jvm.LawKit.callS X1 hx (y := (⟨"java/util/Objects", "requireNonNull", "(Ljava/lang/Object;)Ljava/lang/Object;"⟩ : MethodName)) hown (mvT hZ (hw _ (own_m 114 rfl))) (mvT hZ (hw _ (own_m 115 rfl))) (mvT hZ (hw _ (own_m 116 rfl))) (mvT hZ (hw _ (own_m 117 rfl))) (by decide) (backOf (W := 2) (rm21 l Z a0 hw [] dd h1 n0 Zle ) hZ (hw _ (own_m 117 rfl)) (hw _ (own_m 116 rfl)) (by decide) (by decide)) (g := (mkF m 5 #[.val (.ref dd)] [(.ref dd), (.ref b1), (.ref b1)])) rfl (by rw [hml]; rfl) (argsL := [(.ref dd)]) (rest := [(.ref b1), (.ref b1)]) (lenOf pd_21 rfl) rfl (own_le rfl) (hb hby d20_5) (fun _ _ => ⟨rfl, e1, (by decide : 1 + 0 ≤ _), (by decide : 1 + 0 ≤ _)⟩)
  dsimp only [Pt.U, Pt.locs, Pt.cells, Pt.slots] at X2 l2 y2 z2 st2 hQ2
  subst l2 y2 z2
  obtain ⟨rfl, Nq2, e2⟩ := hQ2
  replace N_ := Fr.app N_ Nq2
  clear Nq2
  refine own_by (T' := T2) (g' := (mkF m 8 #[.val (.ref dd)] [(.ref dd), (.ref b1), (.ref b1)])) (fun t k => st2 _ k) ?_
  clear st2 X1 e1
  obtain ⟨_, _, ⟨T3, L3, k3, n3⟩, -, X3, ⟨Lc3, hQ3, l3, y3, z3⟩, st3⟩ := X2.specialBack hx (y := (⟨"java/util/Optional", "<init>", "(Ljava/lang/Object;)V"⟩ : MethodName)) rfl hown (mvT hZ (hw _ (own_m 118 rfl))) (mvT hZ (hw _ (own_m 119 rfl))) (mvT hZ (hw _ (own_m 121 rfl))) (by decide) (backOf (W := 1) (rm22 l Z a0 hw [] b1 dd h1 n0 Zle E_b1 g_b1 F_value_b1) hZ (hw _ (own_m 121 rfl)) (hw _ (own_m 110 rfl)) (by decide) (by decide)) (g := (mkF m 8 #[.val (.ref dd)] [(.ref dd), (.ref b1), (.ref b1)])) rfl (by rw [hml]; rfl) (Steps.refl _) (a := b1) (argsL := [(.ref dd)]) (rest := [(.ref b1)]) (lenOf pd_22 rfl) rfl (own_le rfl) (hb hby d20_8) (fun _ _ => ⟨rfl, e2, (by decide : 1 + 0 ≤ _), (by decide : 1 + 0 ≤ _)⟩)
  dsimp only [Pt.U, Pt.locs, Pt.cells, Pt.slots] at X3 l3 y3 z3 st3 hQ3
  subst l3 y3 z3
  obtain ⟨rfl, Nq3, c3_0, c3_1, c3_2⟩ := hQ3
  replace N_ := Fr.app N_ Nq3
  clear Nq3
  replace Zle := Nat.le_trans Zle c3_0.1
  replace K_ := K_.trans c3_0 (allS (Or.inr sz_b1) all0)
  replace E_b1 := E_b1.keep c3_0
  refine own_by (T' := T3) (g' := (mkF m 11 #[.val (.ref dd)] [(.ref b1)])) (fun t k => st3.trans k) ?_
  clear st3 X2 e2
  exact own_retA X3 hx (t := (.object "java/util/Optional")) Bd.notSynchronized Bd.returns rfl rfl rfl (hb hby d20_11) (by decide) (by decide) (by exact ⟨_, rfl, N_, K_, sz_b1, c3_1, c3_2⟩)

def Q24 (Z : State) (em : Addr) (h0 : Heap) (n0 : Nat) (v : Option Value) (h : Heap) (L : List Loc) : Prop := v = some (.ref em) ∧ Fr n0 L ∧ h = h0
theorem ef_24 (m : MethodId)  : entryFrame m #[] 1 = mkF m 0 #[.unset] [] := by first | (simp [entryFrame, mkF, argsToLocals, Value.category]; done) | rfl
theorem d24_0 : decode jdk_32_method_1_code 0 = .ok (.getstatic 1, 3) := by decide +kernel
theorem d24_3 : decode jdk_32_method_1_code 3 = .ok (.astore_n 0, 1) := by decide +kernel
theorem d24_4 : decode jdk_32_method_1_code 4 = .ok (.aload_n 0, 1) := by decide +kernel
theorem d24_5 : decode jdk_32_method_1_code 5 = .ok (.areturn, 1) := by decide +kernel
set_option maxRecDepth 65536 in
set_option maxHeartbeats 40000000 in
theorem rm24 (l : Launch) (Z : State) (a0 : Array Value) (hw : ∀ d ∈ tables_1, d.before a0 Z = true) (ws : List Jvm.Cond) (em : Addr) (h0 : Heap) (n0 : Nat) (Zle : n0 ≤ h0.size) (S_EMPTY : Sta Z h0 "java/util/Optional" "EMPTY" "Ljava/util/Optional;" (.ref em)) :
    MetFree l (⟨"java/util/Optional", "empty", "()Ljava/util/Optional;"⟩ : MethodName) (head1 (Jvm.Cond.code (⟨"java/util/Optional", "empty", "()Ljava/util/Optional;"⟩ : MethodName) jdk_32_method_1_code 1 (some (.object "java/util/Optional")) :: ws) ({ frames := 0, cells := 0, slots := 0, locals := 0 } : Room)) (fun a U => a = #[] ∧ Z.Warmed39 U.vm ∧ U.heap = h0) (fun _ _ _ _ _ => True) (fun _ U o U' => ∃ v L, o = .returned v ∧ Q24 Z em h0 n0 v U'.heap L ∧ FrameEnd U o U' L ({ frames := 0, cells := 0, slots := 0, locals := 0 } : Room).cells ({ frames := 0, cells := 0, slots := 0, locals := 0 } : Room).slots) := by
  refine MetFree.of_bodySF (plainFor_of_name pn_java_util_Optional) hisR ?_
  intro p e s m args below meth c s₁ Bd hml0 hP hK
  obtain ⟨rfl, hZ, hh⟩ := hP
  have hx := Bd.exec
  have hby := Bd.bytes
  have hml : c.maxLocals = 1 := hml0
  have hown : s.vm.findClass "java/util/Optional" = some m.cls := findClass_of_methodNamed Bd.named
  have hnm := (name_of_methodNamed Bd.named Bd.method).1
  have X0 : Stand p l e ({ frames := 0, cells := 0, slots := 0, locals := 0 } : Room) s m #[] below meth c s₁ [] 0 0 := Stand.of_body Bd
  have e0 : s₁.heap = h0 := by rw [← hh, Bd.state]; rfl
  have N_ := Fr.nil n0
  show own_Goes p.tables e below s (Q24 Z em h0 n0) ({ frames := 0, cells := 0, slots := 0, locals := 0 } : Room).cells ({ frames := 0, cells := 0, slots := 0, locals := 0 } : Room).slots s₁ (entryFrame m #[] 1)
  refine own_by (T' := s₁) (g' := (mkF m 0 #[.unset] [])) (fun t k => castTop (ef_24 m ) k) ?_
  obtain ⟨T1, X1, e1, st1⟩ := getS2 X0 hx hZ hown (host := "") (Or.inl (hw _ (own_m 140 rfl))) Via.refl e0 S_EMPTY (g := (mkF m 0 #[.unset] [])) rfl (hb hby d24_0)
  refine own_by (T' := T1) (g' := (mkF m 3 #[.unset] [(.ref em)])) (fun t k => st1 t k) ?_
  clear st1
  refine own_by (T' := T1) (g' := (mkF m 4 #[.val (.ref em)] [])) (fun t k => XS.astoreN X1.here hx rfl (hb hby d24_3) rfl rfl (l' := #[.val (.ref em)]) rfl k) ?_
  refine own_by (T' := T1) (g' := (mkF m 5 #[.val (.ref em)] [(.ref em)])) (fun t k => XS.aloadN X1.here hx rfl (hb hby d24_4) rfl rfl k) ?_
  exact own_retA X1 hx (t := (.object "java/util/Optional")) Bd.notSynchronized Bd.returns rfl rfl rfl (hb hby d24_5) (by decide) (by decide) (by rw [e1]; exact ⟨rfl, N_, rfl⟩)

def Q23a (Z : State) (ob : Addr) (dd : Addr) (h0 : Heap) (n0 : Nat) (v : Option Value) (h : Heap) (L : List Loc) : Prop := v = some (.ref dd) ∧ Fr n0 L ∧ h = h0
theorem ef_23a (m : MethodId) (ob : Addr) : entryFrame m #[(.ref ob), .null] 2 = mkF m 0 #[.val (.ref ob), .val .null] [] := by first | (simp [entryFrame, mkF, argsToLocals, Value.category]; done) | rfl
theorem d23_0 : decode jdk_32_method_15_code 0 = .ok (.aload_n 0, 1) := by decide +kernel
theorem d23_1 : decode jdk_32_method_15_code 1 = .ok (.getfield 13, 3) := by decide +kernel
theorem d23_4 : decode jdk_32_method_15_code 4 = .ok (.ifnull 10, 3) := by decide +kernel
theorem d23_7 : decode jdk_32_method_15_code 7 = .ok (.aload_n 0, 1) := by decide +kernel
theorem d23_8 : decode jdk_32_method_15_code 8 = .ok (.getfield 13, 3) := by decide +kernel
theorem d23_11 : decode jdk_32_method_15_code 11 = .ok (.goto 4, 3) := by decide +kernel
theorem d23_15 : decode jdk_32_method_15_code 15 = .ok (.areturn, 1) := by decide +kernel
set_option maxRecDepth 65536 in
set_option maxHeartbeats 40000000 in
theorem rm23a (l : Launch) (Z : State) (a0 : Array Value) (hw : ∀ d ∈ tables_1, d.before a0 Z = true) (ws : List Jvm.Cond) (ob : Addr) (dd : Addr) (h0 : Heap) (n0 : Nat) (Zle : n0 ≤ h0.size) (F_value_ob : Fld Z h0 ob "java/util/Optional" "value" "Ljava/lang/Object;" (.ref dd)) :
    MetFree l (⟨"java/util/Optional", "orElse", "(Ljava/lang/Object;)Ljava/lang/Object;"⟩ : MethodName) (head1 (Jvm.Cond.code (⟨"java/util/Optional", "orElse", "(Ljava/lang/Object;)Ljava/lang/Object;"⟩ : MethodName) jdk_32_method_15_code 2 (some (.object "java/lang/Object")) :: ws) ({ frames := 0, cells := 0, slots := 0, locals := 0 } : Room)) (fun a U => a = #[(.ref ob), .null] ∧ Z.Warmed39 U.vm ∧ U.heap = h0) (fun _ _ _ _ _ => True) (fun _ U o U' => ∃ v L, o = .returned v ∧ Q23a Z ob dd h0 n0 v U'.heap L ∧ FrameEnd U o U' L ({ frames := 0, cells := 0, slots := 0, locals := 0 } : Room).cells ({ frames := 0, cells := 0, slots := 0, locals := 0 } : Room).slots) := by
  refine MetFree.of_bodySF (plainFor_of_name pn_java_util_Optional) hisR ?_
  intro p e s m args below meth c s₁ Bd hml0 hP hK
  obtain ⟨rfl, hZ, hh⟩ := hP
  have hx := Bd.exec
  have hby := Bd.bytes
  have hml : c.maxLocals = 2 := hml0
  have hown : s.vm.findClass "java/util/Optional" = some m.cls := findClass_of_methodNamed Bd.named
  have hnm := (name_of_methodNamed Bd.named Bd.method).1
  have X0 : Stand p l e ({ frames := 0, cells := 0, slots := 0, locals := 0 } : Room) s m #[(.ref ob), .null] below meth c s₁ [] 0 0 := Stand.of_body Bd
  have e0 : s₁.heap = h0 := by rw [← hh, Bd.state]; rfl
  have N_ := Fr.nil n0
  show own_Goes p.tables e below s (Q23a Z ob dd h0 n0) ({ frames := 0, cells := 0, slots := 0, locals := 0 } : Room).cells ({ frames := 0, cells := 0, slots := 0, locals := 0 } : Room).slots s₁ (entryFrame m #[(.ref ob), .null] 2)
  refine own_by (T' := s₁) (g' := (mkF m 0 #[.val (.ref ob), .val .null] [])) (fun t k => castTop (ef_23a m ob) k) ?_
  refine own_by (T' := s₁) (g' := (mkF m 1 #[.val (.ref ob), .val .null] [(.ref ob)])) (fun t k => XS.aloadN X0.here hx rfl (hb hby d23_0) rfl rfl k) ?_
  obtain ⟨T1, X1, e1, st1⟩ := getF X0 hx hZ hown (host := "") (Or.inl (hw _ (own_m 123 rfl))) Via.refl e0 F_value_ob (g := (mkF m 1 #[.val (.ref ob), .val .null] [(.ref ob)])) rfl rfl (hb hby d23_1)
  refine own_by (T' := T1) (g' := (mkF m 4 #[.val (.ref ob), .val .null] [(.ref dd)])) (fun t k => st1 t k) ?_
  clear st1 X0 e0
  refine own_by (T' := T1) (g' := (mkF m 7 #[.val (.ref ob), .val .null] [])) (fun t k => XS.ifnullNo X1.here hx rfl (hb hby d23_4) rfl k) ?_
  refine own_by (T' := T1) (g' := (mkF m 8 #[.val (.ref ob), .val .null] [(.ref ob)])) (fun t k => XS.aloadN X1.here hx rfl (hb hby d23_7) rfl rfl k) ?_
  obtain ⟨T2, X2, e2, st2⟩ := getF X1 hx hZ hown (host := "") (Or.inl (hw _ (own_m 123 rfl))) Via.refl e1 F_value_ob (g := (mkF m 8 #[.val (.ref ob), .val .null] [(.ref ob)])) rfl rfl (hb hby d23_8)
  refine own_by (T' := T2) (g' := (mkF m 11 #[.val (.ref ob), .val .null] [(.ref dd)])) (fun t k => st2 t k) ?_
  clear st2 X1 e1
  refine own_by (T' := T2) (g' := (mkF m 15 #[.val (.ref ob), .val .null] [(.ref dd)])) (fun t k => XS.goto X2.here hx rfl (pc0 := 11) (pc' := 15) rfl (hb hby d23_11) (by decide) (by decide) k) ?_
  exact own_retA X2 hx (t := (.object "java/lang/Object")) Bd.notSynchronized Bd.returns rfl rfl rfl (hb hby d23_15) (by decide) (by decide) (by rw [e2]; exact ⟨rfl, N_, rfl⟩)

def Q23b (Z : State) (ob : Addr) (h0 : Heap) (n0 : Nat) (v : Option Value) (h : Heap) (L : List Loc) : Prop := v = some .null ∧ Fr n0 L ∧ h = h0
theorem ef_23b (m : MethodId) (ob : Addr) : entryFrame m #[(.ref ob), .null] 2 = mkF m 0 #[.val (.ref ob), .val .null] [] := by first | (simp [entryFrame, mkF, argsToLocals, Value.category]; done) | rfl
theorem d23_14 : decode jdk_32_method_15_code 14 = .ok (.aload_n 1, 1) := by decide +kernel
set_option maxRecDepth 65536 in
set_option maxHeartbeats 40000000 in
theorem rm23b (l : Launch) (Z : State) (a0 : Array Value) (hw : ∀ d ∈ tables_1, d.before a0 Z = true) (ws : List Jvm.Cond) (ob : Addr) (h0 : Heap) (n0 : Nat) (Zle : n0 ≤ h0.size) (F_value_ob : Fld Z h0 ob "java/util/Optional" "value" "Ljava/lang/Object;" .null) :
    MetFree l (⟨"java/util/Optional", "orElse", "(Ljava/lang/Object;)Ljava/lang/Object;"⟩ : MethodName) (head1 (Jvm.Cond.code (⟨"java/util/Optional", "orElse", "(Ljava/lang/Object;)Ljava/lang/Object;"⟩ : MethodName) jdk_32_method_15_code 2 (some (.object "java/lang/Object")) :: ws) ({ frames := 0, cells := 0, slots := 0, locals := 0 } : Room)) (fun a U => a = #[(.ref ob), .null] ∧ Z.Warmed39 U.vm ∧ U.heap = h0) (fun _ _ _ _ _ => True) (fun _ U o U' => ∃ v L, o = .returned v ∧ Q23b Z ob h0 n0 v U'.heap L ∧ FrameEnd U o U' L ({ frames := 0, cells := 0, slots := 0, locals := 0 } : Room).cells ({ frames := 0, cells := 0, slots := 0, locals := 0 } : Room).slots) := by
  refine MetFree.of_bodySF (plainFor_of_name pn_java_util_Optional) hisR ?_
  intro p e s m args below meth c s₁ Bd hml0 hP hK
  obtain ⟨rfl, hZ, hh⟩ := hP
  have hx := Bd.exec
  have hby := Bd.bytes
  have hml : c.maxLocals = 2 := hml0
  have hown : s.vm.findClass "java/util/Optional" = some m.cls := findClass_of_methodNamed Bd.named
  have hnm := (name_of_methodNamed Bd.named Bd.method).1
  have X0 : Stand p l e ({ frames := 0, cells := 0, slots := 0, locals := 0 } : Room) s m #[(.ref ob), .null] below meth c s₁ [] 0 0 := Stand.of_body Bd
  have e0 : s₁.heap = h0 := by rw [← hh, Bd.state]; rfl
  have N_ := Fr.nil n0
  show own_Goes p.tables e below s (Q23b Z ob h0 n0) ({ frames := 0, cells := 0, slots := 0, locals := 0 } : Room).cells ({ frames := 0, cells := 0, slots := 0, locals := 0 } : Room).slots s₁ (entryFrame m #[(.ref ob), .null] 2)
  refine own_by (T' := s₁) (g' := (mkF m 0 #[.val (.ref ob), .val .null] [])) (fun t k => castTop (ef_23b m ob) k) ?_
  refine own_by (T' := s₁) (g' := (mkF m 1 #[.val (.ref ob), .val .null] [(.ref ob)])) (fun t k => XS.aloadN X0.here hx rfl (hb hby d23_0) rfl rfl k) ?_
  obtain ⟨T1, X1, e1, st1⟩ := getF X0 hx hZ hown (host := "") (Or.inl (hw _ (own_m 123 rfl))) Via.refl e0 F_value_ob (g := (mkF m 1 #[.val (.ref ob), .val .null] [(.ref ob)])) rfl rfl (hb hby d23_1)
  refine own_by (T' := T1) (g' := (mkF m 4 #[.val (.ref ob), .val .null] [.null])) (fun t k => st1 t k) ?_
  clear st1 X0 e0
  refine own_by (T' := T1) (g' := (mkF m 14 #[.val (.ref ob), .val .null] [])) (fun t k => XS.ifnullYes X1.here hx rfl (pc0 := 4) (pc' := 14) rfl (hb hby d23_4) rfl (by decide) (by decide) k) ?_
  refine own_by (T' := T1) (g' := (mkF m 15 #[.val (.ref ob), .val .null] [.null])) (fun t k => XS.aloadN X1.here hx rfl (hb hby d23_14) rfl rfl k) ?_
  exact own_retA X1 hx (t := (.object "java/lang/Object")) Bd.notSynchronized Bd.returns rfl rfl rfl (hb hby d23_15) (by decide) (by decide) (by rw [e1]; exact ⟨rfl, N_, rfl⟩)

def Q18v0 (Z : State) (sq : Addr) (va : Addr) (kvv : ClassId) (d0 : Addr) (d1 : Addr) (d2 : Addr) (d3 : Addr) (f0 : Addr) (f1 : Addr) (f2 : Addr) (f3 : Addr) (t0 : Addr) (t1 : Addr) (t2 : Addr) (t3 : Addr) (ky0 : ClassId) (ky1 : ClassId) (ky2 : ClassId) (ky3 : ClassId) (zC : Int32) (tq : Addr) (kq : ClassId) (cq : List Int32) (h0 : Heap) (n0 : Nat) (v : Option Value) (h : Heap) (L : List Loc) : Prop := ∃ po : Addr, v = some (.ref po) ∧ Fr n0 L ∧ Keep h0 h [] ∧ h0.size ≤ po ∧ Exa Z h po "java/util/Optional" ∧ Fld Z h po "java/util/Optional" "value" "Ljava/lang/Object;" (.ref d0)
theorem ef_18v0 (m : MethodId) (sq : Addr) : entryFrame m #[(.ref sq)] 5 = mkF m 0 #[.val (.ref sq), .unset, .unset, .unset, .unset] [] := by first | (simp [entryFrame, mkF, argsToLocals, Value.category]; done) | rfl
theorem d18_0 : decode prog_6_method_4_code 0 = .ok (.invokestatic 39, 3) := by decide +kernel
theorem pd_18 : parseMethodDescriptor "()[Lcom/example/gate2/gate2/Dimension;" = some ⟨[], some (.array (.object "com/example/gate2/gate2/Dimension"))⟩ := by decide +kernel
theorem d18_3 : decode prog_6_method_4_code 3 = .ok (.astore_n 1, 1) := by decide +kernel
theorem d18_4 : decode prog_6_method_4_code 4 = .ok (.aload_n 1, 1) := by decide +kernel
theorem d18_5 : decode prog_6_method_4_code 5 = .ok (.arraylength, 1) := by decide +kernel
theorem d18_6 : decode prog_6_method_4_code 6 = .ok (.istore_n 2, 1) := by decide +kernel
theorem d18_7 : decode prog_6_method_4_code 7 = .ok (.iconst 0, 1) := by decide +kernel
theorem d18_8 : decode prog_6_method_4_code 8 = .ok (.istore_n 3, 1) := by decide +kernel
theorem d18_9 : decode prog_6_method_4_code 9 = .ok (.iload_n 3, 1) := by decide +kernel
theorem d18_10 : decode prog_6_method_4_code 10 = .ok (.iload_n 2, 1) := by decide +kernel
theorem d18_11 : decode prog_6_method_4_code 11 = .ok (.if_icmp .ge 32, 3) := by decide +kernel
theorem d18_14 : decode prog_6_method_4_code 14 = .ok (.aload_n 1, 1) := by decide +kernel
theorem d18_15 : decode prog_6_method_4_code 15 = .ok (.iload_n 3, 1) := by decide +kernel
theorem d18_16 : decode prog_6_method_4_code 16 = .ok (.aaload, 1) := by decide +kernel
theorem d18_17 : decode prog_6_method_4_code 17 = .ok (.astore 4, 2) := by decide +kernel
theorem d18_19 : decode prog_6_method_4_code 19 = .ok (.aload 4, 2) := by decide +kernel
theorem d18_21 : decode prog_6_method_4_code 21 = .ok (.getfield 35, 3) := by decide +kernel
theorem d18_24 : decode prog_6_method_4_code 24 = .ok (.aload_n 0, 1) := by decide +kernel
theorem d18_25 : decode prog_6_method_4_code 25 = .ok (.invokevirtual 43, 3) := by decide +kernel
theorem pd_15 : parseMethodDescriptor "(Ljava/lang/Object;)Z" = some ⟨[(.object "java/lang/Object")], some .boolean⟩ := by decide +kernel
theorem d18_28 : decode prog_6_method_4_code 28 = .ok (.ifCond .eq 9, 3) := by decide +kernel
theorem d18_31 : decode prog_6_method_4_code 31 = .ok (.aload 4, 2) := by decide +kernel
theorem d18_33 : decode prog_6_method_4_code 33 = .ok (.invokestatic 49, 3) := by decide +kernel
theorem pd_20 : parseMethodDescriptor "(Ljava/lang/Object;)Ljava/util/Optional;" = some ⟨[(.object "java/lang/Object")], some (.object "java/util/Optional")⟩ := by decide +kernel
theorem d18_36 : decode prog_6_method_4_code 36 = .ok (.areturn, 1) := by decide +kernel
set_option maxRecDepth 65536 in
set_option maxHeartbeats 40000000 in
theorem rm18v0 (l : Launch) (Z : State) (a0 : Array Value) (hw : ∀ d ∈ tables_1, d.before a0 Z = true) (ws : List Jvm.Cond) (sq : Addr) (va : Addr) (kvv : ClassId) (d0 : Addr) (d1 : Addr) (d2 : Addr) (d3 : Addr) (f0 : Addr) (f1 : Addr) (f2 : Addr) (f3 : Addr) (t0 : Addr) (t1 : Addr) (t2 : Addr) (t3 : Addr) (ky0 : ClassId) (ky1 : ClassId) (ky2 : ClassId) (ky3 : ClassId) (zC : Int32) (tq : Addr) (kq : ClassId) (cq : List Int32) (h0 : Heap) (n0 : Nat) (Zle : n0 ≤ h0.size) (Q_sq : own_Str Z h0 sq tq kq cq) (S_COMPACT_STRINGS : Sta Z h0 "java/lang/String" "COMPACT_STRINGS" "Z" (.int zC)) (S__VALUES : Sta Z h0 "com/example/gate2/gate2/Dimension" "$VALUES" "[Lcom/example/gate2/gate2/Dimension;" (.ref va)) (E_va : Exa Z h0 va "[Lcom/example/gate2/gate2/Dimension;") (V_va : Arv Z h0 va kvv (.object "com/example/gate2/gate2/Dimension") (4 : Int32) [(.ref d0), (.ref d1), (.ref d2), (.ref d3)] .null) (E_d0 : Exa Z h0 d0 "com/example/gate2/gate2/Dimension") (F_field_d0 : Fld Z h0 d0 "com/example/gate2/gate2/Dimension" "field" "Ljava/lang/String;" (.ref f0)) (Q_f0 : own_Str Z h0 f0 t0 ky0 ([112, 114, 111, 106, 101, 99, 116] : List Int32)) (E_d1 : Exa Z h0 d1 "com/example/gate2/gate2/Dimension") (F_field_d1 : Fld Z h0 d1 "com/example/gate2/gate2/Dimension" "field" "Ljava/lang/String;" (.ref f1)) (Q_f1 : own_Str Z h0 f1 t1 ky1 ([117, 115, 101, 114] : List Int32)) (E_d2 : Exa Z h0 d2 "com/example/gate2/gate2/Dimension") (F_field_d2 : Fld Z h0 d2 "com/example/gate2/gate2/Dimension" "field" "Ljava/lang/String;" (.ref f2)) (Q_f2 : own_Str Z h0 f2 t2 ky2 ([114, 101, 103, 105, 111, 110] : List Int32)) (E_d3 : Exa Z h0 d3 "com/example/gate2/gate2/Dimension") (F_field_d3 : Fld Z h0 d3 "com/example/gate2/gate2/Dimension" "field" "Ljava/lang/String;" (.ref f3)) (Q_f3 : own_Str Z h0 f3 t3 ky3 ([105, 110, 115, 116, 97, 110, 99, 101] : List Int32)) (hzC : ¬ zC = 0) (he0 : ([112, 114, 111, 106, 101, 99, 116] : List Int32) = cq) :
    MetFree l (⟨"com/example/gate2/gate2/Dimension", "byField", "(Ljava/lang/String;)Ljava/util/Optional;"⟩ : MethodName) (head1 (Jvm.Cond.code (⟨"com/example/gate2/gate2/Dimension", "byField", "(Ljava/lang/String;)Ljava/util/Optional;"⟩ : MethodName) prog_6_method_4_code 5 (some (.object "java/util/Optional")) :: ws) ({ frames := 3, cells := 2, slots := 5, locals := 44 } : Room)) (fun a U => a = #[(.ref sq)] ∧ Z.Warmed39 U.vm ∧ U.heap = h0) (fun _ _ _ _ _ => True) (fun _ U o U' => ∃ v L, o = .returned v ∧ Q18v0 Z sq va kvv d0 d1 d2 d3 f0 f1 f2 f3 t0 t1 t2 t3 ky0 ky1 ky2 ky3 zC tq kq cq h0 n0 v U'.heap L ∧ FrameEnd U o U' L ({ frames := 3, cells := 2, slots := 5, locals := 44 } : Room).cells ({ frames := 3, cells := 2, slots := 5, locals := 44 } : Room).slots) := by
  refine MetFree.of_bodySF (plainFor_of_name pn_com_example_gate2_gate2_Dimension) hisR ?_
  intro p e s m args below meth c s₁ Bd hml0 hP hK
  obtain ⟨rfl, hZ, hh⟩ := hP
  have hx := Bd.exec
  have hby := Bd.bytes
  have hml : c.maxLocals = 5 := hml0
  have hown : s.vm.findClass "com/example/gate2/gate2/Dimension" = some m.cls := findClass_of_methodNamed Bd.named
  have hnm := (name_of_methodNamed Bd.named Bd.method).1
  have X0 : Stand p l e ({ frames := 3, cells := 2, slots := 5, locals := 44 } : Room) s m #[(.ref sq)] below meth c s₁ [] 0 0 := Stand.of_body Bd
  have e0 : s₁.heap = h0 := by rw [← hh, Bd.state]; rfl
  have N_ := Fr.nil n0
  have K_ := Keep.refl h0 []
  show own_Goes p.tables e below s (Q18v0 Z sq va kvv d0 d1 d2 d3 f0 f1 f2 f3 t0 t1 t2 t3 ky0 ky1 ky2 ky3 zC tq kq cq h0 n0) ({ frames := 3, cells := 2, slots := 5, locals := 44 } : Room).cells ({ frames := 3, cells := 2, slots := 5, locals := 44 } : Room).slots s₁ (entryFrame m #[(.ref sq)] 5)
  refine own_by (T' := s₁) (g' := (mkF m 0 #[.val (.ref sq), .unset, .unset, .unset, .unset] [])) (fun t k => castTop (ef_18v0 m sq) k) ?_
  have lt_sq_1 := Q_sq.1.lt
  have lt_tq_1 := Q_sq.2.2.2.1.lt
  have lt_va_1 := E_va.lt
  have lt_d0_1 := E_d0.lt
  have lt_f0_1 := Q_f0.1.lt
  have lt_t0_1 := Q_f0.2.2.2.1.lt
  have lt_d1_1 := E_d1.lt
  have lt_f1_1 := Q_f1.1.lt
  have lt_t1_1 := Q_f1.2.2.2.1.lt
  have lt_d2_1 := E_d2.lt
  have lt_f2_1 := Q_f2.1.lt
  have lt_t2_1 := Q_f2.2.2.2.1.lt
  have lt_d3_1 := E_d3.lt
  have lt_f3_1 := Q_f3.1.lt
  have lt_t3_1 := Q_f3.2.2.2.1.lt
  have Zpre1 := Zle
  have szp1 := K_.1
  obtain ⟨_, _, ⟨T1, L1, k1, n1⟩, -, X1, ⟨Lc1, hQ1, l1, y1, z1⟩, st1⟩ := Jvm.LawKit.callS X0 hx (y := (⟨"com/example/gate2/gate2/Dimension", "values", "()[Lcom/example/gate2/gate2/Dimension;"⟩ : MethodName)) hown (mvT hZ (hw _ (own_m 87 rfl))) (mvT hZ (hw _ (own_m 88 rfl))) (mvT hZ (hw _ (own_m 82 rfl))) (mvT hZ (hw _ (own_m 89 rfl))) (by decide) (backOf (W := 0) (rm19 l Z a0 hw [] va kvv d0 d1 d2 d3 h0 n0 Zle S__VALUES E_va V_va) hZ (hw _ (own_m 89 rfl)) (hw _ (own_m 82 rfl)) (by decide) (by decide)) (g := (mkF m 0 #[.val (.ref sq), .unset, .unset, .unset, .unset] [])) rfl (by rw [hml]; rfl) (argsL := []) (rest := []) (lenOf pd_18 rfl) rfl (own_le rfl) (hb hby d18_0) (fun _ _ => ⟨rfl, e0, (by decide : 0 + 1 ≤ _), (by decide : 0 + 4 ≤ _)⟩)
  dsimp only [Pt.U, Pt.locs, Pt.cells, Pt.slots] at X1 l1 y1 z1 st1 hQ1
  subst l1 y1 z1
  obtain ⟨nv_1, rfl, Nq1, c1_0, c1_1, c1_2⟩ := hQ1
  replace N_ := Fr.app N_ Nq1
  clear Nq1
  replace S_COMPACT_STRINGS := own_staKeep S_COMPACT_STRINGS c1_0 all0
  replace S__VALUES := own_staKeep S__VALUES c1_0 all0
  replace Q_sq := Q_sq.keep c1_0 nin0 nin0
  replace E_va := E_va.keep c1_0
  replace V_va := V_va.keep c1_0 nin0
  replace E_d0 := E_d0.keep c1_0
  replace F_field_d0 := F_field_d0.keep c1_0 nin0
  replace Q_f0 := Q_f0.keep c1_0 nin0 nin0
  replace E_d1 := E_d1.keep c1_0
  replace F_field_d1 := F_field_d1.keep c1_0 nin0
  replace Q_f1 := Q_f1.keep c1_0 nin0 nin0
  replace E_d2 := E_d2.keep c1_0
  replace F_field_d2 := F_field_d2.keep c1_0 nin0
  replace Q_f2 := Q_f2.keep c1_0 nin0 nin0
  replace E_d3 := E_d3.keep c1_0
  replace F_field_d3 := F_field_d3.keep c1_0 nin0
  replace Q_f3 := Q_f3.keep c1_0 nin0 nin0
  replace Zle := Nat.le_trans Zle c1_0.1
  replace K_ := K_.trans c1_0 all0
  have ne_sq_nv_1 : sq ≠ nv_1 := Nat.ne_of_lt (Nat.lt_of_lt_of_le lt_sq_1 c1_1)
  have ne_tq_nv_1 : tq ≠ nv_1 := Nat.ne_of_lt (Nat.lt_of_lt_of_le lt_tq_1 c1_1)
  have ne_va_nv_1 : va ≠ nv_1 := Nat.ne_of_lt (Nat.lt_of_lt_of_le lt_va_1 c1_1)
  have ne_d0_nv_1 : d0 ≠ nv_1 := Nat.ne_of_lt (Nat.lt_of_lt_of_le lt_d0_1 c1_1)
  have ne_f0_nv_1 : f0 ≠ nv_1 := Nat.ne_of_lt (Nat.lt_of_lt_of_le lt_f0_1 c1_1)
  have ne_t0_nv_1 : t0 ≠ nv_1 := Nat.ne_of_lt (Nat.lt_of_lt_of_le lt_t0_1 c1_1)
  have ne_d1_nv_1 : d1 ≠ nv_1 := Nat.ne_of_lt (Nat.lt_of_lt_of_le lt_d1_1 c1_1)
  have ne_f1_nv_1 : f1 ≠ nv_1 := Nat.ne_of_lt (Nat.lt_of_lt_of_le lt_f1_1 c1_1)
  have ne_t1_nv_1 : t1 ≠ nv_1 := Nat.ne_of_lt (Nat.lt_of_lt_of_le lt_t1_1 c1_1)
  have ne_d2_nv_1 : d2 ≠ nv_1 := Nat.ne_of_lt (Nat.lt_of_lt_of_le lt_d2_1 c1_1)
  have ne_f2_nv_1 : f2 ≠ nv_1 := Nat.ne_of_lt (Nat.lt_of_lt_of_le lt_f2_1 c1_1)
  have ne_t2_nv_1 : t2 ≠ nv_1 := Nat.ne_of_lt (Nat.lt_of_lt_of_le lt_t2_1 c1_1)
  have ne_d3_nv_1 : d3 ≠ nv_1 := Nat.ne_of_lt (Nat.lt_of_lt_of_le lt_d3_1 c1_1)
  have ne_f3_nv_1 : f3 ≠ nv_1 := Nat.ne_of_lt (Nat.lt_of_lt_of_le lt_f3_1 c1_1)
  have ne_t3_nv_1 : t3 ≠ nv_1 := Nat.ne_of_lt (Nat.lt_of_lt_of_le lt_t3_1 c1_1)
  have g_nv_1 : n0 ≤ nv_1 := Nat.le_trans Zpre1 c1_1
  have sz_nv_1 : h0.size ≤ nv_1 := Nat.le_trans szp1 c1_1
  clear lt_sq_1 lt_tq_1 lt_va_1 lt_d0_1 lt_f0_1 lt_t0_1 lt_d1_1 lt_f1_1 lt_t1_1 lt_d2_1 lt_f2_1 lt_t2_1 lt_d3_1 lt_f3_1 lt_t3_1
  refine own_by (T' := T1) (g' := (mkF m 3 #[.val (.ref sq), .unset, .unset, .unset, .unset] [(.ref nv_1)])) (fun t k => st1 _ k) ?_
  clear st1
  refine own_by (T' := T1) (g' := (mkF m 4 #[.val (.ref sq), .val (.ref nv_1), .unset, .unset, .unset] [])) (fun t k => XS.astoreN X1.here hx rfl (hb hby d18_3) rfl rfl (l' := #[.val (.ref sq), .val (.ref nv_1), .unset, .unset, .unset]) rfl k) ?_
  refine own_by (T' := T1) (g' := (mkF m 5 #[.val (.ref sq), .val (.ref nv_1), .unset, .unset, .unset] [(.ref nv_1)])) (fun t k => XS.aloadN X1.here hx rfl (hb hby d18_4) rfl rfl k) ?_
  obtain ⟨cl2, Ar2, -, S2, N2, -, -⟩ := id c1_2
  have st2 : ∀ t, Steps p.tables e below (T1.setTop (mkF m 6 #[.val (.ref sq), .val (.ref nv_1), .unset, .unset, .unset] [(.int 4)])) t → Steps p.tables e below (T1.setTop (mkF m 5 #[.val (.ref sq), .val (.ref nv_1), .unset, .unset, .unset] [(.ref nv_1)])) t := fun t k => X1.arraylength hx (by exact Ar2.1) (State.isArrayOf_alike hZ.alike Ar2.2.1) (g := (mkF m 5 #[.val (.ref sq), .val (.ref nv_1), .unset, .unset, .unset] [(.ref nv_1)])) rfl rfl (hb hby d18_5) _ (by rw [len_of S2 N2]; exact k)
  refine own_by (T' := T1) (g' := (mkF m 6 #[.val (.ref sq), .val (.ref nv_1), .unset, .unset, .unset] [(.int 4)])) (fun t k => st2 t k) ?_
  clear st2
  refine own_by (T' := T1) (g' := (mkF m 7 #[.val (.ref sq), .val (.ref nv_1), .val (.int 4), .unset, .unset] [])) (fun t k => XS.istoreN X1.here hx rfl (hb hby d18_6) rfl (l' := #[.val (.ref sq), .val (.ref nv_1), .val (.int 4), .unset, .unset]) rfl k) ?_
  refine own_by (T' := T1) (g' := (mkF m 8 #[.val (.ref sq), .val (.ref nv_1), .val (.int 4), .unset, .unset] [(.int 0)])) (fun t k => XS.iconst X1.here hx rfl (hb hby d18_7) k) ?_
  refine own_by (T' := T1) (g' := (mkF m 9 #[.val (.ref sq), .val (.ref nv_1), .val (.int 4), .val (.int 0), .unset] [])) (fun t k => XS.istoreN X1.here hx rfl (hb hby d18_8) rfl (l' := #[.val (.ref sq), .val (.ref nv_1), .val (.int 4), .val (.int 0), .unset]) rfl k) ?_
  refine own_by (T' := T1) (g' := (mkF m 10 #[.val (.ref sq), .val (.ref nv_1), .val (.int 4), .val (.int 0), .unset] [(.int 0)])) (fun t k => XS.iloadN X1.here hx rfl (hb hby d18_9) rfl k) ?_
  refine own_by (T' := T1) (g' := (mkF m 11 #[.val (.ref sq), .val (.ref nv_1), .val (.int 4), .val (.int 0), .unset] [(.int 4), (.int 0)])) (fun t k => XS.iloadN X1.here hx rfl (hb hby d18_10) rfl k) ?_
  refine own_by (T' := T1) (g' := (mkF m 14 #[.val (.ref sq), .val (.ref nv_1), .val (.int 4), .val (.int 0), .unset] [])) (fun t k => XS.icmpNo X1.here hx rfl (hb hby d18_11) rfl (tlt (by decide)).2.1 k) ?_
  refine own_by (T' := T1) (g' := (mkF m 15 #[.val (.ref sq), .val (.ref nv_1), .val (.int 4), .val (.int 0), .unset] [(.ref nv_1)])) (fun t k => XS.aloadN X1.here hx rfl (hb hby d18_14) rfl rfl k) ?_
  refine own_by (T' := T1) (g' := (mkF m 16 #[.val (.ref sq), .val (.ref nv_1), .val (.int 4), .val (.int 0), .unset] [(.int 0), (.ref nv_1)])) (fun t k => XS.iloadN X1.here hx rfl (hb hby d18_15) rfl k) ?_
  obtain ⟨cl3, Ar3, q3, S3, N3, Hs3, G3⟩ := id c1_2
  have hin3 : ¬ ((0 : Int32) < 0 ∨ cl3.slots.size ≤ ((0 : Int32)).toNatClampNeg) := inb_of S3 ⟨by decide, by decide⟩
  have hat3 : cl3.slots[((0 : Int32)).toNatClampNeg]? = some (.ref d0) := Hs3.at hin3 rfl
  refine own_by (T' := T1) (g' := (mkF m 17 #[.val (.ref sq), .val (.ref nv_1), .val (.int 4), .val (.int 0), .unset] [(.ref d0)])) (fun t k => X1.aaload hx (j := (0 : Int32)) (v := (.ref d0)) (by exact Ar3.1) (State.isArrayOf_alike hZ.alike Ar3.2.1) rfl Ar3.2.2 hin3 hat3 (g := (mkF m 16 #[.val (.ref sq), .val (.ref nv_1), .val (.int 4), .val (.int 0), .unset] [(.int 0), (.ref nv_1)])) rfl rfl (hb hby d18_16) _ k) ?_
  clear hat3 hin3 G3 Hs3 N3 S3 q3 Ar3 cl3
  refine own_by (T' := T1) (g' := (mkF m 19 #[.val (.ref sq), .val (.ref nv_1), .val (.int 4), .val (.int 0), .val (.ref d0)] [])) (fun t k => XS.astore X1.here hx rfl (hb hby d18_17) rfl rfl (l' := #[.val (.ref sq), .val (.ref nv_1), .val (.int 4), .val (.int 0), .val (.ref d0)]) rfl k) ?_
  refine own_by (T' := T1) (g' := (mkF m 21 #[.val (.ref sq), .val (.ref nv_1), .val (.int 4), .val (.int 0), .val (.ref d0)] [(.ref d0)])) (fun t k => XS.aload X1.here hx rfl (hb hby d18_19) rfl rfl k) ?_
  obtain ⟨T4, X4, e4, st4⟩ := getF X1 hx hZ hown (host := "") (Or.inl (hw _ (own_m 105 rfl))) Via.refl rfl F_field_d0 (g := (mkF m 21 #[.val (.ref sq), .val (.ref nv_1), .val (.int 4), .val (.int 0), .val (.ref d0)] [(.ref d0)])) rfl rfl (hb hby d18_21)
  refine own_by (T' := T4) (g' := (mkF m 24 #[.val (.ref sq), .val (.ref nv_1), .val (.int 4), .val (.int 0), .val (.ref d0)] [(.ref f0)])) (fun t k => st4 t k) ?_
  clear st4 X1
  refine own_by (T' := T4) (g' := (mkF m 25 #[.val (.ref sq), .val (.ref nv_1), .val (.int 4), .val (.int 0), .val (.ref d0)] [(.ref sq), (.ref f0)])) (fun t k => XS.aloadN X4.here hx rfl (hb hby d18_24) rfl rfl k) ?_
  have E_f0 := Q_f0.1
  obtain ⟨cq5, kq5, q5a, q5b, q5c⟩ := isOf hZ e4 E_f0
  obtain ⟨_, _, ⟨T5, L5, k5, n5⟩, -, X5, ⟨Lc5, hQ5, l5, y5, z5⟩, st5⟩ := X4.virtualBack hx (y := (⟨"java/lang/String", "equals", "(Ljava/lang/Object;)Z"⟩ : MethodName)) (z := (⟨"java/lang/String", "equals", "(Ljava/lang/Object;)Z"⟩ : MethodName)) hown (mvT hZ (hw _ (own_m 107 rfl))) (mvT hZ (hw _ (own_m 73 rfl))) (notFace_of_selects (args := #[]) (mvT hZ (hw _ (own_m 75 rfl)))) (mvT hZ (hw _ (own_m 75 rfl))) (mvT hZ (hw _ (own_m 74 rfl))) (by decide) (StrChars.Road.eqW (W := 0) hZ (own_hwE hw) (kI := 4) (hw _ (own_m 2 rfl)) Q_f0.1 Q_f0.2.1 Q_f0.2.2.1 Q_f0.2.2.2.1 (own_cod Q_f0) (own_w16 Q_f0) (own_l4 Q_f0) Q_sq.1 Q_sq.2.1 Q_sq.2.2.1 Q_sq.2.2.2.1 (own_cod Q_sq) (own_w16 Q_sq) (own_l4 Q_sq) S_COMPACT_STRINGS hzC (by decide) (by decide)) q5a q5c (g := (mkF m 25 #[.val (.ref sq), .val (.ref nv_1), .val (.int 4), .val (.int 0), .val (.ref d0)] [(.ref sq), (.ref f0)])) rfl (by rw [hml]; rfl) (Steps.refl _) (argsL := [(.ref sq)]) (rest := []) (lenOf pd_15 rfl) rfl (own_le rfl) (hb hby d18_25) (fun _ _ => ⟨rfl, e4, (by decide : 1 + 0 ≤ _), (by decide : 4 + 0 ≤ _)⟩)
  dsimp only [Pt.U, Pt.locs, Pt.cells, Pt.slots] at X5 l5 y5 z5 st5 hQ5
  subst l5 y5 z5
  rcases hQ5 with ⟨⟨rfl, hq5⟩ | ⟨rfl, hq5⟩, rfl, e5⟩
  rotate_left
  · exact absurd he0 hq5
  replace N_ := Fr.app N_ (Fr.nil n0)
  refine own_by (T' := T5) (g' := (mkF m 28 #[.val (.ref sq), .val (.ref nv_1), .val (.int 4), .val (.int 0), .val (.ref d0)] [(.int 1)])) (fun t k => st5.trans k) ?_
  clear st5 X4 e4
  refine own_by (T' := T5) (g' := (mkF m 31 #[.val (.ref sq), .val (.ref nv_1), .val (.int 4), .val (.int 0), .val (.ref d0)] [])) (fun t k => XS.ifNo X5.here hx rfl (hb hby d18_28) rfl ((if0 _ _).trans (feq (by decide)).1) k) ?_
  refine own_by (T' := T5) (g' := (mkF m 33 #[.val (.ref sq), .val (.ref nv_1), .val (.int 4), .val (.int 0), .val (.ref d0)] [(.ref d0)])) (fun t k => XS.aload X5.here hx rfl (hb hby d18_31) rfl rfl k) ?_
  have lt_sq_6 := Q_sq.1.lt
  have lt_tq_6 := Q_sq.2.2.2.1.lt
  have lt_va_6 := E_va.lt
  have lt_d0_6 := E_d0.lt
  have lt_f0_6 := Q_f0.1.lt
  have lt_t0_6 := Q_f0.2.2.2.1.lt
  have lt_d1_6 := E_d1.lt
  have lt_f1_6 := Q_f1.1.lt
  have lt_t1_6 := Q_f1.2.2.2.1.lt
  have lt_d2_6 := E_d2.lt
  have lt_f2_6 := Q_f2.1.lt
  have lt_t2_6 := Q_f2.2.2.2.1.lt
  have lt_d3_6 := E_d3.lt
  have lt_f3_6 := Q_f3.1.lt
  have lt_t3_6 := Q_f3.2.2.2.1.lt
  have lt_nv_1_6 := c1_2.lt
  have Zpre6 := Zle
  have szp6 := K_.1
  obtain ⟨_, _, ⟨T6, L6, k6, n6⟩, -, X6, ⟨Lc6, hQ6, l6, y6, z6⟩, st6⟩ := Jvm.LawKit.callS X5 hx (y := (⟨"java/util/Optional", "of", "(Ljava/lang/Object;)Ljava/util/Optional;"⟩ : MethodName)) hown (mvT hZ (hw _ (own_m 108 rfl))) (mvT hZ (hw _ (own_m 109 rfl))) (mvT hZ (hw _ (own_m 110 rfl))) (mvT hZ (hw _ (own_m 111 rfl))) (by decide) (backOf (W := 0) (rm20 l Z a0 hw [] d0 T1.heap n0 Zle ) hZ (hw _ (own_m 111 rfl)) (hw _ (own_m 110 rfl)) (by decide) (by decide)) (g := (mkF m 33 #[.val (.ref sq), .val (.ref nv_1), .val (.int 4), .val (.int 0), .val (.ref d0)] [(.ref d0)])) rfl (by rw [hml]; rfl) (argsL := [(.ref d0)]) (rest := []) (lenOf pd_20 rfl) rfl (own_le rfl) (hb hby d18_33) (fun _ _ => ⟨rfl, e5, (by decide : 1 + 1 ≤ _), (by decide : 4 + 1 ≤ _)⟩)
  dsimp only [Pt.U, Pt.locs, Pt.cells, Pt.slots] at X6 l6 y6 z6 st6 hQ6
  subst l6 y6 z6
  obtain ⟨po_6, rfl, Nq6, c6_0, c6_1, c6_2, c6_3⟩ := hQ6
  replace N_ := Fr.app N_ Nq6
  clear Nq6
  replace S_COMPACT_STRINGS := own_staKeep S_COMPACT_STRINGS c6_0 all0
  replace S__VALUES := own_staKeep S__VALUES c6_0 all0
  replace Q_sq := Q_sq.keep c6_0 nin0 nin0
  replace E_va := E_va.keep c6_0
  replace V_va := V_va.keep c6_0 nin0
  replace E_d0 := E_d0.keep c6_0
  replace F_field_d0 := F_field_d0.keep c6_0 nin0
  replace Q_f0 := Q_f0.keep c6_0 nin0 nin0
  replace E_d1 := E_d1.keep c6_0
  replace F_field_d1 := F_field_d1.keep c6_0 nin0
  replace Q_f1 := Q_f1.keep c6_0 nin0 nin0
  replace E_d2 := E_d2.keep c6_0
  replace F_field_d2 := F_field_d2.keep c6_0 nin0
  replace Q_f2 := Q_f2.keep c6_0 nin0 nin0
  replace E_d3 := E_d3.keep c6_0
  replace F_field_d3 := F_field_d3.keep c6_0 nin0
  replace Q_f3 := Q_f3.keep c6_0 nin0 nin0
  replace Zle := Nat.le_trans Zle c6_0.1
  replace K_ := K_.trans c6_0 all0
  replace c1_2 := c1_2.keep c6_0 nin0
  have ne_sq_po_6 : sq ≠ po_6 := Nat.ne_of_lt (Nat.lt_of_lt_of_le lt_sq_6 c6_1)
  have ne_tq_po_6 : tq ≠ po_6 := Nat.ne_of_lt (Nat.lt_of_lt_of_le lt_tq_6 c6_1)
  have ne_va_po_6 : va ≠ po_6 := Nat.ne_of_lt (Nat.lt_of_lt_of_le lt_va_6 c6_1)
  have ne_d0_po_6 : d0 ≠ po_6 := Nat.ne_of_lt (Nat.lt_of_lt_of_le lt_d0_6 c6_1)
  have ne_f0_po_6 : f0 ≠ po_6 := Nat.ne_of_lt (Nat.lt_of_lt_of_le lt_f0_6 c6_1)
  have ne_t0_po_6 : t0 ≠ po_6 := Nat.ne_of_lt (Nat.lt_of_lt_of_le lt_t0_6 c6_1)
  have ne_d1_po_6 : d1 ≠ po_6 := Nat.ne_of_lt (Nat.lt_of_lt_of_le lt_d1_6 c6_1)
  have ne_f1_po_6 : f1 ≠ po_6 := Nat.ne_of_lt (Nat.lt_of_lt_of_le lt_f1_6 c6_1)
  have ne_t1_po_6 : t1 ≠ po_6 := Nat.ne_of_lt (Nat.lt_of_lt_of_le lt_t1_6 c6_1)
  have ne_d2_po_6 : d2 ≠ po_6 := Nat.ne_of_lt (Nat.lt_of_lt_of_le lt_d2_6 c6_1)
  have ne_f2_po_6 : f2 ≠ po_6 := Nat.ne_of_lt (Nat.lt_of_lt_of_le lt_f2_6 c6_1)
  have ne_t2_po_6 : t2 ≠ po_6 := Nat.ne_of_lt (Nat.lt_of_lt_of_le lt_t2_6 c6_1)
  have ne_d3_po_6 : d3 ≠ po_6 := Nat.ne_of_lt (Nat.lt_of_lt_of_le lt_d3_6 c6_1)
  have ne_f3_po_6 : f3 ≠ po_6 := Nat.ne_of_lt (Nat.lt_of_lt_of_le lt_f3_6 c6_1)
  have ne_t3_po_6 : t3 ≠ po_6 := Nat.ne_of_lt (Nat.lt_of_lt_of_le lt_t3_6 c6_1)
  have ne_nv_1_po_6 : nv_1 ≠ po_6 := Nat.ne_of_lt (Nat.lt_of_lt_of_le lt_nv_1_6 c6_1)
  have g_po_6 : n0 ≤ po_6 := Nat.le_trans Zpre6 c6_1
  have sz_po_6 : h0.size ≤ po_6 := Nat.le_trans szp6 c6_1
  clear lt_sq_6 lt_tq_6 lt_va_6 lt_d0_6 lt_f0_6 lt_t0_6 lt_d1_6 lt_f1_6 lt_t1_6 lt_d2_6 lt_f2_6 lt_t2_6 lt_d3_6 lt_f3_6 lt_t3_6 lt_nv_1_6
  refine own_by (T' := T6) (g' := (mkF m 36 #[.val (.ref sq), .val (.ref nv_1), .val (.int 4), .val (.int 0), .val (.ref d0)] [(.ref po_6)])) (fun t k => st6 _ k) ?_
  clear st6 X5 e5
  exact own_retA X6 hx (t := (.object "java/util/Optional")) Bd.notSynchronized Bd.returns rfl rfl rfl (hb hby d18_36) (by decide) (by decide) (by exact ⟨_, rfl, N_, K_, sz_po_6, c6_2, c6_3⟩)

def Q18v1 (Z : State) (sq : Addr) (va : Addr) (kvv : ClassId) (d0 : Addr) (d1 : Addr) (d2 : Addr) (d3 : Addr) (f0 : Addr) (f1 : Addr) (f2 : Addr) (f3 : Addr) (t0 : Addr) (t1 : Addr) (t2 : Addr) (t3 : Addr) (ky0 : ClassId) (ky1 : ClassId) (ky2 : ClassId) (ky3 : ClassId) (zC : Int32) (tq : Addr) (kq : ClassId) (cq : List Int32) (h0 : Heap) (n0 : Nat) (v : Option Value) (h : Heap) (L : List Loc) : Prop := ∃ po : Addr, v = some (.ref po) ∧ Fr n0 L ∧ Keep h0 h [] ∧ h0.size ≤ po ∧ Exa Z h po "java/util/Optional" ∧ Fld Z h po "java/util/Optional" "value" "Ljava/lang/Object;" (.ref d1)
theorem ef_18v1 (m : MethodId) (sq : Addr) : entryFrame m #[(.ref sq)] 5 = mkF m 0 #[.val (.ref sq), .unset, .unset, .unset, .unset] [] := by first | (simp [entryFrame, mkF, argsToLocals, Value.category]; done) | rfl
theorem d18_37 : decode prog_6_method_4_code 37 = .ok (.iinc 3 1, 3) := by decide +kernel
theorem d18_40 : decode prog_6_method_4_code 40 = .ok (.goto (-31), 3) := by decide +kernel
set_option maxRecDepth 65536 in
set_option maxHeartbeats 40000000 in
theorem rm18v1 (l : Launch) (Z : State) (a0 : Array Value) (hw : ∀ d ∈ tables_1, d.before a0 Z = true) (ws : List Jvm.Cond) (sq : Addr) (va : Addr) (kvv : ClassId) (d0 : Addr) (d1 : Addr) (d2 : Addr) (d3 : Addr) (f0 : Addr) (f1 : Addr) (f2 : Addr) (f3 : Addr) (t0 : Addr) (t1 : Addr) (t2 : Addr) (t3 : Addr) (ky0 : ClassId) (ky1 : ClassId) (ky2 : ClassId) (ky3 : ClassId) (zC : Int32) (tq : Addr) (kq : ClassId) (cq : List Int32) (h0 : Heap) (n0 : Nat) (Zle : n0 ≤ h0.size) (Q_sq : own_Str Z h0 sq tq kq cq) (S_COMPACT_STRINGS : Sta Z h0 "java/lang/String" "COMPACT_STRINGS" "Z" (.int zC)) (S__VALUES : Sta Z h0 "com/example/gate2/gate2/Dimension" "$VALUES" "[Lcom/example/gate2/gate2/Dimension;" (.ref va)) (E_va : Exa Z h0 va "[Lcom/example/gate2/gate2/Dimension;") (V_va : Arv Z h0 va kvv (.object "com/example/gate2/gate2/Dimension") (4 : Int32) [(.ref d0), (.ref d1), (.ref d2), (.ref d3)] .null) (E_d0 : Exa Z h0 d0 "com/example/gate2/gate2/Dimension") (F_field_d0 : Fld Z h0 d0 "com/example/gate2/gate2/Dimension" "field" "Ljava/lang/String;" (.ref f0)) (Q_f0 : own_Str Z h0 f0 t0 ky0 ([112, 114, 111, 106, 101, 99, 116] : List Int32)) (E_d1 : Exa Z h0 d1 "com/example/gate2/gate2/Dimension") (F_field_d1 : Fld Z h0 d1 "com/example/gate2/gate2/Dimension" "field" "Ljava/lang/String;" (.ref f1)) (Q_f1 : own_Str Z h0 f1 t1 ky1 ([117, 115, 101, 114] : List Int32)) (E_d2 : Exa Z h0 d2 "com/example/gate2/gate2/Dimension") (F_field_d2 : Fld Z h0 d2 "com/example/gate2/gate2/Dimension" "field" "Ljava/lang/String;" (.ref f2)) (Q_f2 : own_Str Z h0 f2 t2 ky2 ([114, 101, 103, 105, 111, 110] : List Int32)) (E_d3 : Exa Z h0 d3 "com/example/gate2/gate2/Dimension") (F_field_d3 : Fld Z h0 d3 "com/example/gate2/gate2/Dimension" "field" "Ljava/lang/String;" (.ref f3)) (Q_f3 : own_Str Z h0 f3 t3 ky3 ([105, 110, 115, 116, 97, 110, 99, 101] : List Int32)) (hzC : ¬ zC = 0) (hn0 : ¬ ([112, 114, 111, 106, 101, 99, 116] : List Int32) = cq) (he1 : ([117, 115, 101, 114] : List Int32) = cq) :
    MetFree l (⟨"com/example/gate2/gate2/Dimension", "byField", "(Ljava/lang/String;)Ljava/util/Optional;"⟩ : MethodName) (head1 (Jvm.Cond.code (⟨"com/example/gate2/gate2/Dimension", "byField", "(Ljava/lang/String;)Ljava/util/Optional;"⟩ : MethodName) prog_6_method_4_code 5 (some (.object "java/util/Optional")) :: ws) ({ frames := 3, cells := 2, slots := 5, locals := 44 } : Room)) (fun a U => a = #[(.ref sq)] ∧ Z.Warmed39 U.vm ∧ U.heap = h0) (fun _ _ _ _ _ => True) (fun _ U o U' => ∃ v L, o = .returned v ∧ Q18v1 Z sq va kvv d0 d1 d2 d3 f0 f1 f2 f3 t0 t1 t2 t3 ky0 ky1 ky2 ky3 zC tq kq cq h0 n0 v U'.heap L ∧ FrameEnd U o U' L ({ frames := 3, cells := 2, slots := 5, locals := 44 } : Room).cells ({ frames := 3, cells := 2, slots := 5, locals := 44 } : Room).slots) := by
  refine MetFree.of_bodySF (plainFor_of_name pn_com_example_gate2_gate2_Dimension) hisR ?_
  intro p e s m args below meth c s₁ Bd hml0 hP hK
  obtain ⟨rfl, hZ, hh⟩ := hP
  have hx := Bd.exec
  have hby := Bd.bytes
  have hml : c.maxLocals = 5 := hml0
  have hown : s.vm.findClass "com/example/gate2/gate2/Dimension" = some m.cls := findClass_of_methodNamed Bd.named
  have hnm := (name_of_methodNamed Bd.named Bd.method).1
  have X0 : Stand p l e ({ frames := 3, cells := 2, slots := 5, locals := 44 } : Room) s m #[(.ref sq)] below meth c s₁ [] 0 0 := Stand.of_body Bd
  have e0 : s₁.heap = h0 := by rw [← hh, Bd.state]; rfl
  have N_ := Fr.nil n0
  have K_ := Keep.refl h0 []
  show own_Goes p.tables e below s (Q18v1 Z sq va kvv d0 d1 d2 d3 f0 f1 f2 f3 t0 t1 t2 t3 ky0 ky1 ky2 ky3 zC tq kq cq h0 n0) ({ frames := 3, cells := 2, slots := 5, locals := 44 } : Room).cells ({ frames := 3, cells := 2, slots := 5, locals := 44 } : Room).slots s₁ (entryFrame m #[(.ref sq)] 5)
  refine own_by (T' := s₁) (g' := (mkF m 0 #[.val (.ref sq), .unset, .unset, .unset, .unset] [])) (fun t k => castTop (ef_18v1 m sq) k) ?_
  have lt_sq_1 := Q_sq.1.lt
  have lt_tq_1 := Q_sq.2.2.2.1.lt
  have lt_va_1 := E_va.lt
  have lt_d0_1 := E_d0.lt
  have lt_f0_1 := Q_f0.1.lt
  have lt_t0_1 := Q_f0.2.2.2.1.lt
  have lt_d1_1 := E_d1.lt
  have lt_f1_1 := Q_f1.1.lt
  have lt_t1_1 := Q_f1.2.2.2.1.lt
  have lt_d2_1 := E_d2.lt
  have lt_f2_1 := Q_f2.1.lt
  have lt_t2_1 := Q_f2.2.2.2.1.lt
  have lt_d3_1 := E_d3.lt
  have lt_f3_1 := Q_f3.1.lt
  have lt_t3_1 := Q_f3.2.2.2.1.lt
  have Zpre1 := Zle
  have szp1 := K_.1
  obtain ⟨_, _, ⟨T1, L1, k1, n1⟩, -, X1, ⟨Lc1, hQ1, l1, y1, z1⟩, st1⟩ := Jvm.LawKit.callS X0 hx (y := (⟨"com/example/gate2/gate2/Dimension", "values", "()[Lcom/example/gate2/gate2/Dimension;"⟩ : MethodName)) hown (mvT hZ (hw _ (own_m 87 rfl))) (mvT hZ (hw _ (own_m 88 rfl))) (mvT hZ (hw _ (own_m 82 rfl))) (mvT hZ (hw _ (own_m 89 rfl))) (by decide) (backOf (W := 0) (rm19 l Z a0 hw [] va kvv d0 d1 d2 d3 h0 n0 Zle S__VALUES E_va V_va) hZ (hw _ (own_m 89 rfl)) (hw _ (own_m 82 rfl)) (by decide) (by decide)) (g := (mkF m 0 #[.val (.ref sq), .unset, .unset, .unset, .unset] [])) rfl (by rw [hml]; rfl) (argsL := []) (rest := []) (lenOf pd_18 rfl) rfl (own_le rfl) (hb hby d18_0) (fun _ _ => ⟨rfl, e0, (by decide : 0 + 1 ≤ _), (by decide : 0 + 4 ≤ _)⟩)
  dsimp only [Pt.U, Pt.locs, Pt.cells, Pt.slots] at X1 l1 y1 z1 st1 hQ1
  subst l1 y1 z1
  obtain ⟨nv_1, rfl, Nq1, c1_0, c1_1, c1_2⟩ := hQ1
  replace N_ := Fr.app N_ Nq1
  clear Nq1
  replace S_COMPACT_STRINGS := own_staKeep S_COMPACT_STRINGS c1_0 all0
  replace S__VALUES := own_staKeep S__VALUES c1_0 all0
  replace Q_sq := Q_sq.keep c1_0 nin0 nin0
  replace E_va := E_va.keep c1_0
  replace V_va := V_va.keep c1_0 nin0
  replace E_d0 := E_d0.keep c1_0
  replace F_field_d0 := F_field_d0.keep c1_0 nin0
  replace Q_f0 := Q_f0.keep c1_0 nin0 nin0
  replace E_d1 := E_d1.keep c1_0
  replace F_field_d1 := F_field_d1.keep c1_0 nin0
  replace Q_f1 := Q_f1.keep c1_0 nin0 nin0
  replace E_d2 := E_d2.keep c1_0
  replace F_field_d2 := F_field_d2.keep c1_0 nin0
  replace Q_f2 := Q_f2.keep c1_0 nin0 nin0
  replace E_d3 := E_d3.keep c1_0
  replace F_field_d3 := F_field_d3.keep c1_0 nin0
  replace Q_f3 := Q_f3.keep c1_0 nin0 nin0
  replace Zle := Nat.le_trans Zle c1_0.1
  replace K_ := K_.trans c1_0 all0
  have ne_sq_nv_1 : sq ≠ nv_1 := Nat.ne_of_lt (Nat.lt_of_lt_of_le lt_sq_1 c1_1)
  have ne_tq_nv_1 : tq ≠ nv_1 := Nat.ne_of_lt (Nat.lt_of_lt_of_le lt_tq_1 c1_1)
  have ne_va_nv_1 : va ≠ nv_1 := Nat.ne_of_lt (Nat.lt_of_lt_of_le lt_va_1 c1_1)
  have ne_d0_nv_1 : d0 ≠ nv_1 := Nat.ne_of_lt (Nat.lt_of_lt_of_le lt_d0_1 c1_1)
  have ne_f0_nv_1 : f0 ≠ nv_1 := Nat.ne_of_lt (Nat.lt_of_lt_of_le lt_f0_1 c1_1)
  have ne_t0_nv_1 : t0 ≠ nv_1 := Nat.ne_of_lt (Nat.lt_of_lt_of_le lt_t0_1 c1_1)
  have ne_d1_nv_1 : d1 ≠ nv_1 := Nat.ne_of_lt (Nat.lt_of_lt_of_le lt_d1_1 c1_1)
  have ne_f1_nv_1 : f1 ≠ nv_1 := Nat.ne_of_lt (Nat.lt_of_lt_of_le lt_f1_1 c1_1)
  have ne_t1_nv_1 : t1 ≠ nv_1 := Nat.ne_of_lt (Nat.lt_of_lt_of_le lt_t1_1 c1_1)
  have ne_d2_nv_1 : d2 ≠ nv_1 := Nat.ne_of_lt (Nat.lt_of_lt_of_le lt_d2_1 c1_1)
  have ne_f2_nv_1 : f2 ≠ nv_1 := Nat.ne_of_lt (Nat.lt_of_lt_of_le lt_f2_1 c1_1)
  have ne_t2_nv_1 : t2 ≠ nv_1 := Nat.ne_of_lt (Nat.lt_of_lt_of_le lt_t2_1 c1_1)
  have ne_d3_nv_1 : d3 ≠ nv_1 := Nat.ne_of_lt (Nat.lt_of_lt_of_le lt_d3_1 c1_1)
  have ne_f3_nv_1 : f3 ≠ nv_1 := Nat.ne_of_lt (Nat.lt_of_lt_of_le lt_f3_1 c1_1)
  have ne_t3_nv_1 : t3 ≠ nv_1 := Nat.ne_of_lt (Nat.lt_of_lt_of_le lt_t3_1 c1_1)
  have g_nv_1 : n0 ≤ nv_1 := Nat.le_trans Zpre1 c1_1
  have sz_nv_1 : h0.size ≤ nv_1 := Nat.le_trans szp1 c1_1
  clear lt_sq_1 lt_tq_1 lt_va_1 lt_d0_1 lt_f0_1 lt_t0_1 lt_d1_1 lt_f1_1 lt_t1_1 lt_d2_1 lt_f2_1 lt_t2_1 lt_d3_1 lt_f3_1 lt_t3_1
  refine own_by (T' := T1) (g' := (mkF m 3 #[.val (.ref sq), .unset, .unset, .unset, .unset] [(.ref nv_1)])) (fun t k => st1 _ k) ?_
  clear st1
  refine own_by (T' := T1) (g' := (mkF m 4 #[.val (.ref sq), .val (.ref nv_1), .unset, .unset, .unset] [])) (fun t k => XS.astoreN X1.here hx rfl (hb hby d18_3) rfl rfl (l' := #[.val (.ref sq), .val (.ref nv_1), .unset, .unset, .unset]) rfl k) ?_
  refine own_by (T' := T1) (g' := (mkF m 5 #[.val (.ref sq), .val (.ref nv_1), .unset, .unset, .unset] [(.ref nv_1)])) (fun t k => XS.aloadN X1.here hx rfl (hb hby d18_4) rfl rfl k) ?_
  obtain ⟨cl2, Ar2, -, S2, N2, -, -⟩ := id c1_2
  have st2 : ∀ t, Steps p.tables e below (T1.setTop (mkF m 6 #[.val (.ref sq), .val (.ref nv_1), .unset, .unset, .unset] [(.int 4)])) t → Steps p.tables e below (T1.setTop (mkF m 5 #[.val (.ref sq), .val (.ref nv_1), .unset, .unset, .unset] [(.ref nv_1)])) t := fun t k => X1.arraylength hx (by exact Ar2.1) (State.isArrayOf_alike hZ.alike Ar2.2.1) (g := (mkF m 5 #[.val (.ref sq), .val (.ref nv_1), .unset, .unset, .unset] [(.ref nv_1)])) rfl rfl (hb hby d18_5) _ (by rw [len_of S2 N2]; exact k)
  refine own_by (T' := T1) (g' := (mkF m 6 #[.val (.ref sq), .val (.ref nv_1), .unset, .unset, .unset] [(.int 4)])) (fun t k => st2 t k) ?_
  clear st2
  refine own_by (T' := T1) (g' := (mkF m 7 #[.val (.ref sq), .val (.ref nv_1), .val (.int 4), .unset, .unset] [])) (fun t k => XS.istoreN X1.here hx rfl (hb hby d18_6) rfl (l' := #[.val (.ref sq), .val (.ref nv_1), .val (.int 4), .unset, .unset]) rfl k) ?_
  refine own_by (T' := T1) (g' := (mkF m 8 #[.val (.ref sq), .val (.ref nv_1), .val (.int 4), .unset, .unset] [(.int 0)])) (fun t k => XS.iconst X1.here hx rfl (hb hby d18_7) k) ?_
  refine own_by (T' := T1) (g' := (mkF m 9 #[.val (.ref sq), .val (.ref nv_1), .val (.int 4), .val (.int 0), .unset] [])) (fun t k => XS.istoreN X1.here hx rfl (hb hby d18_8) rfl (l' := #[.val (.ref sq), .val (.ref nv_1), .val (.int 4), .val (.int 0), .unset]) rfl k) ?_
  refine own_by (T' := T1) (g' := (mkF m 10 #[.val (.ref sq), .val (.ref nv_1), .val (.int 4), .val (.int 0), .unset] [(.int 0)])) (fun t k => XS.iloadN X1.here hx rfl (hb hby d18_9) rfl k) ?_
  refine own_by (T' := T1) (g' := (mkF m 11 #[.val (.ref sq), .val (.ref nv_1), .val (.int 4), .val (.int 0), .unset] [(.int 4), (.int 0)])) (fun t k => XS.iloadN X1.here hx rfl (hb hby d18_10) rfl k) ?_
  refine own_by (T' := T1) (g' := (mkF m 14 #[.val (.ref sq), .val (.ref nv_1), .val (.int 4), .val (.int 0), .unset] [])) (fun t k => XS.icmpNo X1.here hx rfl (hb hby d18_11) rfl (tlt (by decide)).2.1 k) ?_
  refine own_by (T' := T1) (g' := (mkF m 15 #[.val (.ref sq), .val (.ref nv_1), .val (.int 4), .val (.int 0), .unset] [(.ref nv_1)])) (fun t k => XS.aloadN X1.here hx rfl (hb hby d18_14) rfl rfl k) ?_
  refine own_by (T' := T1) (g' := (mkF m 16 #[.val (.ref sq), .val (.ref nv_1), .val (.int 4), .val (.int 0), .unset] [(.int 0), (.ref nv_1)])) (fun t k => XS.iloadN X1.here hx rfl (hb hby d18_15) rfl k) ?_
  obtain ⟨cl3, Ar3, q3, S3, N3, Hs3, G3⟩ := id c1_2
  have hin3 : ¬ ((0 : Int32) < 0 ∨ cl3.slots.size ≤ ((0 : Int32)).toNatClampNeg) := inb_of S3 ⟨by decide, by decide⟩
  have hat3 : cl3.slots[((0 : Int32)).toNatClampNeg]? = some (.ref d0) := Hs3.at hin3 rfl
  refine own_by (T' := T1) (g' := (mkF m 17 #[.val (.ref sq), .val (.ref nv_1), .val (.int 4), .val (.int 0), .unset] [(.ref d0)])) (fun t k => X1.aaload hx (j := (0 : Int32)) (v := (.ref d0)) (by exact Ar3.1) (State.isArrayOf_alike hZ.alike Ar3.2.1) rfl Ar3.2.2 hin3 hat3 (g := (mkF m 16 #[.val (.ref sq), .val (.ref nv_1), .val (.int 4), .val (.int 0), .unset] [(.int 0), (.ref nv_1)])) rfl rfl (hb hby d18_16) _ k) ?_
  clear hat3 hin3 G3 Hs3 N3 S3 q3 Ar3 cl3
  refine own_by (T' := T1) (g' := (mkF m 19 #[.val (.ref sq), .val (.ref nv_1), .val (.int 4), .val (.int 0), .val (.ref d0)] [])) (fun t k => XS.astore X1.here hx rfl (hb hby d18_17) rfl rfl (l' := #[.val (.ref sq), .val (.ref nv_1), .val (.int 4), .val (.int 0), .val (.ref d0)]) rfl k) ?_
  refine own_by (T' := T1) (g' := (mkF m 21 #[.val (.ref sq), .val (.ref nv_1), .val (.int 4), .val (.int 0), .val (.ref d0)] [(.ref d0)])) (fun t k => XS.aload X1.here hx rfl (hb hby d18_19) rfl rfl k) ?_
  obtain ⟨T4, X4, e4, st4⟩ := getF X1 hx hZ hown (host := "") (Or.inl (hw _ (own_m 105 rfl))) Via.refl rfl F_field_d0 (g := (mkF m 21 #[.val (.ref sq), .val (.ref nv_1), .val (.int 4), .val (.int 0), .val (.ref d0)] [(.ref d0)])) rfl rfl (hb hby d18_21)
  refine own_by (T' := T4) (g' := (mkF m 24 #[.val (.ref sq), .val (.ref nv_1), .val (.int 4), .val (.int 0), .val (.ref d0)] [(.ref f0)])) (fun t k => st4 t k) ?_
  clear st4 X1
  refine own_by (T' := T4) (g' := (mkF m 25 #[.val (.ref sq), .val (.ref nv_1), .val (.int 4), .val (.int 0), .val (.ref d0)] [(.ref sq), (.ref f0)])) (fun t k => XS.aloadN X4.here hx rfl (hb hby d18_24) rfl rfl k) ?_
  have E_f0 := Q_f0.1
  obtain ⟨cq5, kq5, q5a, q5b, q5c⟩ := isOf hZ e4 E_f0
  obtain ⟨_, _, ⟨T5, L5, k5, n5⟩, -, X5, ⟨Lc5, hQ5, l5, y5, z5⟩, st5⟩ := X4.virtualBack hx (y := (⟨"java/lang/String", "equals", "(Ljava/lang/Object;)Z"⟩ : MethodName)) (z := (⟨"java/lang/String", "equals", "(Ljava/lang/Object;)Z"⟩ : MethodName)) hown (mvT hZ (hw _ (own_m 107 rfl))) (mvT hZ (hw _ (own_m 73 rfl))) (notFace_of_selects (args := #[]) (mvT hZ (hw _ (own_m 75 rfl)))) (mvT hZ (hw _ (own_m 75 rfl))) (mvT hZ (hw _ (own_m 74 rfl))) (by decide) (StrChars.Road.eqW (W := 0) hZ (own_hwE hw) (kI := 4) (hw _ (own_m 2 rfl)) Q_f0.1 Q_f0.2.1 Q_f0.2.2.1 Q_f0.2.2.2.1 (own_cod Q_f0) (own_w16 Q_f0) (own_l4 Q_f0) Q_sq.1 Q_sq.2.1 Q_sq.2.2.1 Q_sq.2.2.2.1 (own_cod Q_sq) (own_w16 Q_sq) (own_l4 Q_sq) S_COMPACT_STRINGS hzC (by decide) (by decide)) q5a q5c (g := (mkF m 25 #[.val (.ref sq), .val (.ref nv_1), .val (.int 4), .val (.int 0), .val (.ref d0)] [(.ref sq), (.ref f0)])) rfl (by rw [hml]; rfl) (Steps.refl _) (argsL := [(.ref sq)]) (rest := []) (lenOf pd_15 rfl) rfl (own_le rfl) (hb hby d18_25) (fun _ _ => ⟨rfl, e4, (by decide : 1 + 0 ≤ _), (by decide : 4 + 0 ≤ _)⟩)
  dsimp only [Pt.U, Pt.locs, Pt.cells, Pt.slots] at X5 l5 y5 z5 st5 hQ5
  subst l5 y5 z5
  rcases hQ5 with ⟨⟨rfl, hq5⟩ | ⟨rfl, hq5⟩, rfl, e5⟩
  · exact absurd hq5 hn0
  replace N_ := Fr.app N_ (Fr.nil n0)
  refine own_by (T' := T5) (g' := (mkF m 28 #[.val (.ref sq), .val (.ref nv_1), .val (.int 4), .val (.int 0), .val (.ref d0)] [(.int 0)])) (fun t k => st5.trans k) ?_
  clear st5 X4 e4
  refine own_by (T' := T5) (g' := (mkF m 37 #[.val (.ref sq), .val (.ref nv_1), .val (.int 4), .val (.int 0), .val (.ref d0)] [])) (fun t k => XS.ifYes X5.here hx rfl (pc0 := 28) (pc' := 37) rfl (hb hby d18_28) rfl ((if0 _ _).trans (teq (by decide)).1) (by decide) (by decide) k) ?_
  refine own_by (T' := T5) (g' := (mkF m 40 #[.val (.ref sq), .val (.ref nv_1), .val (.int 4), .val (.int 1), .val (.ref d0)] [])) (fun t k => XS.iinc X5.here hx rfl (hb hby d18_37) rfl (l' := #[.val (.ref sq), .val (.ref nv_1), .val (.int 4), .val (.int 1), .val (.ref d0)]) rfl k) ?_
  refine own_by (T' := T5) (g' := (mkF m 9 #[.val (.ref sq), .val (.ref nv_1), .val (.int 4), .val (.int 1), .val (.ref d0)] [])) (fun t k => XS.goto X5.here hx rfl (pc0 := 40) (pc' := 9) rfl (hb hby d18_40) (by decide) (by decide) k) ?_
  refine own_by (T' := T5) (g' := (mkF m 10 #[.val (.ref sq), .val (.ref nv_1), .val (.int 4), .val (.int 1), .val (.ref d0)] [(.int 1)])) (fun t k => XS.iloadN X5.here hx rfl (hb hby d18_9) rfl k) ?_
  refine own_by (T' := T5) (g' := (mkF m 11 #[.val (.ref sq), .val (.ref nv_1), .val (.int 4), .val (.int 1), .val (.ref d0)] [(.int 4), (.int 1)])) (fun t k => XS.iloadN X5.here hx rfl (hb hby d18_10) rfl k) ?_
  refine own_by (T' := T5) (g' := (mkF m 14 #[.val (.ref sq), .val (.ref nv_1), .val (.int 4), .val (.int 1), .val (.ref d0)] [])) (fun t k => XS.icmpNo X5.here hx rfl (hb hby d18_11) rfl (tlt (by decide)).2.1 k) ?_
  refine own_by (T' := T5) (g' := (mkF m 15 #[.val (.ref sq), .val (.ref nv_1), .val (.int 4), .val (.int 1), .val (.ref d0)] [(.ref nv_1)])) (fun t k => XS.aloadN X5.here hx rfl (hb hby d18_14) rfl rfl k) ?_
  refine own_by (T' := T5) (g' := (mkF m 16 #[.val (.ref sq), .val (.ref nv_1), .val (.int 4), .val (.int 1), .val (.ref d0)] [(.int 1), (.ref nv_1)])) (fun t k => XS.iloadN X5.here hx rfl (hb hby d18_15) rfl k) ?_
  obtain ⟨cl6, Ar6, q6, S6, N6, Hs6, G6⟩ := id c1_2
  have hin6 : ¬ ((1 : Int32) < 0 ∨ cl6.slots.size ≤ ((1 : Int32)).toNatClampNeg) := inb_of S6 ⟨by decide, by decide⟩
  have hat6 : cl6.slots[((1 : Int32)).toNatClampNeg]? = some (.ref d1) := Hs6.at hin6 rfl
  refine own_by (T' := T5) (g' := (mkF m 17 #[.val (.ref sq), .val (.ref nv_1), .val (.int 4), .val (.int 1), .val (.ref d0)] [(.ref d1)])) (fun t k => X5.aaload hx (j := (1 : Int32)) (v := (.ref d1)) (by rw [e5]; exact Ar6.1) (State.isArrayOf_alike hZ.alike Ar6.2.1) rfl Ar6.2.2 hin6 hat6 (g := (mkF m 16 #[.val (.ref sq), .val (.ref nv_1), .val (.int 4), .val (.int 1), .val (.ref d0)] [(.int 1), (.ref nv_1)])) rfl rfl (hb hby d18_16) _ k) ?_
  clear hat6 hin6 G6 Hs6 N6 S6 q6 Ar6 cl6
  refine own_by (T' := T5) (g' := (mkF m 19 #[.val (.ref sq), .val (.ref nv_1), .val (.int 4), .val (.int 1), .val (.ref d1)] [])) (fun t k => XS.astore X5.here hx rfl (hb hby d18_17) rfl rfl (l' := #[.val (.ref sq), .val (.ref nv_1), .val (.int 4), .val (.int 1), .val (.ref d1)]) rfl k) ?_
  refine own_by (T' := T5) (g' := (mkF m 21 #[.val (.ref sq), .val (.ref nv_1), .val (.int 4), .val (.int 1), .val (.ref d1)] [(.ref d1)])) (fun t k => XS.aload X5.here hx rfl (hb hby d18_19) rfl rfl k) ?_
  obtain ⟨T7, X7, e7, st7⟩ := getF X5 hx hZ hown (host := "") (Or.inl (hw _ (own_m 105 rfl))) Via.refl e5 F_field_d1 (g := (mkF m 21 #[.val (.ref sq), .val (.ref nv_1), .val (.int 4), .val (.int 1), .val (.ref d1)] [(.ref d1)])) rfl rfl (hb hby d18_21)
  refine own_by (T' := T7) (g' := (mkF m 24 #[.val (.ref sq), .val (.ref nv_1), .val (.int 4), .val (.int 1), .val (.ref d1)] [(.ref f1)])) (fun t k => st7 t k) ?_
  clear st7 X5 e5
  refine own_by (T' := T7) (g' := (mkF m 25 #[.val (.ref sq), .val (.ref nv_1), .val (.int 4), .val (.int 1), .val (.ref d1)] [(.ref sq), (.ref f1)])) (fun t k => XS.aloadN X7.here hx rfl (hb hby d18_24) rfl rfl k) ?_
  have E_f1 := Q_f1.1
  obtain ⟨cq8, kq8, q8a, q8b, q8c⟩ := isOf hZ e7 E_f1
  obtain ⟨_, _, ⟨T8, L8, k8, n8⟩, -, X8, ⟨Lc8, hQ8, l8, y8, z8⟩, st8⟩ := X7.virtualBack hx (y := (⟨"java/lang/String", "equals", "(Ljava/lang/Object;)Z"⟩ : MethodName)) (z := (⟨"java/lang/String", "equals", "(Ljava/lang/Object;)Z"⟩ : MethodName)) hown (mvT hZ (hw _ (own_m 107 rfl))) (mvT hZ (hw _ (own_m 73 rfl))) (notFace_of_selects (args := #[]) (mvT hZ (hw _ (own_m 75 rfl)))) (mvT hZ (hw _ (own_m 75 rfl))) (mvT hZ (hw _ (own_m 74 rfl))) (by decide) (StrChars.Road.eqW (W := 0) hZ (own_hwE hw) (kI := 4) (hw _ (own_m 2 rfl)) Q_f1.1 Q_f1.2.1 Q_f1.2.2.1 Q_f1.2.2.2.1 (own_cod Q_f1) (own_w16 Q_f1) (own_l4 Q_f1) Q_sq.1 Q_sq.2.1 Q_sq.2.2.1 Q_sq.2.2.2.1 (own_cod Q_sq) (own_w16 Q_sq) (own_l4 Q_sq) S_COMPACT_STRINGS hzC (by decide) (by decide)) q8a q8c (g := (mkF m 25 #[.val (.ref sq), .val (.ref nv_1), .val (.int 4), .val (.int 1), .val (.ref d1)] [(.ref sq), (.ref f1)])) rfl (by rw [hml]; rfl) (Steps.refl _) (argsL := [(.ref sq)]) (rest := []) (lenOf pd_15 rfl) rfl (own_le rfl) (hb hby d18_25) (fun _ _ => ⟨rfl, e7, (by decide : 1 + 0 ≤ _), (by decide : 4 + 0 ≤ _)⟩)
  dsimp only [Pt.U, Pt.locs, Pt.cells, Pt.slots] at X8 l8 y8 z8 st8 hQ8
  subst l8 y8 z8
  rcases hQ8 with ⟨⟨rfl, hq8⟩ | ⟨rfl, hq8⟩, rfl, e8⟩
  rotate_left
  · exact absurd he1 hq8
  replace N_ := Fr.app N_ (Fr.nil n0)
  refine own_by (T' := T8) (g' := (mkF m 28 #[.val (.ref sq), .val (.ref nv_1), .val (.int 4), .val (.int 1), .val (.ref d1)] [(.int 1)])) (fun t k => st8.trans k) ?_
  clear st8 X7 e7
  refine own_by (T' := T8) (g' := (mkF m 31 #[.val (.ref sq), .val (.ref nv_1), .val (.int 4), .val (.int 1), .val (.ref d1)] [])) (fun t k => XS.ifNo X8.here hx rfl (hb hby d18_28) rfl ((if0 _ _).trans (feq (by decide)).1) k) ?_
  refine own_by (T' := T8) (g' := (mkF m 33 #[.val (.ref sq), .val (.ref nv_1), .val (.int 4), .val (.int 1), .val (.ref d1)] [(.ref d1)])) (fun t k => XS.aload X8.here hx rfl (hb hby d18_31) rfl rfl k) ?_
  have lt_sq_9 := Q_sq.1.lt
  have lt_tq_9 := Q_sq.2.2.2.1.lt
  have lt_va_9 := E_va.lt
  have lt_d0_9 := E_d0.lt
  have lt_f0_9 := Q_f0.1.lt
  have lt_t0_9 := Q_f0.2.2.2.1.lt
  have lt_d1_9 := E_d1.lt
  have lt_f1_9 := Q_f1.1.lt
  have lt_t1_9 := Q_f1.2.2.2.1.lt
  have lt_d2_9 := E_d2.lt
  have lt_f2_9 := Q_f2.1.lt
  have lt_t2_9 := Q_f2.2.2.2.1.lt
  have lt_d3_9 := E_d3.lt
  have lt_f3_9 := Q_f3.1.lt
  have lt_t3_9 := Q_f3.2.2.2.1.lt
  have lt_nv_1_9 := c1_2.lt
  have Zpre9 := Zle
  have szp9 := K_.1
  obtain ⟨_, _, ⟨T9, L9, k9, n9⟩, -, X9, ⟨Lc9, hQ9, l9, y9, z9⟩, st9⟩ := Jvm.LawKit.callS X8 hx (y := (⟨"java/util/Optional", "of", "(Ljava/lang/Object;)Ljava/util/Optional;"⟩ : MethodName)) hown (mvT hZ (hw _ (own_m 108 rfl))) (mvT hZ (hw _ (own_m 109 rfl))) (mvT hZ (hw _ (own_m 110 rfl))) (mvT hZ (hw _ (own_m 111 rfl))) (by decide) (backOf (W := 0) (rm20 l Z a0 hw [] d1 T1.heap n0 Zle ) hZ (hw _ (own_m 111 rfl)) (hw _ (own_m 110 rfl)) (by decide) (by decide)) (g := (mkF m 33 #[.val (.ref sq), .val (.ref nv_1), .val (.int 4), .val (.int 1), .val (.ref d1)] [(.ref d1)])) rfl (by rw [hml]; rfl) (argsL := [(.ref d1)]) (rest := []) (lenOf pd_20 rfl) rfl (own_le rfl) (hb hby d18_33) (fun _ _ => ⟨rfl, e8, (by decide : 1 + 1 ≤ _), (by decide : 4 + 1 ≤ _)⟩)
  dsimp only [Pt.U, Pt.locs, Pt.cells, Pt.slots] at X9 l9 y9 z9 st9 hQ9
  subst l9 y9 z9
  obtain ⟨po_9, rfl, Nq9, c9_0, c9_1, c9_2, c9_3⟩ := hQ9
  replace N_ := Fr.app N_ Nq9
  clear Nq9
  replace S_COMPACT_STRINGS := own_staKeep S_COMPACT_STRINGS c9_0 all0
  replace S__VALUES := own_staKeep S__VALUES c9_0 all0
  replace Q_sq := Q_sq.keep c9_0 nin0 nin0
  replace E_va := E_va.keep c9_0
  replace V_va := V_va.keep c9_0 nin0
  replace E_d0 := E_d0.keep c9_0
  replace F_field_d0 := F_field_d0.keep c9_0 nin0
  replace Q_f0 := Q_f0.keep c9_0 nin0 nin0
  replace E_d1 := E_d1.keep c9_0
  replace F_field_d1 := F_field_d1.keep c9_0 nin0
  replace Q_f1 := Q_f1.keep c9_0 nin0 nin0
  replace E_d2 := E_d2.keep c9_0
  replace F_field_d2 := F_field_d2.keep c9_0 nin0
  replace Q_f2 := Q_f2.keep c9_0 nin0 nin0
  replace E_d3 := E_d3.keep c9_0
  replace F_field_d3 := F_field_d3.keep c9_0 nin0
  replace Q_f3 := Q_f3.keep c9_0 nin0 nin0
  replace Zle := Nat.le_trans Zle c9_0.1
  replace K_ := K_.trans c9_0 all0
  replace c1_2 := c1_2.keep c9_0 nin0
  have ne_sq_po_9 : sq ≠ po_9 := Nat.ne_of_lt (Nat.lt_of_lt_of_le lt_sq_9 c9_1)
  have ne_tq_po_9 : tq ≠ po_9 := Nat.ne_of_lt (Nat.lt_of_lt_of_le lt_tq_9 c9_1)
  have ne_va_po_9 : va ≠ po_9 := Nat.ne_of_lt (Nat.lt_of_lt_of_le lt_va_9 c9_1)
  have ne_d0_po_9 : d0 ≠ po_9 := Nat.ne_of_lt (Nat.lt_of_lt_of_le lt_d0_9 c9_1)
  have ne_f0_po_9 : f0 ≠ po_9 := Nat.ne_of_lt (Nat.lt_of_lt_of_le lt_f0_9 c9_1)
  have ne_t0_po_9 : t0 ≠ po_9 := Nat.ne_of_lt (Nat.lt_of_lt_of_le lt_t0_9 c9_1)
  have ne_d1_po_9 : d1 ≠ po_9 := Nat.ne_of_lt (Nat.lt_of_lt_of_le lt_d1_9 c9_1)
  have ne_f1_po_9 : f1 ≠ po_9 := Nat.ne_of_lt (Nat.lt_of_lt_of_le lt_f1_9 c9_1)
  have ne_t1_po_9 : t1 ≠ po_9 := Nat.ne_of_lt (Nat.lt_of_lt_of_le lt_t1_9 c9_1)
  have ne_d2_po_9 : d2 ≠ po_9 := Nat.ne_of_lt (Nat.lt_of_lt_of_le lt_d2_9 c9_1)
  have ne_f2_po_9 : f2 ≠ po_9 := Nat.ne_of_lt (Nat.lt_of_lt_of_le lt_f2_9 c9_1)
  have ne_t2_po_9 : t2 ≠ po_9 := Nat.ne_of_lt (Nat.lt_of_lt_of_le lt_t2_9 c9_1)
  have ne_d3_po_9 : d3 ≠ po_9 := Nat.ne_of_lt (Nat.lt_of_lt_of_le lt_d3_9 c9_1)
  have ne_f3_po_9 : f3 ≠ po_9 := Nat.ne_of_lt (Nat.lt_of_lt_of_le lt_f3_9 c9_1)
  have ne_t3_po_9 : t3 ≠ po_9 := Nat.ne_of_lt (Nat.lt_of_lt_of_le lt_t3_9 c9_1)
  have ne_nv_1_po_9 : nv_1 ≠ po_9 := Nat.ne_of_lt (Nat.lt_of_lt_of_le lt_nv_1_9 c9_1)
  have g_po_9 : n0 ≤ po_9 := Nat.le_trans Zpre9 c9_1
  have sz_po_9 : h0.size ≤ po_9 := Nat.le_trans szp9 c9_1
  clear lt_sq_9 lt_tq_9 lt_va_9 lt_d0_9 lt_f0_9 lt_t0_9 lt_d1_9 lt_f1_9 lt_t1_9 lt_d2_9 lt_f2_9 lt_t2_9 lt_d3_9 lt_f3_9 lt_t3_9 lt_nv_1_9
  refine own_by (T' := T9) (g' := (mkF m 36 #[.val (.ref sq), .val (.ref nv_1), .val (.int 4), .val (.int 1), .val (.ref d1)] [(.ref po_9)])) (fun t k => st9 _ k) ?_
  clear st9 X8 e8
  exact own_retA X9 hx (t := (.object "java/util/Optional")) Bd.notSynchronized Bd.returns rfl rfl rfl (hb hby d18_36) (by decide) (by decide) (by exact ⟨_, rfl, N_, K_, sz_po_9, c9_2, c9_3⟩)

def Q18v2 (Z : State) (sq : Addr) (va : Addr) (kvv : ClassId) (d0 : Addr) (d1 : Addr) (d2 : Addr) (d3 : Addr) (f0 : Addr) (f1 : Addr) (f2 : Addr) (f3 : Addr) (t0 : Addr) (t1 : Addr) (t2 : Addr) (t3 : Addr) (ky0 : ClassId) (ky1 : ClassId) (ky2 : ClassId) (ky3 : ClassId) (zC : Int32) (tq : Addr) (kq : ClassId) (cq : List Int32) (h0 : Heap) (n0 : Nat) (v : Option Value) (h : Heap) (L : List Loc) : Prop := ∃ po : Addr, v = some (.ref po) ∧ Fr n0 L ∧ Keep h0 h [] ∧ h0.size ≤ po ∧ Exa Z h po "java/util/Optional" ∧ Fld Z h po "java/util/Optional" "value" "Ljava/lang/Object;" (.ref d2)
theorem ef_18v2 (m : MethodId) (sq : Addr) : entryFrame m #[(.ref sq)] 5 = mkF m 0 #[.val (.ref sq), .unset, .unset, .unset, .unset] [] := by first | (simp [entryFrame, mkF, argsToLocals, Value.category]; done) | rfl
set_option maxRecDepth 65536 in
set_option maxHeartbeats 40000000 in
theorem rm18v2 (l : Launch) (Z : State) (a0 : Array Value) (hw : ∀ d ∈ tables_1, d.before a0 Z = true) (ws : List Jvm.Cond) (sq : Addr) (va : Addr) (kvv : ClassId) (d0 : Addr) (d1 : Addr) (d2 : Addr) (d3 : Addr) (f0 : Addr) (f1 : Addr) (f2 : Addr) (f3 : Addr) (t0 : Addr) (t1 : Addr) (t2 : Addr) (t3 : Addr) (ky0 : ClassId) (ky1 : ClassId) (ky2 : ClassId) (ky3 : ClassId) (zC : Int32) (tq : Addr) (kq : ClassId) (cq : List Int32) (h0 : Heap) (n0 : Nat) (Zle : n0 ≤ h0.size) (Q_sq : own_Str Z h0 sq tq kq cq) (S_COMPACT_STRINGS : Sta Z h0 "java/lang/String" "COMPACT_STRINGS" "Z" (.int zC)) (S__VALUES : Sta Z h0 "com/example/gate2/gate2/Dimension" "$VALUES" "[Lcom/example/gate2/gate2/Dimension;" (.ref va)) (E_va : Exa Z h0 va "[Lcom/example/gate2/gate2/Dimension;") (V_va : Arv Z h0 va kvv (.object "com/example/gate2/gate2/Dimension") (4 : Int32) [(.ref d0), (.ref d1), (.ref d2), (.ref d3)] .null) (E_d0 : Exa Z h0 d0 "com/example/gate2/gate2/Dimension") (F_field_d0 : Fld Z h0 d0 "com/example/gate2/gate2/Dimension" "field" "Ljava/lang/String;" (.ref f0)) (Q_f0 : own_Str Z h0 f0 t0 ky0 ([112, 114, 111, 106, 101, 99, 116] : List Int32)) (E_d1 : Exa Z h0 d1 "com/example/gate2/gate2/Dimension") (F_field_d1 : Fld Z h0 d1 "com/example/gate2/gate2/Dimension" "field" "Ljava/lang/String;" (.ref f1)) (Q_f1 : own_Str Z h0 f1 t1 ky1 ([117, 115, 101, 114] : List Int32)) (E_d2 : Exa Z h0 d2 "com/example/gate2/gate2/Dimension") (F_field_d2 : Fld Z h0 d2 "com/example/gate2/gate2/Dimension" "field" "Ljava/lang/String;" (.ref f2)) (Q_f2 : own_Str Z h0 f2 t2 ky2 ([114, 101, 103, 105, 111, 110] : List Int32)) (E_d3 : Exa Z h0 d3 "com/example/gate2/gate2/Dimension") (F_field_d3 : Fld Z h0 d3 "com/example/gate2/gate2/Dimension" "field" "Ljava/lang/String;" (.ref f3)) (Q_f3 : own_Str Z h0 f3 t3 ky3 ([105, 110, 115, 116, 97, 110, 99, 101] : List Int32)) (hzC : ¬ zC = 0) (hn0 : ¬ ([112, 114, 111, 106, 101, 99, 116] : List Int32) = cq) (hn1 : ¬ ([117, 115, 101, 114] : List Int32) = cq) (he2 : ([114, 101, 103, 105, 111, 110] : List Int32) = cq) :
    MetFree l (⟨"com/example/gate2/gate2/Dimension", "byField", "(Ljava/lang/String;)Ljava/util/Optional;"⟩ : MethodName) (head1 (Jvm.Cond.code (⟨"com/example/gate2/gate2/Dimension", "byField", "(Ljava/lang/String;)Ljava/util/Optional;"⟩ : MethodName) prog_6_method_4_code 5 (some (.object "java/util/Optional")) :: ws) ({ frames := 3, cells := 2, slots := 5, locals := 44 } : Room)) (fun a U => a = #[(.ref sq)] ∧ Z.Warmed39 U.vm ∧ U.heap = h0) (fun _ _ _ _ _ => True) (fun _ U o U' => ∃ v L, o = .returned v ∧ Q18v2 Z sq va kvv d0 d1 d2 d3 f0 f1 f2 f3 t0 t1 t2 t3 ky0 ky1 ky2 ky3 zC tq kq cq h0 n0 v U'.heap L ∧ FrameEnd U o U' L ({ frames := 3, cells := 2, slots := 5, locals := 44 } : Room).cells ({ frames := 3, cells := 2, slots := 5, locals := 44 } : Room).slots) := by
  refine MetFree.of_bodySF (plainFor_of_name pn_com_example_gate2_gate2_Dimension) hisR ?_
  intro p e s m args below meth c s₁ Bd hml0 hP hK
  obtain ⟨rfl, hZ, hh⟩ := hP
  have hx := Bd.exec
  have hby := Bd.bytes
  have hml : c.maxLocals = 5 := hml0
  have hown : s.vm.findClass "com/example/gate2/gate2/Dimension" = some m.cls := findClass_of_methodNamed Bd.named
  have hnm := (name_of_methodNamed Bd.named Bd.method).1
  have X0 : Stand p l e ({ frames := 3, cells := 2, slots := 5, locals := 44 } : Room) s m #[(.ref sq)] below meth c s₁ [] 0 0 := Stand.of_body Bd
  have e0 : s₁.heap = h0 := by rw [← hh, Bd.state]; rfl
  have N_ := Fr.nil n0
  have K_ := Keep.refl h0 []
  show own_Goes p.tables e below s (Q18v2 Z sq va kvv d0 d1 d2 d3 f0 f1 f2 f3 t0 t1 t2 t3 ky0 ky1 ky2 ky3 zC tq kq cq h0 n0) ({ frames := 3, cells := 2, slots := 5, locals := 44 } : Room).cells ({ frames := 3, cells := 2, slots := 5, locals := 44 } : Room).slots s₁ (entryFrame m #[(.ref sq)] 5)
  refine own_by (T' := s₁) (g' := (mkF m 0 #[.val (.ref sq), .unset, .unset, .unset, .unset] [])) (fun t k => castTop (ef_18v2 m sq) k) ?_
  have lt_sq_1 := Q_sq.1.lt
  have lt_tq_1 := Q_sq.2.2.2.1.lt
  have lt_va_1 := E_va.lt
  have lt_d0_1 := E_d0.lt
  have lt_f0_1 := Q_f0.1.lt
  have lt_t0_1 := Q_f0.2.2.2.1.lt
  have lt_d1_1 := E_d1.lt
  have lt_f1_1 := Q_f1.1.lt
  have lt_t1_1 := Q_f1.2.2.2.1.lt
  have lt_d2_1 := E_d2.lt
  have lt_f2_1 := Q_f2.1.lt
  have lt_t2_1 := Q_f2.2.2.2.1.lt
  have lt_d3_1 := E_d3.lt
  have lt_f3_1 := Q_f3.1.lt
  have lt_t3_1 := Q_f3.2.2.2.1.lt
  have Zpre1 := Zle
  have szp1 := K_.1
  obtain ⟨_, _, ⟨T1, L1, k1, n1⟩, -, X1, ⟨Lc1, hQ1, l1, y1, z1⟩, st1⟩ := Jvm.LawKit.callS X0 hx (y := (⟨"com/example/gate2/gate2/Dimension", "values", "()[Lcom/example/gate2/gate2/Dimension;"⟩ : MethodName)) hown (mvT hZ (hw _ (own_m 87 rfl))) (mvT hZ (hw _ (own_m 88 rfl))) (mvT hZ (hw _ (own_m 82 rfl))) (mvT hZ (hw _ (own_m 89 rfl))) (by decide) (backOf (W := 0) (rm19 l Z a0 hw [] va kvv d0 d1 d2 d3 h0 n0 Zle S__VALUES E_va V_va) hZ (hw _ (own_m 89 rfl)) (hw _ (own_m 82 rfl)) (by decide) (by decide)) (g := (mkF m 0 #[.val (.ref sq), .unset, .unset, .unset, .unset] [])) rfl (by rw [hml]; rfl) (argsL := []) (rest := []) (lenOf pd_18 rfl) rfl (own_le rfl) (hb hby d18_0) (fun _ _ => ⟨rfl, e0, (by decide : 0 + 1 ≤ _), (by decide : 0 + 4 ≤ _)⟩)
  dsimp only [Pt.U, Pt.locs, Pt.cells, Pt.slots] at X1 l1 y1 z1 st1 hQ1
  subst l1 y1 z1
  obtain ⟨nv_1, rfl, Nq1, c1_0, c1_1, c1_2⟩ := hQ1
  replace N_ := Fr.app N_ Nq1
  clear Nq1
  replace S_COMPACT_STRINGS := own_staKeep S_COMPACT_STRINGS c1_0 all0
  replace S__VALUES := own_staKeep S__VALUES c1_0 all0
  replace Q_sq := Q_sq.keep c1_0 nin0 nin0
  replace E_va := E_va.keep c1_0
  replace V_va := V_va.keep c1_0 nin0
  replace E_d0 := E_d0.keep c1_0
  replace F_field_d0 := F_field_d0.keep c1_0 nin0
  replace Q_f0 := Q_f0.keep c1_0 nin0 nin0
  replace E_d1 := E_d1.keep c1_0
  replace F_field_d1 := F_field_d1.keep c1_0 nin0
  replace Q_f1 := Q_f1.keep c1_0 nin0 nin0
  replace E_d2 := E_d2.keep c1_0
  replace F_field_d2 := F_field_d2.keep c1_0 nin0
  replace Q_f2 := Q_f2.keep c1_0 nin0 nin0
  replace E_d3 := E_d3.keep c1_0
  replace F_field_d3 := F_field_d3.keep c1_0 nin0
  replace Q_f3 := Q_f3.keep c1_0 nin0 nin0
  replace Zle := Nat.le_trans Zle c1_0.1
  replace K_ := K_.trans c1_0 all0
  have ne_sq_nv_1 : sq ≠ nv_1 := Nat.ne_of_lt (Nat.lt_of_lt_of_le lt_sq_1 c1_1)
  have ne_tq_nv_1 : tq ≠ nv_1 := Nat.ne_of_lt (Nat.lt_of_lt_of_le lt_tq_1 c1_1)
  have ne_va_nv_1 : va ≠ nv_1 := Nat.ne_of_lt (Nat.lt_of_lt_of_le lt_va_1 c1_1)
  have ne_d0_nv_1 : d0 ≠ nv_1 := Nat.ne_of_lt (Nat.lt_of_lt_of_le lt_d0_1 c1_1)
  have ne_f0_nv_1 : f0 ≠ nv_1 := Nat.ne_of_lt (Nat.lt_of_lt_of_le lt_f0_1 c1_1)
  have ne_t0_nv_1 : t0 ≠ nv_1 := Nat.ne_of_lt (Nat.lt_of_lt_of_le lt_t0_1 c1_1)
  have ne_d1_nv_1 : d1 ≠ nv_1 := Nat.ne_of_lt (Nat.lt_of_lt_of_le lt_d1_1 c1_1)
  have ne_f1_nv_1 : f1 ≠ nv_1 := Nat.ne_of_lt (Nat.lt_of_lt_of_le lt_f1_1 c1_1)
  have ne_t1_nv_1 : t1 ≠ nv_1 := Nat.ne_of_lt (Nat.lt_of_lt_of_le lt_t1_1 c1_1)
  have ne_d2_nv_1 : d2 ≠ nv_1 := Nat.ne_of_lt (Nat.lt_of_lt_of_le lt_d2_1 c1_1)
  have ne_f2_nv_1 : f2 ≠ nv_1 := Nat.ne_of_lt (Nat.lt_of_lt_of_le lt_f2_1 c1_1)
  have ne_t2_nv_1 : t2 ≠ nv_1 := Nat.ne_of_lt (Nat.lt_of_lt_of_le lt_t2_1 c1_1)
  have ne_d3_nv_1 : d3 ≠ nv_1 := Nat.ne_of_lt (Nat.lt_of_lt_of_le lt_d3_1 c1_1)
  have ne_f3_nv_1 : f3 ≠ nv_1 := Nat.ne_of_lt (Nat.lt_of_lt_of_le lt_f3_1 c1_1)
  have ne_t3_nv_1 : t3 ≠ nv_1 := Nat.ne_of_lt (Nat.lt_of_lt_of_le lt_t3_1 c1_1)
  have g_nv_1 : n0 ≤ nv_1 := Nat.le_trans Zpre1 c1_1
  have sz_nv_1 : h0.size ≤ nv_1 := Nat.le_trans szp1 c1_1
  clear lt_sq_1 lt_tq_1 lt_va_1 lt_d0_1 lt_f0_1 lt_t0_1 lt_d1_1 lt_f1_1 lt_t1_1 lt_d2_1 lt_f2_1 lt_t2_1 lt_d3_1 lt_f3_1 lt_t3_1
  refine own_by (T' := T1) (g' := (mkF m 3 #[.val (.ref sq), .unset, .unset, .unset, .unset] [(.ref nv_1)])) (fun t k => st1 _ k) ?_
  clear st1
  refine own_by (T' := T1) (g' := (mkF m 4 #[.val (.ref sq), .val (.ref nv_1), .unset, .unset, .unset] [])) (fun t k => XS.astoreN X1.here hx rfl (hb hby d18_3) rfl rfl (l' := #[.val (.ref sq), .val (.ref nv_1), .unset, .unset, .unset]) rfl k) ?_
  refine own_by (T' := T1) (g' := (mkF m 5 #[.val (.ref sq), .val (.ref nv_1), .unset, .unset, .unset] [(.ref nv_1)])) (fun t k => XS.aloadN X1.here hx rfl (hb hby d18_4) rfl rfl k) ?_
  obtain ⟨cl2, Ar2, -, S2, N2, -, -⟩ := id c1_2
  have st2 : ∀ t, Steps p.tables e below (T1.setTop (mkF m 6 #[.val (.ref sq), .val (.ref nv_1), .unset, .unset, .unset] [(.int 4)])) t → Steps p.tables e below (T1.setTop (mkF m 5 #[.val (.ref sq), .val (.ref nv_1), .unset, .unset, .unset] [(.ref nv_1)])) t := fun t k => X1.arraylength hx (by exact Ar2.1) (State.isArrayOf_alike hZ.alike Ar2.2.1) (g := (mkF m 5 #[.val (.ref sq), .val (.ref nv_1), .unset, .unset, .unset] [(.ref nv_1)])) rfl rfl (hb hby d18_5) _ (by rw [len_of S2 N2]; exact k)
  refine own_by (T' := T1) (g' := (mkF m 6 #[.val (.ref sq), .val (.ref nv_1), .unset, .unset, .unset] [(.int 4)])) (fun t k => st2 t k) ?_
  clear st2
  refine own_by (T' := T1) (g' := (mkF m 7 #[.val (.ref sq), .val (.ref nv_1), .val (.int 4), .unset, .unset] [])) (fun t k => XS.istoreN X1.here hx rfl (hb hby d18_6) rfl (l' := #[.val (.ref sq), .val (.ref nv_1), .val (.int 4), .unset, .unset]) rfl k) ?_
  refine own_by (T' := T1) (g' := (mkF m 8 #[.val (.ref sq), .val (.ref nv_1), .val (.int 4), .unset, .unset] [(.int 0)])) (fun t k => XS.iconst X1.here hx rfl (hb hby d18_7) k) ?_
  refine own_by (T' := T1) (g' := (mkF m 9 #[.val (.ref sq), .val (.ref nv_1), .val (.int 4), .val (.int 0), .unset] [])) (fun t k => XS.istoreN X1.here hx rfl (hb hby d18_8) rfl (l' := #[.val (.ref sq), .val (.ref nv_1), .val (.int 4), .val (.int 0), .unset]) rfl k) ?_
  refine own_by (T' := T1) (g' := (mkF m 10 #[.val (.ref sq), .val (.ref nv_1), .val (.int 4), .val (.int 0), .unset] [(.int 0)])) (fun t k => XS.iloadN X1.here hx rfl (hb hby d18_9) rfl k) ?_
  refine own_by (T' := T1) (g' := (mkF m 11 #[.val (.ref sq), .val (.ref nv_1), .val (.int 4), .val (.int 0), .unset] [(.int 4), (.int 0)])) (fun t k => XS.iloadN X1.here hx rfl (hb hby d18_10) rfl k) ?_
  refine own_by (T' := T1) (g' := (mkF m 14 #[.val (.ref sq), .val (.ref nv_1), .val (.int 4), .val (.int 0), .unset] [])) (fun t k => XS.icmpNo X1.here hx rfl (hb hby d18_11) rfl (tlt (by decide)).2.1 k) ?_
  refine own_by (T' := T1) (g' := (mkF m 15 #[.val (.ref sq), .val (.ref nv_1), .val (.int 4), .val (.int 0), .unset] [(.ref nv_1)])) (fun t k => XS.aloadN X1.here hx rfl (hb hby d18_14) rfl rfl k) ?_
  refine own_by (T' := T1) (g' := (mkF m 16 #[.val (.ref sq), .val (.ref nv_1), .val (.int 4), .val (.int 0), .unset] [(.int 0), (.ref nv_1)])) (fun t k => XS.iloadN X1.here hx rfl (hb hby d18_15) rfl k) ?_
  obtain ⟨cl3, Ar3, q3, S3, N3, Hs3, G3⟩ := id c1_2
  have hin3 : ¬ ((0 : Int32) < 0 ∨ cl3.slots.size ≤ ((0 : Int32)).toNatClampNeg) := inb_of S3 ⟨by decide, by decide⟩
  have hat3 : cl3.slots[((0 : Int32)).toNatClampNeg]? = some (.ref d0) := Hs3.at hin3 rfl
  refine own_by (T' := T1) (g' := (mkF m 17 #[.val (.ref sq), .val (.ref nv_1), .val (.int 4), .val (.int 0), .unset] [(.ref d0)])) (fun t k => X1.aaload hx (j := (0 : Int32)) (v := (.ref d0)) (by exact Ar3.1) (State.isArrayOf_alike hZ.alike Ar3.2.1) rfl Ar3.2.2 hin3 hat3 (g := (mkF m 16 #[.val (.ref sq), .val (.ref nv_1), .val (.int 4), .val (.int 0), .unset] [(.int 0), (.ref nv_1)])) rfl rfl (hb hby d18_16) _ k) ?_
  clear hat3 hin3 G3 Hs3 N3 S3 q3 Ar3 cl3
  refine own_by (T' := T1) (g' := (mkF m 19 #[.val (.ref sq), .val (.ref nv_1), .val (.int 4), .val (.int 0), .val (.ref d0)] [])) (fun t k => XS.astore X1.here hx rfl (hb hby d18_17) rfl rfl (l' := #[.val (.ref sq), .val (.ref nv_1), .val (.int 4), .val (.int 0), .val (.ref d0)]) rfl k) ?_
  refine own_by (T' := T1) (g' := (mkF m 21 #[.val (.ref sq), .val (.ref nv_1), .val (.int 4), .val (.int 0), .val (.ref d0)] [(.ref d0)])) (fun t k => XS.aload X1.here hx rfl (hb hby d18_19) rfl rfl k) ?_
  obtain ⟨T4, X4, e4, st4⟩ := getF X1 hx hZ hown (host := "") (Or.inl (hw _ (own_m 105 rfl))) Via.refl rfl F_field_d0 (g := (mkF m 21 #[.val (.ref sq), .val (.ref nv_1), .val (.int 4), .val (.int 0), .val (.ref d0)] [(.ref d0)])) rfl rfl (hb hby d18_21)
  refine own_by (T' := T4) (g' := (mkF m 24 #[.val (.ref sq), .val (.ref nv_1), .val (.int 4), .val (.int 0), .val (.ref d0)] [(.ref f0)])) (fun t k => st4 t k) ?_
  clear st4 X1
  refine own_by (T' := T4) (g' := (mkF m 25 #[.val (.ref sq), .val (.ref nv_1), .val (.int 4), .val (.int 0), .val (.ref d0)] [(.ref sq), (.ref f0)])) (fun t k => XS.aloadN X4.here hx rfl (hb hby d18_24) rfl rfl k) ?_
  have E_f0 := Q_f0.1
  obtain ⟨cq5, kq5, q5a, q5b, q5c⟩ := isOf hZ e4 E_f0
  obtain ⟨_, _, ⟨T5, L5, k5, n5⟩, -, X5, ⟨Lc5, hQ5, l5, y5, z5⟩, st5⟩ := X4.virtualBack hx (y := (⟨"java/lang/String", "equals", "(Ljava/lang/Object;)Z"⟩ : MethodName)) (z := (⟨"java/lang/String", "equals", "(Ljava/lang/Object;)Z"⟩ : MethodName)) hown (mvT hZ (hw _ (own_m 107 rfl))) (mvT hZ (hw _ (own_m 73 rfl))) (notFace_of_selects (args := #[]) (mvT hZ (hw _ (own_m 75 rfl)))) (mvT hZ (hw _ (own_m 75 rfl))) (mvT hZ (hw _ (own_m 74 rfl))) (by decide) (StrChars.Road.eqW (W := 0) hZ (own_hwE hw) (kI := 4) (hw _ (own_m 2 rfl)) Q_f0.1 Q_f0.2.1 Q_f0.2.2.1 Q_f0.2.2.2.1 (own_cod Q_f0) (own_w16 Q_f0) (own_l4 Q_f0) Q_sq.1 Q_sq.2.1 Q_sq.2.2.1 Q_sq.2.2.2.1 (own_cod Q_sq) (own_w16 Q_sq) (own_l4 Q_sq) S_COMPACT_STRINGS hzC (by decide) (by decide)) q5a q5c (g := (mkF m 25 #[.val (.ref sq), .val (.ref nv_1), .val (.int 4), .val (.int 0), .val (.ref d0)] [(.ref sq), (.ref f0)])) rfl (by rw [hml]; rfl) (Steps.refl _) (argsL := [(.ref sq)]) (rest := []) (lenOf pd_15 rfl) rfl (own_le rfl) (hb hby d18_25) (fun _ _ => ⟨rfl, e4, (by decide : 1 + 0 ≤ _), (by decide : 4 + 0 ≤ _)⟩)
  dsimp only [Pt.U, Pt.locs, Pt.cells, Pt.slots] at X5 l5 y5 z5 st5 hQ5
  subst l5 y5 z5
  rcases hQ5 with ⟨⟨rfl, hq5⟩ | ⟨rfl, hq5⟩, rfl, e5⟩
  · exact absurd hq5 hn0
  replace N_ := Fr.app N_ (Fr.nil n0)
  refine own_by (T' := T5) (g' := (mkF m 28 #[.val (.ref sq), .val (.ref nv_1), .val (.int 4), .val (.int 0), .val (.ref d0)] [(.int 0)])) (fun t k => st5.trans k) ?_
  clear st5 X4 e4
  refine own_by (T' := T5) (g' := (mkF m 37 #[.val (.ref sq), .val (.ref nv_1), .val (.int 4), .val (.int 0), .val (.ref d0)] [])) (fun t k => XS.ifYes X5.here hx rfl (pc0 := 28) (pc' := 37) rfl (hb hby d18_28) rfl ((if0 _ _).trans (teq (by decide)).1) (by decide) (by decide) k) ?_
  refine own_by (T' := T5) (g' := (mkF m 40 #[.val (.ref sq), .val (.ref nv_1), .val (.int 4), .val (.int 1), .val (.ref d0)] [])) (fun t k => XS.iinc X5.here hx rfl (hb hby d18_37) rfl (l' := #[.val (.ref sq), .val (.ref nv_1), .val (.int 4), .val (.int 1), .val (.ref d0)]) rfl k) ?_
  refine own_by (T' := T5) (g' := (mkF m 9 #[.val (.ref sq), .val (.ref nv_1), .val (.int 4), .val (.int 1), .val (.ref d0)] [])) (fun t k => XS.goto X5.here hx rfl (pc0 := 40) (pc' := 9) rfl (hb hby d18_40) (by decide) (by decide) k) ?_
  refine own_by (T' := T5) (g' := (mkF m 10 #[.val (.ref sq), .val (.ref nv_1), .val (.int 4), .val (.int 1), .val (.ref d0)] [(.int 1)])) (fun t k => XS.iloadN X5.here hx rfl (hb hby d18_9) rfl k) ?_
  refine own_by (T' := T5) (g' := (mkF m 11 #[.val (.ref sq), .val (.ref nv_1), .val (.int 4), .val (.int 1), .val (.ref d0)] [(.int 4), (.int 1)])) (fun t k => XS.iloadN X5.here hx rfl (hb hby d18_10) rfl k) ?_
  refine own_by (T' := T5) (g' := (mkF m 14 #[.val (.ref sq), .val (.ref nv_1), .val (.int 4), .val (.int 1), .val (.ref d0)] [])) (fun t k => XS.icmpNo X5.here hx rfl (hb hby d18_11) rfl (tlt (by decide)).2.1 k) ?_
  refine own_by (T' := T5) (g' := (mkF m 15 #[.val (.ref sq), .val (.ref nv_1), .val (.int 4), .val (.int 1), .val (.ref d0)] [(.ref nv_1)])) (fun t k => XS.aloadN X5.here hx rfl (hb hby d18_14) rfl rfl k) ?_
  refine own_by (T' := T5) (g' := (mkF m 16 #[.val (.ref sq), .val (.ref nv_1), .val (.int 4), .val (.int 1), .val (.ref d0)] [(.int 1), (.ref nv_1)])) (fun t k => XS.iloadN X5.here hx rfl (hb hby d18_15) rfl k) ?_
  obtain ⟨cl6, Ar6, q6, S6, N6, Hs6, G6⟩ := id c1_2
  have hin6 : ¬ ((1 : Int32) < 0 ∨ cl6.slots.size ≤ ((1 : Int32)).toNatClampNeg) := inb_of S6 ⟨by decide, by decide⟩
  have hat6 : cl6.slots[((1 : Int32)).toNatClampNeg]? = some (.ref d1) := Hs6.at hin6 rfl
  refine own_by (T' := T5) (g' := (mkF m 17 #[.val (.ref sq), .val (.ref nv_1), .val (.int 4), .val (.int 1), .val (.ref d0)] [(.ref d1)])) (fun t k => X5.aaload hx (j := (1 : Int32)) (v := (.ref d1)) (by rw [e5]; exact Ar6.1) (State.isArrayOf_alike hZ.alike Ar6.2.1) rfl Ar6.2.2 hin6 hat6 (g := (mkF m 16 #[.val (.ref sq), .val (.ref nv_1), .val (.int 4), .val (.int 1), .val (.ref d0)] [(.int 1), (.ref nv_1)])) rfl rfl (hb hby d18_16) _ k) ?_
  clear hat6 hin6 G6 Hs6 N6 S6 q6 Ar6 cl6
  refine own_by (T' := T5) (g' := (mkF m 19 #[.val (.ref sq), .val (.ref nv_1), .val (.int 4), .val (.int 1), .val (.ref d1)] [])) (fun t k => XS.astore X5.here hx rfl (hb hby d18_17) rfl rfl (l' := #[.val (.ref sq), .val (.ref nv_1), .val (.int 4), .val (.int 1), .val (.ref d1)]) rfl k) ?_
  refine own_by (T' := T5) (g' := (mkF m 21 #[.val (.ref sq), .val (.ref nv_1), .val (.int 4), .val (.int 1), .val (.ref d1)] [(.ref d1)])) (fun t k => XS.aload X5.here hx rfl (hb hby d18_19) rfl rfl k) ?_
  obtain ⟨T7, X7, e7, st7⟩ := getF X5 hx hZ hown (host := "") (Or.inl (hw _ (own_m 105 rfl))) Via.refl e5 F_field_d1 (g := (mkF m 21 #[.val (.ref sq), .val (.ref nv_1), .val (.int 4), .val (.int 1), .val (.ref d1)] [(.ref d1)])) rfl rfl (hb hby d18_21)
  refine own_by (T' := T7) (g' := (mkF m 24 #[.val (.ref sq), .val (.ref nv_1), .val (.int 4), .val (.int 1), .val (.ref d1)] [(.ref f1)])) (fun t k => st7 t k) ?_
  clear st7 X5 e5
  refine own_by (T' := T7) (g' := (mkF m 25 #[.val (.ref sq), .val (.ref nv_1), .val (.int 4), .val (.int 1), .val (.ref d1)] [(.ref sq), (.ref f1)])) (fun t k => XS.aloadN X7.here hx rfl (hb hby d18_24) rfl rfl k) ?_
  have E_f1 := Q_f1.1
  obtain ⟨cq8, kq8, q8a, q8b, q8c⟩ := isOf hZ e7 E_f1
  obtain ⟨_, _, ⟨T8, L8, k8, n8⟩, -, X8, ⟨Lc8, hQ8, l8, y8, z8⟩, st8⟩ := X7.virtualBack hx (y := (⟨"java/lang/String", "equals", "(Ljava/lang/Object;)Z"⟩ : MethodName)) (z := (⟨"java/lang/String", "equals", "(Ljava/lang/Object;)Z"⟩ : MethodName)) hown (mvT hZ (hw _ (own_m 107 rfl))) (mvT hZ (hw _ (own_m 73 rfl))) (notFace_of_selects (args := #[]) (mvT hZ (hw _ (own_m 75 rfl)))) (mvT hZ (hw _ (own_m 75 rfl))) (mvT hZ (hw _ (own_m 74 rfl))) (by decide) (StrChars.Road.eqW (W := 0) hZ (own_hwE hw) (kI := 4) (hw _ (own_m 2 rfl)) Q_f1.1 Q_f1.2.1 Q_f1.2.2.1 Q_f1.2.2.2.1 (own_cod Q_f1) (own_w16 Q_f1) (own_l4 Q_f1) Q_sq.1 Q_sq.2.1 Q_sq.2.2.1 Q_sq.2.2.2.1 (own_cod Q_sq) (own_w16 Q_sq) (own_l4 Q_sq) S_COMPACT_STRINGS hzC (by decide) (by decide)) q8a q8c (g := (mkF m 25 #[.val (.ref sq), .val (.ref nv_1), .val (.int 4), .val (.int 1), .val (.ref d1)] [(.ref sq), (.ref f1)])) rfl (by rw [hml]; rfl) (Steps.refl _) (argsL := [(.ref sq)]) (rest := []) (lenOf pd_15 rfl) rfl (own_le rfl) (hb hby d18_25) (fun _ _ => ⟨rfl, e7, (by decide : 1 + 0 ≤ _), (by decide : 4 + 0 ≤ _)⟩)
  dsimp only [Pt.U, Pt.locs, Pt.cells, Pt.slots] at X8 l8 y8 z8 st8 hQ8
  subst l8 y8 z8
  rcases hQ8 with ⟨⟨rfl, hq8⟩ | ⟨rfl, hq8⟩, rfl, e8⟩
  · exact absurd hq8 hn1
  replace N_ := Fr.app N_ (Fr.nil n0)
  refine own_by (T' := T8) (g' := (mkF m 28 #[.val (.ref sq), .val (.ref nv_1), .val (.int 4), .val (.int 1), .val (.ref d1)] [(.int 0)])) (fun t k => st8.trans k) ?_
  clear st8 X7 e7
  refine own_by (T' := T8) (g' := (mkF m 37 #[.val (.ref sq), .val (.ref nv_1), .val (.int 4), .val (.int 1), .val (.ref d1)] [])) (fun t k => XS.ifYes X8.here hx rfl (pc0 := 28) (pc' := 37) rfl (hb hby d18_28) rfl ((if0 _ _).trans (teq (by decide)).1) (by decide) (by decide) k) ?_
  refine own_by (T' := T8) (g' := (mkF m 40 #[.val (.ref sq), .val (.ref nv_1), .val (.int 4), .val (.int 2), .val (.ref d1)] [])) (fun t k => XS.iinc X8.here hx rfl (hb hby d18_37) rfl (l' := #[.val (.ref sq), .val (.ref nv_1), .val (.int 4), .val (.int 2), .val (.ref d1)]) rfl k) ?_
  refine own_by (T' := T8) (g' := (mkF m 9 #[.val (.ref sq), .val (.ref nv_1), .val (.int 4), .val (.int 2), .val (.ref d1)] [])) (fun t k => XS.goto X8.here hx rfl (pc0 := 40) (pc' := 9) rfl (hb hby d18_40) (by decide) (by decide) k) ?_
  refine own_by (T' := T8) (g' := (mkF m 10 #[.val (.ref sq), .val (.ref nv_1), .val (.int 4), .val (.int 2), .val (.ref d1)] [(.int 2)])) (fun t k => XS.iloadN X8.here hx rfl (hb hby d18_9) rfl k) ?_
  refine own_by (T' := T8) (g' := (mkF m 11 #[.val (.ref sq), .val (.ref nv_1), .val (.int 4), .val (.int 2), .val (.ref d1)] [(.int 4), (.int 2)])) (fun t k => XS.iloadN X8.here hx rfl (hb hby d18_10) rfl k) ?_
  refine own_by (T' := T8) (g' := (mkF m 14 #[.val (.ref sq), .val (.ref nv_1), .val (.int 4), .val (.int 2), .val (.ref d1)] [])) (fun t k => XS.icmpNo X8.here hx rfl (hb hby d18_11) rfl (tlt (by decide)).2.1 k) ?_
  refine own_by (T' := T8) (g' := (mkF m 15 #[.val (.ref sq), .val (.ref nv_1), .val (.int 4), .val (.int 2), .val (.ref d1)] [(.ref nv_1)])) (fun t k => XS.aloadN X8.here hx rfl (hb hby d18_14) rfl rfl k) ?_
  refine own_by (T' := T8) (g' := (mkF m 16 #[.val (.ref sq), .val (.ref nv_1), .val (.int 4), .val (.int 2), .val (.ref d1)] [(.int 2), (.ref nv_1)])) (fun t k => XS.iloadN X8.here hx rfl (hb hby d18_15) rfl k) ?_
  obtain ⟨cl9, Ar9, q9, S9, N9, Hs9, G9⟩ := id c1_2
  have hin9 : ¬ ((2 : Int32) < 0 ∨ cl9.slots.size ≤ ((2 : Int32)).toNatClampNeg) := inb_of S9 ⟨by decide, by decide⟩
  have hat9 : cl9.slots[((2 : Int32)).toNatClampNeg]? = some (.ref d2) := Hs9.at hin9 rfl
  refine own_by (T' := T8) (g' := (mkF m 17 #[.val (.ref sq), .val (.ref nv_1), .val (.int 4), .val (.int 2), .val (.ref d1)] [(.ref d2)])) (fun t k => X8.aaload hx (j := (2 : Int32)) (v := (.ref d2)) (by rw [e8]; exact Ar9.1) (State.isArrayOf_alike hZ.alike Ar9.2.1) rfl Ar9.2.2 hin9 hat9 (g := (mkF m 16 #[.val (.ref sq), .val (.ref nv_1), .val (.int 4), .val (.int 2), .val (.ref d1)] [(.int 2), (.ref nv_1)])) rfl rfl (hb hby d18_16) _ k) ?_
  clear hat9 hin9 G9 Hs9 N9 S9 q9 Ar9 cl9
  refine own_by (T' := T8) (g' := (mkF m 19 #[.val (.ref sq), .val (.ref nv_1), .val (.int 4), .val (.int 2), .val (.ref d2)] [])) (fun t k => XS.astore X8.here hx rfl (hb hby d18_17) rfl rfl (l' := #[.val (.ref sq), .val (.ref nv_1), .val (.int 4), .val (.int 2), .val (.ref d2)]) rfl k) ?_
  refine own_by (T' := T8) (g' := (mkF m 21 #[.val (.ref sq), .val (.ref nv_1), .val (.int 4), .val (.int 2), .val (.ref d2)] [(.ref d2)])) (fun t k => XS.aload X8.here hx rfl (hb hby d18_19) rfl rfl k) ?_
  obtain ⟨T10, X10, e10, st10⟩ := getF X8 hx hZ hown (host := "") (Or.inl (hw _ (own_m 105 rfl))) Via.refl e8 F_field_d2 (g := (mkF m 21 #[.val (.ref sq), .val (.ref nv_1), .val (.int 4), .val (.int 2), .val (.ref d2)] [(.ref d2)])) rfl rfl (hb hby d18_21)
  refine own_by (T' := T10) (g' := (mkF m 24 #[.val (.ref sq), .val (.ref nv_1), .val (.int 4), .val (.int 2), .val (.ref d2)] [(.ref f2)])) (fun t k => st10 t k) ?_
  clear st10 X8 e8
  refine own_by (T' := T10) (g' := (mkF m 25 #[.val (.ref sq), .val (.ref nv_1), .val (.int 4), .val (.int 2), .val (.ref d2)] [(.ref sq), (.ref f2)])) (fun t k => XS.aloadN X10.here hx rfl (hb hby d18_24) rfl rfl k) ?_
  have E_f2 := Q_f2.1
  obtain ⟨cq11, kq11, q11a, q11b, q11c⟩ := isOf hZ e10 E_f2
  obtain ⟨_, _, ⟨T11, L11, k11, n11⟩, -, X11, ⟨Lc11, hQ11, l11, y11, z11⟩, st11⟩ := X10.virtualBack hx (y := (⟨"java/lang/String", "equals", "(Ljava/lang/Object;)Z"⟩ : MethodName)) (z := (⟨"java/lang/String", "equals", "(Ljava/lang/Object;)Z"⟩ : MethodName)) hown (mvT hZ (hw _ (own_m 107 rfl))) (mvT hZ (hw _ (own_m 73 rfl))) (notFace_of_selects (args := #[]) (mvT hZ (hw _ (own_m 75 rfl)))) (mvT hZ (hw _ (own_m 75 rfl))) (mvT hZ (hw _ (own_m 74 rfl))) (by decide) (StrChars.Road.eqW (W := 0) hZ (own_hwE hw) (kI := 4) (hw _ (own_m 2 rfl)) Q_f2.1 Q_f2.2.1 Q_f2.2.2.1 Q_f2.2.2.2.1 (own_cod Q_f2) (own_w16 Q_f2) (own_l4 Q_f2) Q_sq.1 Q_sq.2.1 Q_sq.2.2.1 Q_sq.2.2.2.1 (own_cod Q_sq) (own_w16 Q_sq) (own_l4 Q_sq) S_COMPACT_STRINGS hzC (by decide) (by decide)) q11a q11c (g := (mkF m 25 #[.val (.ref sq), .val (.ref nv_1), .val (.int 4), .val (.int 2), .val (.ref d2)] [(.ref sq), (.ref f2)])) rfl (by rw [hml]; rfl) (Steps.refl _) (argsL := [(.ref sq)]) (rest := []) (lenOf pd_15 rfl) rfl (own_le rfl) (hb hby d18_25) (fun _ _ => ⟨rfl, e10, (by decide : 1 + 0 ≤ _), (by decide : 4 + 0 ≤ _)⟩)
  dsimp only [Pt.U, Pt.locs, Pt.cells, Pt.slots] at X11 l11 y11 z11 st11 hQ11
  subst l11 y11 z11
  rcases hQ11 with ⟨⟨rfl, hq11⟩ | ⟨rfl, hq11⟩, rfl, e11⟩
  rotate_left
  · exact absurd he2 hq11
  replace N_ := Fr.app N_ (Fr.nil n0)
  refine own_by (T' := T11) (g' := (mkF m 28 #[.val (.ref sq), .val (.ref nv_1), .val (.int 4), .val (.int 2), .val (.ref d2)] [(.int 1)])) (fun t k => st11.trans k) ?_
  clear st11 X10 e10
  refine own_by (T' := T11) (g' := (mkF m 31 #[.val (.ref sq), .val (.ref nv_1), .val (.int 4), .val (.int 2), .val (.ref d2)] [])) (fun t k => XS.ifNo X11.here hx rfl (hb hby d18_28) rfl ((if0 _ _).trans (feq (by decide)).1) k) ?_
  refine own_by (T' := T11) (g' := (mkF m 33 #[.val (.ref sq), .val (.ref nv_1), .val (.int 4), .val (.int 2), .val (.ref d2)] [(.ref d2)])) (fun t k => XS.aload X11.here hx rfl (hb hby d18_31) rfl rfl k) ?_
  have lt_sq_12 := Q_sq.1.lt
  have lt_tq_12 := Q_sq.2.2.2.1.lt
  have lt_va_12 := E_va.lt
  have lt_d0_12 := E_d0.lt
  have lt_f0_12 := Q_f0.1.lt
  have lt_t0_12 := Q_f0.2.2.2.1.lt
  have lt_d1_12 := E_d1.lt
  have lt_f1_12 := Q_f1.1.lt
  have lt_t1_12 := Q_f1.2.2.2.1.lt
  have lt_d2_12 := E_d2.lt
  have lt_f2_12 := Q_f2.1.lt
  have lt_t2_12 := Q_f2.2.2.2.1.lt
  have lt_d3_12 := E_d3.lt
  have lt_f3_12 := Q_f3.1.lt
  have lt_t3_12 := Q_f3.2.2.2.1.lt
  have lt_nv_1_12 := c1_2.lt
  have Zpre12 := Zle
  have szp12 := K_.1
  obtain ⟨_, _, ⟨T12, L12, k12, n12⟩, -, X12, ⟨Lc12, hQ12, l12, y12, z12⟩, st12⟩ := Jvm.LawKit.callS X11 hx (y := (⟨"java/util/Optional", "of", "(Ljava/lang/Object;)Ljava/util/Optional;"⟩ : MethodName)) hown (mvT hZ (hw _ (own_m 108 rfl))) (mvT hZ (hw _ (own_m 109 rfl))) (mvT hZ (hw _ (own_m 110 rfl))) (mvT hZ (hw _ (own_m 111 rfl))) (by decide) (backOf (W := 0) (rm20 l Z a0 hw [] d2 T1.heap n0 Zle ) hZ (hw _ (own_m 111 rfl)) (hw _ (own_m 110 rfl)) (by decide) (by decide)) (g := (mkF m 33 #[.val (.ref sq), .val (.ref nv_1), .val (.int 4), .val (.int 2), .val (.ref d2)] [(.ref d2)])) rfl (by rw [hml]; rfl) (argsL := [(.ref d2)]) (rest := []) (lenOf pd_20 rfl) rfl (own_le rfl) (hb hby d18_33) (fun _ _ => ⟨rfl, e11, (by decide : 1 + 1 ≤ _), (by decide : 4 + 1 ≤ _)⟩)
  dsimp only [Pt.U, Pt.locs, Pt.cells, Pt.slots] at X12 l12 y12 z12 st12 hQ12
  subst l12 y12 z12
  obtain ⟨po_12, rfl, Nq12, c12_0, c12_1, c12_2, c12_3⟩ := hQ12
  replace N_ := Fr.app N_ Nq12
  clear Nq12
  replace S_COMPACT_STRINGS := own_staKeep S_COMPACT_STRINGS c12_0 all0
  replace S__VALUES := own_staKeep S__VALUES c12_0 all0
  replace Q_sq := Q_sq.keep c12_0 nin0 nin0
  replace E_va := E_va.keep c12_0
  replace V_va := V_va.keep c12_0 nin0
  replace E_d0 := E_d0.keep c12_0
  replace F_field_d0 := F_field_d0.keep c12_0 nin0
  replace Q_f0 := Q_f0.keep c12_0 nin0 nin0
  replace E_d1 := E_d1.keep c12_0
  replace F_field_d1 := F_field_d1.keep c12_0 nin0
  replace Q_f1 := Q_f1.keep c12_0 nin0 nin0
  replace E_d2 := E_d2.keep c12_0
  replace F_field_d2 := F_field_d2.keep c12_0 nin0
  replace Q_f2 := Q_f2.keep c12_0 nin0 nin0
  replace E_d3 := E_d3.keep c12_0
  replace F_field_d3 := F_field_d3.keep c12_0 nin0
  replace Q_f3 := Q_f3.keep c12_0 nin0 nin0
  replace Zle := Nat.le_trans Zle c12_0.1
  replace K_ := K_.trans c12_0 all0
  replace c1_2 := c1_2.keep c12_0 nin0
  have ne_sq_po_12 : sq ≠ po_12 := Nat.ne_of_lt (Nat.lt_of_lt_of_le lt_sq_12 c12_1)
  have ne_tq_po_12 : tq ≠ po_12 := Nat.ne_of_lt (Nat.lt_of_lt_of_le lt_tq_12 c12_1)
  have ne_va_po_12 : va ≠ po_12 := Nat.ne_of_lt (Nat.lt_of_lt_of_le lt_va_12 c12_1)
  have ne_d0_po_12 : d0 ≠ po_12 := Nat.ne_of_lt (Nat.lt_of_lt_of_le lt_d0_12 c12_1)
  have ne_f0_po_12 : f0 ≠ po_12 := Nat.ne_of_lt (Nat.lt_of_lt_of_le lt_f0_12 c12_1)
  have ne_t0_po_12 : t0 ≠ po_12 := Nat.ne_of_lt (Nat.lt_of_lt_of_le lt_t0_12 c12_1)
  have ne_d1_po_12 : d1 ≠ po_12 := Nat.ne_of_lt (Nat.lt_of_lt_of_le lt_d1_12 c12_1)
  have ne_f1_po_12 : f1 ≠ po_12 := Nat.ne_of_lt (Nat.lt_of_lt_of_le lt_f1_12 c12_1)
  have ne_t1_po_12 : t1 ≠ po_12 := Nat.ne_of_lt (Nat.lt_of_lt_of_le lt_t1_12 c12_1)
  have ne_d2_po_12 : d2 ≠ po_12 := Nat.ne_of_lt (Nat.lt_of_lt_of_le lt_d2_12 c12_1)
  have ne_f2_po_12 : f2 ≠ po_12 := Nat.ne_of_lt (Nat.lt_of_lt_of_le lt_f2_12 c12_1)
  have ne_t2_po_12 : t2 ≠ po_12 := Nat.ne_of_lt (Nat.lt_of_lt_of_le lt_t2_12 c12_1)
  have ne_d3_po_12 : d3 ≠ po_12 := Nat.ne_of_lt (Nat.lt_of_lt_of_le lt_d3_12 c12_1)
  have ne_f3_po_12 : f3 ≠ po_12 := Nat.ne_of_lt (Nat.lt_of_lt_of_le lt_f3_12 c12_1)
  have ne_t3_po_12 : t3 ≠ po_12 := Nat.ne_of_lt (Nat.lt_of_lt_of_le lt_t3_12 c12_1)
  have ne_nv_1_po_12 : nv_1 ≠ po_12 := Nat.ne_of_lt (Nat.lt_of_lt_of_le lt_nv_1_12 c12_1)
  have g_po_12 : n0 ≤ po_12 := Nat.le_trans Zpre12 c12_1
  have sz_po_12 : h0.size ≤ po_12 := Nat.le_trans szp12 c12_1
  clear lt_sq_12 lt_tq_12 lt_va_12 lt_d0_12 lt_f0_12 lt_t0_12 lt_d1_12 lt_f1_12 lt_t1_12 lt_d2_12 lt_f2_12 lt_t2_12 lt_d3_12 lt_f3_12 lt_t3_12 lt_nv_1_12
  refine own_by (T' := T12) (g' := (mkF m 36 #[.val (.ref sq), .val (.ref nv_1), .val (.int 4), .val (.int 2), .val (.ref d2)] [(.ref po_12)])) (fun t k => st12 _ k) ?_
  clear st12 X11 e11
  exact own_retA X12 hx (t := (.object "java/util/Optional")) Bd.notSynchronized Bd.returns rfl rfl rfl (hb hby d18_36) (by decide) (by decide) (by exact ⟨_, rfl, N_, K_, sz_po_12, c12_2, c12_3⟩)

def Q18v3 (Z : State) (sq : Addr) (va : Addr) (kvv : ClassId) (d0 : Addr) (d1 : Addr) (d2 : Addr) (d3 : Addr) (f0 : Addr) (f1 : Addr) (f2 : Addr) (f3 : Addr) (t0 : Addr) (t1 : Addr) (t2 : Addr) (t3 : Addr) (ky0 : ClassId) (ky1 : ClassId) (ky2 : ClassId) (ky3 : ClassId) (zC : Int32) (tq : Addr) (kq : ClassId) (cq : List Int32) (h0 : Heap) (n0 : Nat) (v : Option Value) (h : Heap) (L : List Loc) : Prop := ∃ po : Addr, v = some (.ref po) ∧ Fr n0 L ∧ Keep h0 h [] ∧ h0.size ≤ po ∧ Exa Z h po "java/util/Optional" ∧ Fld Z h po "java/util/Optional" "value" "Ljava/lang/Object;" (.ref d3)
theorem ef_18v3 (m : MethodId) (sq : Addr) : entryFrame m #[(.ref sq)] 5 = mkF m 0 #[.val (.ref sq), .unset, .unset, .unset, .unset] [] := by first | (simp [entryFrame, mkF, argsToLocals, Value.category]; done) | rfl
set_option maxRecDepth 65536 in
set_option maxHeartbeats 40000000 in
theorem rm18v3 (l : Launch) (Z : State) (a0 : Array Value) (hw : ∀ d ∈ tables_1, d.before a0 Z = true) (ws : List Jvm.Cond) (sq : Addr) (va : Addr) (kvv : ClassId) (d0 : Addr) (d1 : Addr) (d2 : Addr) (d3 : Addr) (f0 : Addr) (f1 : Addr) (f2 : Addr) (f3 : Addr) (t0 : Addr) (t1 : Addr) (t2 : Addr) (t3 : Addr) (ky0 : ClassId) (ky1 : ClassId) (ky2 : ClassId) (ky3 : ClassId) (zC : Int32) (tq : Addr) (kq : ClassId) (cq : List Int32) (h0 : Heap) (n0 : Nat) (Zle : n0 ≤ h0.size) (Q_sq : own_Str Z h0 sq tq kq cq) (S_COMPACT_STRINGS : Sta Z h0 "java/lang/String" "COMPACT_STRINGS" "Z" (.int zC)) (S__VALUES : Sta Z h0 "com/example/gate2/gate2/Dimension" "$VALUES" "[Lcom/example/gate2/gate2/Dimension;" (.ref va)) (E_va : Exa Z h0 va "[Lcom/example/gate2/gate2/Dimension;") (V_va : Arv Z h0 va kvv (.object "com/example/gate2/gate2/Dimension") (4 : Int32) [(.ref d0), (.ref d1), (.ref d2), (.ref d3)] .null) (E_d0 : Exa Z h0 d0 "com/example/gate2/gate2/Dimension") (F_field_d0 : Fld Z h0 d0 "com/example/gate2/gate2/Dimension" "field" "Ljava/lang/String;" (.ref f0)) (Q_f0 : own_Str Z h0 f0 t0 ky0 ([112, 114, 111, 106, 101, 99, 116] : List Int32)) (E_d1 : Exa Z h0 d1 "com/example/gate2/gate2/Dimension") (F_field_d1 : Fld Z h0 d1 "com/example/gate2/gate2/Dimension" "field" "Ljava/lang/String;" (.ref f1)) (Q_f1 : own_Str Z h0 f1 t1 ky1 ([117, 115, 101, 114] : List Int32)) (E_d2 : Exa Z h0 d2 "com/example/gate2/gate2/Dimension") (F_field_d2 : Fld Z h0 d2 "com/example/gate2/gate2/Dimension" "field" "Ljava/lang/String;" (.ref f2)) (Q_f2 : own_Str Z h0 f2 t2 ky2 ([114, 101, 103, 105, 111, 110] : List Int32)) (E_d3 : Exa Z h0 d3 "com/example/gate2/gate2/Dimension") (F_field_d3 : Fld Z h0 d3 "com/example/gate2/gate2/Dimension" "field" "Ljava/lang/String;" (.ref f3)) (Q_f3 : own_Str Z h0 f3 t3 ky3 ([105, 110, 115, 116, 97, 110, 99, 101] : List Int32)) (hzC : ¬ zC = 0) (hn0 : ¬ ([112, 114, 111, 106, 101, 99, 116] : List Int32) = cq) (hn1 : ¬ ([117, 115, 101, 114] : List Int32) = cq) (hn2 : ¬ ([114, 101, 103, 105, 111, 110] : List Int32) = cq) (he3 : ([105, 110, 115, 116, 97, 110, 99, 101] : List Int32) = cq) :
    MetFree l (⟨"com/example/gate2/gate2/Dimension", "byField", "(Ljava/lang/String;)Ljava/util/Optional;"⟩ : MethodName) (head1 (Jvm.Cond.code (⟨"com/example/gate2/gate2/Dimension", "byField", "(Ljava/lang/String;)Ljava/util/Optional;"⟩ : MethodName) prog_6_method_4_code 5 (some (.object "java/util/Optional")) :: ws) ({ frames := 3, cells := 2, slots := 5, locals := 44 } : Room)) (fun a U => a = #[(.ref sq)] ∧ Z.Warmed39 U.vm ∧ U.heap = h0) (fun _ _ _ _ _ => True) (fun _ U o U' => ∃ v L, o = .returned v ∧ Q18v3 Z sq va kvv d0 d1 d2 d3 f0 f1 f2 f3 t0 t1 t2 t3 ky0 ky1 ky2 ky3 zC tq kq cq h0 n0 v U'.heap L ∧ FrameEnd U o U' L ({ frames := 3, cells := 2, slots := 5, locals := 44 } : Room).cells ({ frames := 3, cells := 2, slots := 5, locals := 44 } : Room).slots) := by
  refine MetFree.of_bodySF (plainFor_of_name pn_com_example_gate2_gate2_Dimension) hisR ?_
  intro p e s m args below meth c s₁ Bd hml0 hP hK
  obtain ⟨rfl, hZ, hh⟩ := hP
  have hx := Bd.exec
  have hby := Bd.bytes
  have hml : c.maxLocals = 5 := hml0
  have hown : s.vm.findClass "com/example/gate2/gate2/Dimension" = some m.cls := findClass_of_methodNamed Bd.named
  have hnm := (name_of_methodNamed Bd.named Bd.method).1
  have X0 : Stand p l e ({ frames := 3, cells := 2, slots := 5, locals := 44 } : Room) s m #[(.ref sq)] below meth c s₁ [] 0 0 := Stand.of_body Bd
  have e0 : s₁.heap = h0 := by rw [← hh, Bd.state]; rfl
  have N_ := Fr.nil n0
  have K_ := Keep.refl h0 []
  show own_Goes p.tables e below s (Q18v3 Z sq va kvv d0 d1 d2 d3 f0 f1 f2 f3 t0 t1 t2 t3 ky0 ky1 ky2 ky3 zC tq kq cq h0 n0) ({ frames := 3, cells := 2, slots := 5, locals := 44 } : Room).cells ({ frames := 3, cells := 2, slots := 5, locals := 44 } : Room).slots s₁ (entryFrame m #[(.ref sq)] 5)
  refine own_by (T' := s₁) (g' := (mkF m 0 #[.val (.ref sq), .unset, .unset, .unset, .unset] [])) (fun t k => castTop (ef_18v3 m sq) k) ?_
  have lt_sq_1 := Q_sq.1.lt
  have lt_tq_1 := Q_sq.2.2.2.1.lt
  have lt_va_1 := E_va.lt
  have lt_d0_1 := E_d0.lt
  have lt_f0_1 := Q_f0.1.lt
  have lt_t0_1 := Q_f0.2.2.2.1.lt
  have lt_d1_1 := E_d1.lt
  have lt_f1_1 := Q_f1.1.lt
  have lt_t1_1 := Q_f1.2.2.2.1.lt
  have lt_d2_1 := E_d2.lt
  have lt_f2_1 := Q_f2.1.lt
  have lt_t2_1 := Q_f2.2.2.2.1.lt
  have lt_d3_1 := E_d3.lt
  have lt_f3_1 := Q_f3.1.lt
  have lt_t3_1 := Q_f3.2.2.2.1.lt
  have Zpre1 := Zle
  have szp1 := K_.1
  obtain ⟨_, _, ⟨T1, L1, k1, n1⟩, -, X1, ⟨Lc1, hQ1, l1, y1, z1⟩, st1⟩ := Jvm.LawKit.callS X0 hx (y := (⟨"com/example/gate2/gate2/Dimension", "values", "()[Lcom/example/gate2/gate2/Dimension;"⟩ : MethodName)) hown (mvT hZ (hw _ (own_m 87 rfl))) (mvT hZ (hw _ (own_m 88 rfl))) (mvT hZ (hw _ (own_m 82 rfl))) (mvT hZ (hw _ (own_m 89 rfl))) (by decide) (backOf (W := 0) (rm19 l Z a0 hw [] va kvv d0 d1 d2 d3 h0 n0 Zle S__VALUES E_va V_va) hZ (hw _ (own_m 89 rfl)) (hw _ (own_m 82 rfl)) (by decide) (by decide)) (g := (mkF m 0 #[.val (.ref sq), .unset, .unset, .unset, .unset] [])) rfl (by rw [hml]; rfl) (argsL := []) (rest := []) (lenOf pd_18 rfl) rfl (own_le rfl) (hb hby d18_0) (fun _ _ => ⟨rfl, e0, (by decide : 0 + 1 ≤ _), (by decide : 0 + 4 ≤ _)⟩)
  dsimp only [Pt.U, Pt.locs, Pt.cells, Pt.slots] at X1 l1 y1 z1 st1 hQ1
  subst l1 y1 z1
  obtain ⟨nv_1, rfl, Nq1, c1_0, c1_1, c1_2⟩ := hQ1
  replace N_ := Fr.app N_ Nq1
  clear Nq1
  replace S_COMPACT_STRINGS := own_staKeep S_COMPACT_STRINGS c1_0 all0
  replace S__VALUES := own_staKeep S__VALUES c1_0 all0
  replace Q_sq := Q_sq.keep c1_0 nin0 nin0
  replace E_va := E_va.keep c1_0
  replace V_va := V_va.keep c1_0 nin0
  replace E_d0 := E_d0.keep c1_0
  replace F_field_d0 := F_field_d0.keep c1_0 nin0
  replace Q_f0 := Q_f0.keep c1_0 nin0 nin0
  replace E_d1 := E_d1.keep c1_0
  replace F_field_d1 := F_field_d1.keep c1_0 nin0
  replace Q_f1 := Q_f1.keep c1_0 nin0 nin0
  replace E_d2 := E_d2.keep c1_0
  replace F_field_d2 := F_field_d2.keep c1_0 nin0
  replace Q_f2 := Q_f2.keep c1_0 nin0 nin0
  replace E_d3 := E_d3.keep c1_0
  replace F_field_d3 := F_field_d3.keep c1_0 nin0
  replace Q_f3 := Q_f3.keep c1_0 nin0 nin0
  replace Zle := Nat.le_trans Zle c1_0.1
  replace K_ := K_.trans c1_0 all0
  have ne_sq_nv_1 : sq ≠ nv_1 := Nat.ne_of_lt (Nat.lt_of_lt_of_le lt_sq_1 c1_1)
  have ne_tq_nv_1 : tq ≠ nv_1 := Nat.ne_of_lt (Nat.lt_of_lt_of_le lt_tq_1 c1_1)
  have ne_va_nv_1 : va ≠ nv_1 := Nat.ne_of_lt (Nat.lt_of_lt_of_le lt_va_1 c1_1)
  have ne_d0_nv_1 : d0 ≠ nv_1 := Nat.ne_of_lt (Nat.lt_of_lt_of_le lt_d0_1 c1_1)
  have ne_f0_nv_1 : f0 ≠ nv_1 := Nat.ne_of_lt (Nat.lt_of_lt_of_le lt_f0_1 c1_1)
  have ne_t0_nv_1 : t0 ≠ nv_1 := Nat.ne_of_lt (Nat.lt_of_lt_of_le lt_t0_1 c1_1)
  have ne_d1_nv_1 : d1 ≠ nv_1 := Nat.ne_of_lt (Nat.lt_of_lt_of_le lt_d1_1 c1_1)
  have ne_f1_nv_1 : f1 ≠ nv_1 := Nat.ne_of_lt (Nat.lt_of_lt_of_le lt_f1_1 c1_1)
  have ne_t1_nv_1 : t1 ≠ nv_1 := Nat.ne_of_lt (Nat.lt_of_lt_of_le lt_t1_1 c1_1)
  have ne_d2_nv_1 : d2 ≠ nv_1 := Nat.ne_of_lt (Nat.lt_of_lt_of_le lt_d2_1 c1_1)
  have ne_f2_nv_1 : f2 ≠ nv_1 := Nat.ne_of_lt (Nat.lt_of_lt_of_le lt_f2_1 c1_1)
  have ne_t2_nv_1 : t2 ≠ nv_1 := Nat.ne_of_lt (Nat.lt_of_lt_of_le lt_t2_1 c1_1)
  have ne_d3_nv_1 : d3 ≠ nv_1 := Nat.ne_of_lt (Nat.lt_of_lt_of_le lt_d3_1 c1_1)
  have ne_f3_nv_1 : f3 ≠ nv_1 := Nat.ne_of_lt (Nat.lt_of_lt_of_le lt_f3_1 c1_1)
  have ne_t3_nv_1 : t3 ≠ nv_1 := Nat.ne_of_lt (Nat.lt_of_lt_of_le lt_t3_1 c1_1)
  have g_nv_1 : n0 ≤ nv_1 := Nat.le_trans Zpre1 c1_1
  have sz_nv_1 : h0.size ≤ nv_1 := Nat.le_trans szp1 c1_1
  clear lt_sq_1 lt_tq_1 lt_va_1 lt_d0_1 lt_f0_1 lt_t0_1 lt_d1_1 lt_f1_1 lt_t1_1 lt_d2_1 lt_f2_1 lt_t2_1 lt_d3_1 lt_f3_1 lt_t3_1
  refine own_by (T' := T1) (g' := (mkF m 3 #[.val (.ref sq), .unset, .unset, .unset, .unset] [(.ref nv_1)])) (fun t k => st1 _ k) ?_
  clear st1
  refine own_by (T' := T1) (g' := (mkF m 4 #[.val (.ref sq), .val (.ref nv_1), .unset, .unset, .unset] [])) (fun t k => XS.astoreN X1.here hx rfl (hb hby d18_3) rfl rfl (l' := #[.val (.ref sq), .val (.ref nv_1), .unset, .unset, .unset]) rfl k) ?_
  refine own_by (T' := T1) (g' := (mkF m 5 #[.val (.ref sq), .val (.ref nv_1), .unset, .unset, .unset] [(.ref nv_1)])) (fun t k => XS.aloadN X1.here hx rfl (hb hby d18_4) rfl rfl k) ?_
  obtain ⟨cl2, Ar2, -, S2, N2, -, -⟩ := id c1_2
  have st2 : ∀ t, Steps p.tables e below (T1.setTop (mkF m 6 #[.val (.ref sq), .val (.ref nv_1), .unset, .unset, .unset] [(.int 4)])) t → Steps p.tables e below (T1.setTop (mkF m 5 #[.val (.ref sq), .val (.ref nv_1), .unset, .unset, .unset] [(.ref nv_1)])) t := fun t k => X1.arraylength hx (by exact Ar2.1) (State.isArrayOf_alike hZ.alike Ar2.2.1) (g := (mkF m 5 #[.val (.ref sq), .val (.ref nv_1), .unset, .unset, .unset] [(.ref nv_1)])) rfl rfl (hb hby d18_5) _ (by rw [len_of S2 N2]; exact k)
  refine own_by (T' := T1) (g' := (mkF m 6 #[.val (.ref sq), .val (.ref nv_1), .unset, .unset, .unset] [(.int 4)])) (fun t k => st2 t k) ?_
  clear st2
  refine own_by (T' := T1) (g' := (mkF m 7 #[.val (.ref sq), .val (.ref nv_1), .val (.int 4), .unset, .unset] [])) (fun t k => XS.istoreN X1.here hx rfl (hb hby d18_6) rfl (l' := #[.val (.ref sq), .val (.ref nv_1), .val (.int 4), .unset, .unset]) rfl k) ?_
  refine own_by (T' := T1) (g' := (mkF m 8 #[.val (.ref sq), .val (.ref nv_1), .val (.int 4), .unset, .unset] [(.int 0)])) (fun t k => XS.iconst X1.here hx rfl (hb hby d18_7) k) ?_
  refine own_by (T' := T1) (g' := (mkF m 9 #[.val (.ref sq), .val (.ref nv_1), .val (.int 4), .val (.int 0), .unset] [])) (fun t k => XS.istoreN X1.here hx rfl (hb hby d18_8) rfl (l' := #[.val (.ref sq), .val (.ref nv_1), .val (.int 4), .val (.int 0), .unset]) rfl k) ?_
  refine own_by (T' := T1) (g' := (mkF m 10 #[.val (.ref sq), .val (.ref nv_1), .val (.int 4), .val (.int 0), .unset] [(.int 0)])) (fun t k => XS.iloadN X1.here hx rfl (hb hby d18_9) rfl k) ?_
  refine own_by (T' := T1) (g' := (mkF m 11 #[.val (.ref sq), .val (.ref nv_1), .val (.int 4), .val (.int 0), .unset] [(.int 4), (.int 0)])) (fun t k => XS.iloadN X1.here hx rfl (hb hby d18_10) rfl k) ?_
  refine own_by (T' := T1) (g' := (mkF m 14 #[.val (.ref sq), .val (.ref nv_1), .val (.int 4), .val (.int 0), .unset] [])) (fun t k => XS.icmpNo X1.here hx rfl (hb hby d18_11) rfl (tlt (by decide)).2.1 k) ?_
  refine own_by (T' := T1) (g' := (mkF m 15 #[.val (.ref sq), .val (.ref nv_1), .val (.int 4), .val (.int 0), .unset] [(.ref nv_1)])) (fun t k => XS.aloadN X1.here hx rfl (hb hby d18_14) rfl rfl k) ?_
  refine own_by (T' := T1) (g' := (mkF m 16 #[.val (.ref sq), .val (.ref nv_1), .val (.int 4), .val (.int 0), .unset] [(.int 0), (.ref nv_1)])) (fun t k => XS.iloadN X1.here hx rfl (hb hby d18_15) rfl k) ?_
  obtain ⟨cl3, Ar3, q3, S3, N3, Hs3, G3⟩ := id c1_2
  have hin3 : ¬ ((0 : Int32) < 0 ∨ cl3.slots.size ≤ ((0 : Int32)).toNatClampNeg) := inb_of S3 ⟨by decide, by decide⟩
  have hat3 : cl3.slots[((0 : Int32)).toNatClampNeg]? = some (.ref d0) := Hs3.at hin3 rfl
  refine own_by (T' := T1) (g' := (mkF m 17 #[.val (.ref sq), .val (.ref nv_1), .val (.int 4), .val (.int 0), .unset] [(.ref d0)])) (fun t k => X1.aaload hx (j := (0 : Int32)) (v := (.ref d0)) (by exact Ar3.1) (State.isArrayOf_alike hZ.alike Ar3.2.1) rfl Ar3.2.2 hin3 hat3 (g := (mkF m 16 #[.val (.ref sq), .val (.ref nv_1), .val (.int 4), .val (.int 0), .unset] [(.int 0), (.ref nv_1)])) rfl rfl (hb hby d18_16) _ k) ?_
  clear hat3 hin3 G3 Hs3 N3 S3 q3 Ar3 cl3
  refine own_by (T' := T1) (g' := (mkF m 19 #[.val (.ref sq), .val (.ref nv_1), .val (.int 4), .val (.int 0), .val (.ref d0)] [])) (fun t k => XS.astore X1.here hx rfl (hb hby d18_17) rfl rfl (l' := #[.val (.ref sq), .val (.ref nv_1), .val (.int 4), .val (.int 0), .val (.ref d0)]) rfl k) ?_
  refine own_by (T' := T1) (g' := (mkF m 21 #[.val (.ref sq), .val (.ref nv_1), .val (.int 4), .val (.int 0), .val (.ref d0)] [(.ref d0)])) (fun t k => XS.aload X1.here hx rfl (hb hby d18_19) rfl rfl k) ?_
  obtain ⟨T4, X4, e4, st4⟩ := getF X1 hx hZ hown (host := "") (Or.inl (hw _ (own_m 105 rfl))) Via.refl rfl F_field_d0 (g := (mkF m 21 #[.val (.ref sq), .val (.ref nv_1), .val (.int 4), .val (.int 0), .val (.ref d0)] [(.ref d0)])) rfl rfl (hb hby d18_21)
  refine own_by (T' := T4) (g' := (mkF m 24 #[.val (.ref sq), .val (.ref nv_1), .val (.int 4), .val (.int 0), .val (.ref d0)] [(.ref f0)])) (fun t k => st4 t k) ?_
  clear st4 X1
  refine own_by (T' := T4) (g' := (mkF m 25 #[.val (.ref sq), .val (.ref nv_1), .val (.int 4), .val (.int 0), .val (.ref d0)] [(.ref sq), (.ref f0)])) (fun t k => XS.aloadN X4.here hx rfl (hb hby d18_24) rfl rfl k) ?_
  have E_f0 := Q_f0.1
  obtain ⟨cq5, kq5, q5a, q5b, q5c⟩ := isOf hZ e4 E_f0
  obtain ⟨_, _, ⟨T5, L5, k5, n5⟩, -, X5, ⟨Lc5, hQ5, l5, y5, z5⟩, st5⟩ := X4.virtualBack hx (y := (⟨"java/lang/String", "equals", "(Ljava/lang/Object;)Z"⟩ : MethodName)) (z := (⟨"java/lang/String", "equals", "(Ljava/lang/Object;)Z"⟩ : MethodName)) hown (mvT hZ (hw _ (own_m 107 rfl))) (mvT hZ (hw _ (own_m 73 rfl))) (notFace_of_selects (args := #[]) (mvT hZ (hw _ (own_m 75 rfl)))) (mvT hZ (hw _ (own_m 75 rfl))) (mvT hZ (hw _ (own_m 74 rfl))) (by decide) (StrChars.Road.eqW (W := 0) hZ (own_hwE hw) (kI := 4) (hw _ (own_m 2 rfl)) Q_f0.1 Q_f0.2.1 Q_f0.2.2.1 Q_f0.2.2.2.1 (own_cod Q_f0) (own_w16 Q_f0) (own_l4 Q_f0) Q_sq.1 Q_sq.2.1 Q_sq.2.2.1 Q_sq.2.2.2.1 (own_cod Q_sq) (own_w16 Q_sq) (own_l4 Q_sq) S_COMPACT_STRINGS hzC (by decide) (by decide)) q5a q5c (g := (mkF m 25 #[.val (.ref sq), .val (.ref nv_1), .val (.int 4), .val (.int 0), .val (.ref d0)] [(.ref sq), (.ref f0)])) rfl (by rw [hml]; rfl) (Steps.refl _) (argsL := [(.ref sq)]) (rest := []) (lenOf pd_15 rfl) rfl (own_le rfl) (hb hby d18_25) (fun _ _ => ⟨rfl, e4, (by decide : 1 + 0 ≤ _), (by decide : 4 + 0 ≤ _)⟩)
  dsimp only [Pt.U, Pt.locs, Pt.cells, Pt.slots] at X5 l5 y5 z5 st5 hQ5
  subst l5 y5 z5
  rcases hQ5 with ⟨⟨rfl, hq5⟩ | ⟨rfl, hq5⟩, rfl, e5⟩
  · exact absurd hq5 hn0
  replace N_ := Fr.app N_ (Fr.nil n0)
  refine own_by (T' := T5) (g' := (mkF m 28 #[.val (.ref sq), .val (.ref nv_1), .val (.int 4), .val (.int 0), .val (.ref d0)] [(.int 0)])) (fun t k => st5.trans k) ?_
  clear st5 X4 e4
  refine own_by (T' := T5) (g' := (mkF m 37 #[.val (.ref sq), .val (.ref nv_1), .val (.int 4), .val (.int 0), .val (.ref d0)] [])) (fun t k => XS.ifYes X5.here hx rfl (pc0 := 28) (pc' := 37) rfl (hb hby d18_28) rfl ((if0 _ _).trans (teq (by decide)).1) (by decide) (by decide) k) ?_
  refine own_by (T' := T5) (g' := (mkF m 40 #[.val (.ref sq), .val (.ref nv_1), .val (.int 4), .val (.int 1), .val (.ref d0)] [])) (fun t k => XS.iinc X5.here hx rfl (hb hby d18_37) rfl (l' := #[.val (.ref sq), .val (.ref nv_1), .val (.int 4), .val (.int 1), .val (.ref d0)]) rfl k) ?_
  refine own_by (T' := T5) (g' := (mkF m 9 #[.val (.ref sq), .val (.ref nv_1), .val (.int 4), .val (.int 1), .val (.ref d0)] [])) (fun t k => XS.goto X5.here hx rfl (pc0 := 40) (pc' := 9) rfl (hb hby d18_40) (by decide) (by decide) k) ?_
  refine own_by (T' := T5) (g' := (mkF m 10 #[.val (.ref sq), .val (.ref nv_1), .val (.int 4), .val (.int 1), .val (.ref d0)] [(.int 1)])) (fun t k => XS.iloadN X5.here hx rfl (hb hby d18_9) rfl k) ?_
  refine own_by (T' := T5) (g' := (mkF m 11 #[.val (.ref sq), .val (.ref nv_1), .val (.int 4), .val (.int 1), .val (.ref d0)] [(.int 4), (.int 1)])) (fun t k => XS.iloadN X5.here hx rfl (hb hby d18_10) rfl k) ?_
  refine own_by (T' := T5) (g' := (mkF m 14 #[.val (.ref sq), .val (.ref nv_1), .val (.int 4), .val (.int 1), .val (.ref d0)] [])) (fun t k => XS.icmpNo X5.here hx rfl (hb hby d18_11) rfl (tlt (by decide)).2.1 k) ?_
  refine own_by (T' := T5) (g' := (mkF m 15 #[.val (.ref sq), .val (.ref nv_1), .val (.int 4), .val (.int 1), .val (.ref d0)] [(.ref nv_1)])) (fun t k => XS.aloadN X5.here hx rfl (hb hby d18_14) rfl rfl k) ?_
  refine own_by (T' := T5) (g' := (mkF m 16 #[.val (.ref sq), .val (.ref nv_1), .val (.int 4), .val (.int 1), .val (.ref d0)] [(.int 1), (.ref nv_1)])) (fun t k => XS.iloadN X5.here hx rfl (hb hby d18_15) rfl k) ?_
  obtain ⟨cl6, Ar6, q6, S6, N6, Hs6, G6⟩ := id c1_2
  have hin6 : ¬ ((1 : Int32) < 0 ∨ cl6.slots.size ≤ ((1 : Int32)).toNatClampNeg) := inb_of S6 ⟨by decide, by decide⟩
  have hat6 : cl6.slots[((1 : Int32)).toNatClampNeg]? = some (.ref d1) := Hs6.at hin6 rfl
  refine own_by (T' := T5) (g' := (mkF m 17 #[.val (.ref sq), .val (.ref nv_1), .val (.int 4), .val (.int 1), .val (.ref d0)] [(.ref d1)])) (fun t k => X5.aaload hx (j := (1 : Int32)) (v := (.ref d1)) (by rw [e5]; exact Ar6.1) (State.isArrayOf_alike hZ.alike Ar6.2.1) rfl Ar6.2.2 hin6 hat6 (g := (mkF m 16 #[.val (.ref sq), .val (.ref nv_1), .val (.int 4), .val (.int 1), .val (.ref d0)] [(.int 1), (.ref nv_1)])) rfl rfl (hb hby d18_16) _ k) ?_
  clear hat6 hin6 G6 Hs6 N6 S6 q6 Ar6 cl6
  refine own_by (T' := T5) (g' := (mkF m 19 #[.val (.ref sq), .val (.ref nv_1), .val (.int 4), .val (.int 1), .val (.ref d1)] [])) (fun t k => XS.astore X5.here hx rfl (hb hby d18_17) rfl rfl (l' := #[.val (.ref sq), .val (.ref nv_1), .val (.int 4), .val (.int 1), .val (.ref d1)]) rfl k) ?_
  refine own_by (T' := T5) (g' := (mkF m 21 #[.val (.ref sq), .val (.ref nv_1), .val (.int 4), .val (.int 1), .val (.ref d1)] [(.ref d1)])) (fun t k => XS.aload X5.here hx rfl (hb hby d18_19) rfl rfl k) ?_
  obtain ⟨T7, X7, e7, st7⟩ := getF X5 hx hZ hown (host := "") (Or.inl (hw _ (own_m 105 rfl))) Via.refl e5 F_field_d1 (g := (mkF m 21 #[.val (.ref sq), .val (.ref nv_1), .val (.int 4), .val (.int 1), .val (.ref d1)] [(.ref d1)])) rfl rfl (hb hby d18_21)
  refine own_by (T' := T7) (g' := (mkF m 24 #[.val (.ref sq), .val (.ref nv_1), .val (.int 4), .val (.int 1), .val (.ref d1)] [(.ref f1)])) (fun t k => st7 t k) ?_
  clear st7 X5 e5
  refine own_by (T' := T7) (g' := (mkF m 25 #[.val (.ref sq), .val (.ref nv_1), .val (.int 4), .val (.int 1), .val (.ref d1)] [(.ref sq), (.ref f1)])) (fun t k => XS.aloadN X7.here hx rfl (hb hby d18_24) rfl rfl k) ?_
  have E_f1 := Q_f1.1
  obtain ⟨cq8, kq8, q8a, q8b, q8c⟩ := isOf hZ e7 E_f1
  obtain ⟨_, _, ⟨T8, L8, k8, n8⟩, -, X8, ⟨Lc8, hQ8, l8, y8, z8⟩, st8⟩ := X7.virtualBack hx (y := (⟨"java/lang/String", "equals", "(Ljava/lang/Object;)Z"⟩ : MethodName)) (z := (⟨"java/lang/String", "equals", "(Ljava/lang/Object;)Z"⟩ : MethodName)) hown (mvT hZ (hw _ (own_m 107 rfl))) (mvT hZ (hw _ (own_m 73 rfl))) (notFace_of_selects (args := #[]) (mvT hZ (hw _ (own_m 75 rfl)))) (mvT hZ (hw _ (own_m 75 rfl))) (mvT hZ (hw _ (own_m 74 rfl))) (by decide) (StrChars.Road.eqW (W := 0) hZ (own_hwE hw) (kI := 4) (hw _ (own_m 2 rfl)) Q_f1.1 Q_f1.2.1 Q_f1.2.2.1 Q_f1.2.2.2.1 (own_cod Q_f1) (own_w16 Q_f1) (own_l4 Q_f1) Q_sq.1 Q_sq.2.1 Q_sq.2.2.1 Q_sq.2.2.2.1 (own_cod Q_sq) (own_w16 Q_sq) (own_l4 Q_sq) S_COMPACT_STRINGS hzC (by decide) (by decide)) q8a q8c (g := (mkF m 25 #[.val (.ref sq), .val (.ref nv_1), .val (.int 4), .val (.int 1), .val (.ref d1)] [(.ref sq), (.ref f1)])) rfl (by rw [hml]; rfl) (Steps.refl _) (argsL := [(.ref sq)]) (rest := []) (lenOf pd_15 rfl) rfl (own_le rfl) (hb hby d18_25) (fun _ _ => ⟨rfl, e7, (by decide : 1 + 0 ≤ _), (by decide : 4 + 0 ≤ _)⟩)
  dsimp only [Pt.U, Pt.locs, Pt.cells, Pt.slots] at X8 l8 y8 z8 st8 hQ8
  subst l8 y8 z8
  rcases hQ8 with ⟨⟨rfl, hq8⟩ | ⟨rfl, hq8⟩, rfl, e8⟩
  · exact absurd hq8 hn1
  replace N_ := Fr.app N_ (Fr.nil n0)
  refine own_by (T' := T8) (g' := (mkF m 28 #[.val (.ref sq), .val (.ref nv_1), .val (.int 4), .val (.int 1), .val (.ref d1)] [(.int 0)])) (fun t k => st8.trans k) ?_
  clear st8 X7 e7
  refine own_by (T' := T8) (g' := (mkF m 37 #[.val (.ref sq), .val (.ref nv_1), .val (.int 4), .val (.int 1), .val (.ref d1)] [])) (fun t k => XS.ifYes X8.here hx rfl (pc0 := 28) (pc' := 37) rfl (hb hby d18_28) rfl ((if0 _ _).trans (teq (by decide)).1) (by decide) (by decide) k) ?_
  refine own_by (T' := T8) (g' := (mkF m 40 #[.val (.ref sq), .val (.ref nv_1), .val (.int 4), .val (.int 2), .val (.ref d1)] [])) (fun t k => XS.iinc X8.here hx rfl (hb hby d18_37) rfl (l' := #[.val (.ref sq), .val (.ref nv_1), .val (.int 4), .val (.int 2), .val (.ref d1)]) rfl k) ?_
  refine own_by (T' := T8) (g' := (mkF m 9 #[.val (.ref sq), .val (.ref nv_1), .val (.int 4), .val (.int 2), .val (.ref d1)] [])) (fun t k => XS.goto X8.here hx rfl (pc0 := 40) (pc' := 9) rfl (hb hby d18_40) (by decide) (by decide) k) ?_
  refine own_by (T' := T8) (g' := (mkF m 10 #[.val (.ref sq), .val (.ref nv_1), .val (.int 4), .val (.int 2), .val (.ref d1)] [(.int 2)])) (fun t k => XS.iloadN X8.here hx rfl (hb hby d18_9) rfl k) ?_
  refine own_by (T' := T8) (g' := (mkF m 11 #[.val (.ref sq), .val (.ref nv_1), .val (.int 4), .val (.int 2), .val (.ref d1)] [(.int 4), (.int 2)])) (fun t k => XS.iloadN X8.here hx rfl (hb hby d18_10) rfl k) ?_
  refine own_by (T' := T8) (g' := (mkF m 14 #[.val (.ref sq), .val (.ref nv_1), .val (.int 4), .val (.int 2), .val (.ref d1)] [])) (fun t k => XS.icmpNo X8.here hx rfl (hb hby d18_11) rfl (tlt (by decide)).2.1 k) ?_
  refine own_by (T' := T8) (g' := (mkF m 15 #[.val (.ref sq), .val (.ref nv_1), .val (.int 4), .val (.int 2), .val (.ref d1)] [(.ref nv_1)])) (fun t k => XS.aloadN X8.here hx rfl (hb hby d18_14) rfl rfl k) ?_
  refine own_by (T' := T8) (g' := (mkF m 16 #[.val (.ref sq), .val (.ref nv_1), .val (.int 4), .val (.int 2), .val (.ref d1)] [(.int 2), (.ref nv_1)])) (fun t k => XS.iloadN X8.here hx rfl (hb hby d18_15) rfl k) ?_
  obtain ⟨cl9, Ar9, q9, S9, N9, Hs9, G9⟩ := id c1_2
  have hin9 : ¬ ((2 : Int32) < 0 ∨ cl9.slots.size ≤ ((2 : Int32)).toNatClampNeg) := inb_of S9 ⟨by decide, by decide⟩
  have hat9 : cl9.slots[((2 : Int32)).toNatClampNeg]? = some (.ref d2) := Hs9.at hin9 rfl
  refine own_by (T' := T8) (g' := (mkF m 17 #[.val (.ref sq), .val (.ref nv_1), .val (.int 4), .val (.int 2), .val (.ref d1)] [(.ref d2)])) (fun t k => X8.aaload hx (j := (2 : Int32)) (v := (.ref d2)) (by rw [e8]; exact Ar9.1) (State.isArrayOf_alike hZ.alike Ar9.2.1) rfl Ar9.2.2 hin9 hat9 (g := (mkF m 16 #[.val (.ref sq), .val (.ref nv_1), .val (.int 4), .val (.int 2), .val (.ref d1)] [(.int 2), (.ref nv_1)])) rfl rfl (hb hby d18_16) _ k) ?_
  clear hat9 hin9 G9 Hs9 N9 S9 q9 Ar9 cl9
  refine own_by (T' := T8) (g' := (mkF m 19 #[.val (.ref sq), .val (.ref nv_1), .val (.int 4), .val (.int 2), .val (.ref d2)] [])) (fun t k => XS.astore X8.here hx rfl (hb hby d18_17) rfl rfl (l' := #[.val (.ref sq), .val (.ref nv_1), .val (.int 4), .val (.int 2), .val (.ref d2)]) rfl k) ?_
  refine own_by (T' := T8) (g' := (mkF m 21 #[.val (.ref sq), .val (.ref nv_1), .val (.int 4), .val (.int 2), .val (.ref d2)] [(.ref d2)])) (fun t k => XS.aload X8.here hx rfl (hb hby d18_19) rfl rfl k) ?_
  obtain ⟨T10, X10, e10, st10⟩ := getF X8 hx hZ hown (host := "") (Or.inl (hw _ (own_m 105 rfl))) Via.refl e8 F_field_d2 (g := (mkF m 21 #[.val (.ref sq), .val (.ref nv_1), .val (.int 4), .val (.int 2), .val (.ref d2)] [(.ref d2)])) rfl rfl (hb hby d18_21)
  refine own_by (T' := T10) (g' := (mkF m 24 #[.val (.ref sq), .val (.ref nv_1), .val (.int 4), .val (.int 2), .val (.ref d2)] [(.ref f2)])) (fun t k => st10 t k) ?_
  clear st10 X8 e8
  refine own_by (T' := T10) (g' := (mkF m 25 #[.val (.ref sq), .val (.ref nv_1), .val (.int 4), .val (.int 2), .val (.ref d2)] [(.ref sq), (.ref f2)])) (fun t k => XS.aloadN X10.here hx rfl (hb hby d18_24) rfl rfl k) ?_
  have E_f2 := Q_f2.1
  obtain ⟨cq11, kq11, q11a, q11b, q11c⟩ := isOf hZ e10 E_f2
  obtain ⟨_, _, ⟨T11, L11, k11, n11⟩, -, X11, ⟨Lc11, hQ11, l11, y11, z11⟩, st11⟩ := X10.virtualBack hx (y := (⟨"java/lang/String", "equals", "(Ljava/lang/Object;)Z"⟩ : MethodName)) (z := (⟨"java/lang/String", "equals", "(Ljava/lang/Object;)Z"⟩ : MethodName)) hown (mvT hZ (hw _ (own_m 107 rfl))) (mvT hZ (hw _ (own_m 73 rfl))) (notFace_of_selects (args := #[]) (mvT hZ (hw _ (own_m 75 rfl)))) (mvT hZ (hw _ (own_m 75 rfl))) (mvT hZ (hw _ (own_m 74 rfl))) (by decide) (StrChars.Road.eqW (W := 0) hZ (own_hwE hw) (kI := 4) (hw _ (own_m 2 rfl)) Q_f2.1 Q_f2.2.1 Q_f2.2.2.1 Q_f2.2.2.2.1 (own_cod Q_f2) (own_w16 Q_f2) (own_l4 Q_f2) Q_sq.1 Q_sq.2.1 Q_sq.2.2.1 Q_sq.2.2.2.1 (own_cod Q_sq) (own_w16 Q_sq) (own_l4 Q_sq) S_COMPACT_STRINGS hzC (by decide) (by decide)) q11a q11c (g := (mkF m 25 #[.val (.ref sq), .val (.ref nv_1), .val (.int 4), .val (.int 2), .val (.ref d2)] [(.ref sq), (.ref f2)])) rfl (by rw [hml]; rfl) (Steps.refl _) (argsL := [(.ref sq)]) (rest := []) (lenOf pd_15 rfl) rfl (own_le rfl) (hb hby d18_25) (fun _ _ => ⟨rfl, e10, (by decide : 1 + 0 ≤ _), (by decide : 4 + 0 ≤ _)⟩)
  dsimp only [Pt.U, Pt.locs, Pt.cells, Pt.slots] at X11 l11 y11 z11 st11 hQ11
  subst l11 y11 z11
  rcases hQ11 with ⟨⟨rfl, hq11⟩ | ⟨rfl, hq11⟩, rfl, e11⟩
  · exact absurd hq11 hn2
  replace N_ := Fr.app N_ (Fr.nil n0)
  refine own_by (T' := T11) (g' := (mkF m 28 #[.val (.ref sq), .val (.ref nv_1), .val (.int 4), .val (.int 2), .val (.ref d2)] [(.int 0)])) (fun t k => st11.trans k) ?_
  clear st11 X10 e10
  refine own_by (T' := T11) (g' := (mkF m 37 #[.val (.ref sq), .val (.ref nv_1), .val (.int 4), .val (.int 2), .val (.ref d2)] [])) (fun t k => XS.ifYes X11.here hx rfl (pc0 := 28) (pc' := 37) rfl (hb hby d18_28) rfl ((if0 _ _).trans (teq (by decide)).1) (by decide) (by decide) k) ?_
  refine own_by (T' := T11) (g' := (mkF m 40 #[.val (.ref sq), .val (.ref nv_1), .val (.int 4), .val (.int 3), .val (.ref d2)] [])) (fun t k => XS.iinc X11.here hx rfl (hb hby d18_37) rfl (l' := #[.val (.ref sq), .val (.ref nv_1), .val (.int 4), .val (.int 3), .val (.ref d2)]) rfl k) ?_
  refine own_by (T' := T11) (g' := (mkF m 9 #[.val (.ref sq), .val (.ref nv_1), .val (.int 4), .val (.int 3), .val (.ref d2)] [])) (fun t k => XS.goto X11.here hx rfl (pc0 := 40) (pc' := 9) rfl (hb hby d18_40) (by decide) (by decide) k) ?_
  refine own_by (T' := T11) (g' := (mkF m 10 #[.val (.ref sq), .val (.ref nv_1), .val (.int 4), .val (.int 3), .val (.ref d2)] [(.int 3)])) (fun t k => XS.iloadN X11.here hx rfl (hb hby d18_9) rfl k) ?_
  refine own_by (T' := T11) (g' := (mkF m 11 #[.val (.ref sq), .val (.ref nv_1), .val (.int 4), .val (.int 3), .val (.ref d2)] [(.int 4), (.int 3)])) (fun t k => XS.iloadN X11.here hx rfl (hb hby d18_10) rfl k) ?_
  refine own_by (T' := T11) (g' := (mkF m 14 #[.val (.ref sq), .val (.ref nv_1), .val (.int 4), .val (.int 3), .val (.ref d2)] [])) (fun t k => XS.icmpNo X11.here hx rfl (hb hby d18_11) rfl (tlt (by decide)).2.1 k) ?_
  refine own_by (T' := T11) (g' := (mkF m 15 #[.val (.ref sq), .val (.ref nv_1), .val (.int 4), .val (.int 3), .val (.ref d2)] [(.ref nv_1)])) (fun t k => XS.aloadN X11.here hx rfl (hb hby d18_14) rfl rfl k) ?_
  refine own_by (T' := T11) (g' := (mkF m 16 #[.val (.ref sq), .val (.ref nv_1), .val (.int 4), .val (.int 3), .val (.ref d2)] [(.int 3), (.ref nv_1)])) (fun t k => XS.iloadN X11.here hx rfl (hb hby d18_15) rfl k) ?_
  obtain ⟨cl12, Ar12, q12, S12, N12, Hs12, G12⟩ := id c1_2
  have hin12 : ¬ ((3 : Int32) < 0 ∨ cl12.slots.size ≤ ((3 : Int32)).toNatClampNeg) := inb_of S12 ⟨by decide, by decide⟩
  have hat12 : cl12.slots[((3 : Int32)).toNatClampNeg]? = some (.ref d3) := Hs12.at hin12 rfl
  refine own_by (T' := T11) (g' := (mkF m 17 #[.val (.ref sq), .val (.ref nv_1), .val (.int 4), .val (.int 3), .val (.ref d2)] [(.ref d3)])) (fun t k => X11.aaload hx (j := (3 : Int32)) (v := (.ref d3)) (by rw [e11]; exact Ar12.1) (State.isArrayOf_alike hZ.alike Ar12.2.1) rfl Ar12.2.2 hin12 hat12 (g := (mkF m 16 #[.val (.ref sq), .val (.ref nv_1), .val (.int 4), .val (.int 3), .val (.ref d2)] [(.int 3), (.ref nv_1)])) rfl rfl (hb hby d18_16) _ k) ?_
  clear hat12 hin12 G12 Hs12 N12 S12 q12 Ar12 cl12
  refine own_by (T' := T11) (g' := (mkF m 19 #[.val (.ref sq), .val (.ref nv_1), .val (.int 4), .val (.int 3), .val (.ref d3)] [])) (fun t k => XS.astore X11.here hx rfl (hb hby d18_17) rfl rfl (l' := #[.val (.ref sq), .val (.ref nv_1), .val (.int 4), .val (.int 3), .val (.ref d3)]) rfl k) ?_
  refine own_by (T' := T11) (g' := (mkF m 21 #[.val (.ref sq), .val (.ref nv_1), .val (.int 4), .val (.int 3), .val (.ref d3)] [(.ref d3)])) (fun t k => XS.aload X11.here hx rfl (hb hby d18_19) rfl rfl k) ?_
  obtain ⟨T13, X13, e13, st13⟩ := getF X11 hx hZ hown (host := "") (Or.inl (hw _ (own_m 105 rfl))) Via.refl e11 F_field_d3 (g := (mkF m 21 #[.val (.ref sq), .val (.ref nv_1), .val (.int 4), .val (.int 3), .val (.ref d3)] [(.ref d3)])) rfl rfl (hb hby d18_21)
  refine own_by (T' := T13) (g' := (mkF m 24 #[.val (.ref sq), .val (.ref nv_1), .val (.int 4), .val (.int 3), .val (.ref d3)] [(.ref f3)])) (fun t k => st13 t k) ?_
  clear st13 X11 e11
  refine own_by (T' := T13) (g' := (mkF m 25 #[.val (.ref sq), .val (.ref nv_1), .val (.int 4), .val (.int 3), .val (.ref d3)] [(.ref sq), (.ref f3)])) (fun t k => XS.aloadN X13.here hx rfl (hb hby d18_24) rfl rfl k) ?_
  have E_f3 := Q_f3.1
  obtain ⟨cq14, kq14, q14a, q14b, q14c⟩ := isOf hZ e13 E_f3
  obtain ⟨_, _, ⟨T14, L14, k14, n14⟩, -, X14, ⟨Lc14, hQ14, l14, y14, z14⟩, st14⟩ := X13.virtualBack hx (y := (⟨"java/lang/String", "equals", "(Ljava/lang/Object;)Z"⟩ : MethodName)) (z := (⟨"java/lang/String", "equals", "(Ljava/lang/Object;)Z"⟩ : MethodName)) hown (mvT hZ (hw _ (own_m 107 rfl))) (mvT hZ (hw _ (own_m 73 rfl))) (notFace_of_selects (args := #[]) (mvT hZ (hw _ (own_m 75 rfl)))) (mvT hZ (hw _ (own_m 75 rfl))) (mvT hZ (hw _ (own_m 74 rfl))) (by decide) (StrChars.Road.eqW (W := 0) hZ (own_hwE hw) (kI := 4) (hw _ (own_m 2 rfl)) Q_f3.1 Q_f3.2.1 Q_f3.2.2.1 Q_f3.2.2.2.1 (own_cod Q_f3) (own_w16 Q_f3) (own_l4 Q_f3) Q_sq.1 Q_sq.2.1 Q_sq.2.2.1 Q_sq.2.2.2.1 (own_cod Q_sq) (own_w16 Q_sq) (own_l4 Q_sq) S_COMPACT_STRINGS hzC (by decide) (by decide)) q14a q14c (g := (mkF m 25 #[.val (.ref sq), .val (.ref nv_1), .val (.int 4), .val (.int 3), .val (.ref d3)] [(.ref sq), (.ref f3)])) rfl (by rw [hml]; rfl) (Steps.refl _) (argsL := [(.ref sq)]) (rest := []) (lenOf pd_15 rfl) rfl (own_le rfl) (hb hby d18_25) (fun _ _ => ⟨rfl, e13, (by decide : 1 + 0 ≤ _), (by decide : 4 + 0 ≤ _)⟩)
  dsimp only [Pt.U, Pt.locs, Pt.cells, Pt.slots] at X14 l14 y14 z14 st14 hQ14
  subst l14 y14 z14
  rcases hQ14 with ⟨⟨rfl, hq14⟩ | ⟨rfl, hq14⟩, rfl, e14⟩
  rotate_left
  · exact absurd he3 hq14
  replace N_ := Fr.app N_ (Fr.nil n0)
  refine own_by (T' := T14) (g' := (mkF m 28 #[.val (.ref sq), .val (.ref nv_1), .val (.int 4), .val (.int 3), .val (.ref d3)] [(.int 1)])) (fun t k => st14.trans k) ?_
  clear st14 X13 e13
  refine own_by (T' := T14) (g' := (mkF m 31 #[.val (.ref sq), .val (.ref nv_1), .val (.int 4), .val (.int 3), .val (.ref d3)] [])) (fun t k => XS.ifNo X14.here hx rfl (hb hby d18_28) rfl ((if0 _ _).trans (feq (by decide)).1) k) ?_
  refine own_by (T' := T14) (g' := (mkF m 33 #[.val (.ref sq), .val (.ref nv_1), .val (.int 4), .val (.int 3), .val (.ref d3)] [(.ref d3)])) (fun t k => XS.aload X14.here hx rfl (hb hby d18_31) rfl rfl k) ?_
  have lt_sq_15 := Q_sq.1.lt
  have lt_tq_15 := Q_sq.2.2.2.1.lt
  have lt_va_15 := E_va.lt
  have lt_d0_15 := E_d0.lt
  have lt_f0_15 := Q_f0.1.lt
  have lt_t0_15 := Q_f0.2.2.2.1.lt
  have lt_d1_15 := E_d1.lt
  have lt_f1_15 := Q_f1.1.lt
  have lt_t1_15 := Q_f1.2.2.2.1.lt
  have lt_d2_15 := E_d2.lt
  have lt_f2_15 := Q_f2.1.lt
  have lt_t2_15 := Q_f2.2.2.2.1.lt
  have lt_d3_15 := E_d3.lt
  have lt_f3_15 := Q_f3.1.lt
  have lt_t3_15 := Q_f3.2.2.2.1.lt
  have lt_nv_1_15 := c1_2.lt
  have Zpre15 := Zle
  have szp15 := K_.1
  obtain ⟨_, _, ⟨T15, L15, k15, n15⟩, -, X15, ⟨Lc15, hQ15, l15, y15, z15⟩, st15⟩ := Jvm.LawKit.callS X14 hx (y := (⟨"java/util/Optional", "of", "(Ljava/lang/Object;)Ljava/util/Optional;"⟩ : MethodName)) hown (mvT hZ (hw _ (own_m 108 rfl))) (mvT hZ (hw _ (own_m 109 rfl))) (mvT hZ (hw _ (own_m 110 rfl))) (mvT hZ (hw _ (own_m 111 rfl))) (by decide) (backOf (W := 0) (rm20 l Z a0 hw [] d3 T1.heap n0 Zle ) hZ (hw _ (own_m 111 rfl)) (hw _ (own_m 110 rfl)) (by decide) (by decide)) (g := (mkF m 33 #[.val (.ref sq), .val (.ref nv_1), .val (.int 4), .val (.int 3), .val (.ref d3)] [(.ref d3)])) rfl (by rw [hml]; rfl) (argsL := [(.ref d3)]) (rest := []) (lenOf pd_20 rfl) rfl (own_le rfl) (hb hby d18_33) (fun _ _ => ⟨rfl, e14, (by decide : 1 + 1 ≤ _), (by decide : 4 + 1 ≤ _)⟩)
  dsimp only [Pt.U, Pt.locs, Pt.cells, Pt.slots] at X15 l15 y15 z15 st15 hQ15
  subst l15 y15 z15
  obtain ⟨po_15, rfl, Nq15, c15_0, c15_1, c15_2, c15_3⟩ := hQ15
  replace N_ := Fr.app N_ Nq15
  clear Nq15
  replace S_COMPACT_STRINGS := own_staKeep S_COMPACT_STRINGS c15_0 all0
  replace S__VALUES := own_staKeep S__VALUES c15_0 all0
  replace Q_sq := Q_sq.keep c15_0 nin0 nin0
  replace E_va := E_va.keep c15_0
  replace V_va := V_va.keep c15_0 nin0
  replace E_d0 := E_d0.keep c15_0
  replace F_field_d0 := F_field_d0.keep c15_0 nin0
  replace Q_f0 := Q_f0.keep c15_0 nin0 nin0
  replace E_d1 := E_d1.keep c15_0
  replace F_field_d1 := F_field_d1.keep c15_0 nin0
  replace Q_f1 := Q_f1.keep c15_0 nin0 nin0
  replace E_d2 := E_d2.keep c15_0
  replace F_field_d2 := F_field_d2.keep c15_0 nin0
  replace Q_f2 := Q_f2.keep c15_0 nin0 nin0
  replace E_d3 := E_d3.keep c15_0
  replace F_field_d3 := F_field_d3.keep c15_0 nin0
  replace Q_f3 := Q_f3.keep c15_0 nin0 nin0
  replace Zle := Nat.le_trans Zle c15_0.1
  replace K_ := K_.trans c15_0 all0
  replace c1_2 := c1_2.keep c15_0 nin0
  have ne_sq_po_15 : sq ≠ po_15 := Nat.ne_of_lt (Nat.lt_of_lt_of_le lt_sq_15 c15_1)
  have ne_tq_po_15 : tq ≠ po_15 := Nat.ne_of_lt (Nat.lt_of_lt_of_le lt_tq_15 c15_1)
  have ne_va_po_15 : va ≠ po_15 := Nat.ne_of_lt (Nat.lt_of_lt_of_le lt_va_15 c15_1)
  have ne_d0_po_15 : d0 ≠ po_15 := Nat.ne_of_lt (Nat.lt_of_lt_of_le lt_d0_15 c15_1)
  have ne_f0_po_15 : f0 ≠ po_15 := Nat.ne_of_lt (Nat.lt_of_lt_of_le lt_f0_15 c15_1)
  have ne_t0_po_15 : t0 ≠ po_15 := Nat.ne_of_lt (Nat.lt_of_lt_of_le lt_t0_15 c15_1)
  have ne_d1_po_15 : d1 ≠ po_15 := Nat.ne_of_lt (Nat.lt_of_lt_of_le lt_d1_15 c15_1)
  have ne_f1_po_15 : f1 ≠ po_15 := Nat.ne_of_lt (Nat.lt_of_lt_of_le lt_f1_15 c15_1)
  have ne_t1_po_15 : t1 ≠ po_15 := Nat.ne_of_lt (Nat.lt_of_lt_of_le lt_t1_15 c15_1)
  have ne_d2_po_15 : d2 ≠ po_15 := Nat.ne_of_lt (Nat.lt_of_lt_of_le lt_d2_15 c15_1)
  have ne_f2_po_15 : f2 ≠ po_15 := Nat.ne_of_lt (Nat.lt_of_lt_of_le lt_f2_15 c15_1)
  have ne_t2_po_15 : t2 ≠ po_15 := Nat.ne_of_lt (Nat.lt_of_lt_of_le lt_t2_15 c15_1)
  have ne_d3_po_15 : d3 ≠ po_15 := Nat.ne_of_lt (Nat.lt_of_lt_of_le lt_d3_15 c15_1)
  have ne_f3_po_15 : f3 ≠ po_15 := Nat.ne_of_lt (Nat.lt_of_lt_of_le lt_f3_15 c15_1)
  have ne_t3_po_15 : t3 ≠ po_15 := Nat.ne_of_lt (Nat.lt_of_lt_of_le lt_t3_15 c15_1)
  have ne_nv_1_po_15 : nv_1 ≠ po_15 := Nat.ne_of_lt (Nat.lt_of_lt_of_le lt_nv_1_15 c15_1)
  have g_po_15 : n0 ≤ po_15 := Nat.le_trans Zpre15 c15_1
  have sz_po_15 : h0.size ≤ po_15 := Nat.le_trans szp15 c15_1
  clear lt_sq_15 lt_tq_15 lt_va_15 lt_d0_15 lt_f0_15 lt_t0_15 lt_d1_15 lt_f1_15 lt_t1_15 lt_d2_15 lt_f2_15 lt_t2_15 lt_d3_15 lt_f3_15 lt_t3_15 lt_nv_1_15
  refine own_by (T' := T15) (g' := (mkF m 36 #[.val (.ref sq), .val (.ref nv_1), .val (.int 4), .val (.int 3), .val (.ref d3)] [(.ref po_15)])) (fun t k => st15 _ k) ?_
  clear st15 X14 e14
  exact own_retA X15 hx (t := (.object "java/util/Optional")) Bd.notSynchronized Bd.returns rfl rfl rfl (hb hby d18_36) (by decide) (by decide) (by exact ⟨_, rfl, N_, K_, sz_po_15, c15_2, c15_3⟩)

def Q18v4 (Z : State) (sq : Addr) (va : Addr) (kvv : ClassId) (d0 : Addr) (d1 : Addr) (d2 : Addr) (d3 : Addr) (f0 : Addr) (f1 : Addr) (f2 : Addr) (f3 : Addr) (t0 : Addr) (t1 : Addr) (t2 : Addr) (t3 : Addr) (ky0 : ClassId) (ky1 : ClassId) (ky2 : ClassId) (ky3 : ClassId) (zC : Int32) (tq : Addr) (kq : ClassId) (cq : List Int32) (em : Addr) (h0 : Heap) (n0 : Nat) (v : Option Value) (h : Heap) (L : List Loc) : Prop := v = some (.ref em) ∧ Fr n0 L ∧ Keep h0 h []
theorem ef_18v4 (m : MethodId) (sq : Addr) : entryFrame m #[(.ref sq)] 5 = mkF m 0 #[.val (.ref sq), .unset, .unset, .unset, .unset] [] := by first | (simp [entryFrame, mkF, argsToLocals, Value.category]; done) | rfl
theorem d18_43 : decode prog_6_method_4_code 43 = .ok (.invokestatic 55, 3) := by decide +kernel
theorem pd_23 : parseMethodDescriptor "()Ljava/util/Optional;" = some ⟨[], some (.object "java/util/Optional")⟩ := by decide +kernel
theorem d18_46 : decode prog_6_method_4_code 46 = .ok (.areturn, 1) := by decide +kernel
set_option maxRecDepth 65536 in
set_option maxHeartbeats 40000000 in
theorem rm18v4 (l : Launch) (Z : State) (a0 : Array Value) (hw : ∀ d ∈ tables_1, d.before a0 Z = true) (ws : List Jvm.Cond) (sq : Addr) (va : Addr) (kvv : ClassId) (d0 : Addr) (d1 : Addr) (d2 : Addr) (d3 : Addr) (f0 : Addr) (f1 : Addr) (f2 : Addr) (f3 : Addr) (t0 : Addr) (t1 : Addr) (t2 : Addr) (t3 : Addr) (ky0 : ClassId) (ky1 : ClassId) (ky2 : ClassId) (ky3 : ClassId) (zC : Int32) (tq : Addr) (kq : ClassId) (cq : List Int32) (em : Addr) (h0 : Heap) (n0 : Nat) (Zle : n0 ≤ h0.size) (Q_sq : own_Str Z h0 sq tq kq cq) (S_COMPACT_STRINGS : Sta Z h0 "java/lang/String" "COMPACT_STRINGS" "Z" (.int zC)) (S__VALUES : Sta Z h0 "com/example/gate2/gate2/Dimension" "$VALUES" "[Lcom/example/gate2/gate2/Dimension;" (.ref va)) (E_va : Exa Z h0 va "[Lcom/example/gate2/gate2/Dimension;") (V_va : Arv Z h0 va kvv (.object "com/example/gate2/gate2/Dimension") (4 : Int32) [(.ref d0), (.ref d1), (.ref d2), (.ref d3)] .null) (E_d0 : Exa Z h0 d0 "com/example/gate2/gate2/Dimension") (F_field_d0 : Fld Z h0 d0 "com/example/gate2/gate2/Dimension" "field" "Ljava/lang/String;" (.ref f0)) (Q_f0 : own_Str Z h0 f0 t0 ky0 ([112, 114, 111, 106, 101, 99, 116] : List Int32)) (E_d1 : Exa Z h0 d1 "com/example/gate2/gate2/Dimension") (F_field_d1 : Fld Z h0 d1 "com/example/gate2/gate2/Dimension" "field" "Ljava/lang/String;" (.ref f1)) (Q_f1 : own_Str Z h0 f1 t1 ky1 ([117, 115, 101, 114] : List Int32)) (E_d2 : Exa Z h0 d2 "com/example/gate2/gate2/Dimension") (F_field_d2 : Fld Z h0 d2 "com/example/gate2/gate2/Dimension" "field" "Ljava/lang/String;" (.ref f2)) (Q_f2 : own_Str Z h0 f2 t2 ky2 ([114, 101, 103, 105, 111, 110] : List Int32)) (E_d3 : Exa Z h0 d3 "com/example/gate2/gate2/Dimension") (F_field_d3 : Fld Z h0 d3 "com/example/gate2/gate2/Dimension" "field" "Ljava/lang/String;" (.ref f3)) (Q_f3 : own_Str Z h0 f3 t3 ky3 ([105, 110, 115, 116, 97, 110, 99, 101] : List Int32)) (S_EMPTY : Sta Z h0 "java/util/Optional" "EMPTY" "Ljava/util/Optional;" (.ref em)) (hzC : ¬ zC = 0) (hn0 : ¬ ([112, 114, 111, 106, 101, 99, 116] : List Int32) = cq) (hn1 : ¬ ([117, 115, 101, 114] : List Int32) = cq) (hn2 : ¬ ([114, 101, 103, 105, 111, 110] : List Int32) = cq) (hn3 : ¬ ([105, 110, 115, 116, 97, 110, 99, 101] : List Int32) = cq) :
    MetFree l (⟨"com/example/gate2/gate2/Dimension", "byField", "(Ljava/lang/String;)Ljava/util/Optional;"⟩ : MethodName) (head1 (Jvm.Cond.code (⟨"com/example/gate2/gate2/Dimension", "byField", "(Ljava/lang/String;)Ljava/util/Optional;"⟩ : MethodName) prog_6_method_4_code 5 (some (.object "java/util/Optional")) :: ws) ({ frames := 3, cells := 2, slots := 5, locals := 44 } : Room)) (fun a U => a = #[(.ref sq)] ∧ Z.Warmed39 U.vm ∧ U.heap = h0) (fun _ _ _ _ _ => True) (fun _ U o U' => ∃ v L, o = .returned v ∧ Q18v4 Z sq va kvv d0 d1 d2 d3 f0 f1 f2 f3 t0 t1 t2 t3 ky0 ky1 ky2 ky3 zC tq kq cq em h0 n0 v U'.heap L ∧ FrameEnd U o U' L ({ frames := 3, cells := 2, slots := 5, locals := 44 } : Room).cells ({ frames := 3, cells := 2, slots := 5, locals := 44 } : Room).slots) := by
  refine MetFree.of_bodySF (plainFor_of_name pn_com_example_gate2_gate2_Dimension) hisR ?_
  intro p e s m args below meth c s₁ Bd hml0 hP hK
  obtain ⟨rfl, hZ, hh⟩ := hP
  have hx := Bd.exec
  have hby := Bd.bytes
  have hml : c.maxLocals = 5 := hml0
  have hown : s.vm.findClass "com/example/gate2/gate2/Dimension" = some m.cls := findClass_of_methodNamed Bd.named
  have hnm := (name_of_methodNamed Bd.named Bd.method).1
  have X0 : Stand p l e ({ frames := 3, cells := 2, slots := 5, locals := 44 } : Room) s m #[(.ref sq)] below meth c s₁ [] 0 0 := Stand.of_body Bd
  have e0 : s₁.heap = h0 := by rw [← hh, Bd.state]; rfl
  have N_ := Fr.nil n0
  have K_ := Keep.refl h0 []
  show own_Goes p.tables e below s (Q18v4 Z sq va kvv d0 d1 d2 d3 f0 f1 f2 f3 t0 t1 t2 t3 ky0 ky1 ky2 ky3 zC tq kq cq em h0 n0) ({ frames := 3, cells := 2, slots := 5, locals := 44 } : Room).cells ({ frames := 3, cells := 2, slots := 5, locals := 44 } : Room).slots s₁ (entryFrame m #[(.ref sq)] 5)
  refine own_by (T' := s₁) (g' := (mkF m 0 #[.val (.ref sq), .unset, .unset, .unset, .unset] [])) (fun t k => castTop (ef_18v4 m sq) k) ?_
  have lt_sq_1 := Q_sq.1.lt
  have lt_tq_1 := Q_sq.2.2.2.1.lt
  have lt_va_1 := E_va.lt
  have lt_d0_1 := E_d0.lt
  have lt_f0_1 := Q_f0.1.lt
  have lt_t0_1 := Q_f0.2.2.2.1.lt
  have lt_d1_1 := E_d1.lt
  have lt_f1_1 := Q_f1.1.lt
  have lt_t1_1 := Q_f1.2.2.2.1.lt
  have lt_d2_1 := E_d2.lt
  have lt_f2_1 := Q_f2.1.lt
  have lt_t2_1 := Q_f2.2.2.2.1.lt
  have lt_d3_1 := E_d3.lt
  have lt_f3_1 := Q_f3.1.lt
  have lt_t3_1 := Q_f3.2.2.2.1.lt
  have Zpre1 := Zle
  have szp1 := K_.1
  obtain ⟨_, _, ⟨T1, L1, k1, n1⟩, -, X1, ⟨Lc1, hQ1, l1, y1, z1⟩, st1⟩ := Jvm.LawKit.callS X0 hx (y := (⟨"com/example/gate2/gate2/Dimension", "values", "()[Lcom/example/gate2/gate2/Dimension;"⟩ : MethodName)) hown (mvT hZ (hw _ (own_m 87 rfl))) (mvT hZ (hw _ (own_m 88 rfl))) (mvT hZ (hw _ (own_m 82 rfl))) (mvT hZ (hw _ (own_m 89 rfl))) (by decide) (backOf (W := 0) (rm19 l Z a0 hw [] va kvv d0 d1 d2 d3 h0 n0 Zle S__VALUES E_va V_va) hZ (hw _ (own_m 89 rfl)) (hw _ (own_m 82 rfl)) (by decide) (by decide)) (g := (mkF m 0 #[.val (.ref sq), .unset, .unset, .unset, .unset] [])) rfl (by rw [hml]; rfl) (argsL := []) (rest := []) (lenOf pd_18 rfl) rfl (own_le rfl) (hb hby d18_0) (fun _ _ => ⟨rfl, e0, (by decide : 0 + 1 ≤ _), (by decide : 0 + 4 ≤ _)⟩)
  dsimp only [Pt.U, Pt.locs, Pt.cells, Pt.slots] at X1 l1 y1 z1 st1 hQ1
  subst l1 y1 z1
  obtain ⟨nv_1, rfl, Nq1, c1_0, c1_1, c1_2⟩ := hQ1
  replace N_ := Fr.app N_ Nq1
  clear Nq1
  replace S_COMPACT_STRINGS := own_staKeep S_COMPACT_STRINGS c1_0 all0
  replace S__VALUES := own_staKeep S__VALUES c1_0 all0
  replace S_EMPTY := own_staKeep S_EMPTY c1_0 all0
  replace Q_sq := Q_sq.keep c1_0 nin0 nin0
  replace E_va := E_va.keep c1_0
  replace V_va := V_va.keep c1_0 nin0
  replace E_d0 := E_d0.keep c1_0
  replace F_field_d0 := F_field_d0.keep c1_0 nin0
  replace Q_f0 := Q_f0.keep c1_0 nin0 nin0
  replace E_d1 := E_d1.keep c1_0
  replace F_field_d1 := F_field_d1.keep c1_0 nin0
  replace Q_f1 := Q_f1.keep c1_0 nin0 nin0
  replace E_d2 := E_d2.keep c1_0
  replace F_field_d2 := F_field_d2.keep c1_0 nin0
  replace Q_f2 := Q_f2.keep c1_0 nin0 nin0
  replace E_d3 := E_d3.keep c1_0
  replace F_field_d3 := F_field_d3.keep c1_0 nin0
  replace Q_f3 := Q_f3.keep c1_0 nin0 nin0
  replace Zle := Nat.le_trans Zle c1_0.1
  replace K_ := K_.trans c1_0 all0
  have ne_sq_nv_1 : sq ≠ nv_1 := Nat.ne_of_lt (Nat.lt_of_lt_of_le lt_sq_1 c1_1)
  have ne_tq_nv_1 : tq ≠ nv_1 := Nat.ne_of_lt (Nat.lt_of_lt_of_le lt_tq_1 c1_1)
  have ne_va_nv_1 : va ≠ nv_1 := Nat.ne_of_lt (Nat.lt_of_lt_of_le lt_va_1 c1_1)
  have ne_d0_nv_1 : d0 ≠ nv_1 := Nat.ne_of_lt (Nat.lt_of_lt_of_le lt_d0_1 c1_1)
  have ne_f0_nv_1 : f0 ≠ nv_1 := Nat.ne_of_lt (Nat.lt_of_lt_of_le lt_f0_1 c1_1)
  have ne_t0_nv_1 : t0 ≠ nv_1 := Nat.ne_of_lt (Nat.lt_of_lt_of_le lt_t0_1 c1_1)
  have ne_d1_nv_1 : d1 ≠ nv_1 := Nat.ne_of_lt (Nat.lt_of_lt_of_le lt_d1_1 c1_1)
  have ne_f1_nv_1 : f1 ≠ nv_1 := Nat.ne_of_lt (Nat.lt_of_lt_of_le lt_f1_1 c1_1)
  have ne_t1_nv_1 : t1 ≠ nv_1 := Nat.ne_of_lt (Nat.lt_of_lt_of_le lt_t1_1 c1_1)
  have ne_d2_nv_1 : d2 ≠ nv_1 := Nat.ne_of_lt (Nat.lt_of_lt_of_le lt_d2_1 c1_1)
  have ne_f2_nv_1 : f2 ≠ nv_1 := Nat.ne_of_lt (Nat.lt_of_lt_of_le lt_f2_1 c1_1)
  have ne_t2_nv_1 : t2 ≠ nv_1 := Nat.ne_of_lt (Nat.lt_of_lt_of_le lt_t2_1 c1_1)
  have ne_d3_nv_1 : d3 ≠ nv_1 := Nat.ne_of_lt (Nat.lt_of_lt_of_le lt_d3_1 c1_1)
  have ne_f3_nv_1 : f3 ≠ nv_1 := Nat.ne_of_lt (Nat.lt_of_lt_of_le lt_f3_1 c1_1)
  have ne_t3_nv_1 : t3 ≠ nv_1 := Nat.ne_of_lt (Nat.lt_of_lt_of_le lt_t3_1 c1_1)
  have g_nv_1 : n0 ≤ nv_1 := Nat.le_trans Zpre1 c1_1
  have sz_nv_1 : h0.size ≤ nv_1 := Nat.le_trans szp1 c1_1
  clear lt_sq_1 lt_tq_1 lt_va_1 lt_d0_1 lt_f0_1 lt_t0_1 lt_d1_1 lt_f1_1 lt_t1_1 lt_d2_1 lt_f2_1 lt_t2_1 lt_d3_1 lt_f3_1 lt_t3_1
  refine own_by (T' := T1) (g' := (mkF m 3 #[.val (.ref sq), .unset, .unset, .unset, .unset] [(.ref nv_1)])) (fun t k => st1 _ k) ?_
  clear st1
  refine own_by (T' := T1) (g' := (mkF m 4 #[.val (.ref sq), .val (.ref nv_1), .unset, .unset, .unset] [])) (fun t k => XS.astoreN X1.here hx rfl (hb hby d18_3) rfl rfl (l' := #[.val (.ref sq), .val (.ref nv_1), .unset, .unset, .unset]) rfl k) ?_
  refine own_by (T' := T1) (g' := (mkF m 5 #[.val (.ref sq), .val (.ref nv_1), .unset, .unset, .unset] [(.ref nv_1)])) (fun t k => XS.aloadN X1.here hx rfl (hb hby d18_4) rfl rfl k) ?_
  obtain ⟨cl2, Ar2, -, S2, N2, -, -⟩ := id c1_2
  have st2 : ∀ t, Steps p.tables e below (T1.setTop (mkF m 6 #[.val (.ref sq), .val (.ref nv_1), .unset, .unset, .unset] [(.int 4)])) t → Steps p.tables e below (T1.setTop (mkF m 5 #[.val (.ref sq), .val (.ref nv_1), .unset, .unset, .unset] [(.ref nv_1)])) t := fun t k => X1.arraylength hx (by exact Ar2.1) (State.isArrayOf_alike hZ.alike Ar2.2.1) (g := (mkF m 5 #[.val (.ref sq), .val (.ref nv_1), .unset, .unset, .unset] [(.ref nv_1)])) rfl rfl (hb hby d18_5) _ (by rw [len_of S2 N2]; exact k)
  refine own_by (T' := T1) (g' := (mkF m 6 #[.val (.ref sq), .val (.ref nv_1), .unset, .unset, .unset] [(.int 4)])) (fun t k => st2 t k) ?_
  clear st2
  refine own_by (T' := T1) (g' := (mkF m 7 #[.val (.ref sq), .val (.ref nv_1), .val (.int 4), .unset, .unset] [])) (fun t k => XS.istoreN X1.here hx rfl (hb hby d18_6) rfl (l' := #[.val (.ref sq), .val (.ref nv_1), .val (.int 4), .unset, .unset]) rfl k) ?_
  refine own_by (T' := T1) (g' := (mkF m 8 #[.val (.ref sq), .val (.ref nv_1), .val (.int 4), .unset, .unset] [(.int 0)])) (fun t k => XS.iconst X1.here hx rfl (hb hby d18_7) k) ?_
  refine own_by (T' := T1) (g' := (mkF m 9 #[.val (.ref sq), .val (.ref nv_1), .val (.int 4), .val (.int 0), .unset] [])) (fun t k => XS.istoreN X1.here hx rfl (hb hby d18_8) rfl (l' := #[.val (.ref sq), .val (.ref nv_1), .val (.int 4), .val (.int 0), .unset]) rfl k) ?_
  refine own_by (T' := T1) (g' := (mkF m 10 #[.val (.ref sq), .val (.ref nv_1), .val (.int 4), .val (.int 0), .unset] [(.int 0)])) (fun t k => XS.iloadN X1.here hx rfl (hb hby d18_9) rfl k) ?_
  refine own_by (T' := T1) (g' := (mkF m 11 #[.val (.ref sq), .val (.ref nv_1), .val (.int 4), .val (.int 0), .unset] [(.int 4), (.int 0)])) (fun t k => XS.iloadN X1.here hx rfl (hb hby d18_10) rfl k) ?_
  refine own_by (T' := T1) (g' := (mkF m 14 #[.val (.ref sq), .val (.ref nv_1), .val (.int 4), .val (.int 0), .unset] [])) (fun t k => XS.icmpNo X1.here hx rfl (hb hby d18_11) rfl (tlt (by decide)).2.1 k) ?_
  refine own_by (T' := T1) (g' := (mkF m 15 #[.val (.ref sq), .val (.ref nv_1), .val (.int 4), .val (.int 0), .unset] [(.ref nv_1)])) (fun t k => XS.aloadN X1.here hx rfl (hb hby d18_14) rfl rfl k) ?_
  refine own_by (T' := T1) (g' := (mkF m 16 #[.val (.ref sq), .val (.ref nv_1), .val (.int 4), .val (.int 0), .unset] [(.int 0), (.ref nv_1)])) (fun t k => XS.iloadN X1.here hx rfl (hb hby d18_15) rfl k) ?_
  obtain ⟨cl3, Ar3, q3, S3, N3, Hs3, G3⟩ := id c1_2
  have hin3 : ¬ ((0 : Int32) < 0 ∨ cl3.slots.size ≤ ((0 : Int32)).toNatClampNeg) := inb_of S3 ⟨by decide, by decide⟩
  have hat3 : cl3.slots[((0 : Int32)).toNatClampNeg]? = some (.ref d0) := Hs3.at hin3 rfl
  refine own_by (T' := T1) (g' := (mkF m 17 #[.val (.ref sq), .val (.ref nv_1), .val (.int 4), .val (.int 0), .unset] [(.ref d0)])) (fun t k => X1.aaload hx (j := (0 : Int32)) (v := (.ref d0)) (by exact Ar3.1) (State.isArrayOf_alike hZ.alike Ar3.2.1) rfl Ar3.2.2 hin3 hat3 (g := (mkF m 16 #[.val (.ref sq), .val (.ref nv_1), .val (.int 4), .val (.int 0), .unset] [(.int 0), (.ref nv_1)])) rfl rfl (hb hby d18_16) _ k) ?_
  clear hat3 hin3 G3 Hs3 N3 S3 q3 Ar3 cl3
  refine own_by (T' := T1) (g' := (mkF m 19 #[.val (.ref sq), .val (.ref nv_1), .val (.int 4), .val (.int 0), .val (.ref d0)] [])) (fun t k => XS.astore X1.here hx rfl (hb hby d18_17) rfl rfl (l' := #[.val (.ref sq), .val (.ref nv_1), .val (.int 4), .val (.int 0), .val (.ref d0)]) rfl k) ?_
  refine own_by (T' := T1) (g' := (mkF m 21 #[.val (.ref sq), .val (.ref nv_1), .val (.int 4), .val (.int 0), .val (.ref d0)] [(.ref d0)])) (fun t k => XS.aload X1.here hx rfl (hb hby d18_19) rfl rfl k) ?_
  obtain ⟨T4, X4, e4, st4⟩ := getF X1 hx hZ hown (host := "") (Or.inl (hw _ (own_m 105 rfl))) Via.refl rfl F_field_d0 (g := (mkF m 21 #[.val (.ref sq), .val (.ref nv_1), .val (.int 4), .val (.int 0), .val (.ref d0)] [(.ref d0)])) rfl rfl (hb hby d18_21)
  refine own_by (T' := T4) (g' := (mkF m 24 #[.val (.ref sq), .val (.ref nv_1), .val (.int 4), .val (.int 0), .val (.ref d0)] [(.ref f0)])) (fun t k => st4 t k) ?_
  clear st4 X1
  refine own_by (T' := T4) (g' := (mkF m 25 #[.val (.ref sq), .val (.ref nv_1), .val (.int 4), .val (.int 0), .val (.ref d0)] [(.ref sq), (.ref f0)])) (fun t k => XS.aloadN X4.here hx rfl (hb hby d18_24) rfl rfl k) ?_
  have E_f0 := Q_f0.1
  obtain ⟨cq5, kq5, q5a, q5b, q5c⟩ := isOf hZ e4 E_f0
  obtain ⟨_, _, ⟨T5, L5, k5, n5⟩, -, X5, ⟨Lc5, hQ5, l5, y5, z5⟩, st5⟩ := X4.virtualBack hx (y := (⟨"java/lang/String", "equals", "(Ljava/lang/Object;)Z"⟩ : MethodName)) (z := (⟨"java/lang/String", "equals", "(Ljava/lang/Object;)Z"⟩ : MethodName)) hown (mvT hZ (hw _ (own_m 107 rfl))) (mvT hZ (hw _ (own_m 73 rfl))) (notFace_of_selects (args := #[]) (mvT hZ (hw _ (own_m 75 rfl)))) (mvT hZ (hw _ (own_m 75 rfl))) (mvT hZ (hw _ (own_m 74 rfl))) (by decide) (StrChars.Road.eqW (W := 0) hZ (own_hwE hw) (kI := 4) (hw _ (own_m 2 rfl)) Q_f0.1 Q_f0.2.1 Q_f0.2.2.1 Q_f0.2.2.2.1 (own_cod Q_f0) (own_w16 Q_f0) (own_l4 Q_f0) Q_sq.1 Q_sq.2.1 Q_sq.2.2.1 Q_sq.2.2.2.1 (own_cod Q_sq) (own_w16 Q_sq) (own_l4 Q_sq) S_COMPACT_STRINGS hzC (by decide) (by decide)) q5a q5c (g := (mkF m 25 #[.val (.ref sq), .val (.ref nv_1), .val (.int 4), .val (.int 0), .val (.ref d0)] [(.ref sq), (.ref f0)])) rfl (by rw [hml]; rfl) (Steps.refl _) (argsL := [(.ref sq)]) (rest := []) (lenOf pd_15 rfl) rfl (own_le rfl) (hb hby d18_25) (fun _ _ => ⟨rfl, e4, (by decide : 1 + 0 ≤ _), (by decide : 4 + 0 ≤ _)⟩)
  dsimp only [Pt.U, Pt.locs, Pt.cells, Pt.slots] at X5 l5 y5 z5 st5 hQ5
  subst l5 y5 z5
  rcases hQ5 with ⟨⟨rfl, hq5⟩ | ⟨rfl, hq5⟩, rfl, e5⟩
  · exact absurd hq5 hn0
  replace N_ := Fr.app N_ (Fr.nil n0)
  refine own_by (T' := T5) (g' := (mkF m 28 #[.val (.ref sq), .val (.ref nv_1), .val (.int 4), .val (.int 0), .val (.ref d0)] [(.int 0)])) (fun t k => st5.trans k) ?_
  clear st5 X4 e4
  refine own_by (T' := T5) (g' := (mkF m 37 #[.val (.ref sq), .val (.ref nv_1), .val (.int 4), .val (.int 0), .val (.ref d0)] [])) (fun t k => XS.ifYes X5.here hx rfl (pc0 := 28) (pc' := 37) rfl (hb hby d18_28) rfl ((if0 _ _).trans (teq (by decide)).1) (by decide) (by decide) k) ?_
  refine own_by (T' := T5) (g' := (mkF m 40 #[.val (.ref sq), .val (.ref nv_1), .val (.int 4), .val (.int 1), .val (.ref d0)] [])) (fun t k => XS.iinc X5.here hx rfl (hb hby d18_37) rfl (l' := #[.val (.ref sq), .val (.ref nv_1), .val (.int 4), .val (.int 1), .val (.ref d0)]) rfl k) ?_
  refine own_by (T' := T5) (g' := (mkF m 9 #[.val (.ref sq), .val (.ref nv_1), .val (.int 4), .val (.int 1), .val (.ref d0)] [])) (fun t k => XS.goto X5.here hx rfl (pc0 := 40) (pc' := 9) rfl (hb hby d18_40) (by decide) (by decide) k) ?_
  refine own_by (T' := T5) (g' := (mkF m 10 #[.val (.ref sq), .val (.ref nv_1), .val (.int 4), .val (.int 1), .val (.ref d0)] [(.int 1)])) (fun t k => XS.iloadN X5.here hx rfl (hb hby d18_9) rfl k) ?_
  refine own_by (T' := T5) (g' := (mkF m 11 #[.val (.ref sq), .val (.ref nv_1), .val (.int 4), .val (.int 1), .val (.ref d0)] [(.int 4), (.int 1)])) (fun t k => XS.iloadN X5.here hx rfl (hb hby d18_10) rfl k) ?_
  refine own_by (T' := T5) (g' := (mkF m 14 #[.val (.ref sq), .val (.ref nv_1), .val (.int 4), .val (.int 1), .val (.ref d0)] [])) (fun t k => XS.icmpNo X5.here hx rfl (hb hby d18_11) rfl (tlt (by decide)).2.1 k) ?_
  refine own_by (T' := T5) (g' := (mkF m 15 #[.val (.ref sq), .val (.ref nv_1), .val (.int 4), .val (.int 1), .val (.ref d0)] [(.ref nv_1)])) (fun t k => XS.aloadN X5.here hx rfl (hb hby d18_14) rfl rfl k) ?_
  refine own_by (T' := T5) (g' := (mkF m 16 #[.val (.ref sq), .val (.ref nv_1), .val (.int 4), .val (.int 1), .val (.ref d0)] [(.int 1), (.ref nv_1)])) (fun t k => XS.iloadN X5.here hx rfl (hb hby d18_15) rfl k) ?_
  obtain ⟨cl6, Ar6, q6, S6, N6, Hs6, G6⟩ := id c1_2
  have hin6 : ¬ ((1 : Int32) < 0 ∨ cl6.slots.size ≤ ((1 : Int32)).toNatClampNeg) := inb_of S6 ⟨by decide, by decide⟩
  have hat6 : cl6.slots[((1 : Int32)).toNatClampNeg]? = some (.ref d1) := Hs6.at hin6 rfl
  refine own_by (T' := T5) (g' := (mkF m 17 #[.val (.ref sq), .val (.ref nv_1), .val (.int 4), .val (.int 1), .val (.ref d0)] [(.ref d1)])) (fun t k => X5.aaload hx (j := (1 : Int32)) (v := (.ref d1)) (by rw [e5]; exact Ar6.1) (State.isArrayOf_alike hZ.alike Ar6.2.1) rfl Ar6.2.2 hin6 hat6 (g := (mkF m 16 #[.val (.ref sq), .val (.ref nv_1), .val (.int 4), .val (.int 1), .val (.ref d0)] [(.int 1), (.ref nv_1)])) rfl rfl (hb hby d18_16) _ k) ?_
  clear hat6 hin6 G6 Hs6 N6 S6 q6 Ar6 cl6
  refine own_by (T' := T5) (g' := (mkF m 19 #[.val (.ref sq), .val (.ref nv_1), .val (.int 4), .val (.int 1), .val (.ref d1)] [])) (fun t k => XS.astore X5.here hx rfl (hb hby d18_17) rfl rfl (l' := #[.val (.ref sq), .val (.ref nv_1), .val (.int 4), .val (.int 1), .val (.ref d1)]) rfl k) ?_
  refine own_by (T' := T5) (g' := (mkF m 21 #[.val (.ref sq), .val (.ref nv_1), .val (.int 4), .val (.int 1), .val (.ref d1)] [(.ref d1)])) (fun t k => XS.aload X5.here hx rfl (hb hby d18_19) rfl rfl k) ?_
  obtain ⟨T7, X7, e7, st7⟩ := getF X5 hx hZ hown (host := "") (Or.inl (hw _ (own_m 105 rfl))) Via.refl e5 F_field_d1 (g := (mkF m 21 #[.val (.ref sq), .val (.ref nv_1), .val (.int 4), .val (.int 1), .val (.ref d1)] [(.ref d1)])) rfl rfl (hb hby d18_21)
  refine own_by (T' := T7) (g' := (mkF m 24 #[.val (.ref sq), .val (.ref nv_1), .val (.int 4), .val (.int 1), .val (.ref d1)] [(.ref f1)])) (fun t k => st7 t k) ?_
  clear st7 X5 e5
  refine own_by (T' := T7) (g' := (mkF m 25 #[.val (.ref sq), .val (.ref nv_1), .val (.int 4), .val (.int 1), .val (.ref d1)] [(.ref sq), (.ref f1)])) (fun t k => XS.aloadN X7.here hx rfl (hb hby d18_24) rfl rfl k) ?_
  have E_f1 := Q_f1.1
  obtain ⟨cq8, kq8, q8a, q8b, q8c⟩ := isOf hZ e7 E_f1
  obtain ⟨_, _, ⟨T8, L8, k8, n8⟩, -, X8, ⟨Lc8, hQ8, l8, y8, z8⟩, st8⟩ := X7.virtualBack hx (y := (⟨"java/lang/String", "equals", "(Ljava/lang/Object;)Z"⟩ : MethodName)) (z := (⟨"java/lang/String", "equals", "(Ljava/lang/Object;)Z"⟩ : MethodName)) hown (mvT hZ (hw _ (own_m 107 rfl))) (mvT hZ (hw _ (own_m 73 rfl))) (notFace_of_selects (args := #[]) (mvT hZ (hw _ (own_m 75 rfl)))) (mvT hZ (hw _ (own_m 75 rfl))) (mvT hZ (hw _ (own_m 74 rfl))) (by decide) (StrChars.Road.eqW (W := 0) hZ (own_hwE hw) (kI := 4) (hw _ (own_m 2 rfl)) Q_f1.1 Q_f1.2.1 Q_f1.2.2.1 Q_f1.2.2.2.1 (own_cod Q_f1) (own_w16 Q_f1) (own_l4 Q_f1) Q_sq.1 Q_sq.2.1 Q_sq.2.2.1 Q_sq.2.2.2.1 (own_cod Q_sq) (own_w16 Q_sq) (own_l4 Q_sq) S_COMPACT_STRINGS hzC (by decide) (by decide)) q8a q8c (g := (mkF m 25 #[.val (.ref sq), .val (.ref nv_1), .val (.int 4), .val (.int 1), .val (.ref d1)] [(.ref sq), (.ref f1)])) rfl (by rw [hml]; rfl) (Steps.refl _) (argsL := [(.ref sq)]) (rest := []) (lenOf pd_15 rfl) rfl (own_le rfl) (hb hby d18_25) (fun _ _ => ⟨rfl, e7, (by decide : 1 + 0 ≤ _), (by decide : 4 + 0 ≤ _)⟩)
  dsimp only [Pt.U, Pt.locs, Pt.cells, Pt.slots] at X8 l8 y8 z8 st8 hQ8
  subst l8 y8 z8
  rcases hQ8 with ⟨⟨rfl, hq8⟩ | ⟨rfl, hq8⟩, rfl, e8⟩
  · exact absurd hq8 hn1
  replace N_ := Fr.app N_ (Fr.nil n0)
  refine own_by (T' := T8) (g' := (mkF m 28 #[.val (.ref sq), .val (.ref nv_1), .val (.int 4), .val (.int 1), .val (.ref d1)] [(.int 0)])) (fun t k => st8.trans k) ?_
  clear st8 X7 e7
  refine own_by (T' := T8) (g' := (mkF m 37 #[.val (.ref sq), .val (.ref nv_1), .val (.int 4), .val (.int 1), .val (.ref d1)] [])) (fun t k => XS.ifYes X8.here hx rfl (pc0 := 28) (pc' := 37) rfl (hb hby d18_28) rfl ((if0 _ _).trans (teq (by decide)).1) (by decide) (by decide) k) ?_
  refine own_by (T' := T8) (g' := (mkF m 40 #[.val (.ref sq), .val (.ref nv_1), .val (.int 4), .val (.int 2), .val (.ref d1)] [])) (fun t k => XS.iinc X8.here hx rfl (hb hby d18_37) rfl (l' := #[.val (.ref sq), .val (.ref nv_1), .val (.int 4), .val (.int 2), .val (.ref d1)]) rfl k) ?_
  refine own_by (T' := T8) (g' := (mkF m 9 #[.val (.ref sq), .val (.ref nv_1), .val (.int 4), .val (.int 2), .val (.ref d1)] [])) (fun t k => XS.goto X8.here hx rfl (pc0 := 40) (pc' := 9) rfl (hb hby d18_40) (by decide) (by decide) k) ?_
  refine own_by (T' := T8) (g' := (mkF m 10 #[.val (.ref sq), .val (.ref nv_1), .val (.int 4), .val (.int 2), .val (.ref d1)] [(.int 2)])) (fun t k => XS.iloadN X8.here hx rfl (hb hby d18_9) rfl k) ?_
  refine own_by (T' := T8) (g' := (mkF m 11 #[.val (.ref sq), .val (.ref nv_1), .val (.int 4), .val (.int 2), .val (.ref d1)] [(.int 4), (.int 2)])) (fun t k => XS.iloadN X8.here hx rfl (hb hby d18_10) rfl k) ?_
  refine own_by (T' := T8) (g' := (mkF m 14 #[.val (.ref sq), .val (.ref nv_1), .val (.int 4), .val (.int 2), .val (.ref d1)] [])) (fun t k => XS.icmpNo X8.here hx rfl (hb hby d18_11) rfl (tlt (by decide)).2.1 k) ?_
  refine own_by (T' := T8) (g' := (mkF m 15 #[.val (.ref sq), .val (.ref nv_1), .val (.int 4), .val (.int 2), .val (.ref d1)] [(.ref nv_1)])) (fun t k => XS.aloadN X8.here hx rfl (hb hby d18_14) rfl rfl k) ?_
  refine own_by (T' := T8) (g' := (mkF m 16 #[.val (.ref sq), .val (.ref nv_1), .val (.int 4), .val (.int 2), .val (.ref d1)] [(.int 2), (.ref nv_1)])) (fun t k => XS.iloadN X8.here hx rfl (hb hby d18_15) rfl k) ?_
  obtain ⟨cl9, Ar9, q9, S9, N9, Hs9, G9⟩ := id c1_2
  have hin9 : ¬ ((2 : Int32) < 0 ∨ cl9.slots.size ≤ ((2 : Int32)).toNatClampNeg) := inb_of S9 ⟨by decide, by decide⟩
  have hat9 : cl9.slots[((2 : Int32)).toNatClampNeg]? = some (.ref d2) := Hs9.at hin9 rfl
  refine own_by (T' := T8) (g' := (mkF m 17 #[.val (.ref sq), .val (.ref nv_1), .val (.int 4), .val (.int 2), .val (.ref d1)] [(.ref d2)])) (fun t k => X8.aaload hx (j := (2 : Int32)) (v := (.ref d2)) (by rw [e8]; exact Ar9.1) (State.isArrayOf_alike hZ.alike Ar9.2.1) rfl Ar9.2.2 hin9 hat9 (g := (mkF m 16 #[.val (.ref sq), .val (.ref nv_1), .val (.int 4), .val (.int 2), .val (.ref d1)] [(.int 2), (.ref nv_1)])) rfl rfl (hb hby d18_16) _ k) ?_
  clear hat9 hin9 G9 Hs9 N9 S9 q9 Ar9 cl9
  refine own_by (T' := T8) (g' := (mkF m 19 #[.val (.ref sq), .val (.ref nv_1), .val (.int 4), .val (.int 2), .val (.ref d2)] [])) (fun t k => XS.astore X8.here hx rfl (hb hby d18_17) rfl rfl (l' := #[.val (.ref sq), .val (.ref nv_1), .val (.int 4), .val (.int 2), .val (.ref d2)]) rfl k) ?_
  refine own_by (T' := T8) (g' := (mkF m 21 #[.val (.ref sq), .val (.ref nv_1), .val (.int 4), .val (.int 2), .val (.ref d2)] [(.ref d2)])) (fun t k => XS.aload X8.here hx rfl (hb hby d18_19) rfl rfl k) ?_
  obtain ⟨T10, X10, e10, st10⟩ := getF X8 hx hZ hown (host := "") (Or.inl (hw _ (own_m 105 rfl))) Via.refl e8 F_field_d2 (g := (mkF m 21 #[.val (.ref sq), .val (.ref nv_1), .val (.int 4), .val (.int 2), .val (.ref d2)] [(.ref d2)])) rfl rfl (hb hby d18_21)
  refine own_by (T' := T10) (g' := (mkF m 24 #[.val (.ref sq), .val (.ref nv_1), .val (.int 4), .val (.int 2), .val (.ref d2)] [(.ref f2)])) (fun t k => st10 t k) ?_
  clear st10 X8 e8
  refine own_by (T' := T10) (g' := (mkF m 25 #[.val (.ref sq), .val (.ref nv_1), .val (.int 4), .val (.int 2), .val (.ref d2)] [(.ref sq), (.ref f2)])) (fun t k => XS.aloadN X10.here hx rfl (hb hby d18_24) rfl rfl k) ?_
  have E_f2 := Q_f2.1
  obtain ⟨cq11, kq11, q11a, q11b, q11c⟩ := isOf hZ e10 E_f2
  obtain ⟨_, _, ⟨T11, L11, k11, n11⟩, -, X11, ⟨Lc11, hQ11, l11, y11, z11⟩, st11⟩ := X10.virtualBack hx (y := (⟨"java/lang/String", "equals", "(Ljava/lang/Object;)Z"⟩ : MethodName)) (z := (⟨"java/lang/String", "equals", "(Ljava/lang/Object;)Z"⟩ : MethodName)) hown (mvT hZ (hw _ (own_m 107 rfl))) (mvT hZ (hw _ (own_m 73 rfl))) (notFace_of_selects (args := #[]) (mvT hZ (hw _ (own_m 75 rfl)))) (mvT hZ (hw _ (own_m 75 rfl))) (mvT hZ (hw _ (own_m 74 rfl))) (by decide) (StrChars.Road.eqW (W := 0) hZ (own_hwE hw) (kI := 4) (hw _ (own_m 2 rfl)) Q_f2.1 Q_f2.2.1 Q_f2.2.2.1 Q_f2.2.2.2.1 (own_cod Q_f2) (own_w16 Q_f2) (own_l4 Q_f2) Q_sq.1 Q_sq.2.1 Q_sq.2.2.1 Q_sq.2.2.2.1 (own_cod Q_sq) (own_w16 Q_sq) (own_l4 Q_sq) S_COMPACT_STRINGS hzC (by decide) (by decide)) q11a q11c (g := (mkF m 25 #[.val (.ref sq), .val (.ref nv_1), .val (.int 4), .val (.int 2), .val (.ref d2)] [(.ref sq), (.ref f2)])) rfl (by rw [hml]; rfl) (Steps.refl _) (argsL := [(.ref sq)]) (rest := []) (lenOf pd_15 rfl) rfl (own_le rfl) (hb hby d18_25) (fun _ _ => ⟨rfl, e10, (by decide : 1 + 0 ≤ _), (by decide : 4 + 0 ≤ _)⟩)
  dsimp only [Pt.U, Pt.locs, Pt.cells, Pt.slots] at X11 l11 y11 z11 st11 hQ11
  subst l11 y11 z11
  rcases hQ11 with ⟨⟨rfl, hq11⟩ | ⟨rfl, hq11⟩, rfl, e11⟩
  · exact absurd hq11 hn2
  replace N_ := Fr.app N_ (Fr.nil n0)
  refine own_by (T' := T11) (g' := (mkF m 28 #[.val (.ref sq), .val (.ref nv_1), .val (.int 4), .val (.int 2), .val (.ref d2)] [(.int 0)])) (fun t k => st11.trans k) ?_
  clear st11 X10 e10
  refine own_by (T' := T11) (g' := (mkF m 37 #[.val (.ref sq), .val (.ref nv_1), .val (.int 4), .val (.int 2), .val (.ref d2)] [])) (fun t k => XS.ifYes X11.here hx rfl (pc0 := 28) (pc' := 37) rfl (hb hby d18_28) rfl ((if0 _ _).trans (teq (by decide)).1) (by decide) (by decide) k) ?_
  refine own_by (T' := T11) (g' := (mkF m 40 #[.val (.ref sq), .val (.ref nv_1), .val (.int 4), .val (.int 3), .val (.ref d2)] [])) (fun t k => XS.iinc X11.here hx rfl (hb hby d18_37) rfl (l' := #[.val (.ref sq), .val (.ref nv_1), .val (.int 4), .val (.int 3), .val (.ref d2)]) rfl k) ?_
  refine own_by (T' := T11) (g' := (mkF m 9 #[.val (.ref sq), .val (.ref nv_1), .val (.int 4), .val (.int 3), .val (.ref d2)] [])) (fun t k => XS.goto X11.here hx rfl (pc0 := 40) (pc' := 9) rfl (hb hby d18_40) (by decide) (by decide) k) ?_
  refine own_by (T' := T11) (g' := (mkF m 10 #[.val (.ref sq), .val (.ref nv_1), .val (.int 4), .val (.int 3), .val (.ref d2)] [(.int 3)])) (fun t k => XS.iloadN X11.here hx rfl (hb hby d18_9) rfl k) ?_
  refine own_by (T' := T11) (g' := (mkF m 11 #[.val (.ref sq), .val (.ref nv_1), .val (.int 4), .val (.int 3), .val (.ref d2)] [(.int 4), (.int 3)])) (fun t k => XS.iloadN X11.here hx rfl (hb hby d18_10) rfl k) ?_
  refine own_by (T' := T11) (g' := (mkF m 14 #[.val (.ref sq), .val (.ref nv_1), .val (.int 4), .val (.int 3), .val (.ref d2)] [])) (fun t k => XS.icmpNo X11.here hx rfl (hb hby d18_11) rfl (tlt (by decide)).2.1 k) ?_
  refine own_by (T' := T11) (g' := (mkF m 15 #[.val (.ref sq), .val (.ref nv_1), .val (.int 4), .val (.int 3), .val (.ref d2)] [(.ref nv_1)])) (fun t k => XS.aloadN X11.here hx rfl (hb hby d18_14) rfl rfl k) ?_
  refine own_by (T' := T11) (g' := (mkF m 16 #[.val (.ref sq), .val (.ref nv_1), .val (.int 4), .val (.int 3), .val (.ref d2)] [(.int 3), (.ref nv_1)])) (fun t k => XS.iloadN X11.here hx rfl (hb hby d18_15) rfl k) ?_
  obtain ⟨cl12, Ar12, q12, S12, N12, Hs12, G12⟩ := id c1_2
  have hin12 : ¬ ((3 : Int32) < 0 ∨ cl12.slots.size ≤ ((3 : Int32)).toNatClampNeg) := inb_of S12 ⟨by decide, by decide⟩
  have hat12 : cl12.slots[((3 : Int32)).toNatClampNeg]? = some (.ref d3) := Hs12.at hin12 rfl
  refine own_by (T' := T11) (g' := (mkF m 17 #[.val (.ref sq), .val (.ref nv_1), .val (.int 4), .val (.int 3), .val (.ref d2)] [(.ref d3)])) (fun t k => X11.aaload hx (j := (3 : Int32)) (v := (.ref d3)) (by rw [e11]; exact Ar12.1) (State.isArrayOf_alike hZ.alike Ar12.2.1) rfl Ar12.2.2 hin12 hat12 (g := (mkF m 16 #[.val (.ref sq), .val (.ref nv_1), .val (.int 4), .val (.int 3), .val (.ref d2)] [(.int 3), (.ref nv_1)])) rfl rfl (hb hby d18_16) _ k) ?_
  clear hat12 hin12 G12 Hs12 N12 S12 q12 Ar12 cl12
  refine own_by (T' := T11) (g' := (mkF m 19 #[.val (.ref sq), .val (.ref nv_1), .val (.int 4), .val (.int 3), .val (.ref d3)] [])) (fun t k => XS.astore X11.here hx rfl (hb hby d18_17) rfl rfl (l' := #[.val (.ref sq), .val (.ref nv_1), .val (.int 4), .val (.int 3), .val (.ref d3)]) rfl k) ?_
  refine own_by (T' := T11) (g' := (mkF m 21 #[.val (.ref sq), .val (.ref nv_1), .val (.int 4), .val (.int 3), .val (.ref d3)] [(.ref d3)])) (fun t k => XS.aload X11.here hx rfl (hb hby d18_19) rfl rfl k) ?_
  obtain ⟨T13, X13, e13, st13⟩ := getF X11 hx hZ hown (host := "") (Or.inl (hw _ (own_m 105 rfl))) Via.refl e11 F_field_d3 (g := (mkF m 21 #[.val (.ref sq), .val (.ref nv_1), .val (.int 4), .val (.int 3), .val (.ref d3)] [(.ref d3)])) rfl rfl (hb hby d18_21)
  refine own_by (T' := T13) (g' := (mkF m 24 #[.val (.ref sq), .val (.ref nv_1), .val (.int 4), .val (.int 3), .val (.ref d3)] [(.ref f3)])) (fun t k => st13 t k) ?_
  clear st13 X11 e11
  refine own_by (T' := T13) (g' := (mkF m 25 #[.val (.ref sq), .val (.ref nv_1), .val (.int 4), .val (.int 3), .val (.ref d3)] [(.ref sq), (.ref f3)])) (fun t k => XS.aloadN X13.here hx rfl (hb hby d18_24) rfl rfl k) ?_
  have E_f3 := Q_f3.1
  obtain ⟨cq14, kq14, q14a, q14b, q14c⟩ := isOf hZ e13 E_f3
  obtain ⟨_, _, ⟨T14, L14, k14, n14⟩, -, X14, ⟨Lc14, hQ14, l14, y14, z14⟩, st14⟩ := X13.virtualBack hx (y := (⟨"java/lang/String", "equals", "(Ljava/lang/Object;)Z"⟩ : MethodName)) (z := (⟨"java/lang/String", "equals", "(Ljava/lang/Object;)Z"⟩ : MethodName)) hown (mvT hZ (hw _ (own_m 107 rfl))) (mvT hZ (hw _ (own_m 73 rfl))) (notFace_of_selects (args := #[]) (mvT hZ (hw _ (own_m 75 rfl)))) (mvT hZ (hw _ (own_m 75 rfl))) (mvT hZ (hw _ (own_m 74 rfl))) (by decide) (StrChars.Road.eqW (W := 0) hZ (own_hwE hw) (kI := 4) (hw _ (own_m 2 rfl)) Q_f3.1 Q_f3.2.1 Q_f3.2.2.1 Q_f3.2.2.2.1 (own_cod Q_f3) (own_w16 Q_f3) (own_l4 Q_f3) Q_sq.1 Q_sq.2.1 Q_sq.2.2.1 Q_sq.2.2.2.1 (own_cod Q_sq) (own_w16 Q_sq) (own_l4 Q_sq) S_COMPACT_STRINGS hzC (by decide) (by decide)) q14a q14c (g := (mkF m 25 #[.val (.ref sq), .val (.ref nv_1), .val (.int 4), .val (.int 3), .val (.ref d3)] [(.ref sq), (.ref f3)])) rfl (by rw [hml]; rfl) (Steps.refl _) (argsL := [(.ref sq)]) (rest := []) (lenOf pd_15 rfl) rfl (own_le rfl) (hb hby d18_25) (fun _ _ => ⟨rfl, e13, (by decide : 1 + 0 ≤ _), (by decide : 4 + 0 ≤ _)⟩)
  dsimp only [Pt.U, Pt.locs, Pt.cells, Pt.slots] at X14 l14 y14 z14 st14 hQ14
  subst l14 y14 z14
  rcases hQ14 with ⟨⟨rfl, hq14⟩ | ⟨rfl, hq14⟩, rfl, e14⟩
  · exact absurd hq14 hn3
  replace N_ := Fr.app N_ (Fr.nil n0)
  refine own_by (T' := T14) (g' := (mkF m 28 #[.val (.ref sq), .val (.ref nv_1), .val (.int 4), .val (.int 3), .val (.ref d3)] [(.int 0)])) (fun t k => st14.trans k) ?_
  clear st14 X13 e13
  refine own_by (T' := T14) (g' := (mkF m 37 #[.val (.ref sq), .val (.ref nv_1), .val (.int 4), .val (.int 3), .val (.ref d3)] [])) (fun t k => XS.ifYes X14.here hx rfl (pc0 := 28) (pc' := 37) rfl (hb hby d18_28) rfl ((if0 _ _).trans (teq (by decide)).1) (by decide) (by decide) k) ?_
  refine own_by (T' := T14) (g' := (mkF m 40 #[.val (.ref sq), .val (.ref nv_1), .val (.int 4), .val (.int 4), .val (.ref d3)] [])) (fun t k => XS.iinc X14.here hx rfl (hb hby d18_37) rfl (l' := #[.val (.ref sq), .val (.ref nv_1), .val (.int 4), .val (.int 4), .val (.ref d3)]) rfl k) ?_
  refine own_by (T' := T14) (g' := (mkF m 9 #[.val (.ref sq), .val (.ref nv_1), .val (.int 4), .val (.int 4), .val (.ref d3)] [])) (fun t k => XS.goto X14.here hx rfl (pc0 := 40) (pc' := 9) rfl (hb hby d18_40) (by decide) (by decide) k) ?_
  refine own_by (T' := T14) (g' := (mkF m 10 #[.val (.ref sq), .val (.ref nv_1), .val (.int 4), .val (.int 4), .val (.ref d3)] [(.int 4)])) (fun t k => XS.iloadN X14.here hx rfl (hb hby d18_9) rfl k) ?_
  refine own_by (T' := T14) (g' := (mkF m 11 #[.val (.ref sq), .val (.ref nv_1), .val (.int 4), .val (.int 4), .val (.ref d3)] [(.int 4), (.int 4)])) (fun t k => XS.iloadN X14.here hx rfl (hb hby d18_10) rfl k) ?_
  refine own_by (T' := T14) (g' := (mkF m 43 #[.val (.ref sq), .val (.ref nv_1), .val (.int 4), .val (.int 4), .val (.ref d3)] [])) (fun t k => XS.icmpYes X14.here hx rfl (pc0 := 11) (pc' := 43) rfl (hb hby d18_11) rfl (flt (by decide)).2.1 (by decide) (by decide) k) ?_
  obtain ⟨_, _, ⟨T15, L15, k15, n15⟩, -, X15, ⟨Lc15, hQ15, l15, y15, z15⟩, st15⟩ := Jvm.LawKit.callS X14 hx (y := (⟨"java/util/Optional", "empty", "()Ljava/util/Optional;"⟩ : MethodName)) hown (mvT hZ (hw _ (own_m 137 rfl))) (mvT hZ (hw _ (own_m 138 rfl))) (mvT hZ (hw _ (own_m 110 rfl))) (mvT hZ (hw _ (own_m 139 rfl))) (by decide) (backOf (W := 0) (rm24 l Z a0 hw [] em T1.heap n0 Zle S_EMPTY) hZ (hw _ (own_m 139 rfl)) (hw _ (own_m 110 rfl)) (by decide) (by decide)) (g := (mkF m 43 #[.val (.ref sq), .val (.ref nv_1), .val (.int 4), .val (.int 4), .val (.ref d3)] [])) rfl (by rw [hml]; rfl) (argsL := []) (rest := []) (lenOf pd_23 rfl) rfl (own_le rfl) (hb hby d18_43) (fun _ _ => ⟨rfl, e14, (by decide : 1 + 0 ≤ _), (by decide : 4 + 0 ≤ _)⟩)
  dsimp only [Pt.U, Pt.locs, Pt.cells, Pt.slots] at X15 l15 y15 z15 st15 hQ15
  subst l15 y15 z15
  obtain ⟨rfl, Nq15, e15⟩ := hQ15
  replace N_ := Fr.app N_ Nq15
  clear Nq15
  refine own_by (T' := T15) (g' := (mkF m 46 #[.val (.ref sq), .val (.ref nv_1), .val (.int 4), .val (.int 4), .val (.ref d3)] [(.ref em)])) (fun t k => st15 _ k) ?_
  clear st15 X14 e14
  exact own_retA X15 hx (t := (.object "java/util/Optional")) Bd.notSynchronized Bd.returns rfl rfl rfl (hb hby d18_46) (by decide) (by decide) (by rw [e15]; exact ⟨rfl, N_, K_⟩)

def Q0 (Z : State) (x1 : Int32) (x2 : Int32) (x3 : Int32) (x4 : Int32) (x5 : Int32) (va : Addr) (d0 : Addr) (d1 : Addr) (d2 : Addr) (d3 : Addr) (f0 : Addr) (f1 : Addr) (f2 : Addr) (f3 : Addr) (t0 : Addr) (t1 : Addr) (t2 : Addr) (t3 : Addr) (em : Addr) (kvv : ClassId) (ky0 : ClassId) (ky1 : ClassId) (ky2 : ClassId) (ky3 : ClassId) (zC : Int32) (fm : Value) (h0 : Heap) (n0 : Nat) (v : Option Value) (h : Heap) (L : List Loc) : Prop := v = some (.int 1) ∧ Fr n0 L
theorem ef_0 (m : MethodId) (x1 : Int32) (x2 : Int32) (x3 : Int32) (x4 : Int32) (x5 : Int32) : entryFrame m #[(.int x1), (.int x2), (.int x3), (.int x4), (.int x5)] maxLocals = mkF m 0 #[.val (.int x1), .val (.int x2), .val (.int x3), .val (.int x4), .val (.int x5), .unset, .unset, .unset, .unset, .unset, .unset, .unset, .unset, .unset] [] := by first | (simp [entryFrame, mkF, argsToLocals, Value.category, maxLocals]; done) | rfl
theorem pd_2 : parseMethodDescriptor "(Ljava/lang/String;IC)C" = some ⟨[(.object "java/lang/String"), .int, .char], some .char⟩ := by decide +kernel
theorem pd_8 : parseMethodDescriptor "([CIC)V" = some ⟨[(.array .char), .int, .char], none⟩ := by decide +kernel
theorem pd_17 : parseMethodDescriptor "(Ljava/lang/String;)Ljava/util/Optional;" = some ⟨[(.object "java/lang/String")], some (.object "java/util/Optional")⟩ := by decide +kernel
theorem pd_9 : parseMethodDescriptor "([C)V" = some ⟨[(.array .char)], none⟩ := by decide +kernel
set_option maxRecDepth 65536 in
set_option maxHeartbeats 40000000 in
theorem rm0 (l : Launch) (Z : State) (a0 : Array Value) (hw : ∀ d ∈ tables_1, d.before a0 Z = true) (ws : List Jvm.Cond) (x1 : Int32) (x2 : Int32) (x3 : Int32) (x4 : Int32) (x5 : Int32) (va : Addr) (d0 : Addr) (d1 : Addr) (d2 : Addr) (d3 : Addr) (f0 : Addr) (f1 : Addr) (f2 : Addr) (f3 : Addr) (t0 : Addr) (t1 : Addr) (t2 : Addr) (t3 : Addr) (em : Addr) (kvv : ClassId) (ky0 : ClassId) (ky1 : ClassId) (ky2 : ClassId) (ky3 : ClassId) (zC : Int32) (fm : Value) (h0 : Heap) (n0 : Nat) (Zle : n0 ≤ h0.size) (hEL : EW Z a0 own_EL) (hW : own_W Z Z.heap va d0 d1 d2 d3 f0 f1 f2 f3 t0 t1 t2 t3 em kvv ky0 ky1 ky2 ky3 zC fm) (O_ : Old Z n0 h0) (hzC : ¬ zC = 0) (hfm : fm.isRef = true) :
    MetFree l x (head1 (Jvm.Cond.code x code maxLocals ret :: ws) room_1) (fun a U => a = #[(.int x1), (.int x2), (.int x3), (.int x4), (.int x5)] ∧ Z.Warmed39 U.vm ∧ U.heap = h0 ∧ CHv Z own_EL U.vm h0) (fun _ _ _ _ _ => True) (fun _ U o U' => ∃ v L, o = .returned v ∧ Q0 Z x1 x2 x3 x4 x5 va d0 d1 d2 d3 f0 f1 f2 f3 t0 t1 t2 t3 em kvv ky0 ky1 ky2 ky3 zC fm h0 n0 v U'.heap L ∧ CHr Z own_EL U.vm U.heap U'.vm U'.heap ∧ ReturnedEndW U o U' L room_1.cells room_1.slots) := by
  refine MetFree.of_bodySF (plainFor_of_name pn_com_example_gate2_gate2_DimensionByFieldPinLaw) hisR ?_
  intro p e s m args below meth c s₁ Bd hml0 hP hK
  obtain ⟨rfl, hZ, hh, hH⟩ := hP
  have hx := Bd.exec
  have hby := Bd.bytes
  have hml : c.maxLocals = 14 := hml0
  have hown : s.vm.findClass "com/example/gate2/gate2/DimensionByFieldPinLaw" = some m.cls := findClass_of_methodNamed Bd.named
  have hnm := (name_of_methodNamed Bd.named Bd.method).1
  have X0 : Stand p l e room_1 s m #[(.int x1), (.int x2), (.int x3), (.int x4), (.int x5)] below meth c s₁ [] 0 0 := Stand.of_body Bd
  have e0 : s₁.heap = h0 := by rw [← hh, Bd.state]; rfl
  have hS : s.Since s.vm 0 := (State.WarmedH.refl s).since 0
  have X0 : Stand p l e room_1 (s.setVm s.vm) m #[(.int x1), (.int x2), (.int x3), (.int x4), (.int x5)] below meth c s₁ [] 0 0 := X0
  have hk_ : 0 ≤ h0.size := Nat.zero_le _
  have hZ : Z.Warmed39 (s.setVm s.vm).vm := hZ
  have hown : (s.setVm s.vm).vm.findClass "com/example/gate2/gate2/DimensionByFieldPinLaw" = some m.cls := hown
  have R_ : CHr Z own_EL s.vm s.heap s.vm h0 := by rw [hh]; exact CHr.refl hH
  have N_ := Fr.nil n0
  show own_GoesH Z p.tables e below s (Q0 Z x1 x2 x3 x4 x5 va d0 d1 d2 d3 f0 f1 f2 f3 t0 t1 t2 t3 em kvv ky0 ky1 ky2 ky3 zC fm h0 n0) room_1.cells room_1.slots s₁ (entryFrame m #[(.int x1), (.int x2), (.int x3), (.int x4), (.int x5)] maxLocals)
  refine own_byH (T' := s₁) (g' := (mkF m 0 #[.val (.int x1), .val (.int x2), .val (.int x3), .val (.int x4), .val (.int x5), .unset, .unset, .unset, .unset, .unset, .unset, .unset, .unset, .unset] [])) (fun t k => castTop (ef_0 m x1 x2 x3 x4 x5) k) ?_
  refine own_byH (T' := s₁) (g' := (mkF m 1 #[.val (.int x1), .val (.int x2), .val (.int x3), .val (.int x4), .val (.int x5), .unset, .unset, .unset, .unset, .unset, .unset, .unset, .unset, .unset] [(.int x1)])) (fun t k => XS.iloadN X0.here hx rfl (hb hby at_0) rfl k) ?_
  refine own_byH (T' := s₁) (g' := (mkF m 2 #[.val (.int x1), .val (.int x2), .val (.int x3), .val (.int x4), .val (.int x5), .unset, .unset, .unset, .unset, .unset, .unset, .unset, .unset, .unset] [(.int 3), (.int x1)])) (fun t k => XS.iconst X0.here hx rfl (hb hby at_1) k) ?_
  refine own_byH (T' := s₁) (g' := (mkF m 3 #[.val (.int x1), .val (.int x2), .val (.int x3), .val (.int x4), .val (.int x5), .unset, .unset, .unset, .unset, .unset, .unset, .unset, .unset, .unset] [(.int (x1 &&& (3 : Int32)))])) (fun t k => XS.iand X0.here hx rfl (hb hby at_2) rfl k) ?_
  refine own_byH (T' := s₁) (g' := (mkF m 5 #[.val (.int x1), .val (.int x2), .val (.int x3), .val (.int x4), .val (.int x5), .val (.int (x1 &&& (3 : Int32))), .unset, .unset, .unset, .unset, .unset, .unset, .unset, .unset] [])) (fun t k => XS.istore X0.here hx rfl (hb hby at_3) rfl (l' := #[.val (.int x1), .val (.int x2), .val (.int x3), .val (.int x4), .val (.int x5), .val (.int (x1 &&& (3 : Int32))), .unset, .unset, .unset, .unset, .unset, .unset, .unset, .unset]) rfl k) ?_
  refine own_byH (T' := s₁) (g' := (mkF m 6 #[.val (.int x1), .val (.int x2), .val (.int x3), .val (.int x4), .val (.int x5), .val (.int (x1 &&& (3 : Int32))), .unset, .unset, .unset, .unset, .unset, .unset, .unset, .unset] [(.int x1)])) (fun t k => XS.iloadN X0.here hx rfl (hb hby at_5) rfl k) ?_
  refine own_byH (T' := s₁) (g' := (mkF m 7 #[.val (.int x1), .val (.int x2), .val (.int x3), .val (.int x4), .val (.int x5), .val (.int (x1 &&& (3 : Int32))), .unset, .unset, .unset, .unset, .unset, .unset, .unset, .unset] [(.int 2), (.int x1)])) (fun t k => XS.iconst X0.here hx rfl (hb hby at_6) k) ?_
  refine own_byH (T' := s₁) (g' := (mkF m 8 #[.val (.int x1), .val (.int x2), .val (.int x3), .val (.int x4), .val (.int x5), .val (.int (x1 &&& (3 : Int32))), .unset, .unset, .unset, .unset, .unset, .unset, .unset, .unset] [(.int ((x1.toUInt32 >>> ((2 : Int32) &&& 31).toUInt32).toInt32))])) (fun t k => XS.iushr X0.here hx rfl (hb hby at_7) rfl k) ?_
  refine own_byH (T' := s₁) (g' := (mkF m 9 #[.val (.int x1), .val (.int x2), .val (.int x3), .val (.int x4), .val (.int x5), .val (.int (x1 &&& (3 : Int32))), .unset, .unset, .unset, .unset, .unset, .unset, .unset, .unset] [(.int 3), (.int ((x1.toUInt32 >>> ((2 : Int32) &&& 31).toUInt32).toInt32))])) (fun t k => XS.iconst X0.here hx rfl (hb hby at_8) k) ?_
  refine own_byH (T' := s₁) (g' := (mkF m 10 #[.val (.int x1), .val (.int x2), .val (.int x3), .val (.int x4), .val (.int x5), .val (.int (x1 &&& (3 : Int32))), .unset, .unset, .unset, .unset, .unset, .unset, .unset, .unset] [(.int (((x1.toUInt32 >>> ((2 : Int32) &&& 31).toUInt32).toInt32) &&& (3 : Int32)))])) (fun t k => XS.iand X0.here hx rfl (hb hby at_9) rfl k) ?_
  refine own_byH (T' := s₁) (g' := (mkF m 12 #[.val (.int x1), .val (.int x2), .val (.int x3), .val (.int x4), .val (.int x5), .val (.int (x1 &&& (3 : Int32))), .val (.int (((x1.toUInt32 >>> ((2 : Int32) &&& 31).toUInt32).toInt32) &&& (3 : Int32))), .unset, .unset, .unset, .unset, .unset, .unset, .unset] [])) (fun t k => XS.istore X0.here hx rfl (hb hby at_10) rfl (l' := #[.val (.int x1), .val (.int x2), .val (.int x3), .val (.int x4), .val (.int x5), .val (.int (x1 &&& (3 : Int32))), .val (.int (((x1.toUInt32 >>> ((2 : Int32) &&& 31).toUInt32).toInt32) &&& (3 : Int32))), .unset, .unset, .unset, .unset, .unset, .unset, .unset]) rfl k) ?_
  have J46 : ∀ (T_a : State) (h_a : Heap) (vm_a : Vm) (kk_a : Nat) (locs_a : List Loc) (sb tb : Addr) (kb : ClassId) (csb : List Int32), Stand p l e room_1 (s.setVm vm_a) m #[(.int x1), (.int x2), (.int x3), (.int x4), (.int x5)] below meth c T_a locs_a 2 36 → T_a.heap = h_a → s.Since vm_a kk_a → kk_a ≤ h_a.size → Z.Warmed39 (s.setVm vm_a).vm → (s.setVm vm_a).vm.findClass "com/example/gate2/gate2/DimensionByFieldPinLaw" = some m.cls → CHr Z own_EL s.vm s.heap vm_a h_a → Old Z n0 h_a → n0 ≤ h_a.size → Fr n0 locs_a → own_Str Z h_a sb tb kb csb → own_GoesH Z p.tables e below s (Q0 Z x1 x2 x3 x4 x5 va d0 d1 d2 d3 f0 f1 f2 f3 t0 t1 t2 t3 em kvv ky0 ky1 ky2 ky3 zC fm h0 n0) room_1.cells room_1.slots T_a (mkF m 46 #[.val (.int x1), .val (.int x2), .val (.int x3), .val (.int x4), .val (.int x5), .val (.int (x1 &&& (3 : Int32))), .val (.int (((x1.toUInt32 >>> ((2 : Int32) &&& 31).toUInt32).toInt32) &&& (3 : Int32))), .unset, .unset, .unset, .unset, .unset, .unset, .unset] [(.ref sb)]) := by
    intro T_a h_a vm_a kk_a locs_a sb tb kb csb X_a e_a hS hk_ hZ hown R_ O_ Zle N_ Q_sb
    refine own_byH (T' := T_a) (g' := (mkF m 48 #[.val (.int x1), .val (.int x2), .val (.int x3), .val (.int x4), .val (.int x5), .val (.int (x1 &&& (3 : Int32))), .val (.int (((x1.toUInt32 >>> ((2 : Int32) &&& 31).toUInt32).toInt32) &&& (3 : Int32))), .val (.ref sb), .unset, .unset, .unset, .unset, .unset, .unset] [])) (fun t k => XS.astore X_a.here hx rfl (hb hby at_46) rfl rfl (l' := #[.val (.int x1), .val (.int x2), .val (.int x3), .val (.int x4), .val (.int x5), .val (.int (x1 &&& (3 : Int32))), .val (.int (((x1.toUInt32 >>> ((2 : Int32) &&& 31).toUInt32).toInt32) &&& (3 : Int32))), .val (.ref sb), .unset, .unset, .unset, .unset, .unset, .unset]) rfl k) ?_
    have J70 : ∀ (T_b : State) (h_b : Heap) (vm_b : Vm) (kk_b : Nat) (locs_b : List Loc) (N : Nat), Stand p l e room_1 (s.setVm vm_b) m #[(.int x1), (.int x2), (.int x3), (.int x4), (.int x5)] below meth c T_b locs_b 2 36 → T_b.heap = h_b → s.Since vm_b kk_b → kk_b ≤ h_b.size → Z.Warmed39 (s.setVm vm_b).vm → (s.setVm vm_b).vm.findClass "com/example/gate2/gate2/DimensionByFieldPinLaw" = some m.cls → CHr Z own_EL s.vm s.heap vm_b h_b → Old Z n0 h_b → n0 ≤ h_b.size → Fr n0 locs_b → N ≤ 9 → own_Str Z h_b sb tb kb csb → own_GoesH Z p.tables e below s (Q0 Z x1 x2 x3 x4 x5 va d0 d1 d2 d3 f0 f1 f2 f3 t0 t1 t2 t3 em kvv ky0 ky1 ky2 ky3 zC fm h0 n0) room_1.cells room_1.slots T_b (mkF m 70 #[.val (.int x1), .val (.int x2), .val (.int x3), .val (.int x4), .val (.int x5), .val (.int (x1 &&& (3 : Int32))), .val (.int (((x1.toUInt32 >>> ((2 : Int32) &&& 31).toUInt32).toInt32) &&& (3 : Int32))), .val (.ref sb), .unset, .unset, .unset, .unset, .unset, .unset] [(.int (Int32.ofNat N))]) := by
      intro T_b h_b vm_b kk_b locs_b N X_b e_b hS hk_ hZ hown R_ O_ Zle N_ hN9 Q_sb
      refine own_byH (T' := T_b) (g' := (mkF m 72 #[.val (.int x1), .val (.int x2), .val (.int x3), .val (.int x4), .val (.int x5), .val (.int (x1 &&& (3 : Int32))), .val (.int (((x1.toUInt32 >>> ((2 : Int32) &&& 31).toUInt32).toInt32) &&& (3 : Int32))), .val (.ref sb), .val (.int (Int32.ofNat N)), .unset, .unset, .unset, .unset, .unset] [])) (fun t k => XS.istore X_b.here hx rfl (hb hby at_70) rfl (l' := #[.val (.int x1), .val (.int x2), .val (.int x3), .val (.int x4), .val (.int x5), .val (.int (x1 &&& (3 : Int32))), .val (.int (((x1.toUInt32 >>> ((2 : Int32) &&& 31).toUInt32).toInt32) &&& (3 : Int32))), .val (.ref sb), .val (.int (Int32.ofNat N)), .unset, .unset, .unset, .unset, .unset]) rfl k) ?_
      refine own_byH (T' := T_b) (g' := (mkF m 74 #[.val (.int x1), .val (.int x2), .val (.int x3), .val (.int x4), .val (.int x5), .val (.int (x1 &&& (3 : Int32))), .val (.int (((x1.toUInt32 >>> ((2 : Int32) &&& 31).toUInt32).toInt32) &&& (3 : Int32))), .val (.ref sb), .val (.int (Int32.ofNat N)), .unset, .unset, .unset, .unset, .unset] [(.int x5)])) (fun t k => XS.iload X_b.here hx rfl (hb hby at_72) rfl k) ?_
      refine own_byH (T' := T_b) (g' := (mkF m 77 #[.val (.int x1), .val (.int x2), .val (.int x3), .val (.int x4), .val (.int x5), .val (.int (x1 &&& (3 : Int32))), .val (.int (((x1.toUInt32 >>> ((2 : Int32) &&& 31).toUInt32).toInt32) &&& (3 : Int32))), .val (.ref sb), .val (.int (Int32.ofNat N)), .unset, .unset, .unset, .unset, .unset] [(.int 255), (.int x5)])) (fun t k => XS.sipush X_b.here hx rfl (hb hby at_74) k) ?_
      refine own_byH (T' := T_b) (g' := (mkF m 78 #[.val (.int x1), .val (.int x2), .val (.int x3), .val (.int x4), .val (.int x5), .val (.int (x1 &&& (3 : Int32))), .val (.int (((x1.toUInt32 >>> ((2 : Int32) &&& 31).toUInt32).toInt32) &&& (3 : Int32))), .val (.ref sb), .val (.int (Int32.ofNat N)), .unset, .unset, .unset, .unset, .unset] [(.int (x5 &&& (255 : Int32)))])) (fun t k => XS.iand X_b.here hx rfl (hb hby at_77) rfl k) ?_
      refine own_byH (T' := T_b) (g' := (mkF m 79 #[.val (.int x1), .val (.int x2), .val (.int x3), .val (.int x4), .val (.int x5), .val (.int (x1 &&& (3 : Int32))), .val (.int (((x1.toUInt32 >>> ((2 : Int32) &&& 31).toUInt32).toInt32) &&& (3 : Int32))), .val (.ref sb), .val (.int (Int32.ofNat N)), .unset, .unset, .unset, .unset, .unset] [(.int ((x5 &&& (255 : Int32)).toUInt32.toUInt16.toUInt32.toInt32))])) (fun t k => XS.i2c X_b.here hx rfl (hb hby at_78) rfl k) ?_
      refine own_byH (T' := T_b) (g' := (mkF m 81 #[.val (.int x1), .val (.int x2), .val (.int x3), .val (.int x4), .val (.int x5), .val (.int (x1 &&& (3 : Int32))), .val (.int (((x1.toUInt32 >>> ((2 : Int32) &&& 31).toUInt32).toInt32) &&& (3 : Int32))), .val (.ref sb), .val (.int (Int32.ofNat N)), .val (.int ((x5 &&& (255 : Int32)).toUInt32.toUInt16.toUInt32.toInt32)), .unset, .unset, .unset, .unset] [])) (fun t k => XS.istore X_b.here hx rfl (hb hby at_79) rfl (l' := #[.val (.int x1), .val (.int x2), .val (.int x3), .val (.int x4), .val (.int x5), .val (.int (x1 &&& (3 : Int32))), .val (.int (((x1.toUInt32 >>> ((2 : Int32) &&& 31).toUInt32).toInt32) &&& (3 : Int32))), .val (.ref sb), .val (.int (Int32.ofNat N)), .val (.int ((x5 &&& (255 : Int32)).toUInt32.toUInt16.toUInt32.toInt32)), .unset, .unset, .unset, .unset]) rfl k) ?_
      obtain ⟨fl, e_fl⟩ : ∃ z : Int32, z = ((x5 &&& (255 : Int32)).toUInt32.toUInt16.toUInt32.toInt32) := ⟨_, rfl⟩
      rw [← e_fl]
      have hfl : own_ok fl := by rw [e_fl]; exact own_m255 x5
      refine own_byH (T' := T_b) (g' := (mkF m 83 #[.val (.int x1), .val (.int x2), .val (.int x3), .val (.int x4), .val (.int x5), .val (.int (x1 &&& (3 : Int32))), .val (.int (((x1.toUInt32 >>> ((2 : Int32) &&& 31).toUInt32).toInt32) &&& (3 : Int32))), .val (.ref sb), .val (.int (Int32.ofNat N)), .val (.int fl), .unset, .unset, .unset, .unset] [(.int (Int32.ofNat N))])) (fun t k => XS.iload X_b.here hx rfl (hb hby at_81) rfl k) ?_
      obtain ⟨T1, h1, k1, X1, e1, E1, A1, st1⟩ := newP X_b hx hZ (hw _ (own_m 21 rfl)) e_b (g := (mkF m 83 #[.val (.int x1), .val (.int x2), .val (.int x3), .val (.int x4), .val (.int x5), .val (.int (x1 &&& (3 : Int32))), .val (.int (((x1.toUInt32 >>> ((2 : Int32) &&& 31).toUInt32).toInt32) &&& (3 : Int32))), .val (.ref sb), .val (.int (Int32.ofNat N)), .val (.int fl), .unset, .unset, .unset, .unset] [(.int (Int32.ofNat N))])) rfl (hb hby at_83) rfl (own_nneg hN9) (cap := 9) (own_cap hN9) (by decide) (by decide) (by decide)
      obtain ⟨b1, g1⟩ : ∃ z, z = h_b.size := ⟨_, rfl⟩
      rw [← g1] at A1 st1
      have ne_sb_b1 : sb ≠ b1 := Nat.ne_of_lt (Nat.lt_of_lt_of_eq Q_sb.1.lt g1.symm)
      have ne_tb_b1 : tb ≠ b1 := Nat.ne_of_lt (Nat.lt_of_lt_of_eq Q_sb.2.2.2.1.lt g1.symm)
      have g_b1 : n0 ≤ b1 := Nat.le_trans Zle (Nat.le_of_eq g1.symm)
      have Sf_b1 := Safe.ext E1 R_.1 (Safe.new (x := b1) (Nat.le_of_eq g1.symm))
      replace Zle := Nat.le_trans Zle E1.1
      replace hk_ := Nat.le_trans hk_ E1.1
      replace O_ := O_.ext E1
      replace Q_sb := Q_sb.ext E1
      replace R_ := R_.trans (CHr.ext E1 R_.1)
      have V_b1 : Arv Z h1 b1 k1 .char (Int32.ofNat N) [] (.int 0) := Arv.new A1 (own_nneg hN9)
      refine own_byH (T' := T1) (g' := (mkF m 85 #[.val (.int x1), .val (.int x2), .val (.int x3), .val (.int x4), .val (.int x5), .val (.int (x1 &&& (3 : Int32))), .val (.int (((x1.toUInt32 >>> ((2 : Int32) &&& 31).toUInt32).toInt32) &&& (3 : Int32))), .val (.ref sb), .val (.int (Int32.ofNat N)), .val (.int fl), .unset, .unset, .unset, .unset] [(.ref b1)])) (fun t k => st1 t k) ?_
      clear st1
      obtain ⟨cs_0, hl_0, hcs_0, Vn_b1⟩ := own_arr0 hN9 V_b1
      replace V_b1 := Vn_b1
      refine own_byH (T' := T1) (g' := (mkF m 87 #[.val (.int x1), .val (.int x2), .val (.int x3), .val (.int x4), .val (.int x5), .val (.int (x1 &&& (3 : Int32))), .val (.int (((x1.toUInt32 >>> ((2 : Int32) &&& 31).toUInt32).toInt32) &&& (3 : Int32))), .val (.ref sb), .val (.int (Int32.ofNat N)), .val (.int fl), .val (.ref b1), .unset, .unset, .unset] [])) (fun t k => XS.astore X1.here hx rfl (hb hby at_85) rfl rfl (l' := #[.val (.int x1), .val (.int x2), .val (.int x3), .val (.int x4), .val (.int x5), .val (.int (x1 &&& (3 : Int32))), .val (.int (((x1.toUInt32 >>> ((2 : Int32) &&& 31).toUInt32).toInt32) &&& (3 : Int32))), .val (.ref sb), .val (.int (Int32.ofNat N)), .val (.int fl), .val (.ref b1), .unset, .unset, .unset]) rfl k) ?_
      refine own_byH (T' := T1) (g' := (mkF m 89 #[.val (.int x1), .val (.int x2), .val (.int x3), .val (.int x4), .val (.int x5), .val (.int (x1 &&& (3 : Int32))), .val (.int (((x1.toUInt32 >>> ((2 : Int32) &&& 31).toUInt32).toInt32) &&& (3 : Int32))), .val (.ref sb), .val (.int (Int32.ofNat N)), .val (.int fl), .val (.ref b1), .unset, .unset, .unset] [(.ref b1)])) (fun t k => XS.aload X1.here hx rfl (hb hby at_87) rfl rfl k) ?_
      refine own_byH (T' := T1) (g' := (mkF m 90 #[.val (.int x1), .val (.int x2), .val (.int x3), .val (.int x4), .val (.int x5), .val (.int (x1 &&& (3 : Int32))), .val (.int (((x1.toUInt32 >>> ((2 : Int32) &&& 31).toUInt32).toInt32) &&& (3 : Int32))), .val (.ref sb), .val (.int (Int32.ofNat N)), .val (.int fl), .val (.ref b1), .unset, .unset, .unset] [(.int 0), (.ref b1)])) (fun t k => XS.iconst X1.here hx rfl (hb hby at_89) k) ?_
      refine own_byH (T' := T1) (g' := (mkF m 92 #[.val (.int x1), .val (.int x2), .val (.int x3), .val (.int x4), .val (.int x5), .val (.int (x1 &&& (3 : Int32))), .val (.int (((x1.toUInt32 >>> ((2 : Int32) &&& 31).toUInt32).toInt32) &&& (3 : Int32))), .val (.ref sb), .val (.int (Int32.ofNat N)), .val (.int fl), .val (.ref b1), .unset, .unset, .unset] [(.ref sb), (.int 0), (.ref b1)])) (fun t k => XS.aload X1.here hx rfl (hb hby at_90) rfl rfl k) ?_
      refine own_byH (T' := T1) (g' := (mkF m 93 #[.val (.int x1), .val (.int x2), .val (.int x3), .val (.int x4), .val (.int x5), .val (.int (x1 &&& (3 : Int32))), .val (.int (((x1.toUInt32 >>> ((2 : Int32) &&& 31).toUInt32).toInt32) &&& (3 : Int32))), .val (.ref sb), .val (.int (Int32.ofNat N)), .val (.int fl), .val (.ref b1), .unset, .unset, .unset] [(.int 0), (.ref sb), (.int 0), (.ref b1)])) (fun t k => XS.iconst X1.here hx rfl (hb hby at_92) k) ?_
      refine own_byH (T' := T1) (g' := (mkF m 95 #[.val (.int x1), .val (.int x2), .val (.int x3), .val (.int x4), .val (.int x5), .val (.int (x1 &&& (3 : Int32))), .val (.int (((x1.toUInt32 >>> ((2 : Int32) &&& 31).toUInt32).toInt32) &&& (3 : Int32))), .val (.ref sb), .val (.int (Int32.ofNat N)), .val (.int fl), .val (.ref b1), .unset, .unset, .unset] [(.int fl), (.int 0), (.ref sb), (.int 0), (.ref b1)])) (fun t k => XS.iload X1.here hx rfl (hb hby at_93) rfl k) ?_
      obtain ⟨S_COMPACT_STRINGS, S_SIOOBE_FORMATTER, -, -, -, -, -, -, -, -, -, -, -, -, -, -, -, -, -, -, -, -, -, -⟩ := hW.ext O_.2
      obtain ⟨_, _, ⟨T2, L2, k2, n2⟩, -, X2, ⟨Lc2, hQ2, l2, y2, z2⟩, st2⟩ := Jvm.LawKit.callS X1 hx (y := (⟨"com/example/gate2/gate2/DimensionByFieldPinLaw", "ch", "(Ljava/lang/String;IC)C"⟩ : MethodName)) hown (mvT hZ (hw _ (own_m 22 rfl))) (mvT hZ (hw _ (own_m 23 rfl))) (mvT hZ (hw _ (own_m 24 rfl))) (mvT hZ (hw _ (own_m 25 rfl))) (by decide) (backOf (W := 2) (rm3 l Z a0 hw [] sb (0 : Int32) fl tb kb csb zC fm 0 h1 n0 Zle Q_sb S_COMPACT_STRINGS S_SIOOBE_FORMATTER (hzC) (hfm) (⟨rfl, by decide⟩) (hfl)) hZ (hw _ (own_m 25 rfl)) (hw _ (own_m 24 rfl)) (by decide) (by decide)) (g := (mkF m 95 #[.val (.int x1), .val (.int x2), .val (.int x3), .val (.int x4), .val (.int x5), .val (.int (x1 &&& (3 : Int32))), .val (.int (((x1.toUInt32 >>> ((2 : Int32) &&& 31).toUInt32).toInt32) &&& (3 : Int32))), .val (.ref sb), .val (.int (Int32.ofNat N)), .val (.int fl), .val (.ref b1), .unset, .unset, .unset] [(.int fl), (.int 0), (.ref sb), (.int 0), (.ref b1)])) rfl (by rw [hml]; rfl) (argsL := [(.ref sb), (.int 0), (.int fl)]) (rest := [(.int 0), (.ref b1)]) (lenOf pd_2 rfl) rfl (own_le rfl) (hb hby at_95) (fun _ _ => ⟨rfl, e1, (by decide : 3 + 0 ≤ _), (by decide : 45 + 0 ≤ _)⟩)
      dsimp only [Pt.U, Pt.locs, Pt.cells, Pt.slots] at X2 l2 y2 z2 st2 hQ2
      subst l2 y2 z2
      obtain ⟨rr_2, rfl, Nq2, c2_0, c2_1⟩ := hQ2
      replace N_ := Fr.app N_ Nq2
      clear Nq2
      refine own_byH (T' := T2) (g' := (mkF m 98 #[.val (.int x1), .val (.int x2), .val (.int x3), .val (.int x4), .val (.int x5), .val (.int (x1 &&& (3 : Int32))), .val (.int (((x1.toUInt32 >>> ((2 : Int32) &&& 31).toUInt32).toInt32) &&& (3 : Int32))), .val (.ref sb), .val (.int (Int32.ofNat N)), .val (.int fl), .val (.ref b1), .unset, .unset, .unset] [(.int rr_2), (.int 0), (.ref b1)])) (fun t k => st2 _ k) ?_
      clear st2 X1 e1
      obtain ⟨_, _, ⟨T3, L3, k3, n3⟩, -, X3, ⟨Lc3, hQ3, l3, y3, z3⟩, st3⟩ := Jvm.LawKit.callS X2 hx (y := (⟨"com/example/gate2/gate2/DimensionByFieldPinLaw", "put", "([CIC)V"⟩ : MethodName)) hown (mvT hZ (hw _ (own_m 48 rfl))) (mvT hZ (hw _ (own_m 49 rfl))) (mvT hZ (hw _ (own_m 24 rfl))) (mvT hZ (hw _ (own_m 50 rfl))) (by decide) (backOf (W := 0) (rm9 l Z a0 hw [] b1 (0 : Int32) rr_2 k1 N cs_0 h1 n0 Zle V_b1 g_b1 (hl_0) (hN9) (hcs_0) (c2_0) (by decide)) hZ (hw _ (own_m 50 rfl)) (hw _ (own_m 24 rfl)) (by decide) (by decide)) (g := (mkF m 98 #[.val (.int x1), .val (.int x2), .val (.int x3), .val (.int x4), .val (.int x5), .val (.int (x1 &&& (3 : Int32))), .val (.int (((x1.toUInt32 >>> ((2 : Int32) &&& 31).toUInt32).toInt32) &&& (3 : Int32))), .val (.ref sb), .val (.int (Int32.ofNat N)), .val (.int fl), .val (.ref b1), .unset, .unset, .unset] [(.int rr_2), (.int 0), (.ref b1)])) rfl (by rw [hml]; rfl) (argsL := [(.ref b1), (.int 0), (.int rr_2)]) (rest := []) (lenOf pd_8 rfl) rfl (own_le rfl) (hb hby at_98) (fun _ _ => ⟨rfl, c2_1, (by decide : 3 + 0 ≤ _), (by decide : 45 + 0 ≤ _)⟩)
      dsimp only [Pt.U, Pt.locs, Pt.cells, Pt.slots] at X3 l3 y3 z3 st3 hQ3
      subst l3 y3 z3
      obtain ⟨cs2_3, rfl, Nq3, c3_0, c3_1, c3_2, c3_3⟩ := hQ3
      replace N_ := Fr.app N_ Nq3
      clear Nq3
      have CR_ := CHr.keep c3_0 (allS Sf_b1 all0) R_.1
      replace Sf_b1 := Safe.keep c3_0 (allS Sf_b1 all0) R_.1 Sf_b1
      replace R_ := R_.trans CR_
      clear CR_
      replace Zle := Nat.le_trans Zle c3_0.1
      replace hk_ := Nat.le_trans hk_ c3_0.1
      replace O_ := O_.keep c3_0 (allS g_b1 all0)
      replace Q_sb := Q_sb.keep c3_0 (ninS ne_sb_b1 nin0) (ninS ne_tb_b1 nin0)
      refine own_byH (T' := T3) (g' := (mkF m 101 #[.val (.int x1), .val (.int x2), .val (.int x3), .val (.int x4), .val (.int x5), .val (.int (x1 &&& (3 : Int32))), .val (.int (((x1.toUInt32 >>> ((2 : Int32) &&& 31).toUInt32).toInt32) &&& (3 : Int32))), .val (.ref sb), .val (.int (Int32.ofNat N)), .val (.int fl), .val (.ref b1), .unset, .unset, .unset] [])) (fun t k => st3 _ k) ?_
      clear st3 X2
      refine own_byH (T' := T3) (g' := (mkF m 103 #[.val (.int x1), .val (.int x2), .val (.int x3), .val (.int x4), .val (.int x5), .val (.int (x1 &&& (3 : Int32))), .val (.int (((x1.toUInt32 >>> ((2 : Int32) &&& 31).toUInt32).toInt32) &&& (3 : Int32))), .val (.ref sb), .val (.int (Int32.ofNat N)), .val (.int fl), .val (.ref b1), .unset, .unset, .unset] [(.ref b1)])) (fun t k => XS.aload X3.here hx rfl (hb hby at_101) rfl rfl k) ?_
      refine own_byH (T' := T3) (g' := (mkF m 104 #[.val (.int x1), .val (.int x2), .val (.int x3), .val (.int x4), .val (.int x5), .val (.int (x1 &&& (3 : Int32))), .val (.int (((x1.toUInt32 >>> ((2 : Int32) &&& 31).toUInt32).toInt32) &&& (3 : Int32))), .val (.ref sb), .val (.int (Int32.ofNat N)), .val (.int fl), .val (.ref b1), .unset, .unset, .unset] [(.int 1), (.ref b1)])) (fun t k => XS.iconst X3.here hx rfl (hb hby at_103) k) ?_
      refine own_byH (T' := T3) (g' := (mkF m 106 #[.val (.int x1), .val (.int x2), .val (.int x3), .val (.int x4), .val (.int x5), .val (.int (x1 &&& (3 : Int32))), .val (.int (((x1.toUInt32 >>> ((2 : Int32) &&& 31).toUInt32).toInt32) &&& (3 : Int32))), .val (.ref sb), .val (.int (Int32.ofNat N)), .val (.int fl), .val (.ref b1), .unset, .unset, .unset] [(.ref sb), (.int 1), (.ref b1)])) (fun t k => XS.aload X3.here hx rfl (hb hby at_104) rfl rfl k) ?_
      refine own_byH (T' := T3) (g' := (mkF m 107 #[.val (.int x1), .val (.int x2), .val (.int x3), .val (.int x4), .val (.int x5), .val (.int (x1 &&& (3 : Int32))), .val (.int (((x1.toUInt32 >>> ((2 : Int32) &&& 31).toUInt32).toInt32) &&& (3 : Int32))), .val (.ref sb), .val (.int (Int32.ofNat N)), .val (.int fl), .val (.ref b1), .unset, .unset, .unset] [(.int 1), (.ref sb), (.int 1), (.ref b1)])) (fun t k => XS.iconst X3.here hx rfl (hb hby at_106) k) ?_
      refine own_byH (T' := T3) (g' := (mkF m 109 #[.val (.int x1), .val (.int x2), .val (.int x3), .val (.int x4), .val (.int x5), .val (.int (x1 &&& (3 : Int32))), .val (.int (((x1.toUInt32 >>> ((2 : Int32) &&& 31).toUInt32).toInt32) &&& (3 : Int32))), .val (.ref sb), .val (.int (Int32.ofNat N)), .val (.int fl), .val (.ref b1), .unset, .unset, .unset] [(.int fl), (.int 1), (.ref sb), (.int 1), (.ref b1)])) (fun t k => XS.iload X3.here hx rfl (hb hby at_107) rfl k) ?_
      obtain ⟨S_COMPACT_STRINGS, S_SIOOBE_FORMATTER, -, -, -, -, -, -, -, -, -, -, -, -, -, -, -, -, -, -, -, -, -, -⟩ := hW.ext O_.2
      obtain ⟨_, _, ⟨T4, L4, k4, n4⟩, -, X4, ⟨Lc4, hQ4, l4, y4, z4⟩, st4⟩ := Jvm.LawKit.callS X3 hx (y := (⟨"com/example/gate2/gate2/DimensionByFieldPinLaw", "ch", "(Ljava/lang/String;IC)C"⟩ : MethodName)) hown (mvT hZ (hw _ (own_m 22 rfl))) (mvT hZ (hw _ (own_m 23 rfl))) (mvT hZ (hw _ (own_m 24 rfl))) (mvT hZ (hw _ (own_m 25 rfl))) (by decide) (backOf (W := 2) (rm3 l Z a0 hw [] sb (1 : Int32) fl tb kb csb zC fm 1 T3.heap n0 Zle Q_sb S_COMPACT_STRINGS S_SIOOBE_FORMATTER (hzC) (hfm) (⟨rfl, by decide⟩) (hfl)) hZ (hw _ (own_m 25 rfl)) (hw _ (own_m 24 rfl)) (by decide) (by decide)) (g := (mkF m 109 #[.val (.int x1), .val (.int x2), .val (.int x3), .val (.int x4), .val (.int x5), .val (.int (x1 &&& (3 : Int32))), .val (.int (((x1.toUInt32 >>> ((2 : Int32) &&& 31).toUInt32).toInt32) &&& (3 : Int32))), .val (.ref sb), .val (.int (Int32.ofNat N)), .val (.int fl), .val (.ref b1), .unset, .unset, .unset] [(.int fl), (.int 1), (.ref sb), (.int 1), (.ref b1)])) rfl (by rw [hml]; rfl) (argsL := [(.ref sb), (.int 1), (.int fl)]) (rest := [(.int 1), (.ref b1)]) (lenOf pd_2 rfl) rfl (own_le rfl) (hb hby at_109) (fun _ _ => ⟨rfl, rfl, (by decide : 3 + 0 ≤ _), (by decide : 45 + 0 ≤ _)⟩)
      dsimp only [Pt.U, Pt.locs, Pt.cells, Pt.slots] at X4 l4 y4 z4 st4 hQ4
      subst l4 y4 z4
      obtain ⟨rr_4, rfl, Nq4, c4_0, c4_1⟩ := hQ4
      replace N_ := Fr.app N_ Nq4
      clear Nq4
      refine own_byH (T' := T4) (g' := (mkF m 112 #[.val (.int x1), .val (.int x2), .val (.int x3), .val (.int x4), .val (.int x5), .val (.int (x1 &&& (3 : Int32))), .val (.int (((x1.toUInt32 >>> ((2 : Int32) &&& 31).toUInt32).toInt32) &&& (3 : Int32))), .val (.ref sb), .val (.int (Int32.ofNat N)), .val (.int fl), .val (.ref b1), .unset, .unset, .unset] [(.int rr_4), (.int 1), (.ref b1)])) (fun t k => st4 _ k) ?_
      clear st4 X3
      obtain ⟨_, _, ⟨T5, L5, k5, n5⟩, -, X5, ⟨Lc5, hQ5, l5, y5, z5⟩, st5⟩ := Jvm.LawKit.callS X4 hx (y := (⟨"com/example/gate2/gate2/DimensionByFieldPinLaw", "put", "([CIC)V"⟩ : MethodName)) hown (mvT hZ (hw _ (own_m 48 rfl))) (mvT hZ (hw _ (own_m 49 rfl))) (mvT hZ (hw _ (own_m 24 rfl))) (mvT hZ (hw _ (own_m 50 rfl))) (by decide) (backOf (W := 0) (rm9 l Z a0 hw [] b1 (1 : Int32) rr_4 k1 N cs2_3 T3.heap n0 Zle c3_3 g_b1 (c3_1) (hN9) (c3_2) (c4_0) (by decide)) hZ (hw _ (own_m 50 rfl)) (hw _ (own_m 24 rfl)) (by decide) (by decide)) (g := (mkF m 112 #[.val (.int x1), .val (.int x2), .val (.int x3), .val (.int x4), .val (.int x5), .val (.int (x1 &&& (3 : Int32))), .val (.int (((x1.toUInt32 >>> ((2 : Int32) &&& 31).toUInt32).toInt32) &&& (3 : Int32))), .val (.ref sb), .val (.int (Int32.ofNat N)), .val (.int fl), .val (.ref b1), .unset, .unset, .unset] [(.int rr_4), (.int 1), (.ref b1)])) rfl (by rw [hml]; rfl) (argsL := [(.ref b1), (.int 1), (.int rr_4)]) (rest := []) (lenOf pd_8 rfl) rfl (own_le rfl) (hb hby at_112) (fun _ _ => ⟨rfl, c4_1, (by decide : 3 + 0 ≤ _), (by decide : 45 + 0 ≤ _)⟩)
      dsimp only [Pt.U, Pt.locs, Pt.cells, Pt.slots] at X5 l5 y5 z5 st5 hQ5
      subst l5 y5 z5
      obtain ⟨cs2_5, rfl, Nq5, c5_0, c5_1, c5_2, c5_3⟩ := hQ5
      replace N_ := Fr.app N_ Nq5
      clear Nq5
      have CR_ := CHr.keep c5_0 (allS Sf_b1 all0) R_.1
      replace Sf_b1 := Safe.keep c5_0 (allS Sf_b1 all0) R_.1 Sf_b1
      replace R_ := R_.trans CR_
      clear CR_
      replace Zle := Nat.le_trans Zle c5_0.1
      replace hk_ := Nat.le_trans hk_ c5_0.1
      replace O_ := O_.keep c5_0 (allS g_b1 all0)
      replace Q_sb := Q_sb.keep c5_0 (ninS ne_sb_b1 nin0) (ninS ne_tb_b1 nin0)
      refine own_byH (T' := T5) (g' := (mkF m 115 #[.val (.int x1), .val (.int x2), .val (.int x3), .val (.int x4), .val (.int x5), .val (.int (x1 &&& (3 : Int32))), .val (.int (((x1.toUInt32 >>> ((2 : Int32) &&& 31).toUInt32).toInt32) &&& (3 : Int32))), .val (.ref sb), .val (.int (Int32.ofNat N)), .val (.int fl), .val (.ref b1), .unset, .unset, .unset] [])) (fun t k => st5 _ k) ?_
      clear st5 X4
      refine own_byH (T' := T5) (g' := (mkF m 117 #[.val (.int x1), .val (.int x2), .val (.int x3), .val (.int x4), .val (.int x5), .val (.int (x1 &&& (3 : Int32))), .val (.int (((x1.toUInt32 >>> ((2 : Int32) &&& 31).toUInt32).toInt32) &&& (3 : Int32))), .val (.ref sb), .val (.int (Int32.ofNat N)), .val (.int fl), .val (.ref b1), .unset, .unset, .unset] [(.ref b1)])) (fun t k => XS.aload X5.here hx rfl (hb hby at_115) rfl rfl k) ?_
      refine own_byH (T' := T5) (g' := (mkF m 118 #[.val (.int x1), .val (.int x2), .val (.int x3), .val (.int x4), .val (.int x5), .val (.int (x1 &&& (3 : Int32))), .val (.int (((x1.toUInt32 >>> ((2 : Int32) &&& 31).toUInt32).toInt32) &&& (3 : Int32))), .val (.ref sb), .val (.int (Int32.ofNat N)), .val (.int fl), .val (.ref b1), .unset, .unset, .unset] [(.int 2), (.ref b1)])) (fun t k => XS.iconst X5.here hx rfl (hb hby at_117) k) ?_
      refine own_byH (T' := T5) (g' := (mkF m 120 #[.val (.int x1), .val (.int x2), .val (.int x3), .val (.int x4), .val (.int x5), .val (.int (x1 &&& (3 : Int32))), .val (.int (((x1.toUInt32 >>> ((2 : Int32) &&& 31).toUInt32).toInt32) &&& (3 : Int32))), .val (.ref sb), .val (.int (Int32.ofNat N)), .val (.int fl), .val (.ref b1), .unset, .unset, .unset] [(.ref sb), (.int 2), (.ref b1)])) (fun t k => XS.aload X5.here hx rfl (hb hby at_118) rfl rfl k) ?_
      refine own_byH (T' := T5) (g' := (mkF m 121 #[.val (.int x1), .val (.int x2), .val (.int x3), .val (.int x4), .val (.int x5), .val (.int (x1 &&& (3 : Int32))), .val (.int (((x1.toUInt32 >>> ((2 : Int32) &&& 31).toUInt32).toInt32) &&& (3 : Int32))), .val (.ref sb), .val (.int (Int32.ofNat N)), .val (.int fl), .val (.ref b1), .unset, .unset, .unset] [(.int 2), (.ref sb), (.int 2), (.ref b1)])) (fun t k => XS.iconst X5.here hx rfl (hb hby at_120) k) ?_
      refine own_byH (T' := T5) (g' := (mkF m 123 #[.val (.int x1), .val (.int x2), .val (.int x3), .val (.int x4), .val (.int x5), .val (.int (x1 &&& (3 : Int32))), .val (.int (((x1.toUInt32 >>> ((2 : Int32) &&& 31).toUInt32).toInt32) &&& (3 : Int32))), .val (.ref sb), .val (.int (Int32.ofNat N)), .val (.int fl), .val (.ref b1), .unset, .unset, .unset] [(.int fl), (.int 2), (.ref sb), (.int 2), (.ref b1)])) (fun t k => XS.iload X5.here hx rfl (hb hby at_121) rfl k) ?_
      obtain ⟨S_COMPACT_STRINGS, S_SIOOBE_FORMATTER, -, -, -, -, -, -, -, -, -, -, -, -, -, -, -, -, -, -, -, -, -, -⟩ := hW.ext O_.2
      obtain ⟨_, _, ⟨T6, L6, k6, n6⟩, -, X6, ⟨Lc6, hQ6, l6, y6, z6⟩, st6⟩ := Jvm.LawKit.callS X5 hx (y := (⟨"com/example/gate2/gate2/DimensionByFieldPinLaw", "ch", "(Ljava/lang/String;IC)C"⟩ : MethodName)) hown (mvT hZ (hw _ (own_m 22 rfl))) (mvT hZ (hw _ (own_m 23 rfl))) (mvT hZ (hw _ (own_m 24 rfl))) (mvT hZ (hw _ (own_m 25 rfl))) (by decide) (backOf (W := 2) (rm3 l Z a0 hw [] sb (2 : Int32) fl tb kb csb zC fm 2 T5.heap n0 Zle Q_sb S_COMPACT_STRINGS S_SIOOBE_FORMATTER (hzC) (hfm) (⟨rfl, by decide⟩) (hfl)) hZ (hw _ (own_m 25 rfl)) (hw _ (own_m 24 rfl)) (by decide) (by decide)) (g := (mkF m 123 #[.val (.int x1), .val (.int x2), .val (.int x3), .val (.int x4), .val (.int x5), .val (.int (x1 &&& (3 : Int32))), .val (.int (((x1.toUInt32 >>> ((2 : Int32) &&& 31).toUInt32).toInt32) &&& (3 : Int32))), .val (.ref sb), .val (.int (Int32.ofNat N)), .val (.int fl), .val (.ref b1), .unset, .unset, .unset] [(.int fl), (.int 2), (.ref sb), (.int 2), (.ref b1)])) rfl (by rw [hml]; rfl) (argsL := [(.ref sb), (.int 2), (.int fl)]) (rest := [(.int 2), (.ref b1)]) (lenOf pd_2 rfl) rfl (own_le rfl) (hb hby at_123) (fun _ _ => ⟨rfl, rfl, (by decide : 3 + 0 ≤ _), (by decide : 45 + 0 ≤ _)⟩)
      dsimp only [Pt.U, Pt.locs, Pt.cells, Pt.slots] at X6 l6 y6 z6 st6 hQ6
      subst l6 y6 z6
      obtain ⟨rr_6, rfl, Nq6, c6_0, c6_1⟩ := hQ6
      replace N_ := Fr.app N_ Nq6
      clear Nq6
      refine own_byH (T' := T6) (g' := (mkF m 126 #[.val (.int x1), .val (.int x2), .val (.int x3), .val (.int x4), .val (.int x5), .val (.int (x1 &&& (3 : Int32))), .val (.int (((x1.toUInt32 >>> ((2 : Int32) &&& 31).toUInt32).toInt32) &&& (3 : Int32))), .val (.ref sb), .val (.int (Int32.ofNat N)), .val (.int fl), .val (.ref b1), .unset, .unset, .unset] [(.int rr_6), (.int 2), (.ref b1)])) (fun t k => st6 _ k) ?_
      clear st6 X5
      obtain ⟨_, _, ⟨T7, L7, k7, n7⟩, -, X7, ⟨Lc7, hQ7, l7, y7, z7⟩, st7⟩ := Jvm.LawKit.callS X6 hx (y := (⟨"com/example/gate2/gate2/DimensionByFieldPinLaw", "put", "([CIC)V"⟩ : MethodName)) hown (mvT hZ (hw _ (own_m 48 rfl))) (mvT hZ (hw _ (own_m 49 rfl))) (mvT hZ (hw _ (own_m 24 rfl))) (mvT hZ (hw _ (own_m 50 rfl))) (by decide) (backOf (W := 0) (rm9 l Z a0 hw [] b1 (2 : Int32) rr_6 k1 N cs2_5 T5.heap n0 Zle c5_3 g_b1 (c5_1) (hN9) (c5_2) (c6_0) (by decide)) hZ (hw _ (own_m 50 rfl)) (hw _ (own_m 24 rfl)) (by decide) (by decide)) (g := (mkF m 126 #[.val (.int x1), .val (.int x2), .val (.int x3), .val (.int x4), .val (.int x5), .val (.int (x1 &&& (3 : Int32))), .val (.int (((x1.toUInt32 >>> ((2 : Int32) &&& 31).toUInt32).toInt32) &&& (3 : Int32))), .val (.ref sb), .val (.int (Int32.ofNat N)), .val (.int fl), .val (.ref b1), .unset, .unset, .unset] [(.int rr_6), (.int 2), (.ref b1)])) rfl (by rw [hml]; rfl) (argsL := [(.ref b1), (.int 2), (.int rr_6)]) (rest := []) (lenOf pd_8 rfl) rfl (own_le rfl) (hb hby at_126) (fun _ _ => ⟨rfl, c6_1, (by decide : 3 + 0 ≤ _), (by decide : 45 + 0 ≤ _)⟩)
      dsimp only [Pt.U, Pt.locs, Pt.cells, Pt.slots] at X7 l7 y7 z7 st7 hQ7
      subst l7 y7 z7
      obtain ⟨cs2_7, rfl, Nq7, c7_0, c7_1, c7_2, c7_3⟩ := hQ7
      replace N_ := Fr.app N_ Nq7
      clear Nq7
      have CR_ := CHr.keep c7_0 (allS Sf_b1 all0) R_.1
      replace Sf_b1 := Safe.keep c7_0 (allS Sf_b1 all0) R_.1 Sf_b1
      replace R_ := R_.trans CR_
      clear CR_
      replace Zle := Nat.le_trans Zle c7_0.1
      replace hk_ := Nat.le_trans hk_ c7_0.1
      replace O_ := O_.keep c7_0 (allS g_b1 all0)
      replace Q_sb := Q_sb.keep c7_0 (ninS ne_sb_b1 nin0) (ninS ne_tb_b1 nin0)
      refine own_byH (T' := T7) (g' := (mkF m 129 #[.val (.int x1), .val (.int x2), .val (.int x3), .val (.int x4), .val (.int x5), .val (.int (x1 &&& (3 : Int32))), .val (.int (((x1.toUInt32 >>> ((2 : Int32) &&& 31).toUInt32).toInt32) &&& (3 : Int32))), .val (.ref sb), .val (.int (Int32.ofNat N)), .val (.int fl), .val (.ref b1), .unset, .unset, .unset] [])) (fun t k => st7 _ k) ?_
      clear st7 X6
      refine own_byH (T' := T7) (g' := (mkF m 131 #[.val (.int x1), .val (.int x2), .val (.int x3), .val (.int x4), .val (.int x5), .val (.int (x1 &&& (3 : Int32))), .val (.int (((x1.toUInt32 >>> ((2 : Int32) &&& 31).toUInt32).toInt32) &&& (3 : Int32))), .val (.ref sb), .val (.int (Int32.ofNat N)), .val (.int fl), .val (.ref b1), .unset, .unset, .unset] [(.ref b1)])) (fun t k => XS.aload X7.here hx rfl (hb hby at_129) rfl rfl k) ?_
      refine own_byH (T' := T7) (g' := (mkF m 132 #[.val (.int x1), .val (.int x2), .val (.int x3), .val (.int x4), .val (.int x5), .val (.int (x1 &&& (3 : Int32))), .val (.int (((x1.toUInt32 >>> ((2 : Int32) &&& 31).toUInt32).toInt32) &&& (3 : Int32))), .val (.ref sb), .val (.int (Int32.ofNat N)), .val (.int fl), .val (.ref b1), .unset, .unset, .unset] [(.int 3), (.ref b1)])) (fun t k => XS.iconst X7.here hx rfl (hb hby at_131) k) ?_
      refine own_byH (T' := T7) (g' := (mkF m 134 #[.val (.int x1), .val (.int x2), .val (.int x3), .val (.int x4), .val (.int x5), .val (.int (x1 &&& (3 : Int32))), .val (.int (((x1.toUInt32 >>> ((2 : Int32) &&& 31).toUInt32).toInt32) &&& (3 : Int32))), .val (.ref sb), .val (.int (Int32.ofNat N)), .val (.int fl), .val (.ref b1), .unset, .unset, .unset] [(.ref sb), (.int 3), (.ref b1)])) (fun t k => XS.aload X7.here hx rfl (hb hby at_132) rfl rfl k) ?_
      refine own_byH (T' := T7) (g' := (mkF m 135 #[.val (.int x1), .val (.int x2), .val (.int x3), .val (.int x4), .val (.int x5), .val (.int (x1 &&& (3 : Int32))), .val (.int (((x1.toUInt32 >>> ((2 : Int32) &&& 31).toUInt32).toInt32) &&& (3 : Int32))), .val (.ref sb), .val (.int (Int32.ofNat N)), .val (.int fl), .val (.ref b1), .unset, .unset, .unset] [(.int 3), (.ref sb), (.int 3), (.ref b1)])) (fun t k => XS.iconst X7.here hx rfl (hb hby at_134) k) ?_
      refine own_byH (T' := T7) (g' := (mkF m 137 #[.val (.int x1), .val (.int x2), .val (.int x3), .val (.int x4), .val (.int x5), .val (.int (x1 &&& (3 : Int32))), .val (.int (((x1.toUInt32 >>> ((2 : Int32) &&& 31).toUInt32).toInt32) &&& (3 : Int32))), .val (.ref sb), .val (.int (Int32.ofNat N)), .val (.int fl), .val (.ref b1), .unset, .unset, .unset] [(.int fl), (.int 3), (.ref sb), (.int 3), (.ref b1)])) (fun t k => XS.iload X7.here hx rfl (hb hby at_135) rfl k) ?_
      obtain ⟨S_COMPACT_STRINGS, S_SIOOBE_FORMATTER, -, -, -, -, -, -, -, -, -, -, -, -, -, -, -, -, -, -, -, -, -, -⟩ := hW.ext O_.2
      obtain ⟨_, _, ⟨T8, L8, k8, n8⟩, -, X8, ⟨Lc8, hQ8, l8, y8, z8⟩, st8⟩ := Jvm.LawKit.callS X7 hx (y := (⟨"com/example/gate2/gate2/DimensionByFieldPinLaw", "ch", "(Ljava/lang/String;IC)C"⟩ : MethodName)) hown (mvT hZ (hw _ (own_m 22 rfl))) (mvT hZ (hw _ (own_m 23 rfl))) (mvT hZ (hw _ (own_m 24 rfl))) (mvT hZ (hw _ (own_m 25 rfl))) (by decide) (backOf (W := 2) (rm3 l Z a0 hw [] sb (3 : Int32) fl tb kb csb zC fm 3 T7.heap n0 Zle Q_sb S_COMPACT_STRINGS S_SIOOBE_FORMATTER (hzC) (hfm) (⟨rfl, by decide⟩) (hfl)) hZ (hw _ (own_m 25 rfl)) (hw _ (own_m 24 rfl)) (by decide) (by decide)) (g := (mkF m 137 #[.val (.int x1), .val (.int x2), .val (.int x3), .val (.int x4), .val (.int x5), .val (.int (x1 &&& (3 : Int32))), .val (.int (((x1.toUInt32 >>> ((2 : Int32) &&& 31).toUInt32).toInt32) &&& (3 : Int32))), .val (.ref sb), .val (.int (Int32.ofNat N)), .val (.int fl), .val (.ref b1), .unset, .unset, .unset] [(.int fl), (.int 3), (.ref sb), (.int 3), (.ref b1)])) rfl (by rw [hml]; rfl) (argsL := [(.ref sb), (.int 3), (.int fl)]) (rest := [(.int 3), (.ref b1)]) (lenOf pd_2 rfl) rfl (own_le rfl) (hb hby at_137) (fun _ _ => ⟨rfl, rfl, (by decide : 3 + 0 ≤ _), (by decide : 45 + 0 ≤ _)⟩)
      dsimp only [Pt.U, Pt.locs, Pt.cells, Pt.slots] at X8 l8 y8 z8 st8 hQ8
      subst l8 y8 z8
      obtain ⟨rr_8, rfl, Nq8, c8_0, c8_1⟩ := hQ8
      replace N_ := Fr.app N_ Nq8
      clear Nq8
      refine own_byH (T' := T8) (g' := (mkF m 140 #[.val (.int x1), .val (.int x2), .val (.int x3), .val (.int x4), .val (.int x5), .val (.int (x1 &&& (3 : Int32))), .val (.int (((x1.toUInt32 >>> ((2 : Int32) &&& 31).toUInt32).toInt32) &&& (3 : Int32))), .val (.ref sb), .val (.int (Int32.ofNat N)), .val (.int fl), .val (.ref b1), .unset, .unset, .unset] [(.int rr_8), (.int 3), (.ref b1)])) (fun t k => st8 _ k) ?_
      clear st8 X7
      obtain ⟨_, _, ⟨T9, L9, k9, n9⟩, -, X9, ⟨Lc9, hQ9, l9, y9, z9⟩, st9⟩ := Jvm.LawKit.callS X8 hx (y := (⟨"com/example/gate2/gate2/DimensionByFieldPinLaw", "put", "([CIC)V"⟩ : MethodName)) hown (mvT hZ (hw _ (own_m 48 rfl))) (mvT hZ (hw _ (own_m 49 rfl))) (mvT hZ (hw _ (own_m 24 rfl))) (mvT hZ (hw _ (own_m 50 rfl))) (by decide) (backOf (W := 0) (rm9 l Z a0 hw [] b1 (3 : Int32) rr_8 k1 N cs2_7 T7.heap n0 Zle c7_3 g_b1 (c7_1) (hN9) (c7_2) (c8_0) (by decide)) hZ (hw _ (own_m 50 rfl)) (hw _ (own_m 24 rfl)) (by decide) (by decide)) (g := (mkF m 140 #[.val (.int x1), .val (.int x2), .val (.int x3), .val (.int x4), .val (.int x5), .val (.int (x1 &&& (3 : Int32))), .val (.int (((x1.toUInt32 >>> ((2 : Int32) &&& 31).toUInt32).toInt32) &&& (3 : Int32))), .val (.ref sb), .val (.int (Int32.ofNat N)), .val (.int fl), .val (.ref b1), .unset, .unset, .unset] [(.int rr_8), (.int 3), (.ref b1)])) rfl (by rw [hml]; rfl) (argsL := [(.ref b1), (.int 3), (.int rr_8)]) (rest := []) (lenOf pd_8 rfl) rfl (own_le rfl) (hb hby at_140) (fun _ _ => ⟨rfl, c8_1, (by decide : 3 + 0 ≤ _), (by decide : 45 + 0 ≤ _)⟩)
      dsimp only [Pt.U, Pt.locs, Pt.cells, Pt.slots] at X9 l9 y9 z9 st9 hQ9
      subst l9 y9 z9
      obtain ⟨cs2_9, rfl, Nq9, c9_0, c9_1, c9_2, c9_3⟩ := hQ9
      replace N_ := Fr.app N_ Nq9
      clear Nq9
      have CR_ := CHr.keep c9_0 (allS Sf_b1 all0) R_.1
      replace Sf_b1 := Safe.keep c9_0 (allS Sf_b1 all0) R_.1 Sf_b1
      replace R_ := R_.trans CR_
      clear CR_
      replace Zle := Nat.le_trans Zle c9_0.1
      replace hk_ := Nat.le_trans hk_ c9_0.1
      replace O_ := O_.keep c9_0 (allS g_b1 all0)
      replace Q_sb := Q_sb.keep c9_0 (ninS ne_sb_b1 nin0) (ninS ne_tb_b1 nin0)
      refine own_byH (T' := T9) (g' := (mkF m 143 #[.val (.int x1), .val (.int x2), .val (.int x3), .val (.int x4), .val (.int x5), .val (.int (x1 &&& (3 : Int32))), .val (.int (((x1.toUInt32 >>> ((2 : Int32) &&& 31).toUInt32).toInt32) &&& (3 : Int32))), .val (.ref sb), .val (.int (Int32.ofNat N)), .val (.int fl), .val (.ref b1), .unset, .unset, .unset] [])) (fun t k => st9 _ k) ?_
      clear st9 X8
      refine own_byH (T' := T9) (g' := (mkF m 145 #[.val (.int x1), .val (.int x2), .val (.int x3), .val (.int x4), .val (.int x5), .val (.int (x1 &&& (3 : Int32))), .val (.int (((x1.toUInt32 >>> ((2 : Int32) &&& 31).toUInt32).toInt32) &&& (3 : Int32))), .val (.ref sb), .val (.int (Int32.ofNat N)), .val (.int fl), .val (.ref b1), .unset, .unset, .unset] [(.ref b1)])) (fun t k => XS.aload X9.here hx rfl (hb hby at_143) rfl rfl k) ?_
      refine own_byH (T' := T9) (g' := (mkF m 146 #[.val (.int x1), .val (.int x2), .val (.int x3), .val (.int x4), .val (.int x5), .val (.int (x1 &&& (3 : Int32))), .val (.int (((x1.toUInt32 >>> ((2 : Int32) &&& 31).toUInt32).toInt32) &&& (3 : Int32))), .val (.ref sb), .val (.int (Int32.ofNat N)), .val (.int fl), .val (.ref b1), .unset, .unset, .unset] [(.int 4), (.ref b1)])) (fun t k => XS.iconst X9.here hx rfl (hb hby at_145) k) ?_
      refine own_byH (T' := T9) (g' := (mkF m 148 #[.val (.int x1), .val (.int x2), .val (.int x3), .val (.int x4), .val (.int x5), .val (.int (x1 &&& (3 : Int32))), .val (.int (((x1.toUInt32 >>> ((2 : Int32) &&& 31).toUInt32).toInt32) &&& (3 : Int32))), .val (.ref sb), .val (.int (Int32.ofNat N)), .val (.int fl), .val (.ref b1), .unset, .unset, .unset] [(.ref sb), (.int 4), (.ref b1)])) (fun t k => XS.aload X9.here hx rfl (hb hby at_146) rfl rfl k) ?_
      refine own_byH (T' := T9) (g' := (mkF m 149 #[.val (.int x1), .val (.int x2), .val (.int x3), .val (.int x4), .val (.int x5), .val (.int (x1 &&& (3 : Int32))), .val (.int (((x1.toUInt32 >>> ((2 : Int32) &&& 31).toUInt32).toInt32) &&& (3 : Int32))), .val (.ref sb), .val (.int (Int32.ofNat N)), .val (.int fl), .val (.ref b1), .unset, .unset, .unset] [(.int 4), (.ref sb), (.int 4), (.ref b1)])) (fun t k => XS.iconst X9.here hx rfl (hb hby at_148) k) ?_
      refine own_byH (T' := T9) (g' := (mkF m 151 #[.val (.int x1), .val (.int x2), .val (.int x3), .val (.int x4), .val (.int x5), .val (.int (x1 &&& (3 : Int32))), .val (.int (((x1.toUInt32 >>> ((2 : Int32) &&& 31).toUInt32).toInt32) &&& (3 : Int32))), .val (.ref sb), .val (.int (Int32.ofNat N)), .val (.int fl), .val (.ref b1), .unset, .unset, .unset] [(.int fl), (.int 4), (.ref sb), (.int 4), (.ref b1)])) (fun t k => XS.iload X9.here hx rfl (hb hby at_149) rfl k) ?_
      obtain ⟨S_COMPACT_STRINGS, S_SIOOBE_FORMATTER, -, -, -, -, -, -, -, -, -, -, -, -, -, -, -, -, -, -, -, -, -, -⟩ := hW.ext O_.2
      obtain ⟨_, _, ⟨T10, L10, k10, n10⟩, -, X10, ⟨Lc10, hQ10, l10, y10, z10⟩, st10⟩ := Jvm.LawKit.callS X9 hx (y := (⟨"com/example/gate2/gate2/DimensionByFieldPinLaw", "ch", "(Ljava/lang/String;IC)C"⟩ : MethodName)) hown (mvT hZ (hw _ (own_m 22 rfl))) (mvT hZ (hw _ (own_m 23 rfl))) (mvT hZ (hw _ (own_m 24 rfl))) (mvT hZ (hw _ (own_m 25 rfl))) (by decide) (backOf (W := 2) (rm3 l Z a0 hw [] sb (4 : Int32) fl tb kb csb zC fm 4 T9.heap n0 Zle Q_sb S_COMPACT_STRINGS S_SIOOBE_FORMATTER (hzC) (hfm) (⟨rfl, by decide⟩) (hfl)) hZ (hw _ (own_m 25 rfl)) (hw _ (own_m 24 rfl)) (by decide) (by decide)) (g := (mkF m 151 #[.val (.int x1), .val (.int x2), .val (.int x3), .val (.int x4), .val (.int x5), .val (.int (x1 &&& (3 : Int32))), .val (.int (((x1.toUInt32 >>> ((2 : Int32) &&& 31).toUInt32).toInt32) &&& (3 : Int32))), .val (.ref sb), .val (.int (Int32.ofNat N)), .val (.int fl), .val (.ref b1), .unset, .unset, .unset] [(.int fl), (.int 4), (.ref sb), (.int 4), (.ref b1)])) rfl (by rw [hml]; rfl) (argsL := [(.ref sb), (.int 4), (.int fl)]) (rest := [(.int 4), (.ref b1)]) (lenOf pd_2 rfl) rfl (own_le rfl) (hb hby at_151) (fun _ _ => ⟨rfl, rfl, (by decide : 3 + 0 ≤ _), (by decide : 45 + 0 ≤ _)⟩)
      dsimp only [Pt.U, Pt.locs, Pt.cells, Pt.slots] at X10 l10 y10 z10 st10 hQ10
      subst l10 y10 z10
      obtain ⟨rr_10, rfl, Nq10, c10_0, c10_1⟩ := hQ10
      replace N_ := Fr.app N_ Nq10
      clear Nq10
      refine own_byH (T' := T10) (g' := (mkF m 154 #[.val (.int x1), .val (.int x2), .val (.int x3), .val (.int x4), .val (.int x5), .val (.int (x1 &&& (3 : Int32))), .val (.int (((x1.toUInt32 >>> ((2 : Int32) &&& 31).toUInt32).toInt32) &&& (3 : Int32))), .val (.ref sb), .val (.int (Int32.ofNat N)), .val (.int fl), .val (.ref b1), .unset, .unset, .unset] [(.int rr_10), (.int 4), (.ref b1)])) (fun t k => st10 _ k) ?_
      clear st10 X9
      obtain ⟨_, _, ⟨T11, L11, k11, n11⟩, -, X11, ⟨Lc11, hQ11, l11, y11, z11⟩, st11⟩ := Jvm.LawKit.callS X10 hx (y := (⟨"com/example/gate2/gate2/DimensionByFieldPinLaw", "put", "([CIC)V"⟩ : MethodName)) hown (mvT hZ (hw _ (own_m 48 rfl))) (mvT hZ (hw _ (own_m 49 rfl))) (mvT hZ (hw _ (own_m 24 rfl))) (mvT hZ (hw _ (own_m 50 rfl))) (by decide) (backOf (W := 0) (rm9 l Z a0 hw [] b1 (4 : Int32) rr_10 k1 N cs2_9 T9.heap n0 Zle c9_3 g_b1 (c9_1) (hN9) (c9_2) (c10_0) (by decide)) hZ (hw _ (own_m 50 rfl)) (hw _ (own_m 24 rfl)) (by decide) (by decide)) (g := (mkF m 154 #[.val (.int x1), .val (.int x2), .val (.int x3), .val (.int x4), .val (.int x5), .val (.int (x1 &&& (3 : Int32))), .val (.int (((x1.toUInt32 >>> ((2 : Int32) &&& 31).toUInt32).toInt32) &&& (3 : Int32))), .val (.ref sb), .val (.int (Int32.ofNat N)), .val (.int fl), .val (.ref b1), .unset, .unset, .unset] [(.int rr_10), (.int 4), (.ref b1)])) rfl (by rw [hml]; rfl) (argsL := [(.ref b1), (.int 4), (.int rr_10)]) (rest := []) (lenOf pd_8 rfl) rfl (own_le rfl) (hb hby at_154) (fun _ _ => ⟨rfl, c10_1, (by decide : 3 + 0 ≤ _), (by decide : 45 + 0 ≤ _)⟩)
      dsimp only [Pt.U, Pt.locs, Pt.cells, Pt.slots] at X11 l11 y11 z11 st11 hQ11
      subst l11 y11 z11
      obtain ⟨cs2_11, rfl, Nq11, c11_0, c11_1, c11_2, c11_3⟩ := hQ11
      replace N_ := Fr.app N_ Nq11
      clear Nq11
      have CR_ := CHr.keep c11_0 (allS Sf_b1 all0) R_.1
      replace Sf_b1 := Safe.keep c11_0 (allS Sf_b1 all0) R_.1 Sf_b1
      replace R_ := R_.trans CR_
      clear CR_
      replace Zle := Nat.le_trans Zle c11_0.1
      replace hk_ := Nat.le_trans hk_ c11_0.1
      replace O_ := O_.keep c11_0 (allS g_b1 all0)
      replace Q_sb := Q_sb.keep c11_0 (ninS ne_sb_b1 nin0) (ninS ne_tb_b1 nin0)
      refine own_byH (T' := T11) (g' := (mkF m 157 #[.val (.int x1), .val (.int x2), .val (.int x3), .val (.int x4), .val (.int x5), .val (.int (x1 &&& (3 : Int32))), .val (.int (((x1.toUInt32 >>> ((2 : Int32) &&& 31).toUInt32).toInt32) &&& (3 : Int32))), .val (.ref sb), .val (.int (Int32.ofNat N)), .val (.int fl), .val (.ref b1), .unset, .unset, .unset] [])) (fun t k => st11 _ k) ?_
      clear st11 X10
      refine own_byH (T' := T11) (g' := (mkF m 159 #[.val (.int x1), .val (.int x2), .val (.int x3), .val (.int x4), .val (.int x5), .val (.int (x1 &&& (3 : Int32))), .val (.int (((x1.toUInt32 >>> ((2 : Int32) &&& 31).toUInt32).toInt32) &&& (3 : Int32))), .val (.ref sb), .val (.int (Int32.ofNat N)), .val (.int fl), .val (.ref b1), .unset, .unset, .unset] [(.ref b1)])) (fun t k => XS.aload X11.here hx rfl (hb hby at_157) rfl rfl k) ?_
      refine own_byH (T' := T11) (g' := (mkF m 160 #[.val (.int x1), .val (.int x2), .val (.int x3), .val (.int x4), .val (.int x5), .val (.int (x1 &&& (3 : Int32))), .val (.int (((x1.toUInt32 >>> ((2 : Int32) &&& 31).toUInt32).toInt32) &&& (3 : Int32))), .val (.ref sb), .val (.int (Int32.ofNat N)), .val (.int fl), .val (.ref b1), .unset, .unset, .unset] [(.int 5), (.ref b1)])) (fun t k => XS.iconst X11.here hx rfl (hb hby at_159) k) ?_
      refine own_byH (T' := T11) (g' := (mkF m 162 #[.val (.int x1), .val (.int x2), .val (.int x3), .val (.int x4), .val (.int x5), .val (.int (x1 &&& (3 : Int32))), .val (.int (((x1.toUInt32 >>> ((2 : Int32) &&& 31).toUInt32).toInt32) &&& (3 : Int32))), .val (.ref sb), .val (.int (Int32.ofNat N)), .val (.int fl), .val (.ref b1), .unset, .unset, .unset] [(.ref sb), (.int 5), (.ref b1)])) (fun t k => XS.aload X11.here hx rfl (hb hby at_160) rfl rfl k) ?_
      refine own_byH (T' := T11) (g' := (mkF m 163 #[.val (.int x1), .val (.int x2), .val (.int x3), .val (.int x4), .val (.int x5), .val (.int (x1 &&& (3 : Int32))), .val (.int (((x1.toUInt32 >>> ((2 : Int32) &&& 31).toUInt32).toInt32) &&& (3 : Int32))), .val (.ref sb), .val (.int (Int32.ofNat N)), .val (.int fl), .val (.ref b1), .unset, .unset, .unset] [(.int 5), (.ref sb), (.int 5), (.ref b1)])) (fun t k => XS.iconst X11.here hx rfl (hb hby at_162) k) ?_
      refine own_byH (T' := T11) (g' := (mkF m 165 #[.val (.int x1), .val (.int x2), .val (.int x3), .val (.int x4), .val (.int x5), .val (.int (x1 &&& (3 : Int32))), .val (.int (((x1.toUInt32 >>> ((2 : Int32) &&& 31).toUInt32).toInt32) &&& (3 : Int32))), .val (.ref sb), .val (.int (Int32.ofNat N)), .val (.int fl), .val (.ref b1), .unset, .unset, .unset] [(.int fl), (.int 5), (.ref sb), (.int 5), (.ref b1)])) (fun t k => XS.iload X11.here hx rfl (hb hby at_163) rfl k) ?_
      obtain ⟨S_COMPACT_STRINGS, S_SIOOBE_FORMATTER, -, -, -, -, -, -, -, -, -, -, -, -, -, -, -, -, -, -, -, -, -, -⟩ := hW.ext O_.2
      obtain ⟨_, _, ⟨T12, L12, k12, n12⟩, -, X12, ⟨Lc12, hQ12, l12, y12, z12⟩, st12⟩ := Jvm.LawKit.callS X11 hx (y := (⟨"com/example/gate2/gate2/DimensionByFieldPinLaw", "ch", "(Ljava/lang/String;IC)C"⟩ : MethodName)) hown (mvT hZ (hw _ (own_m 22 rfl))) (mvT hZ (hw _ (own_m 23 rfl))) (mvT hZ (hw _ (own_m 24 rfl))) (mvT hZ (hw _ (own_m 25 rfl))) (by decide) (backOf (W := 2) (rm3 l Z a0 hw [] sb (5 : Int32) fl tb kb csb zC fm 5 T11.heap n0 Zle Q_sb S_COMPACT_STRINGS S_SIOOBE_FORMATTER (hzC) (hfm) (⟨rfl, by decide⟩) (hfl)) hZ (hw _ (own_m 25 rfl)) (hw _ (own_m 24 rfl)) (by decide) (by decide)) (g := (mkF m 165 #[.val (.int x1), .val (.int x2), .val (.int x3), .val (.int x4), .val (.int x5), .val (.int (x1 &&& (3 : Int32))), .val (.int (((x1.toUInt32 >>> ((2 : Int32) &&& 31).toUInt32).toInt32) &&& (3 : Int32))), .val (.ref sb), .val (.int (Int32.ofNat N)), .val (.int fl), .val (.ref b1), .unset, .unset, .unset] [(.int fl), (.int 5), (.ref sb), (.int 5), (.ref b1)])) rfl (by rw [hml]; rfl) (argsL := [(.ref sb), (.int 5), (.int fl)]) (rest := [(.int 5), (.ref b1)]) (lenOf pd_2 rfl) rfl (own_le rfl) (hb hby at_165) (fun _ _ => ⟨rfl, rfl, (by decide : 3 + 0 ≤ _), (by decide : 45 + 0 ≤ _)⟩)
      dsimp only [Pt.U, Pt.locs, Pt.cells, Pt.slots] at X12 l12 y12 z12 st12 hQ12
      subst l12 y12 z12
      obtain ⟨rr_12, rfl, Nq12, c12_0, c12_1⟩ := hQ12
      replace N_ := Fr.app N_ Nq12
      clear Nq12
      refine own_byH (T' := T12) (g' := (mkF m 168 #[.val (.int x1), .val (.int x2), .val (.int x3), .val (.int x4), .val (.int x5), .val (.int (x1 &&& (3 : Int32))), .val (.int (((x1.toUInt32 >>> ((2 : Int32) &&& 31).toUInt32).toInt32) &&& (3 : Int32))), .val (.ref sb), .val (.int (Int32.ofNat N)), .val (.int fl), .val (.ref b1), .unset, .unset, .unset] [(.int rr_12), (.int 5), (.ref b1)])) (fun t k => st12 _ k) ?_
      clear st12 X11
      obtain ⟨_, _, ⟨T13, L13, k13, n13⟩, -, X13, ⟨Lc13, hQ13, l13, y13, z13⟩, st13⟩ := Jvm.LawKit.callS X12 hx (y := (⟨"com/example/gate2/gate2/DimensionByFieldPinLaw", "put", "([CIC)V"⟩ : MethodName)) hown (mvT hZ (hw _ (own_m 48 rfl))) (mvT hZ (hw _ (own_m 49 rfl))) (mvT hZ (hw _ (own_m 24 rfl))) (mvT hZ (hw _ (own_m 50 rfl))) (by decide) (backOf (W := 0) (rm9 l Z a0 hw [] b1 (5 : Int32) rr_12 k1 N cs2_11 T11.heap n0 Zle c11_3 g_b1 (c11_1) (hN9) (c11_2) (c12_0) (by decide)) hZ (hw _ (own_m 50 rfl)) (hw _ (own_m 24 rfl)) (by decide) (by decide)) (g := (mkF m 168 #[.val (.int x1), .val (.int x2), .val (.int x3), .val (.int x4), .val (.int x5), .val (.int (x1 &&& (3 : Int32))), .val (.int (((x1.toUInt32 >>> ((2 : Int32) &&& 31).toUInt32).toInt32) &&& (3 : Int32))), .val (.ref sb), .val (.int (Int32.ofNat N)), .val (.int fl), .val (.ref b1), .unset, .unset, .unset] [(.int rr_12), (.int 5), (.ref b1)])) rfl (by rw [hml]; rfl) (argsL := [(.ref b1), (.int 5), (.int rr_12)]) (rest := []) (lenOf pd_8 rfl) rfl (own_le rfl) (hb hby at_168) (fun _ _ => ⟨rfl, c12_1, (by decide : 3 + 0 ≤ _), (by decide : 45 + 0 ≤ _)⟩)
      dsimp only [Pt.U, Pt.locs, Pt.cells, Pt.slots] at X13 l13 y13 z13 st13 hQ13
      subst l13 y13 z13
      obtain ⟨cs2_13, rfl, Nq13, c13_0, c13_1, c13_2, c13_3⟩ := hQ13
      replace N_ := Fr.app N_ Nq13
      clear Nq13
      have CR_ := CHr.keep c13_0 (allS Sf_b1 all0) R_.1
      replace Sf_b1 := Safe.keep c13_0 (allS Sf_b1 all0) R_.1 Sf_b1
      replace R_ := R_.trans CR_
      clear CR_
      replace Zle := Nat.le_trans Zle c13_0.1
      replace hk_ := Nat.le_trans hk_ c13_0.1
      replace O_ := O_.keep c13_0 (allS g_b1 all0)
      replace Q_sb := Q_sb.keep c13_0 (ninS ne_sb_b1 nin0) (ninS ne_tb_b1 nin0)
      refine own_byH (T' := T13) (g' := (mkF m 171 #[.val (.int x1), .val (.int x2), .val (.int x3), .val (.int x4), .val (.int x5), .val (.int (x1 &&& (3 : Int32))), .val (.int (((x1.toUInt32 >>> ((2 : Int32) &&& 31).toUInt32).toInt32) &&& (3 : Int32))), .val (.ref sb), .val (.int (Int32.ofNat N)), .val (.int fl), .val (.ref b1), .unset, .unset, .unset] [])) (fun t k => st13 _ k) ?_
      clear st13 X12
      refine own_byH (T' := T13) (g' := (mkF m 173 #[.val (.int x1), .val (.int x2), .val (.int x3), .val (.int x4), .val (.int x5), .val (.int (x1 &&& (3 : Int32))), .val (.int (((x1.toUInt32 >>> ((2 : Int32) &&& 31).toUInt32).toInt32) &&& (3 : Int32))), .val (.ref sb), .val (.int (Int32.ofNat N)), .val (.int fl), .val (.ref b1), .unset, .unset, .unset] [(.ref b1)])) (fun t k => XS.aload X13.here hx rfl (hb hby at_171) rfl rfl k) ?_
      refine own_byH (T' := T13) (g' := (mkF m 175 #[.val (.int x1), .val (.int x2), .val (.int x3), .val (.int x4), .val (.int x5), .val (.int (x1 &&& (3 : Int32))), .val (.int (((x1.toUInt32 >>> ((2 : Int32) &&& 31).toUInt32).toInt32) &&& (3 : Int32))), .val (.ref sb), .val (.int (Int32.ofNat N)), .val (.int fl), .val (.ref b1), .unset, .unset, .unset] [(.int 6), (.ref b1)])) (fun t k => XS.bipush X13.here hx rfl (hb hby at_173) k) ?_
      refine own_byH (T' := T13) (g' := (mkF m 177 #[.val (.int x1), .val (.int x2), .val (.int x3), .val (.int x4), .val (.int x5), .val (.int (x1 &&& (3 : Int32))), .val (.int (((x1.toUInt32 >>> ((2 : Int32) &&& 31).toUInt32).toInt32) &&& (3 : Int32))), .val (.ref sb), .val (.int (Int32.ofNat N)), .val (.int fl), .val (.ref b1), .unset, .unset, .unset] [(.ref sb), (.int 6), (.ref b1)])) (fun t k => XS.aload X13.here hx rfl (hb hby at_175) rfl rfl k) ?_
      refine own_byH (T' := T13) (g' := (mkF m 179 #[.val (.int x1), .val (.int x2), .val (.int x3), .val (.int x4), .val (.int x5), .val (.int (x1 &&& (3 : Int32))), .val (.int (((x1.toUInt32 >>> ((2 : Int32) &&& 31).toUInt32).toInt32) &&& (3 : Int32))), .val (.ref sb), .val (.int (Int32.ofNat N)), .val (.int fl), .val (.ref b1), .unset, .unset, .unset] [(.int 6), (.ref sb), (.int 6), (.ref b1)])) (fun t k => XS.bipush X13.here hx rfl (hb hby at_177) k) ?_
      refine own_byH (T' := T13) (g' := (mkF m 181 #[.val (.int x1), .val (.int x2), .val (.int x3), .val (.int x4), .val (.int x5), .val (.int (x1 &&& (3 : Int32))), .val (.int (((x1.toUInt32 >>> ((2 : Int32) &&& 31).toUInt32).toInt32) &&& (3 : Int32))), .val (.ref sb), .val (.int (Int32.ofNat N)), .val (.int fl), .val (.ref b1), .unset, .unset, .unset] [(.int fl), (.int 6), (.ref sb), (.int 6), (.ref b1)])) (fun t k => XS.iload X13.here hx rfl (hb hby at_179) rfl k) ?_
      obtain ⟨S_COMPACT_STRINGS, S_SIOOBE_FORMATTER, -, -, -, -, -, -, -, -, -, -, -, -, -, -, -, -, -, -, -, -, -, -⟩ := hW.ext O_.2
      obtain ⟨_, _, ⟨T14, L14, k14, n14⟩, -, X14, ⟨Lc14, hQ14, l14, y14, z14⟩, st14⟩ := Jvm.LawKit.callS X13 hx (y := (⟨"com/example/gate2/gate2/DimensionByFieldPinLaw", "ch", "(Ljava/lang/String;IC)C"⟩ : MethodName)) hown (mvT hZ (hw _ (own_m 22 rfl))) (mvT hZ (hw _ (own_m 23 rfl))) (mvT hZ (hw _ (own_m 24 rfl))) (mvT hZ (hw _ (own_m 25 rfl))) (by decide) (backOf (W := 2) (rm3 l Z a0 hw [] sb (6 : Int32) fl tb kb csb zC fm 6 T13.heap n0 Zle Q_sb S_COMPACT_STRINGS S_SIOOBE_FORMATTER (hzC) (hfm) (⟨rfl, by decide⟩) (hfl)) hZ (hw _ (own_m 25 rfl)) (hw _ (own_m 24 rfl)) (by decide) (by decide)) (g := (mkF m 181 #[.val (.int x1), .val (.int x2), .val (.int x3), .val (.int x4), .val (.int x5), .val (.int (x1 &&& (3 : Int32))), .val (.int (((x1.toUInt32 >>> ((2 : Int32) &&& 31).toUInt32).toInt32) &&& (3 : Int32))), .val (.ref sb), .val (.int (Int32.ofNat N)), .val (.int fl), .val (.ref b1), .unset, .unset, .unset] [(.int fl), (.int 6), (.ref sb), (.int 6), (.ref b1)])) rfl (by rw [hml]; rfl) (argsL := [(.ref sb), (.int 6), (.int fl)]) (rest := [(.int 6), (.ref b1)]) (lenOf pd_2 rfl) rfl (own_le rfl) (hb hby at_181) (fun _ _ => ⟨rfl, rfl, (by decide : 3 + 0 ≤ _), (by decide : 45 + 0 ≤ _)⟩)
      dsimp only [Pt.U, Pt.locs, Pt.cells, Pt.slots] at X14 l14 y14 z14 st14 hQ14
      subst l14 y14 z14
      obtain ⟨rr_14, rfl, Nq14, c14_0, c14_1⟩ := hQ14
      replace N_ := Fr.app N_ Nq14
      clear Nq14
      refine own_byH (T' := T14) (g' := (mkF m 184 #[.val (.int x1), .val (.int x2), .val (.int x3), .val (.int x4), .val (.int x5), .val (.int (x1 &&& (3 : Int32))), .val (.int (((x1.toUInt32 >>> ((2 : Int32) &&& 31).toUInt32).toInt32) &&& (3 : Int32))), .val (.ref sb), .val (.int (Int32.ofNat N)), .val (.int fl), .val (.ref b1), .unset, .unset, .unset] [(.int rr_14), (.int 6), (.ref b1)])) (fun t k => st14 _ k) ?_
      clear st14 X13
      obtain ⟨_, _, ⟨T15, L15, k15, n15⟩, -, X15, ⟨Lc15, hQ15, l15, y15, z15⟩, st15⟩ := Jvm.LawKit.callS X14 hx (y := (⟨"com/example/gate2/gate2/DimensionByFieldPinLaw", "put", "([CIC)V"⟩ : MethodName)) hown (mvT hZ (hw _ (own_m 48 rfl))) (mvT hZ (hw _ (own_m 49 rfl))) (mvT hZ (hw _ (own_m 24 rfl))) (mvT hZ (hw _ (own_m 50 rfl))) (by decide) (backOf (W := 0) (rm9 l Z a0 hw [] b1 (6 : Int32) rr_14 k1 N cs2_13 T13.heap n0 Zle c13_3 g_b1 (c13_1) (hN9) (c13_2) (c14_0) (by decide)) hZ (hw _ (own_m 50 rfl)) (hw _ (own_m 24 rfl)) (by decide) (by decide)) (g := (mkF m 184 #[.val (.int x1), .val (.int x2), .val (.int x3), .val (.int x4), .val (.int x5), .val (.int (x1 &&& (3 : Int32))), .val (.int (((x1.toUInt32 >>> ((2 : Int32) &&& 31).toUInt32).toInt32) &&& (3 : Int32))), .val (.ref sb), .val (.int (Int32.ofNat N)), .val (.int fl), .val (.ref b1), .unset, .unset, .unset] [(.int rr_14), (.int 6), (.ref b1)])) rfl (by rw [hml]; rfl) (argsL := [(.ref b1), (.int 6), (.int rr_14)]) (rest := []) (lenOf pd_8 rfl) rfl (own_le rfl) (hb hby at_184) (fun _ _ => ⟨rfl, c14_1, (by decide : 3 + 0 ≤ _), (by decide : 45 + 0 ≤ _)⟩)
      dsimp only [Pt.U, Pt.locs, Pt.cells, Pt.slots] at X15 l15 y15 z15 st15 hQ15
      subst l15 y15 z15
      obtain ⟨cs2_15, rfl, Nq15, c15_0, c15_1, c15_2, c15_3⟩ := hQ15
      replace N_ := Fr.app N_ Nq15
      clear Nq15
      have CR_ := CHr.keep c15_0 (allS Sf_b1 all0) R_.1
      replace Sf_b1 := Safe.keep c15_0 (allS Sf_b1 all0) R_.1 Sf_b1
      replace R_ := R_.trans CR_
      clear CR_
      replace Zle := Nat.le_trans Zle c15_0.1
      replace hk_ := Nat.le_trans hk_ c15_0.1
      replace O_ := O_.keep c15_0 (allS g_b1 all0)
      replace Q_sb := Q_sb.keep c15_0 (ninS ne_sb_b1 nin0) (ninS ne_tb_b1 nin0)
      refine own_byH (T' := T15) (g' := (mkF m 187 #[.val (.int x1), .val (.int x2), .val (.int x3), .val (.int x4), .val (.int x5), .val (.int (x1 &&& (3 : Int32))), .val (.int (((x1.toUInt32 >>> ((2 : Int32) &&& 31).toUInt32).toInt32) &&& (3 : Int32))), .val (.ref sb), .val (.int (Int32.ofNat N)), .val (.int fl), .val (.ref b1), .unset, .unset, .unset] [])) (fun t k => st15 _ k) ?_
      clear st15 X14
      refine own_byH (T' := T15) (g' := (mkF m 189 #[.val (.int x1), .val (.int x2), .val (.int x3), .val (.int x4), .val (.int x5), .val (.int (x1 &&& (3 : Int32))), .val (.int (((x1.toUInt32 >>> ((2 : Int32) &&& 31).toUInt32).toInt32) &&& (3 : Int32))), .val (.ref sb), .val (.int (Int32.ofNat N)), .val (.int fl), .val (.ref b1), .unset, .unset, .unset] [(.ref b1)])) (fun t k => XS.aload X15.here hx rfl (hb hby at_187) rfl rfl k) ?_
      refine own_byH (T' := T15) (g' := (mkF m 191 #[.val (.int x1), .val (.int x2), .val (.int x3), .val (.int x4), .val (.int x5), .val (.int (x1 &&& (3 : Int32))), .val (.int (((x1.toUInt32 >>> ((2 : Int32) &&& 31).toUInt32).toInt32) &&& (3 : Int32))), .val (.ref sb), .val (.int (Int32.ofNat N)), .val (.int fl), .val (.ref b1), .unset, .unset, .unset] [(.int 7), (.ref b1)])) (fun t k => XS.bipush X15.here hx rfl (hb hby at_189) k) ?_
      refine own_byH (T' := T15) (g' := (mkF m 193 #[.val (.int x1), .val (.int x2), .val (.int x3), .val (.int x4), .val (.int x5), .val (.int (x1 &&& (3 : Int32))), .val (.int (((x1.toUInt32 >>> ((2 : Int32) &&& 31).toUInt32).toInt32) &&& (3 : Int32))), .val (.ref sb), .val (.int (Int32.ofNat N)), .val (.int fl), .val (.ref b1), .unset, .unset, .unset] [(.ref sb), (.int 7), (.ref b1)])) (fun t k => XS.aload X15.here hx rfl (hb hby at_191) rfl rfl k) ?_
      refine own_byH (T' := T15) (g' := (mkF m 195 #[.val (.int x1), .val (.int x2), .val (.int x3), .val (.int x4), .val (.int x5), .val (.int (x1 &&& (3 : Int32))), .val (.int (((x1.toUInt32 >>> ((2 : Int32) &&& 31).toUInt32).toInt32) &&& (3 : Int32))), .val (.ref sb), .val (.int (Int32.ofNat N)), .val (.int fl), .val (.ref b1), .unset, .unset, .unset] [(.int 7), (.ref sb), (.int 7), (.ref b1)])) (fun t k => XS.bipush X15.here hx rfl (hb hby at_193) k) ?_
      refine own_byH (T' := T15) (g' := (mkF m 197 #[.val (.int x1), .val (.int x2), .val (.int x3), .val (.int x4), .val (.int x5), .val (.int (x1 &&& (3 : Int32))), .val (.int (((x1.toUInt32 >>> ((2 : Int32) &&& 31).toUInt32).toInt32) &&& (3 : Int32))), .val (.ref sb), .val (.int (Int32.ofNat N)), .val (.int fl), .val (.ref b1), .unset, .unset, .unset] [(.int fl), (.int 7), (.ref sb), (.int 7), (.ref b1)])) (fun t k => XS.iload X15.here hx rfl (hb hby at_195) rfl k) ?_
      obtain ⟨S_COMPACT_STRINGS, S_SIOOBE_FORMATTER, -, -, -, -, -, -, -, -, -, -, -, -, -, -, -, -, -, -, -, -, -, -⟩ := hW.ext O_.2
      obtain ⟨_, _, ⟨T16, L16, k16, n16⟩, -, X16, ⟨Lc16, hQ16, l16, y16, z16⟩, st16⟩ := Jvm.LawKit.callS X15 hx (y := (⟨"com/example/gate2/gate2/DimensionByFieldPinLaw", "ch", "(Ljava/lang/String;IC)C"⟩ : MethodName)) hown (mvT hZ (hw _ (own_m 22 rfl))) (mvT hZ (hw _ (own_m 23 rfl))) (mvT hZ (hw _ (own_m 24 rfl))) (mvT hZ (hw _ (own_m 25 rfl))) (by decide) (backOf (W := 2) (rm3 l Z a0 hw [] sb (7 : Int32) fl tb kb csb zC fm 7 T15.heap n0 Zle Q_sb S_COMPACT_STRINGS S_SIOOBE_FORMATTER (hzC) (hfm) (⟨rfl, by decide⟩) (hfl)) hZ (hw _ (own_m 25 rfl)) (hw _ (own_m 24 rfl)) (by decide) (by decide)) (g := (mkF m 197 #[.val (.int x1), .val (.int x2), .val (.int x3), .val (.int x4), .val (.int x5), .val (.int (x1 &&& (3 : Int32))), .val (.int (((x1.toUInt32 >>> ((2 : Int32) &&& 31).toUInt32).toInt32) &&& (3 : Int32))), .val (.ref sb), .val (.int (Int32.ofNat N)), .val (.int fl), .val (.ref b1), .unset, .unset, .unset] [(.int fl), (.int 7), (.ref sb), (.int 7), (.ref b1)])) rfl (by rw [hml]; rfl) (argsL := [(.ref sb), (.int 7), (.int fl)]) (rest := [(.int 7), (.ref b1)]) (lenOf pd_2 rfl) rfl (own_le rfl) (hb hby at_197) (fun _ _ => ⟨rfl, rfl, (by decide : 3 + 0 ≤ _), (by decide : 45 + 0 ≤ _)⟩)
      dsimp only [Pt.U, Pt.locs, Pt.cells, Pt.slots] at X16 l16 y16 z16 st16 hQ16
      subst l16 y16 z16
      obtain ⟨rr_16, rfl, Nq16, c16_0, c16_1⟩ := hQ16
      replace N_ := Fr.app N_ Nq16
      clear Nq16
      refine own_byH (T' := T16) (g' := (mkF m 200 #[.val (.int x1), .val (.int x2), .val (.int x3), .val (.int x4), .val (.int x5), .val (.int (x1 &&& (3 : Int32))), .val (.int (((x1.toUInt32 >>> ((2 : Int32) &&& 31).toUInt32).toInt32) &&& (3 : Int32))), .val (.ref sb), .val (.int (Int32.ofNat N)), .val (.int fl), .val (.ref b1), .unset, .unset, .unset] [(.int rr_16), (.int 7), (.ref b1)])) (fun t k => st16 _ k) ?_
      clear st16 X15
      obtain ⟨_, _, ⟨T17, L17, k17, n17⟩, -, X17, ⟨Lc17, hQ17, l17, y17, z17⟩, st17⟩ := Jvm.LawKit.callS X16 hx (y := (⟨"com/example/gate2/gate2/DimensionByFieldPinLaw", "put", "([CIC)V"⟩ : MethodName)) hown (mvT hZ (hw _ (own_m 48 rfl))) (mvT hZ (hw _ (own_m 49 rfl))) (mvT hZ (hw _ (own_m 24 rfl))) (mvT hZ (hw _ (own_m 50 rfl))) (by decide) (backOf (W := 0) (rm9 l Z a0 hw [] b1 (7 : Int32) rr_16 k1 N cs2_15 T15.heap n0 Zle c15_3 g_b1 (c15_1) (hN9) (c15_2) (c16_0) (by decide)) hZ (hw _ (own_m 50 rfl)) (hw _ (own_m 24 rfl)) (by decide) (by decide)) (g := (mkF m 200 #[.val (.int x1), .val (.int x2), .val (.int x3), .val (.int x4), .val (.int x5), .val (.int (x1 &&& (3 : Int32))), .val (.int (((x1.toUInt32 >>> ((2 : Int32) &&& 31).toUInt32).toInt32) &&& (3 : Int32))), .val (.ref sb), .val (.int (Int32.ofNat N)), .val (.int fl), .val (.ref b1), .unset, .unset, .unset] [(.int rr_16), (.int 7), (.ref b1)])) rfl (by rw [hml]; rfl) (argsL := [(.ref b1), (.int 7), (.int rr_16)]) (rest := []) (lenOf pd_8 rfl) rfl (own_le rfl) (hb hby at_200) (fun _ _ => ⟨rfl, c16_1, (by decide : 3 + 0 ≤ _), (by decide : 45 + 0 ≤ _)⟩)
      dsimp only [Pt.U, Pt.locs, Pt.cells, Pt.slots] at X17 l17 y17 z17 st17 hQ17
      subst l17 y17 z17
      obtain ⟨cs2_17, rfl, Nq17, c17_0, c17_1, c17_2, c17_3⟩ := hQ17
      replace N_ := Fr.app N_ Nq17
      clear Nq17
      have CR_ := CHr.keep c17_0 (allS Sf_b1 all0) R_.1
      replace Sf_b1 := Safe.keep c17_0 (allS Sf_b1 all0) R_.1 Sf_b1
      replace R_ := R_.trans CR_
      clear CR_
      replace Zle := Nat.le_trans Zle c17_0.1
      replace hk_ := Nat.le_trans hk_ c17_0.1
      replace O_ := O_.keep c17_0 (allS g_b1 all0)
      replace Q_sb := Q_sb.keep c17_0 (ninS ne_sb_b1 nin0) (ninS ne_tb_b1 nin0)
      refine own_byH (T' := T17) (g' := (mkF m 203 #[.val (.int x1), .val (.int x2), .val (.int x3), .val (.int x4), .val (.int x5), .val (.int (x1 &&& (3 : Int32))), .val (.int (((x1.toUInt32 >>> ((2 : Int32) &&& 31).toUInt32).toInt32) &&& (3 : Int32))), .val (.ref sb), .val (.int (Int32.ofNat N)), .val (.int fl), .val (.ref b1), .unset, .unset, .unset] [])) (fun t k => st17 _ k) ?_
      clear st17 X16
      refine own_byH (T' := T17) (g' := (mkF m 205 #[.val (.int x1), .val (.int x2), .val (.int x3), .val (.int x4), .val (.int x5), .val (.int (x1 &&& (3 : Int32))), .val (.int (((x1.toUInt32 >>> ((2 : Int32) &&& 31).toUInt32).toInt32) &&& (3 : Int32))), .val (.ref sb), .val (.int (Int32.ofNat N)), .val (.int fl), .val (.ref b1), .unset, .unset, .unset] [(.ref b1)])) (fun t k => XS.aload X17.here hx rfl (hb hby at_203) rfl rfl k) ?_
      refine own_byH (T' := T17) (g' := (mkF m 207 #[.val (.int x1), .val (.int x2), .val (.int x3), .val (.int x4), .val (.int x5), .val (.int (x1 &&& (3 : Int32))), .val (.int (((x1.toUInt32 >>> ((2 : Int32) &&& 31).toUInt32).toInt32) &&& (3 : Int32))), .val (.ref sb), .val (.int (Int32.ofNat N)), .val (.int fl), .val (.ref b1), .unset, .unset, .unset] [(.int 8), (.ref b1)])) (fun t k => XS.bipush X17.here hx rfl (hb hby at_205) k) ?_
      refine own_byH (T' := T17) (g' := (mkF m 209 #[.val (.int x1), .val (.int x2), .val (.int x3), .val (.int x4), .val (.int x5), .val (.int (x1 &&& (3 : Int32))), .val (.int (((x1.toUInt32 >>> ((2 : Int32) &&& 31).toUInt32).toInt32) &&& (3 : Int32))), .val (.ref sb), .val (.int (Int32.ofNat N)), .val (.int fl), .val (.ref b1), .unset, .unset, .unset] [(.ref sb), (.int 8), (.ref b1)])) (fun t k => XS.aload X17.here hx rfl (hb hby at_207) rfl rfl k) ?_
      refine own_byH (T' := T17) (g' := (mkF m 211 #[.val (.int x1), .val (.int x2), .val (.int x3), .val (.int x4), .val (.int x5), .val (.int (x1 &&& (3 : Int32))), .val (.int (((x1.toUInt32 >>> ((2 : Int32) &&& 31).toUInt32).toInt32) &&& (3 : Int32))), .val (.ref sb), .val (.int (Int32.ofNat N)), .val (.int fl), .val (.ref b1), .unset, .unset, .unset] [(.int 8), (.ref sb), (.int 8), (.ref b1)])) (fun t k => XS.bipush X17.here hx rfl (hb hby at_209) k) ?_
      refine own_byH (T' := T17) (g' := (mkF m 213 #[.val (.int x1), .val (.int x2), .val (.int x3), .val (.int x4), .val (.int x5), .val (.int (x1 &&& (3 : Int32))), .val (.int (((x1.toUInt32 >>> ((2 : Int32) &&& 31).toUInt32).toInt32) &&& (3 : Int32))), .val (.ref sb), .val (.int (Int32.ofNat N)), .val (.int fl), .val (.ref b1), .unset, .unset, .unset] [(.int fl), (.int 8), (.ref sb), (.int 8), (.ref b1)])) (fun t k => XS.iload X17.here hx rfl (hb hby at_211) rfl k) ?_
      obtain ⟨S_COMPACT_STRINGS, S_SIOOBE_FORMATTER, -, -, -, -, -, -, -, -, -, -, -, -, -, -, -, -, -, -, -, -, -, -⟩ := hW.ext O_.2
      obtain ⟨_, _, ⟨T18, L18, k18, n18⟩, -, X18, ⟨Lc18, hQ18, l18, y18, z18⟩, st18⟩ := Jvm.LawKit.callS X17 hx (y := (⟨"com/example/gate2/gate2/DimensionByFieldPinLaw", "ch", "(Ljava/lang/String;IC)C"⟩ : MethodName)) hown (mvT hZ (hw _ (own_m 22 rfl))) (mvT hZ (hw _ (own_m 23 rfl))) (mvT hZ (hw _ (own_m 24 rfl))) (mvT hZ (hw _ (own_m 25 rfl))) (by decide) (backOf (W := 2) (rm3 l Z a0 hw [] sb (8 : Int32) fl tb kb csb zC fm 8 T17.heap n0 Zle Q_sb S_COMPACT_STRINGS S_SIOOBE_FORMATTER (hzC) (hfm) (⟨rfl, by decide⟩) (hfl)) hZ (hw _ (own_m 25 rfl)) (hw _ (own_m 24 rfl)) (by decide) (by decide)) (g := (mkF m 213 #[.val (.int x1), .val (.int x2), .val (.int x3), .val (.int x4), .val (.int x5), .val (.int (x1 &&& (3 : Int32))), .val (.int (((x1.toUInt32 >>> ((2 : Int32) &&& 31).toUInt32).toInt32) &&& (3 : Int32))), .val (.ref sb), .val (.int (Int32.ofNat N)), .val (.int fl), .val (.ref b1), .unset, .unset, .unset] [(.int fl), (.int 8), (.ref sb), (.int 8), (.ref b1)])) rfl (by rw [hml]; rfl) (argsL := [(.ref sb), (.int 8), (.int fl)]) (rest := [(.int 8), (.ref b1)]) (lenOf pd_2 rfl) rfl (own_le rfl) (hb hby at_213) (fun _ _ => ⟨rfl, rfl, (by decide : 3 + 0 ≤ _), (by decide : 45 + 0 ≤ _)⟩)
      dsimp only [Pt.U, Pt.locs, Pt.cells, Pt.slots] at X18 l18 y18 z18 st18 hQ18
      subst l18 y18 z18
      obtain ⟨rr_18, rfl, Nq18, c18_0, c18_1⟩ := hQ18
      replace N_ := Fr.app N_ Nq18
      clear Nq18
      refine own_byH (T' := T18) (g' := (mkF m 216 #[.val (.int x1), .val (.int x2), .val (.int x3), .val (.int x4), .val (.int x5), .val (.int (x1 &&& (3 : Int32))), .val (.int (((x1.toUInt32 >>> ((2 : Int32) &&& 31).toUInt32).toInt32) &&& (3 : Int32))), .val (.ref sb), .val (.int (Int32.ofNat N)), .val (.int fl), .val (.ref b1), .unset, .unset, .unset] [(.int rr_18), (.int 8), (.ref b1)])) (fun t k => st18 _ k) ?_
      clear st18 X17
      obtain ⟨_, _, ⟨T19, L19, k19, n19⟩, -, X19, ⟨Lc19, hQ19, l19, y19, z19⟩, st19⟩ := Jvm.LawKit.callS X18 hx (y := (⟨"com/example/gate2/gate2/DimensionByFieldPinLaw", "put", "([CIC)V"⟩ : MethodName)) hown (mvT hZ (hw _ (own_m 48 rfl))) (mvT hZ (hw _ (own_m 49 rfl))) (mvT hZ (hw _ (own_m 24 rfl))) (mvT hZ (hw _ (own_m 50 rfl))) (by decide) (backOf (W := 0) (rm9 l Z a0 hw [] b1 (8 : Int32) rr_18 k1 N cs2_17 T17.heap n0 Zle c17_3 g_b1 (c17_1) (hN9) (c17_2) (c18_0) (by decide)) hZ (hw _ (own_m 50 rfl)) (hw _ (own_m 24 rfl)) (by decide) (by decide)) (g := (mkF m 216 #[.val (.int x1), .val (.int x2), .val (.int x3), .val (.int x4), .val (.int x5), .val (.int (x1 &&& (3 : Int32))), .val (.int (((x1.toUInt32 >>> ((2 : Int32) &&& 31).toUInt32).toInt32) &&& (3 : Int32))), .val (.ref sb), .val (.int (Int32.ofNat N)), .val (.int fl), .val (.ref b1), .unset, .unset, .unset] [(.int rr_18), (.int 8), (.ref b1)])) rfl (by rw [hml]; rfl) (argsL := [(.ref b1), (.int 8), (.int rr_18)]) (rest := []) (lenOf pd_8 rfl) rfl (own_le rfl) (hb hby at_216) (fun _ _ => ⟨rfl, c18_1, (by decide : 3 + 0 ≤ _), (by decide : 45 + 0 ≤ _)⟩)
      dsimp only [Pt.U, Pt.locs, Pt.cells, Pt.slots] at X19 l19 y19 z19 st19 hQ19
      subst l19 y19 z19
      obtain ⟨cs2_19, rfl, Nq19, c19_0, c19_1, c19_2, c19_3⟩ := hQ19
      replace N_ := Fr.app N_ Nq19
      clear Nq19
      have CR_ := CHr.keep c19_0 (allS Sf_b1 all0) R_.1
      replace Sf_b1 := Safe.keep c19_0 (allS Sf_b1 all0) R_.1 Sf_b1
      replace R_ := R_.trans CR_
      clear CR_
      replace Zle := Nat.le_trans Zle c19_0.1
      replace hk_ := Nat.le_trans hk_ c19_0.1
      replace O_ := O_.keep c19_0 (allS g_b1 all0)
      replace Q_sb := Q_sb.keep c19_0 (ninS ne_sb_b1 nin0) (ninS ne_tb_b1 nin0)
      refine own_byH (T' := T19) (g' := (mkF m 219 #[.val (.int x1), .val (.int x2), .val (.int x3), .val (.int x4), .val (.int x5), .val (.int (x1 &&& (3 : Int32))), .val (.int (((x1.toUInt32 >>> ((2 : Int32) &&& 31).toUInt32).toInt32) &&& (3 : Int32))), .val (.ref sb), .val (.int (Int32.ofNat N)), .val (.int fl), .val (.ref b1), .unset, .unset, .unset] [])) (fun t k => st19 _ k) ?_
      clear st19 X18
      have J247 : ∀ (T_c : State) (h_c : Heap) (vm_c : Vm) (kk_c : Nat) (locs_c : List Loc) (cs_9 : List Int32), Stand p l e room_1 (s.setVm vm_c) m #[(.int x1), (.int x2), (.int x3), (.int x4), (.int x5)] below meth c T_c locs_c 3 45 → T_c.heap = h_c → s.Since vm_c kk_c → kk_c ≤ h_c.size → Z.Warmed39 (s.setVm vm_c).vm → (s.setVm vm_c).vm.findClass "com/example/gate2/gate2/DimensionByFieldPinLaw" = some m.cls → CHr Z own_EL s.vm s.heap vm_c h_c → Old Z n0 h_c → n0 ≤ h_c.size → Fr n0 locs_c → cs_9.length = N → (∀ y ∈ cs_9, own_ok y) → Arv Z h_c b1 k1 .char (Int32.ofNat N) (cs_9.map Value.int) (.int 0) → own_GoesH Z p.tables e below s (Q0 Z x1 x2 x3 x4 x5 va d0 d1 d2 d3 f0 f1 f2 f3 t0 t1 t2 t3 em kvv ky0 ky1 ky2 ky3 zC fm h0 n0) room_1.cells room_1.slots T_c (mkF m 247 #[.val (.int x1), .val (.int x2), .val (.int x3), .val (.int x4), .val (.int x5), .val (.int (x1 &&& (3 : Int32))), .val (.int (((x1.toUInt32 >>> ((2 : Int32) &&& 31).toUInt32).toInt32) &&& (3 : Int32))), .val (.ref sb), .val (.int (Int32.ofNat N)), .val (.int fl), .val (.ref b1), .unset, .unset, .unset] []) := by
        intro T_c h_c vm_c kk_c locs_c cs_9 X_c e_c hS hk_ hZ hown R_ O_ Zle N_ hl_9 hcs_9 V_b1
        have J256 : ∀ (T_d : State) (h_d : Heap) (vm_d : Vm) (kk_d : Nat) (locs_d : List Loc) (xq tq : Addr) (kq : ClassId) (cq : List Int32), Stand p l e room_1 (s.setVm vm_d) m #[(.int x1), (.int x2), (.int x3), (.int x4), (.int x5)] below meth c T_d locs_d 8 58 → T_d.heap = h_d → s.Since vm_d kk_d → kk_d ≤ h_d.size → Z.Warmed39 (s.setVm vm_d).vm → (s.setVm vm_d).vm.findClass "com/example/gate2/gate2/DimensionByFieldPinLaw" = some m.cls → CHr Z own_EL s.vm s.heap vm_d h_d → Old Z n0 h_d → n0 ≤ h_d.size → Fr n0 locs_d → own_Str Z h_d xq tq kq cq → own_GoesH Z p.tables e below s (Q0 Z x1 x2 x3 x4 x5 va d0 d1 d2 d3 f0 f1 f2 f3 t0 t1 t2 t3 em kvv ky0 ky1 ky2 ky3 zC fm h0 n0) room_1.cells room_1.slots T_d (mkF m 256 #[.val (.int x1), .val (.int x2), .val (.int x3), .val (.int x4), .val (.int x5), .val (.int (x1 &&& (3 : Int32))), .val (.int (((x1.toUInt32 >>> ((2 : Int32) &&& 31).toUInt32).toInt32) &&& (3 : Int32))), .val (.ref sb), .val (.int (Int32.ofNat N)), .val (.int fl), .val (.ref b1), .unset, .unset, .unset] [(.ref xq)]) := by
          intro T_d h_d vm_d kk_d locs_d xq tq kq cq X_d e_d hS hk_ hZ hown R_ O_ Zle N_ Q_xq
          refine own_byH (T' := T_d) (g' := (mkF m 258 #[.val (.int x1), .val (.int x2), .val (.int x3), .val (.int x4), .val (.int x5), .val (.int (x1 &&& (3 : Int32))), .val (.int (((x1.toUInt32 >>> ((2 : Int32) &&& 31).toUInt32).toInt32) &&& (3 : Int32))), .val (.ref sb), .val (.int (Int32.ofNat N)), .val (.int fl), .val (.ref b1), .val (.ref xq), .unset, .unset] [])) (fun t k => XS.astore X_d.here hx rfl (hb hby at_256) rfl rfl (l' := #[.val (.int x1), .val (.int x2), .val (.int x3), .val (.int x4), .val (.int x5), .val (.int (x1 &&& (3 : Int32))), .val (.int (((x1.toUInt32 >>> ((2 : Int32) &&& 31).toUInt32).toInt32) &&& (3 : Int32))), .val (.ref sb), .val (.int (Int32.ofNat N)), .val (.int fl), .val (.ref b1), .val (.ref xq), .unset, .unset]) rfl k) ?_
          refine own_byH (T' := T_d) (g' := (mkF m 259 #[.val (.int x1), .val (.int x2), .val (.int x3), .val (.int x4), .val (.int x5), .val (.int (x1 &&& (3 : Int32))), .val (.int (((x1.toUInt32 >>> ((2 : Int32) &&& 31).toUInt32).toInt32) &&& (3 : Int32))), .val (.ref sb), .val (.int (Int32.ofNat N)), .val (.int fl), .val (.ref b1), .val (.ref xq), .unset, .unset] [.null])) (fun t k => XS.aconstNull X_d.here hx rfl (hb hby at_258) k) ?_
          refine own_byH (T' := T_d) (g' := (mkF m 261 #[.val (.int x1), .val (.int x2), .val (.int x3), .val (.int x4), .val (.int x5), .val (.int (x1 &&& (3 : Int32))), .val (.int (((x1.toUInt32 >>> ((2 : Int32) &&& 31).toUInt32).toInt32) &&& (3 : Int32))), .val (.ref sb), .val (.int (Int32.ofNat N)), .val (.int fl), .val (.ref b1), .val (.ref xq), .val .null, .unset] [])) (fun t k => XS.astore X_d.here hx rfl (hb hby at_259) rfl rfl (l' := #[.val (.int x1), .val (.int x2), .val (.int x3), .val (.int x4), .val (.int x5), .val (.int (x1 &&& (3 : Int32))), .val (.int (((x1.toUInt32 >>> ((2 : Int32) &&& 31).toUInt32).toInt32) &&& (3 : Int32))), .val (.ref sb), .val (.int (Int32.ofNat N)), .val (.int fl), .val (.ref b1), .val (.ref xq), .val .null, .unset]) rfl k) ?_
          refine own_byH (T' := T_d) (g' := (mkF m 263 #[.val (.int x1), .val (.int x2), .val (.int x3), .val (.int x4), .val (.int x5), .val (.int (x1 &&& (3 : Int32))), .val (.int (((x1.toUInt32 >>> ((2 : Int32) &&& 31).toUInt32).toInt32) &&& (3 : Int32))), .val (.ref sb), .val (.int (Int32.ofNat N)), .val (.int fl), .val (.ref b1), .val (.ref xq), .val .null, .unset] [(.ref xq)])) (fun t k => XS.aload X_d.here hx rfl (hb hby at_261) rfl rfl k) ?_
          obtain ⟨sa20, T20, h20, kk20, sb20, ck20, X20, e20, E20, hS, hk_, hZ, hown, Es20, Fc20, Fv20, Va20, -, -, C20, -, sf20, st20⟩ := ldcCH X_d hx hZ hown (hw _ (own_m 0 rfl)) (own_str hw (by decide +kernel)) e_d hS hk_ hEL (List.mem_of_getElem? (i := 0) rfl) R_.1 (vs := (([112, 114, 111, 106, 101, 99, 116] : List Int32).map fun c => Value.int c.toInt8.toInt32)) (z := Int32.ofNat ([112, 114, 111, 106, 101, 99, 116] : List Int32).length) ⟨by decide, by first | rfl | decide⟩ (by decide) (by first | rfl | decide) (g := (mkF m 263 #[.val (.int x1), .val (.int x2), .val (.int x3), .val (.int x4), .val (.int x5), .val (.int (x1 &&& (3 : Int32))), .val (.int (((x1.toUInt32 >>> ((2 : Int32) &&& 31).toUInt32).toInt32) &&& (3 : Int32))), .val (.ref sb), .val (.int (Int32.ofNat N)), .val (.int fl), .val (.ref b1), .val (.ref xq), .val .null, .unset] [(.ref xq)])) rfl (hb hby at_263) (n := 32) (by decide) (by decide) (by decide) (by decide)
          clear sf20
          replace R_ := R_.trans C20
          clear C20
          replace Zle := Nat.le_trans Zle E20.1
          replace O_ := O_.ext E20
          replace Q_xq := Q_xq.ext E20
          have Q_sa20 : own_Str Z h20 sa20 sb20 ck20 ([112, 114, 111, 106, 101, 99, 116] : List Int32) := ⟨Es20, Fv20, Fc20, Va20, by decide, by decide⟩
          clear Es20 Fv20 Fc20 Va20
          refine own_byH (T' := T20) (g' := (mkF m 265 #[.val (.int x1), .val (.int x2), .val (.int x3), .val (.int x4), .val (.int x5), .val (.int (x1 &&& (3 : Int32))), .val (.int (((x1.toUInt32 >>> ((2 : Int32) &&& 31).toUInt32).toInt32) &&& (3 : Int32))), .val (.ref sb), .val (.int (Int32.ofNat N)), .val (.int fl), .val (.ref b1), .val (.ref xq), .val .null, .unset] [(.ref sa20), (.ref xq)])) (fun t k => st20 t k) ?_
          clear st20
          by_cases hq0 : cq = ([112, 114, 111, 106, 101, 99, 116] : List Int32)
          · obtain ⟨S_COMPACT_STRINGS, -, -, -, -, -, -, -, -, -, -, -, -, -, -, -, -, -, -, -, -, -, -, -⟩ := hW.ext O_.2
            have E_xq := Q_xq.1
            obtain ⟨cq21, kq21, q21a, q21b, q21c⟩ := isOf hZ e20 E_xq
            obtain ⟨_, _, ⟨T21, L21, k21, n21⟩, -, X21, ⟨Lc21, hQ21, l21, y21, z21⟩, st21⟩ := X20.virtualBack hx (y := (⟨"java/lang/String", "equals", "(Ljava/lang/Object;)Z"⟩ : MethodName)) (z := (⟨"java/lang/String", "equals", "(Ljava/lang/Object;)Z"⟩ : MethodName)) hown (mvT hZ (hw _ (own_m 72 rfl))) (mvT hZ (hw _ (own_m 73 rfl))) (notFace_of_selects (args := #[]) (mvT hZ (hw _ (own_m 75 rfl)))) (mvT hZ (hw _ (own_m 75 rfl))) (mvT hZ (hw _ (own_m 74 rfl))) (by decide) (StrChars.Road.eqW (W := 0) hZ (own_hwE hw) (kI := 4) (hw _ (own_m 2 rfl)) Q_xq.1 Q_xq.2.1 Q_xq.2.2.1 Q_xq.2.2.2.1 (own_cod Q_xq) (own_w16 Q_xq) (own_l4 Q_xq) Q_sa20.1 Q_sa20.2.1 Q_sa20.2.2.1 Q_sa20.2.2.2.1 (own_cod Q_sa20) (own_w16 Q_sa20) (own_l4 Q_sa20) S_COMPACT_STRINGS hzC (by decide) (by decide)) q21a q21c (g := (mkF m 265 #[.val (.int x1), .val (.int x2), .val (.int x3), .val (.int x4), .val (.int x5), .val (.int (x1 &&& (3 : Int32))), .val (.int (((x1.toUInt32 >>> ((2 : Int32) &&& 31).toUInt32).toInt32) &&& (3 : Int32))), .val (.ref sb), .val (.int (Int32.ofNat N)), .val (.int fl), .val (.ref b1), .val (.ref xq), .val .null, .unset] [(.ref sa20), (.ref xq)])) rfl (by rw [hml]; rfl) (Steps.refl _) (argsL := [(.ref sa20)]) (rest := []) (lenOf pd_15 rfl) rfl (own_le rfl) (hb hby at_265) (fun _ _ => ⟨rfl, e20, (by decide : 10 + 0 ≤ _), (by decide : 94 + 0 ≤ _)⟩)
            dsimp only [Pt.U, Pt.locs, Pt.cells, Pt.slots] at X21 l21 y21 z21 st21 hQ21
            subst l21 y21 z21
            rcases hQ21 with ⟨⟨rfl, hq21⟩ | ⟨rfl, hq21⟩, rfl, e21⟩
            rotate_left
            · exact absurd hq0 hq21
            replace N_ := Fr.app N_ (Fr.nil n0)
            refine own_byH (T' := T21) (g' := (mkF m 268 #[.val (.int x1), .val (.int x2), .val (.int x3), .val (.int x4), .val (.int x5), .val (.int (x1 &&& (3 : Int32))), .val (.int (((x1.toUInt32 >>> ((2 : Int32) &&& 31).toUInt32).toInt32) &&& (3 : Int32))), .val (.ref sb), .val (.int (Int32.ofNat N)), .val (.int fl), .val (.ref b1), .val (.ref xq), .val .null, .unset] [(.int 1)])) (fun t k => st21.trans k) ?_
            clear st21 X20 e20
            refine own_byH (T' := T21) (g' := (mkF m 271 #[.val (.int x1), .val (.int x2), .val (.int x3), .val (.int x4), .val (.int x5), .val (.int (x1 &&& (3 : Int32))), .val (.int (((x1.toUInt32 >>> ((2 : Int32) &&& 31).toUInt32).toInt32) &&& (3 : Int32))), .val (.ref sb), .val (.int (Int32.ofNat N)), .val (.int fl), .val (.ref b1), .val (.ref xq), .val .null, .unset] [])) (fun t k => XS.ifNo X21.here hx rfl (hb hby at_268) rfl ((if0 _ _).trans (feq (by decide)).1) k) ?_
            obtain ⟨-, -, -, -, -, -, -, -, S_PROJECT, -, -, -, -, -, -, -, -, -, -, -, -, -, -, -⟩ := hW.ext O_.2
            obtain ⟨T22, X22, e22, st22⟩ := getS2 X21 hx hZ hown (host := "") (Or.inl (hw _ (own_m 81 rfl))) Via.refl e21 S_PROJECT (g := (mkF m 271 #[.val (.int x1), .val (.int x2), .val (.int x3), .val (.int x4), .val (.int x5), .val (.int (x1 &&& (3 : Int32))), .val (.int (((x1.toUInt32 >>> ((2 : Int32) &&& 31).toUInt32).toInt32) &&& (3 : Int32))), .val (.ref sb), .val (.int (Int32.ofNat N)), .val (.int fl), .val (.ref b1), .val (.ref xq), .val .null, .unset] [])) rfl (hb hby at_271)
            refine own_byH (T' := T22) (g' := (mkF m 274 #[.val (.int x1), .val (.int x2), .val (.int x3), .val (.int x4), .val (.int x5), .val (.int (x1 &&& (3 : Int32))), .val (.int (((x1.toUInt32 >>> ((2 : Int32) &&& 31).toUInt32).toInt32) &&& (3 : Int32))), .val (.ref sb), .val (.int (Int32.ofNat N)), .val (.int fl), .val (.ref b1), .val (.ref xq), .val .null, .unset] [(.ref d0)])) (fun t k => st22 t k) ?_
            clear st22 X21 e21
            refine own_byH (T' := T22) (g' := (mkF m 276 #[.val (.int x1), .val (.int x2), .val (.int x3), .val (.int x4), .val (.int x5), .val (.int (x1 &&& (3 : Int32))), .val (.int (((x1.toUInt32 >>> ((2 : Int32) &&& 31).toUInt32).toInt32) &&& (3 : Int32))), .val (.ref sb), .val (.int (Int32.ofNat N)), .val (.int fl), .val (.ref b1), .val (.ref xq), .val (.ref d0), .unset] [])) (fun t k => XS.astore X22.here hx rfl (hb hby at_274) rfl rfl (l' := #[.val (.int x1), .val (.int x2), .val (.int x3), .val (.int x4), .val (.int x5), .val (.int (x1 &&& (3 : Int32))), .val (.int (((x1.toUInt32 >>> ((2 : Int32) &&& 31).toUInt32).toInt32) &&& (3 : Int32))), .val (.ref sb), .val (.int (Int32.ofNat N)), .val (.int fl), .val (.ref b1), .val (.ref xq), .val (.ref d0), .unset]) rfl k) ?_
            refine own_byH (T' := T22) (g' := (mkF m 330 #[.val (.int x1), .val (.int x2), .val (.int x3), .val (.int x4), .val (.int x5), .val (.int (x1 &&& (3 : Int32))), .val (.int (((x1.toUInt32 >>> ((2 : Int32) &&& 31).toUInt32).toInt32) &&& (3 : Int32))), .val (.ref sb), .val (.int (Int32.ofNat N)), .val (.int fl), .val (.ref b1), .val (.ref xq), .val (.ref d0), .unset] [])) (fun t k => XS.goto X22.here hx rfl (pc0 := 276) (pc' := 330) rfl (hb hby at_276) (by decide) (by decide) k) ?_
            refine own_byH (T' := T22) (g' := (mkF m 332 #[.val (.int x1), .val (.int x2), .val (.int x3), .val (.int x4), .val (.int x5), .val (.int (x1 &&& (3 : Int32))), .val (.int (((x1.toUInt32 >>> ((2 : Int32) &&& 31).toUInt32).toInt32) &&& (3 : Int32))), .val (.ref sb), .val (.int (Int32.ofNat N)), .val (.int fl), .val (.ref b1), .val (.ref xq), .val (.ref d0), .unset] [(.ref xq)])) (fun t k => XS.aload X22.here hx rfl (hb hby at_330) rfl rfl k) ?_
            obtain ⟨S_COMPACT_STRINGS, -, -, -, -, S__VALUES, E_va, V_va, -, E_d0, F_field_d0, Q_f0, -, E_d1, F_field_d1, Q_f1, -, E_d2, F_field_d2, Q_f2, -, E_d3, F_field_d3, Q_f3⟩ := hW.ext O_.2
            have lt_xq_23 := Q_xq.1.lt
            have lt_tq_23 := Q_xq.2.2.2.1.lt
            have lt_va_23 := E_va.lt
            have lt_d0_23 := E_d0.lt
            have lt_f0_23 := Q_f0.1.lt
            have lt_t0_23 := Q_f0.2.2.2.1.lt
            have lt_d1_23 := E_d1.lt
            have lt_f1_23 := Q_f1.1.lt
            have lt_t1_23 := Q_f1.2.2.2.1.lt
            have lt_d2_23 := E_d2.lt
            have lt_f2_23 := Q_f2.1.lt
            have lt_t2_23 := Q_f2.2.2.2.1.lt
            have lt_d3_23 := E_d3.lt
            have lt_f3_23 := Q_f3.1.lt
            have lt_t3_23 := Q_f3.2.2.2.1.lt
            have Zpre23 := Zle
            obtain ⟨_, _, ⟨T23, L23, k23, n23⟩, -, X23, ⟨Lc23, hQ23, l23, y23, z23⟩, st23⟩ := Jvm.LawKit.callS X22 hx (y := (⟨"com/example/gate2/gate2/Dimension", "byField", "(Ljava/lang/String;)Ljava/util/Optional;"⟩ : MethodName)) hown (mvT hZ (hw _ (own_m 84 rfl))) (mvT hZ (hw _ (own_m 85 rfl))) (mvT hZ (hw _ (own_m 82 rfl))) (mvT hZ (hw _ (own_m 86 rfl))) (by decide) (backOf (W := 0) (rm18v0 l Z a0 hw [] xq va kvv d0 d1 d2 d3 f0 f1 f2 f3 t0 t1 t2 t3 ky0 ky1 ky2 ky3 zC tq kq cq h20 n0 Zle Q_xq S_COMPACT_STRINGS S__VALUES E_va V_va E_d0 F_field_d0 Q_f0 E_d1 F_field_d1 Q_f1 E_d2 F_field_d2 Q_f2 E_d3 F_field_d3 Q_f3 (hzC) (hq0.symm)) hZ (hw _ (own_m 86 rfl)) (hw _ (own_m 82 rfl)) (by decide) (by decide)) (g := (mkF m 332 #[.val (.int x1), .val (.int x2), .val (.int x3), .val (.int x4), .val (.int x5), .val (.int (x1 &&& (3 : Int32))), .val (.int (((x1.toUInt32 >>> ((2 : Int32) &&& 31).toUInt32).toInt32) &&& (3 : Int32))), .val (.ref sb), .val (.int (Int32.ofNat N)), .val (.int fl), .val (.ref b1), .val (.ref xq), .val (.ref d0), .unset] [(.ref xq)])) rfl (by rw [hml]; rfl) (argsL := [(.ref xq)]) (rest := []) (lenOf pd_17 rfl) rfl (own_le rfl) (hb hby at_332) (fun _ _ => ⟨rfl, e22, (by decide : 10 + 2 ≤ _), (by decide : 94 + 5 ≤ _)⟩)
            dsimp only [Pt.U, Pt.locs, Pt.cells, Pt.slots] at X23 l23 y23 z23 st23 hQ23
            subst l23 y23 z23
            obtain ⟨po_23, rfl, Nq23, c23_0, c23_1, c23_2, c23_3⟩ := hQ23
            replace N_ := Fr.app N_ Nq23
            clear Nq23
            have CR_ := CHr.keep c23_0 all0 R_.1
            replace R_ := R_.trans CR_
            clear CR_
            replace S_COMPACT_STRINGS := own_staKeep S_COMPACT_STRINGS c23_0 all0
            replace S__VALUES := own_staKeep S__VALUES c23_0 all0
            replace Zle := Nat.le_trans Zle c23_0.1
            replace O_ := O_.keep c23_0 all0
            replace Q_xq := Q_xq.keep c23_0 nin0 nin0
            replace hk_ := Nat.le_trans hk_ c23_0.1
            replace E_va := E_va.keep c23_0
            replace V_va := V_va.keep c23_0 nin0
            replace E_d0 := E_d0.keep c23_0
            replace F_field_d0 := F_field_d0.keep c23_0 nin0
            replace Q_f0 := Q_f0.keep c23_0 nin0 nin0
            replace E_d1 := E_d1.keep c23_0
            replace F_field_d1 := F_field_d1.keep c23_0 nin0
            replace Q_f1 := Q_f1.keep c23_0 nin0 nin0
            replace E_d2 := E_d2.keep c23_0
            replace F_field_d2 := F_field_d2.keep c23_0 nin0
            replace Q_f2 := Q_f2.keep c23_0 nin0 nin0
            replace E_d3 := E_d3.keep c23_0
            replace F_field_d3 := F_field_d3.keep c23_0 nin0
            replace Q_f3 := Q_f3.keep c23_0 nin0 nin0
            have ne_xq_po_23 : xq ≠ po_23 := Nat.ne_of_lt (Nat.lt_of_lt_of_le lt_xq_23 c23_1)
            have ne_tq_po_23 : tq ≠ po_23 := Nat.ne_of_lt (Nat.lt_of_lt_of_le lt_tq_23 c23_1)
            have ne_va_po_23 : va ≠ po_23 := Nat.ne_of_lt (Nat.lt_of_lt_of_le lt_va_23 c23_1)
            have ne_d0_po_23 : d0 ≠ po_23 := Nat.ne_of_lt (Nat.lt_of_lt_of_le lt_d0_23 c23_1)
            have ne_f0_po_23 : f0 ≠ po_23 := Nat.ne_of_lt (Nat.lt_of_lt_of_le lt_f0_23 c23_1)
            have ne_t0_po_23 : t0 ≠ po_23 := Nat.ne_of_lt (Nat.lt_of_lt_of_le lt_t0_23 c23_1)
            have ne_d1_po_23 : d1 ≠ po_23 := Nat.ne_of_lt (Nat.lt_of_lt_of_le lt_d1_23 c23_1)
            have ne_f1_po_23 : f1 ≠ po_23 := Nat.ne_of_lt (Nat.lt_of_lt_of_le lt_f1_23 c23_1)
            have ne_t1_po_23 : t1 ≠ po_23 := Nat.ne_of_lt (Nat.lt_of_lt_of_le lt_t1_23 c23_1)
            have ne_d2_po_23 : d2 ≠ po_23 := Nat.ne_of_lt (Nat.lt_of_lt_of_le lt_d2_23 c23_1)
            have ne_f2_po_23 : f2 ≠ po_23 := Nat.ne_of_lt (Nat.lt_of_lt_of_le lt_f2_23 c23_1)
            have ne_t2_po_23 : t2 ≠ po_23 := Nat.ne_of_lt (Nat.lt_of_lt_of_le lt_t2_23 c23_1)
            have ne_d3_po_23 : d3 ≠ po_23 := Nat.ne_of_lt (Nat.lt_of_lt_of_le lt_d3_23 c23_1)
            have ne_f3_po_23 : f3 ≠ po_23 := Nat.ne_of_lt (Nat.lt_of_lt_of_le lt_f3_23 c23_1)
            have ne_t3_po_23 : t3 ≠ po_23 := Nat.ne_of_lt (Nat.lt_of_lt_of_le lt_t3_23 c23_1)
            have g_po_23 : n0 ≤ po_23 := Nat.le_trans Zpre23 c23_1
            clear lt_xq_23 lt_tq_23 lt_va_23 lt_d0_23 lt_f0_23 lt_t0_23 lt_d1_23 lt_f1_23 lt_t1_23 lt_d2_23 lt_f2_23 lt_t2_23 lt_d3_23 lt_f3_23 lt_t3_23
            refine own_byH (T' := T23) (g' := (mkF m 335 #[.val (.int x1), .val (.int x2), .val (.int x3), .val (.int x4), .val (.int x5), .val (.int (x1 &&& (3 : Int32))), .val (.int (((x1.toUInt32 >>> ((2 : Int32) &&& 31).toUInt32).toInt32) &&& (3 : Int32))), .val (.ref sb), .val (.int (Int32.ofNat N)), .val (.int fl), .val (.ref b1), .val (.ref xq), .val (.ref d0), .unset] [(.ref po_23)])) (fun t k => st23 _ k) ?_
            clear st23 X22 e22
            refine own_byH (T' := T23) (g' := (mkF m 336 #[.val (.int x1), .val (.int x2), .val (.int x3), .val (.int x4), .val (.int x5), .val (.int (x1 &&& (3 : Int32))), .val (.int (((x1.toUInt32 >>> ((2 : Int32) &&& 31).toUInt32).toInt32) &&& (3 : Int32))), .val (.ref sb), .val (.int (Int32.ofNat N)), .val (.int fl), .val (.ref b1), .val (.ref xq), .val (.ref d0), .unset] [.null, (.ref po_23)])) (fun t k => XS.aconstNull X23.here hx rfl (hb hby at_335) k) ?_
            obtain ⟨cq24, kq24, q24a, q24b, q24c⟩ := isOf hZ rfl c23_2
            obtain ⟨_, _, ⟨T24, L24, k24, n24⟩, -, X24, ⟨Lc24, hQ24, l24, y24, z24⟩, st24⟩ := X23.virtualBack hx (y := (⟨"java/util/Optional", "orElse", "(Ljava/lang/Object;)Ljava/lang/Object;"⟩ : MethodName)) (z := (⟨"java/util/Optional", "orElse", "(Ljava/lang/Object;)Ljava/lang/Object;"⟩ : MethodName)) hown (mvT hZ (hw _ (own_m 125 rfl))) (mvT hZ (hw _ (own_m 126 rfl))) (notFace_of_selects (args := #[]) (mvT hZ (hw _ (own_m 128 rfl)))) (mvT hZ (hw _ (own_m 128 rfl))) (mvT hZ (hw _ (own_m 127 rfl))) (by decide) (backOf (W := 0) (rm23a l Z a0 hw [] po_23 d0 T23.heap n0 Zle c23_3) hZ (hw _ (own_m 129 rfl)) (hw _ (own_m 110 rfl)) (by decide) (by decide)) q24a q24c (g := (mkF m 336 #[.val (.int x1), .val (.int x2), .val (.int x3), .val (.int x4), .val (.int x5), .val (.int (x1 &&& (3 : Int32))), .val (.int (((x1.toUInt32 >>> ((2 : Int32) &&& 31).toUInt32).toInt32) &&& (3 : Int32))), .val (.ref sb), .val (.int (Int32.ofNat N)), .val (.int fl), .val (.ref b1), .val (.ref xq), .val (.ref d0), .unset] [.null, (.ref po_23)])) rfl (by rw [hml]; rfl) (Steps.refl _) (argsL := [.null]) (rest := []) (lenOf pd_21 rfl) rfl (own_le rfl) (hb hby at_336) (fun _ _ => ⟨rfl, rfl, (by decide : 12 + 0 ≤ _), (by decide : 99 + 0 ≤ _)⟩)
            dsimp only [Pt.U, Pt.locs, Pt.cells, Pt.slots] at X24 l24 y24 z24 st24 hQ24
            subst l24 y24 z24
            obtain ⟨rfl, Nq24, e24⟩ := hQ24
            replace N_ := Fr.app N_ Nq24
            clear Nq24
            refine own_byH (T' := T24) (g' := (mkF m 339 #[.val (.int x1), .val (.int x2), .val (.int x3), .val (.int x4), .val (.int x5), .val (.int (x1 &&& (3 : Int32))), .val (.int (((x1.toUInt32 >>> ((2 : Int32) &&& 31).toUInt32).toInt32) &&& (3 : Int32))), .val (.ref sb), .val (.int (Int32.ofNat N)), .val (.int fl), .val (.ref b1), .val (.ref xq), .val (.ref d0), .unset] [(.ref d0)])) (fun t k => st24.trans k) ?_
            clear st24 X23
            obtain ⟨T25, X25, e25, st25⟩ := castY X24 hx hZ hown (hw _ (own_m 130 rfl)) e24 (Ins.self E_d0) (g := (mkF m 339 #[.val (.int x1), .val (.int x2), .val (.int x3), .val (.int x4), .val (.int x5), .val (.int (x1 &&& (3 : Int32))), .val (.int (((x1.toUInt32 >>> ((2 : Int32) &&& 31).toUInt32).toInt32) &&& (3 : Int32))), .val (.ref sb), .val (.int (Int32.ofNat N)), .val (.int fl), .val (.ref b1), .val (.ref xq), .val (.ref d0), .unset] [(.ref d0)])) rfl rfl (hb hby at_339)
            refine own_byH (T' := T25) (g' := (mkF m 342 #[.val (.int x1), .val (.int x2), .val (.int x3), .val (.int x4), .val (.int x5), .val (.int (x1 &&& (3 : Int32))), .val (.int (((x1.toUInt32 >>> ((2 : Int32) &&& 31).toUInt32).toInt32) &&& (3 : Int32))), .val (.ref sb), .val (.int (Int32.ofNat N)), .val (.int fl), .val (.ref b1), .val (.ref xq), .val (.ref d0), .unset] [(.ref d0)])) (fun t k => st25 t k) ?_
            clear st25 X24 e24
            refine own_byH (T' := T25) (g' := (mkF m 344 #[.val (.int x1), .val (.int x2), .val (.int x3), .val (.int x4), .val (.int x5), .val (.int (x1 &&& (3 : Int32))), .val (.int (((x1.toUInt32 >>> ((2 : Int32) &&& 31).toUInt32).toInt32) &&& (3 : Int32))), .val (.ref sb), .val (.int (Int32.ofNat N)), .val (.int fl), .val (.ref b1), .val (.ref xq), .val (.ref d0), .val (.ref d0)] [])) (fun t k => XS.astore X25.here hx rfl (hb hby at_342) rfl rfl (l' := #[.val (.int x1), .val (.int x2), .val (.int x3), .val (.int x4), .val (.int x5), .val (.int (x1 &&& (3 : Int32))), .val (.int (((x1.toUInt32 >>> ((2 : Int32) &&& 31).toUInt32).toInt32) &&& (3 : Int32))), .val (.ref sb), .val (.int (Int32.ofNat N)), .val (.int fl), .val (.ref b1), .val (.ref xq), .val (.ref d0), .val (.ref d0)]) rfl k) ?_
            refine own_byH (T' := T25) (g' := (mkF m 346 #[.val (.int x1), .val (.int x2), .val (.int x3), .val (.int x4), .val (.int x5), .val (.int (x1 &&& (3 : Int32))), .val (.int (((x1.toUInt32 >>> ((2 : Int32) &&& 31).toUInt32).toInt32) &&& (3 : Int32))), .val (.ref sb), .val (.int (Int32.ofNat N)), .val (.int fl), .val (.ref b1), .val (.ref xq), .val (.ref d0), .val (.ref d0)] [(.ref d0)])) (fun t k => XS.aload X25.here hx rfl (hb hby at_344) rfl rfl k) ?_
            refine own_byH (T' := T25) (g' := (mkF m 348 #[.val (.int x1), .val (.int x2), .val (.int x3), .val (.int x4), .val (.int x5), .val (.int (x1 &&& (3 : Int32))), .val (.int (((x1.toUInt32 >>> ((2 : Int32) &&& 31).toUInt32).toInt32) &&& (3 : Int32))), .val (.ref sb), .val (.int (Int32.ofNat N)), .val (.int fl), .val (.ref b1), .val (.ref xq), .val (.ref d0), .val (.ref d0)] [(.ref d0), (.ref d0)])) (fun t k => XS.aload X25.here hx rfl (hb hby at_346) rfl rfl k) ?_
            refine own_byH (T' := T25) (g' := (mkF m 351 #[.val (.int x1), .val (.int x2), .val (.int x3), .val (.int x4), .val (.int x5), .val (.int (x1 &&& (3 : Int32))), .val (.int (((x1.toUInt32 >>> ((2 : Int32) &&& 31).toUInt32).toInt32) &&& (3 : Int32))), .val (.ref sb), .val (.int (Int32.ofNat N)), .val (.int fl), .val (.ref b1), .val (.ref xq), .val (.ref d0), .val (.ref d0)] [])) (fun t k => Jvm.RoadKit.acmp (g := (mkF m 348 #[.val (.int x1), .val (.int x2), .val (.int x3), .val (.int x4), .val (.int x5), .val (.int (x1 &&& (3 : Int32))), .val (.int (((x1.toUInt32 >>> ((2 : Int32) &&& 31).toUInt32).toInt32) &&& (3 : Int32))), .val (.ref sb), .val (.int (Int32.ofNat N)), .val (.int fl), .val (.ref b1), .val (.ref xq), .val (.ref d0), .val (.ref d0)] [(.ref d0), (.ref d0)])) X25 hx rfl rfl rfl (pc0 := 348) (pc' := 351) (same := true) rfl (hb hby at_348) rfl (decide_eq_true rfl) (by decide) (by decide) k) ?_
            refine own_byH (T' := T25) (g' := (mkF m 352 #[.val (.int x1), .val (.int x2), .val (.int x3), .val (.int x4), .val (.int x5), .val (.int (x1 &&& (3 : Int32))), .val (.int (((x1.toUInt32 >>> ((2 : Int32) &&& 31).toUInt32).toInt32) &&& (3 : Int32))), .val (.ref sb), .val (.int (Int32.ofNat N)), .val (.int fl), .val (.ref b1), .val (.ref xq), .val (.ref d0), .val (.ref d0)] [(.int 1)])) (fun t k => XS.iconst X25.here hx rfl (hb hby at_351) k) ?_
            refine own_byH (T' := T25) (g' := (mkF m 356 #[.val (.int x1), .val (.int x2), .val (.int x3), .val (.int x4), .val (.int x5), .val (.int (x1 &&& (3 : Int32))), .val (.int (((x1.toUInt32 >>> ((2 : Int32) &&& 31).toUInt32).toInt32) &&& (3 : Int32))), .val (.ref sb), .val (.int (Int32.ofNat N)), .val (.int fl), .val (.ref b1), .val (.ref xq), .val (.ref d0), .val (.ref d0)] [(.int 1)])) (fun t k => XS.goto X25.here hx rfl (pc0 := 352) (pc' := 356) rfl (hb hby at_352) (by decide) (by decide) k) ?_
            exact own_retNH X25 hS (by rw [e25]; exact hk_) hx (t := .boolean) Bd.notSynchronized Bd.returns (by simp) (hb hby at_356) (by decide) (by decide) hZ hEL (by rw [e25]; exact R_) (by rw [e25]; exact ⟨rfl, N_⟩)
          · obtain ⟨S_COMPACT_STRINGS, -, -, -, -, -, -, -, -, -, -, -, -, -, -, -, -, -, -, -, -, -, -, -⟩ := hW.ext O_.2
            have E_xq := Q_xq.1
            obtain ⟨cq26, kq26, q26a, q26b, q26c⟩ := isOf hZ e20 E_xq
            obtain ⟨_, _, ⟨T26, L26, k26, n26⟩, -, X26, ⟨Lc26, hQ26, l26, y26, z26⟩, st26⟩ := X20.virtualBack hx (y := (⟨"java/lang/String", "equals", "(Ljava/lang/Object;)Z"⟩ : MethodName)) (z := (⟨"java/lang/String", "equals", "(Ljava/lang/Object;)Z"⟩ : MethodName)) hown (mvT hZ (hw _ (own_m 72 rfl))) (mvT hZ (hw _ (own_m 73 rfl))) (notFace_of_selects (args := #[]) (mvT hZ (hw _ (own_m 75 rfl)))) (mvT hZ (hw _ (own_m 75 rfl))) (mvT hZ (hw _ (own_m 74 rfl))) (by decide) (StrChars.Road.eqW (W := 0) hZ (own_hwE hw) (kI := 4) (hw _ (own_m 2 rfl)) Q_xq.1 Q_xq.2.1 Q_xq.2.2.1 Q_xq.2.2.2.1 (own_cod Q_xq) (own_w16 Q_xq) (own_l4 Q_xq) Q_sa20.1 Q_sa20.2.1 Q_sa20.2.2.1 Q_sa20.2.2.2.1 (own_cod Q_sa20) (own_w16 Q_sa20) (own_l4 Q_sa20) S_COMPACT_STRINGS hzC (by decide) (by decide)) q26a q26c (g := (mkF m 265 #[.val (.int x1), .val (.int x2), .val (.int x3), .val (.int x4), .val (.int x5), .val (.int (x1 &&& (3 : Int32))), .val (.int (((x1.toUInt32 >>> ((2 : Int32) &&& 31).toUInt32).toInt32) &&& (3 : Int32))), .val (.ref sb), .val (.int (Int32.ofNat N)), .val (.int fl), .val (.ref b1), .val (.ref xq), .val .null, .unset] [(.ref sa20), (.ref xq)])) rfl (by rw [hml]; rfl) (Steps.refl _) (argsL := [(.ref sa20)]) (rest := []) (lenOf pd_15 rfl) rfl (own_le rfl) (hb hby at_265) (fun _ _ => ⟨rfl, e20, (by decide : 10 + 0 ≤ _), (by decide : 94 + 0 ≤ _)⟩)
            dsimp only [Pt.U, Pt.locs, Pt.cells, Pt.slots] at X26 l26 y26 z26 st26 hQ26
            subst l26 y26 z26
            rcases hQ26 with ⟨⟨rfl, hq26⟩ | ⟨rfl, hq26⟩, rfl, e26⟩
            · exact absurd hq26 hq0
            replace N_ := Fr.app N_ (Fr.nil n0)
            refine own_byH (T' := T26) (g' := (mkF m 268 #[.val (.int x1), .val (.int x2), .val (.int x3), .val (.int x4), .val (.int x5), .val (.int (x1 &&& (3 : Int32))), .val (.int (((x1.toUInt32 >>> ((2 : Int32) &&& 31).toUInt32).toInt32) &&& (3 : Int32))), .val (.ref sb), .val (.int (Int32.ofNat N)), .val (.int fl), .val (.ref b1), .val (.ref xq), .val .null, .unset] [(.int 0)])) (fun t k => st26.trans k) ?_
            clear st26 X20 e20
            refine own_byH (T' := T26) (g' := (mkF m 279 #[.val (.int x1), .val (.int x2), .val (.int x3), .val (.int x4), .val (.int x5), .val (.int (x1 &&& (3 : Int32))), .val (.int (((x1.toUInt32 >>> ((2 : Int32) &&& 31).toUInt32).toInt32) &&& (3 : Int32))), .val (.ref sb), .val (.int (Int32.ofNat N)), .val (.int fl), .val (.ref b1), .val (.ref xq), .val .null, .unset] [])) (fun t k => XS.ifYes X26.here hx rfl (pc0 := 268) (pc' := 279) rfl (hb hby at_268) rfl ((if0 _ _).trans (teq (by decide)).1) (by decide) (by decide) k) ?_
            refine own_byH (T' := T26) (g' := (mkF m 281 #[.val (.int x1), .val (.int x2), .val (.int x3), .val (.int x4), .val (.int x5), .val (.int (x1 &&& (3 : Int32))), .val (.int (((x1.toUInt32 >>> ((2 : Int32) &&& 31).toUInt32).toInt32) &&& (3 : Int32))), .val (.ref sb), .val (.int (Int32.ofNat N)), .val (.int fl), .val (.ref b1), .val (.ref xq), .val .null, .unset] [(.ref xq)])) (fun t k => XS.aload X26.here hx rfl (hb hby at_279) rfl rfl k) ?_
            obtain ⟨sa27, T27, h27, kk27, sb27, ck27, X27, e27, E27, hS, hk_, hZ, hown, Es27, Fc27, Fv27, Va27, -, -, C27, -, sf27, st27⟩ := ldcCH X26 hx hZ hown (hw _ (own_m 133 rfl)) (own_str hw (by decide +kernel)) e26 hS hk_ hEL (List.mem_of_getElem? (i := 1) rfl) R_.1 (vs := (([117, 115, 101, 114] : List Int32).map fun c => Value.int c.toInt8.toInt32)) (z := Int32.ofNat ([117, 115, 101, 114] : List Int32).length) ⟨by decide, by first | rfl | decide⟩ (by decide) (by first | rfl | decide) (g := (mkF m 281 #[.val (.int x1), .val (.int x2), .val (.int x3), .val (.int x4), .val (.int x5), .val (.int (x1 &&& (3 : Int32))), .val (.int (((x1.toUInt32 >>> ((2 : Int32) &&& 31).toUInt32).toInt32) &&& (3 : Int32))), .val (.ref sb), .val (.int (Int32.ofNat N)), .val (.int fl), .val (.ref b1), .val (.ref xq), .val .null, .unset] [(.ref xq)])) rfl (hb hby at_281) (n := 32) (by decide) (by decide) (by decide) (by decide)
            clear sf27
            replace R_ := R_.trans C27
            clear C27
            replace Zle := Nat.le_trans Zle E27.1
            replace O_ := O_.ext E27
            replace Q_xq := Q_xq.ext E27
            have Q_sa27 : own_Str Z h27 sa27 sb27 ck27 ([117, 115, 101, 114] : List Int32) := ⟨Es27, Fv27, Fc27, Va27, by decide, by decide⟩
            clear Es27 Fv27 Fc27 Va27
            refine own_byH (T' := T27) (g' := (mkF m 283 #[.val (.int x1), .val (.int x2), .val (.int x3), .val (.int x4), .val (.int x5), .val (.int (x1 &&& (3 : Int32))), .val (.int (((x1.toUInt32 >>> ((2 : Int32) &&& 31).toUInt32).toInt32) &&& (3 : Int32))), .val (.ref sb), .val (.int (Int32.ofNat N)), .val (.int fl), .val (.ref b1), .val (.ref xq), .val .null, .unset] [(.ref sa27), (.ref xq)])) (fun t k => st27 t k) ?_
            clear st27 X26 e26
            by_cases hq1 : cq = ([117, 115, 101, 114] : List Int32)
            · obtain ⟨S_COMPACT_STRINGS, -, -, -, -, -, -, -, -, -, -, -, -, -, -, -, -, -, -, -, -, -, -, -⟩ := hW.ext O_.2
              have E_xq := Q_xq.1
              obtain ⟨cq28, kq28, q28a, q28b, q28c⟩ := isOf hZ e27 E_xq
              obtain ⟨_, _, ⟨T28, L28, k28, n28⟩, -, X28, ⟨Lc28, hQ28, l28, y28, z28⟩, st28⟩ := X27.virtualBack hx (y := (⟨"java/lang/String", "equals", "(Ljava/lang/Object;)Z"⟩ : MethodName)) (z := (⟨"java/lang/String", "equals", "(Ljava/lang/Object;)Z"⟩ : MethodName)) hown (mvT hZ (hw _ (own_m 72 rfl))) (mvT hZ (hw _ (own_m 73 rfl))) (notFace_of_selects (args := #[]) (mvT hZ (hw _ (own_m 75 rfl)))) (mvT hZ (hw _ (own_m 75 rfl))) (mvT hZ (hw _ (own_m 74 rfl))) (by decide) (StrChars.Road.eqW (W := 0) hZ (own_hwE hw) (kI := 4) (hw _ (own_m 2 rfl)) Q_xq.1 Q_xq.2.1 Q_xq.2.2.1 Q_xq.2.2.2.1 (own_cod Q_xq) (own_w16 Q_xq) (own_l4 Q_xq) Q_sa27.1 Q_sa27.2.1 Q_sa27.2.2.1 Q_sa27.2.2.2.1 (own_cod Q_sa27) (own_w16 Q_sa27) (own_l4 Q_sa27) S_COMPACT_STRINGS hzC (by decide) (by decide)) q28a q28c (g := (mkF m 283 #[.val (.int x1), .val (.int x2), .val (.int x3), .val (.int x4), .val (.int x5), .val (.int (x1 &&& (3 : Int32))), .val (.int (((x1.toUInt32 >>> ((2 : Int32) &&& 31).toUInt32).toInt32) &&& (3 : Int32))), .val (.ref sb), .val (.int (Int32.ofNat N)), .val (.int fl), .val (.ref b1), .val (.ref xq), .val .null, .unset] [(.ref sa27), (.ref xq)])) rfl (by rw [hml]; rfl) (Steps.refl _) (argsL := [(.ref sa27)]) (rest := []) (lenOf pd_15 rfl) rfl (own_le rfl) (hb hby at_283) (fun _ _ => ⟨rfl, e27, (by decide : 12 + 0 ≤ _), (by decide : 130 + 0 ≤ _)⟩)
              dsimp only [Pt.U, Pt.locs, Pt.cells, Pt.slots] at X28 l28 y28 z28 st28 hQ28
              subst l28 y28 z28
              rcases hQ28 with ⟨⟨rfl, hq28⟩ | ⟨rfl, hq28⟩, rfl, e28⟩
              rotate_left
              · exact absurd hq1 hq28
              replace N_ := Fr.app N_ (Fr.nil n0)
              refine own_byH (T' := T28) (g' := (mkF m 286 #[.val (.int x1), .val (.int x2), .val (.int x3), .val (.int x4), .val (.int x5), .val (.int (x1 &&& (3 : Int32))), .val (.int (((x1.toUInt32 >>> ((2 : Int32) &&& 31).toUInt32).toInt32) &&& (3 : Int32))), .val (.ref sb), .val (.int (Int32.ofNat N)), .val (.int fl), .val (.ref b1), .val (.ref xq), .val .null, .unset] [(.int 1)])) (fun t k => st28.trans k) ?_
              clear st28 X27 e27
              refine own_byH (T' := T28) (g' := (mkF m 289 #[.val (.int x1), .val (.int x2), .val (.int x3), .val (.int x4), .val (.int x5), .val (.int (x1 &&& (3 : Int32))), .val (.int (((x1.toUInt32 >>> ((2 : Int32) &&& 31).toUInt32).toInt32) &&& (3 : Int32))), .val (.ref sb), .val (.int (Int32.ofNat N)), .val (.int fl), .val (.ref b1), .val (.ref xq), .val .null, .unset] [])) (fun t k => XS.ifNo X28.here hx rfl (hb hby at_286) rfl ((if0 _ _).trans (feq (by decide)).1) k) ?_
              obtain ⟨-, -, -, -, -, -, -, -, -, -, -, -, S_USER, -, -, -, -, -, -, -, -, -, -, -⟩ := hW.ext O_.2
              obtain ⟨T29, X29, e29, st29⟩ := getS2 X28 hx hZ hown (host := "") (Or.inl (hw _ (own_m 143 rfl))) Via.refl e28 S_USER (g := (mkF m 289 #[.val (.int x1), .val (.int x2), .val (.int x3), .val (.int x4), .val (.int x5), .val (.int (x1 &&& (3 : Int32))), .val (.int (((x1.toUInt32 >>> ((2 : Int32) &&& 31).toUInt32).toInt32) &&& (3 : Int32))), .val (.ref sb), .val (.int (Int32.ofNat N)), .val (.int fl), .val (.ref b1), .val (.ref xq), .val .null, .unset] [])) rfl (hb hby at_289)
              refine own_byH (T' := T29) (g' := (mkF m 292 #[.val (.int x1), .val (.int x2), .val (.int x3), .val (.int x4), .val (.int x5), .val (.int (x1 &&& (3 : Int32))), .val (.int (((x1.toUInt32 >>> ((2 : Int32) &&& 31).toUInt32).toInt32) &&& (3 : Int32))), .val (.ref sb), .val (.int (Int32.ofNat N)), .val (.int fl), .val (.ref b1), .val (.ref xq), .val .null, .unset] [(.ref d1)])) (fun t k => st29 t k) ?_
              clear st29 X28 e28
              refine own_byH (T' := T29) (g' := (mkF m 294 #[.val (.int x1), .val (.int x2), .val (.int x3), .val (.int x4), .val (.int x5), .val (.int (x1 &&& (3 : Int32))), .val (.int (((x1.toUInt32 >>> ((2 : Int32) &&& 31).toUInt32).toInt32) &&& (3 : Int32))), .val (.ref sb), .val (.int (Int32.ofNat N)), .val (.int fl), .val (.ref b1), .val (.ref xq), .val (.ref d1), .unset] [])) (fun t k => XS.astore X29.here hx rfl (hb hby at_292) rfl rfl (l' := #[.val (.int x1), .val (.int x2), .val (.int x3), .val (.int x4), .val (.int x5), .val (.int (x1 &&& (3 : Int32))), .val (.int (((x1.toUInt32 >>> ((2 : Int32) &&& 31).toUInt32).toInt32) &&& (3 : Int32))), .val (.ref sb), .val (.int (Int32.ofNat N)), .val (.int fl), .val (.ref b1), .val (.ref xq), .val (.ref d1), .unset]) rfl k) ?_
              refine own_byH (T' := T29) (g' := (mkF m 330 #[.val (.int x1), .val (.int x2), .val (.int x3), .val (.int x4), .val (.int x5), .val (.int (x1 &&& (3 : Int32))), .val (.int (((x1.toUInt32 >>> ((2 : Int32) &&& 31).toUInt32).toInt32) &&& (3 : Int32))), .val (.ref sb), .val (.int (Int32.ofNat N)), .val (.int fl), .val (.ref b1), .val (.ref xq), .val (.ref d1), .unset] [])) (fun t k => XS.goto X29.here hx rfl (pc0 := 294) (pc' := 330) rfl (hb hby at_294) (by decide) (by decide) k) ?_
              refine own_byH (T' := T29) (g' := (mkF m 332 #[.val (.int x1), .val (.int x2), .val (.int x3), .val (.int x4), .val (.int x5), .val (.int (x1 &&& (3 : Int32))), .val (.int (((x1.toUInt32 >>> ((2 : Int32) &&& 31).toUInt32).toInt32) &&& (3 : Int32))), .val (.ref sb), .val (.int (Int32.ofNat N)), .val (.int fl), .val (.ref b1), .val (.ref xq), .val (.ref d1), .unset] [(.ref xq)])) (fun t k => XS.aload X29.here hx rfl (hb hby at_330) rfl rfl k) ?_
              obtain ⟨S_COMPACT_STRINGS, -, -, -, -, S__VALUES, E_va, V_va, -, E_d0, F_field_d0, Q_f0, -, E_d1, F_field_d1, Q_f1, -, E_d2, F_field_d2, Q_f2, -, E_d3, F_field_d3, Q_f3⟩ := hW.ext O_.2
              have lt_xq_30 := Q_xq.1.lt
              have lt_tq_30 := Q_xq.2.2.2.1.lt
              have lt_va_30 := E_va.lt
              have lt_d0_30 := E_d0.lt
              have lt_f0_30 := Q_f0.1.lt
              have lt_t0_30 := Q_f0.2.2.2.1.lt
              have lt_d1_30 := E_d1.lt
              have lt_f1_30 := Q_f1.1.lt
              have lt_t1_30 := Q_f1.2.2.2.1.lt
              have lt_d2_30 := E_d2.lt
              have lt_f2_30 := Q_f2.1.lt
              have lt_t2_30 := Q_f2.2.2.2.1.lt
              have lt_d3_30 := E_d3.lt
              have lt_f3_30 := Q_f3.1.lt
              have lt_t3_30 := Q_f3.2.2.2.1.lt
              have Zpre30 := Zle
              obtain ⟨_, _, ⟨T30, L30, k30, n30⟩, -, X30, ⟨Lc30, hQ30, l30, y30, z30⟩, st30⟩ := Jvm.LawKit.callS X29 hx (y := (⟨"com/example/gate2/gate2/Dimension", "byField", "(Ljava/lang/String;)Ljava/util/Optional;"⟩ : MethodName)) hown (mvT hZ (hw _ (own_m 84 rfl))) (mvT hZ (hw _ (own_m 85 rfl))) (mvT hZ (hw _ (own_m 82 rfl))) (mvT hZ (hw _ (own_m 86 rfl))) (by decide) (backOf (W := 0) (rm18v1 l Z a0 hw [] xq va kvv d0 d1 d2 d3 f0 f1 f2 f3 t0 t1 t2 t3 ky0 ky1 ky2 ky3 zC tq kq cq h27 n0 Zle Q_xq S_COMPACT_STRINGS S__VALUES E_va V_va E_d0 F_field_d0 Q_f0 E_d1 F_field_d1 Q_f1 E_d2 F_field_d2 Q_f2 E_d3 F_field_d3 Q_f3 (hzC) (fun hq => hq0 hq.symm) (hq1.symm)) hZ (hw _ (own_m 86 rfl)) (hw _ (own_m 82 rfl)) (by decide) (by decide)) (g := (mkF m 332 #[.val (.int x1), .val (.int x2), .val (.int x3), .val (.int x4), .val (.int x5), .val (.int (x1 &&& (3 : Int32))), .val (.int (((x1.toUInt32 >>> ((2 : Int32) &&& 31).toUInt32).toInt32) &&& (3 : Int32))), .val (.ref sb), .val (.int (Int32.ofNat N)), .val (.int fl), .val (.ref b1), .val (.ref xq), .val (.ref d1), .unset] [(.ref xq)])) rfl (by rw [hml]; rfl) (argsL := [(.ref xq)]) (rest := []) (lenOf pd_17 rfl) rfl (own_le rfl) (hb hby at_332) (fun _ _ => ⟨rfl, e29, (by decide : 12 + 2 ≤ _), (by decide : 130 + 5 ≤ _)⟩)
              dsimp only [Pt.U, Pt.locs, Pt.cells, Pt.slots] at X30 l30 y30 z30 st30 hQ30
              subst l30 y30 z30
              obtain ⟨po_30, rfl, Nq30, c30_0, c30_1, c30_2, c30_3⟩ := hQ30
              replace N_ := Fr.app N_ Nq30
              clear Nq30
              have CR_ := CHr.keep c30_0 all0 R_.1
              replace R_ := R_.trans CR_
              clear CR_
              replace S_COMPACT_STRINGS := own_staKeep S_COMPACT_STRINGS c30_0 all0
              replace S__VALUES := own_staKeep S__VALUES c30_0 all0
              replace Zle := Nat.le_trans Zle c30_0.1
              replace O_ := O_.keep c30_0 all0
              replace Q_xq := Q_xq.keep c30_0 nin0 nin0
              replace hk_ := Nat.le_trans hk_ c30_0.1
              replace E_va := E_va.keep c30_0
              replace V_va := V_va.keep c30_0 nin0
              replace E_d0 := E_d0.keep c30_0
              replace F_field_d0 := F_field_d0.keep c30_0 nin0
              replace Q_f0 := Q_f0.keep c30_0 nin0 nin0
              replace E_d1 := E_d1.keep c30_0
              replace F_field_d1 := F_field_d1.keep c30_0 nin0
              replace Q_f1 := Q_f1.keep c30_0 nin0 nin0
              replace E_d2 := E_d2.keep c30_0
              replace F_field_d2 := F_field_d2.keep c30_0 nin0
              replace Q_f2 := Q_f2.keep c30_0 nin0 nin0
              replace E_d3 := E_d3.keep c30_0
              replace F_field_d3 := F_field_d3.keep c30_0 nin0
              replace Q_f3 := Q_f3.keep c30_0 nin0 nin0
              have ne_xq_po_30 : xq ≠ po_30 := Nat.ne_of_lt (Nat.lt_of_lt_of_le lt_xq_30 c30_1)
              have ne_tq_po_30 : tq ≠ po_30 := Nat.ne_of_lt (Nat.lt_of_lt_of_le lt_tq_30 c30_1)
              have ne_va_po_30 : va ≠ po_30 := Nat.ne_of_lt (Nat.lt_of_lt_of_le lt_va_30 c30_1)
              have ne_d0_po_30 : d0 ≠ po_30 := Nat.ne_of_lt (Nat.lt_of_lt_of_le lt_d0_30 c30_1)
              have ne_f0_po_30 : f0 ≠ po_30 := Nat.ne_of_lt (Nat.lt_of_lt_of_le lt_f0_30 c30_1)
              have ne_t0_po_30 : t0 ≠ po_30 := Nat.ne_of_lt (Nat.lt_of_lt_of_le lt_t0_30 c30_1)
              have ne_d1_po_30 : d1 ≠ po_30 := Nat.ne_of_lt (Nat.lt_of_lt_of_le lt_d1_30 c30_1)
              have ne_f1_po_30 : f1 ≠ po_30 := Nat.ne_of_lt (Nat.lt_of_lt_of_le lt_f1_30 c30_1)
              have ne_t1_po_30 : t1 ≠ po_30 := Nat.ne_of_lt (Nat.lt_of_lt_of_le lt_t1_30 c30_1)
              have ne_d2_po_30 : d2 ≠ po_30 := Nat.ne_of_lt (Nat.lt_of_lt_of_le lt_d2_30 c30_1)
              have ne_f2_po_30 : f2 ≠ po_30 := Nat.ne_of_lt (Nat.lt_of_lt_of_le lt_f2_30 c30_1)
              have ne_t2_po_30 : t2 ≠ po_30 := Nat.ne_of_lt (Nat.lt_of_lt_of_le lt_t2_30 c30_1)
              have ne_d3_po_30 : d3 ≠ po_30 := Nat.ne_of_lt (Nat.lt_of_lt_of_le lt_d3_30 c30_1)
              have ne_f3_po_30 : f3 ≠ po_30 := Nat.ne_of_lt (Nat.lt_of_lt_of_le lt_f3_30 c30_1)
              have ne_t3_po_30 : t3 ≠ po_30 := Nat.ne_of_lt (Nat.lt_of_lt_of_le lt_t3_30 c30_1)
              have g_po_30 : n0 ≤ po_30 := Nat.le_trans Zpre30 c30_1
              clear lt_xq_30 lt_tq_30 lt_va_30 lt_d0_30 lt_f0_30 lt_t0_30 lt_d1_30 lt_f1_30 lt_t1_30 lt_d2_30 lt_f2_30 lt_t2_30 lt_d3_30 lt_f3_30 lt_t3_30
              refine own_byH (T' := T30) (g' := (mkF m 335 #[.val (.int x1), .val (.int x2), .val (.int x3), .val (.int x4), .val (.int x5), .val (.int (x1 &&& (3 : Int32))), .val (.int (((x1.toUInt32 >>> ((2 : Int32) &&& 31).toUInt32).toInt32) &&& (3 : Int32))), .val (.ref sb), .val (.int (Int32.ofNat N)), .val (.int fl), .val (.ref b1), .val (.ref xq), .val (.ref d1), .unset] [(.ref po_30)])) (fun t k => st30 _ k) ?_
              clear st30 X29 e29
              refine own_byH (T' := T30) (g' := (mkF m 336 #[.val (.int x1), .val (.int x2), .val (.int x3), .val (.int x4), .val (.int x5), .val (.int (x1 &&& (3 : Int32))), .val (.int (((x1.toUInt32 >>> ((2 : Int32) &&& 31).toUInt32).toInt32) &&& (3 : Int32))), .val (.ref sb), .val (.int (Int32.ofNat N)), .val (.int fl), .val (.ref b1), .val (.ref xq), .val (.ref d1), .unset] [.null, (.ref po_30)])) (fun t k => XS.aconstNull X30.here hx rfl (hb hby at_335) k) ?_
              obtain ⟨cq31, kq31, q31a, q31b, q31c⟩ := isOf hZ rfl c30_2
              obtain ⟨_, _, ⟨T31, L31, k31, n31⟩, -, X31, ⟨Lc31, hQ31, l31, y31, z31⟩, st31⟩ := X30.virtualBack hx (y := (⟨"java/util/Optional", "orElse", "(Ljava/lang/Object;)Ljava/lang/Object;"⟩ : MethodName)) (z := (⟨"java/util/Optional", "orElse", "(Ljava/lang/Object;)Ljava/lang/Object;"⟩ : MethodName)) hown (mvT hZ (hw _ (own_m 125 rfl))) (mvT hZ (hw _ (own_m 126 rfl))) (notFace_of_selects (args := #[]) (mvT hZ (hw _ (own_m 128 rfl)))) (mvT hZ (hw _ (own_m 128 rfl))) (mvT hZ (hw _ (own_m 127 rfl))) (by decide) (backOf (W := 0) (rm23a l Z a0 hw [] po_30 d1 T30.heap n0 Zle c30_3) hZ (hw _ (own_m 129 rfl)) (hw _ (own_m 110 rfl)) (by decide) (by decide)) q31a q31c (g := (mkF m 336 #[.val (.int x1), .val (.int x2), .val (.int x3), .val (.int x4), .val (.int x5), .val (.int (x1 &&& (3 : Int32))), .val (.int (((x1.toUInt32 >>> ((2 : Int32) &&& 31).toUInt32).toInt32) &&& (3 : Int32))), .val (.ref sb), .val (.int (Int32.ofNat N)), .val (.int fl), .val (.ref b1), .val (.ref xq), .val (.ref d1), .unset] [.null, (.ref po_30)])) rfl (by rw [hml]; rfl) (Steps.refl _) (argsL := [.null]) (rest := []) (lenOf pd_21 rfl) rfl (own_le rfl) (hb hby at_336) (fun _ _ => ⟨rfl, rfl, (by decide : 14 + 0 ≤ _), (by decide : 135 + 0 ≤ _)⟩)
              dsimp only [Pt.U, Pt.locs, Pt.cells, Pt.slots] at X31 l31 y31 z31 st31 hQ31
              subst l31 y31 z31
              obtain ⟨rfl, Nq31, e31⟩ := hQ31
              replace N_ := Fr.app N_ Nq31
              clear Nq31
              refine own_byH (T' := T31) (g' := (mkF m 339 #[.val (.int x1), .val (.int x2), .val (.int x3), .val (.int x4), .val (.int x5), .val (.int (x1 &&& (3 : Int32))), .val (.int (((x1.toUInt32 >>> ((2 : Int32) &&& 31).toUInt32).toInt32) &&& (3 : Int32))), .val (.ref sb), .val (.int (Int32.ofNat N)), .val (.int fl), .val (.ref b1), .val (.ref xq), .val (.ref d1), .unset] [(.ref d1)])) (fun t k => st31.trans k) ?_
              clear st31 X30
              obtain ⟨T32, X32, e32, st32⟩ := castY X31 hx hZ hown (hw _ (own_m 130 rfl)) e31 (Ins.self E_d1) (g := (mkF m 339 #[.val (.int x1), .val (.int x2), .val (.int x3), .val (.int x4), .val (.int x5), .val (.int (x1 &&& (3 : Int32))), .val (.int (((x1.toUInt32 >>> ((2 : Int32) &&& 31).toUInt32).toInt32) &&& (3 : Int32))), .val (.ref sb), .val (.int (Int32.ofNat N)), .val (.int fl), .val (.ref b1), .val (.ref xq), .val (.ref d1), .unset] [(.ref d1)])) rfl rfl (hb hby at_339)
              refine own_byH (T' := T32) (g' := (mkF m 342 #[.val (.int x1), .val (.int x2), .val (.int x3), .val (.int x4), .val (.int x5), .val (.int (x1 &&& (3 : Int32))), .val (.int (((x1.toUInt32 >>> ((2 : Int32) &&& 31).toUInt32).toInt32) &&& (3 : Int32))), .val (.ref sb), .val (.int (Int32.ofNat N)), .val (.int fl), .val (.ref b1), .val (.ref xq), .val (.ref d1), .unset] [(.ref d1)])) (fun t k => st32 t k) ?_
              clear st32 X31 e31
              refine own_byH (T' := T32) (g' := (mkF m 344 #[.val (.int x1), .val (.int x2), .val (.int x3), .val (.int x4), .val (.int x5), .val (.int (x1 &&& (3 : Int32))), .val (.int (((x1.toUInt32 >>> ((2 : Int32) &&& 31).toUInt32).toInt32) &&& (3 : Int32))), .val (.ref sb), .val (.int (Int32.ofNat N)), .val (.int fl), .val (.ref b1), .val (.ref xq), .val (.ref d1), .val (.ref d1)] [])) (fun t k => XS.astore X32.here hx rfl (hb hby at_342) rfl rfl (l' := #[.val (.int x1), .val (.int x2), .val (.int x3), .val (.int x4), .val (.int x5), .val (.int (x1 &&& (3 : Int32))), .val (.int (((x1.toUInt32 >>> ((2 : Int32) &&& 31).toUInt32).toInt32) &&& (3 : Int32))), .val (.ref sb), .val (.int (Int32.ofNat N)), .val (.int fl), .val (.ref b1), .val (.ref xq), .val (.ref d1), .val (.ref d1)]) rfl k) ?_
              refine own_byH (T' := T32) (g' := (mkF m 346 #[.val (.int x1), .val (.int x2), .val (.int x3), .val (.int x4), .val (.int x5), .val (.int (x1 &&& (3 : Int32))), .val (.int (((x1.toUInt32 >>> ((2 : Int32) &&& 31).toUInt32).toInt32) &&& (3 : Int32))), .val (.ref sb), .val (.int (Int32.ofNat N)), .val (.int fl), .val (.ref b1), .val (.ref xq), .val (.ref d1), .val (.ref d1)] [(.ref d1)])) (fun t k => XS.aload X32.here hx rfl (hb hby at_344) rfl rfl k) ?_
              refine own_byH (T' := T32) (g' := (mkF m 348 #[.val (.int x1), .val (.int x2), .val (.int x3), .val (.int x4), .val (.int x5), .val (.int (x1 &&& (3 : Int32))), .val (.int (((x1.toUInt32 >>> ((2 : Int32) &&& 31).toUInt32).toInt32) &&& (3 : Int32))), .val (.ref sb), .val (.int (Int32.ofNat N)), .val (.int fl), .val (.ref b1), .val (.ref xq), .val (.ref d1), .val (.ref d1)] [(.ref d1), (.ref d1)])) (fun t k => XS.aload X32.here hx rfl (hb hby at_346) rfl rfl k) ?_
              refine own_byH (T' := T32) (g' := (mkF m 351 #[.val (.int x1), .val (.int x2), .val (.int x3), .val (.int x4), .val (.int x5), .val (.int (x1 &&& (3 : Int32))), .val (.int (((x1.toUInt32 >>> ((2 : Int32) &&& 31).toUInt32).toInt32) &&& (3 : Int32))), .val (.ref sb), .val (.int (Int32.ofNat N)), .val (.int fl), .val (.ref b1), .val (.ref xq), .val (.ref d1), .val (.ref d1)] [])) (fun t k => Jvm.RoadKit.acmp (g := (mkF m 348 #[.val (.int x1), .val (.int x2), .val (.int x3), .val (.int x4), .val (.int x5), .val (.int (x1 &&& (3 : Int32))), .val (.int (((x1.toUInt32 >>> ((2 : Int32) &&& 31).toUInt32).toInt32) &&& (3 : Int32))), .val (.ref sb), .val (.int (Int32.ofNat N)), .val (.int fl), .val (.ref b1), .val (.ref xq), .val (.ref d1), .val (.ref d1)] [(.ref d1), (.ref d1)])) X32 hx rfl rfl rfl (pc0 := 348) (pc' := 351) (same := true) rfl (hb hby at_348) rfl (decide_eq_true rfl) (by decide) (by decide) k) ?_
              refine own_byH (T' := T32) (g' := (mkF m 352 #[.val (.int x1), .val (.int x2), .val (.int x3), .val (.int x4), .val (.int x5), .val (.int (x1 &&& (3 : Int32))), .val (.int (((x1.toUInt32 >>> ((2 : Int32) &&& 31).toUInt32).toInt32) &&& (3 : Int32))), .val (.ref sb), .val (.int (Int32.ofNat N)), .val (.int fl), .val (.ref b1), .val (.ref xq), .val (.ref d1), .val (.ref d1)] [(.int 1)])) (fun t k => XS.iconst X32.here hx rfl (hb hby at_351) k) ?_
              refine own_byH (T' := T32) (g' := (mkF m 356 #[.val (.int x1), .val (.int x2), .val (.int x3), .val (.int x4), .val (.int x5), .val (.int (x1 &&& (3 : Int32))), .val (.int (((x1.toUInt32 >>> ((2 : Int32) &&& 31).toUInt32).toInt32) &&& (3 : Int32))), .val (.ref sb), .val (.int (Int32.ofNat N)), .val (.int fl), .val (.ref b1), .val (.ref xq), .val (.ref d1), .val (.ref d1)] [(.int 1)])) (fun t k => XS.goto X32.here hx rfl (pc0 := 352) (pc' := 356) rfl (hb hby at_352) (by decide) (by decide) k) ?_
              exact own_retNH X32 hS (by rw [e32]; exact hk_) hx (t := .boolean) Bd.notSynchronized Bd.returns (by simp) (hb hby at_356) (by decide) (by decide) hZ hEL (by rw [e32]; exact R_) (by rw [e32]; exact ⟨rfl, N_⟩)
            · obtain ⟨S_COMPACT_STRINGS, -, -, -, -, -, -, -, -, -, -, -, -, -, -, -, -, -, -, -, -, -, -, -⟩ := hW.ext O_.2
              have E_xq := Q_xq.1
              obtain ⟨cq33, kq33, q33a, q33b, q33c⟩ := isOf hZ e27 E_xq
              obtain ⟨_, _, ⟨T33, L33, k33, n33⟩, -, X33, ⟨Lc33, hQ33, l33, y33, z33⟩, st33⟩ := X27.virtualBack hx (y := (⟨"java/lang/String", "equals", "(Ljava/lang/Object;)Z"⟩ : MethodName)) (z := (⟨"java/lang/String", "equals", "(Ljava/lang/Object;)Z"⟩ : MethodName)) hown (mvT hZ (hw _ (own_m 72 rfl))) (mvT hZ (hw _ (own_m 73 rfl))) (notFace_of_selects (args := #[]) (mvT hZ (hw _ (own_m 75 rfl)))) (mvT hZ (hw _ (own_m 75 rfl))) (mvT hZ (hw _ (own_m 74 rfl))) (by decide) (StrChars.Road.eqW (W := 0) hZ (own_hwE hw) (kI := 4) (hw _ (own_m 2 rfl)) Q_xq.1 Q_xq.2.1 Q_xq.2.2.1 Q_xq.2.2.2.1 (own_cod Q_xq) (own_w16 Q_xq) (own_l4 Q_xq) Q_sa27.1 Q_sa27.2.1 Q_sa27.2.2.1 Q_sa27.2.2.2.1 (own_cod Q_sa27) (own_w16 Q_sa27) (own_l4 Q_sa27) S_COMPACT_STRINGS hzC (by decide) (by decide)) q33a q33c (g := (mkF m 283 #[.val (.int x1), .val (.int x2), .val (.int x3), .val (.int x4), .val (.int x5), .val (.int (x1 &&& (3 : Int32))), .val (.int (((x1.toUInt32 >>> ((2 : Int32) &&& 31).toUInt32).toInt32) &&& (3 : Int32))), .val (.ref sb), .val (.int (Int32.ofNat N)), .val (.int fl), .val (.ref b1), .val (.ref xq), .val .null, .unset] [(.ref sa27), (.ref xq)])) rfl (by rw [hml]; rfl) (Steps.refl _) (argsL := [(.ref sa27)]) (rest := []) (lenOf pd_15 rfl) rfl (own_le rfl) (hb hby at_283) (fun _ _ => ⟨rfl, e27, (by decide : 12 + 0 ≤ _), (by decide : 130 + 0 ≤ _)⟩)
              dsimp only [Pt.U, Pt.locs, Pt.cells, Pt.slots] at X33 l33 y33 z33 st33 hQ33
              subst l33 y33 z33
              rcases hQ33 with ⟨⟨rfl, hq33⟩ | ⟨rfl, hq33⟩, rfl, e33⟩
              · exact absurd hq33 hq1
              replace N_ := Fr.app N_ (Fr.nil n0)
              refine own_byH (T' := T33) (g' := (mkF m 286 #[.val (.int x1), .val (.int x2), .val (.int x3), .val (.int x4), .val (.int x5), .val (.int (x1 &&& (3 : Int32))), .val (.int (((x1.toUInt32 >>> ((2 : Int32) &&& 31).toUInt32).toInt32) &&& (3 : Int32))), .val (.ref sb), .val (.int (Int32.ofNat N)), .val (.int fl), .val (.ref b1), .val (.ref xq), .val .null, .unset] [(.int 0)])) (fun t k => st33.trans k) ?_
              clear st33 X27 e27
              refine own_byH (T' := T33) (g' := (mkF m 297 #[.val (.int x1), .val (.int x2), .val (.int x3), .val (.int x4), .val (.int x5), .val (.int (x1 &&& (3 : Int32))), .val (.int (((x1.toUInt32 >>> ((2 : Int32) &&& 31).toUInt32).toInt32) &&& (3 : Int32))), .val (.ref sb), .val (.int (Int32.ofNat N)), .val (.int fl), .val (.ref b1), .val (.ref xq), .val .null, .unset] [])) (fun t k => XS.ifYes X33.here hx rfl (pc0 := 286) (pc' := 297) rfl (hb hby at_286) rfl ((if0 _ _).trans (teq (by decide)).1) (by decide) (by decide) k) ?_
              refine own_byH (T' := T33) (g' := (mkF m 299 #[.val (.int x1), .val (.int x2), .val (.int x3), .val (.int x4), .val (.int x5), .val (.int (x1 &&& (3 : Int32))), .val (.int (((x1.toUInt32 >>> ((2 : Int32) &&& 31).toUInt32).toInt32) &&& (3 : Int32))), .val (.ref sb), .val (.int (Int32.ofNat N)), .val (.int fl), .val (.ref b1), .val (.ref xq), .val .null, .unset] [(.ref xq)])) (fun t k => XS.aload X33.here hx rfl (hb hby at_297) rfl rfl k) ?_
              obtain ⟨sa34, T34, h34, kk34, sb34, ck34, X34, e34, E34, hS, hk_, hZ, hown, Es34, Fc34, Fv34, Va34, -, -, C34, -, sf34, st34⟩ := ldcCH X33 hx hZ hown (hw _ (own_m 134 rfl)) (own_str hw (by decide +kernel)) e33 hS hk_ hEL (List.mem_of_getElem? (i := 2) rfl) R_.1 (vs := (([114, 101, 103, 105, 111, 110] : List Int32).map fun c => Value.int c.toInt8.toInt32)) (z := Int32.ofNat ([114, 101, 103, 105, 111, 110] : List Int32).length) ⟨by decide, by first | rfl | decide⟩ (by decide) (by first | rfl | decide) (g := (mkF m 299 #[.val (.int x1), .val (.int x2), .val (.int x3), .val (.int x4), .val (.int x5), .val (.int (x1 &&& (3 : Int32))), .val (.int (((x1.toUInt32 >>> ((2 : Int32) &&& 31).toUInt32).toInt32) &&& (3 : Int32))), .val (.ref sb), .val (.int (Int32.ofNat N)), .val (.int fl), .val (.ref b1), .val (.ref xq), .val .null, .unset] [(.ref xq)])) rfl (hb hby at_299) (n := 32) (by decide) (by decide) (by decide) (by decide)
              clear sf34
              replace R_ := R_.trans C34
              clear C34
              replace Zle := Nat.le_trans Zle E34.1
              replace O_ := O_.ext E34
              replace Q_xq := Q_xq.ext E34
              have Q_sa34 : own_Str Z h34 sa34 sb34 ck34 ([114, 101, 103, 105, 111, 110] : List Int32) := ⟨Es34, Fv34, Fc34, Va34, by decide, by decide⟩
              clear Es34 Fv34 Fc34 Va34
              refine own_byH (T' := T34) (g' := (mkF m 301 #[.val (.int x1), .val (.int x2), .val (.int x3), .val (.int x4), .val (.int x5), .val (.int (x1 &&& (3 : Int32))), .val (.int (((x1.toUInt32 >>> ((2 : Int32) &&& 31).toUInt32).toInt32) &&& (3 : Int32))), .val (.ref sb), .val (.int (Int32.ofNat N)), .val (.int fl), .val (.ref b1), .val (.ref xq), .val .null, .unset] [(.ref sa34), (.ref xq)])) (fun t k => st34 t k) ?_
              clear st34 X33 e33
              by_cases hq2 : cq = ([114, 101, 103, 105, 111, 110] : List Int32)
              · obtain ⟨S_COMPACT_STRINGS, -, -, -, -, -, -, -, -, -, -, -, -, -, -, -, -, -, -, -, -, -, -, -⟩ := hW.ext O_.2
                have E_xq := Q_xq.1
                obtain ⟨cq35, kq35, q35a, q35b, q35c⟩ := isOf hZ e34 E_xq
                obtain ⟨_, _, ⟨T35, L35, k35, n35⟩, -, X35, ⟨Lc35, hQ35, l35, y35, z35⟩, st35⟩ := X34.virtualBack hx (y := (⟨"java/lang/String", "equals", "(Ljava/lang/Object;)Z"⟩ : MethodName)) (z := (⟨"java/lang/String", "equals", "(Ljava/lang/Object;)Z"⟩ : MethodName)) hown (mvT hZ (hw _ (own_m 72 rfl))) (mvT hZ (hw _ (own_m 73 rfl))) (notFace_of_selects (args := #[]) (mvT hZ (hw _ (own_m 75 rfl)))) (mvT hZ (hw _ (own_m 75 rfl))) (mvT hZ (hw _ (own_m 74 rfl))) (by decide) (StrChars.Road.eqW (W := 0) hZ (own_hwE hw) (kI := 4) (hw _ (own_m 2 rfl)) Q_xq.1 Q_xq.2.1 Q_xq.2.2.1 Q_xq.2.2.2.1 (own_cod Q_xq) (own_w16 Q_xq) (own_l4 Q_xq) Q_sa34.1 Q_sa34.2.1 Q_sa34.2.2.1 Q_sa34.2.2.2.1 (own_cod Q_sa34) (own_w16 Q_sa34) (own_l4 Q_sa34) S_COMPACT_STRINGS hzC (by decide) (by decide)) q35a q35c (g := (mkF m 301 #[.val (.int x1), .val (.int x2), .val (.int x3), .val (.int x4), .val (.int x5), .val (.int (x1 &&& (3 : Int32))), .val (.int (((x1.toUInt32 >>> ((2 : Int32) &&& 31).toUInt32).toInt32) &&& (3 : Int32))), .val (.ref sb), .val (.int (Int32.ofNat N)), .val (.int fl), .val (.ref b1), .val (.ref xq), .val .null, .unset] [(.ref sa34), (.ref xq)])) rfl (by rw [hml]; rfl) (Steps.refl _) (argsL := [(.ref sa34)]) (rest := []) (lenOf pd_15 rfl) rfl (own_le rfl) (hb hby at_301) (fun _ _ => ⟨rfl, e34, (by decide : 14 + 0 ≤ _), (by decide : 166 + 0 ≤ _)⟩)
                dsimp only [Pt.U, Pt.locs, Pt.cells, Pt.slots] at X35 l35 y35 z35 st35 hQ35
                subst l35 y35 z35
                rcases hQ35 with ⟨⟨rfl, hq35⟩ | ⟨rfl, hq35⟩, rfl, e35⟩
                rotate_left
                · exact absurd hq2 hq35
                replace N_ := Fr.app N_ (Fr.nil n0)
                refine own_byH (T' := T35) (g' := (mkF m 304 #[.val (.int x1), .val (.int x2), .val (.int x3), .val (.int x4), .val (.int x5), .val (.int (x1 &&& (3 : Int32))), .val (.int (((x1.toUInt32 >>> ((2 : Int32) &&& 31).toUInt32).toInt32) &&& (3 : Int32))), .val (.ref sb), .val (.int (Int32.ofNat N)), .val (.int fl), .val (.ref b1), .val (.ref xq), .val .null, .unset] [(.int 1)])) (fun t k => st35.trans k) ?_
                clear st35 X34 e34
                refine own_byH (T' := T35) (g' := (mkF m 307 #[.val (.int x1), .val (.int x2), .val (.int x3), .val (.int x4), .val (.int x5), .val (.int (x1 &&& (3 : Int32))), .val (.int (((x1.toUInt32 >>> ((2 : Int32) &&& 31).toUInt32).toInt32) &&& (3 : Int32))), .val (.ref sb), .val (.int (Int32.ofNat N)), .val (.int fl), .val (.ref b1), .val (.ref xq), .val .null, .unset] [])) (fun t k => XS.ifNo X35.here hx rfl (hb hby at_304) rfl ((if0 _ _).trans (feq (by decide)).1) k) ?_
                obtain ⟨-, -, -, -, -, -, -, -, -, -, -, -, -, -, -, -, S_REGION, -, -, -, -, -, -, -⟩ := hW.ext O_.2
                obtain ⟨T36, X36, e36, st36⟩ := getS2 X35 hx hZ hown (host := "") (Or.inl (hw _ (own_m 141 rfl))) Via.refl e35 S_REGION (g := (mkF m 307 #[.val (.int x1), .val (.int x2), .val (.int x3), .val (.int x4), .val (.int x5), .val (.int (x1 &&& (3 : Int32))), .val (.int (((x1.toUInt32 >>> ((2 : Int32) &&& 31).toUInt32).toInt32) &&& (3 : Int32))), .val (.ref sb), .val (.int (Int32.ofNat N)), .val (.int fl), .val (.ref b1), .val (.ref xq), .val .null, .unset] [])) rfl (hb hby at_307)
                refine own_byH (T' := T36) (g' := (mkF m 310 #[.val (.int x1), .val (.int x2), .val (.int x3), .val (.int x4), .val (.int x5), .val (.int (x1 &&& (3 : Int32))), .val (.int (((x1.toUInt32 >>> ((2 : Int32) &&& 31).toUInt32).toInt32) &&& (3 : Int32))), .val (.ref sb), .val (.int (Int32.ofNat N)), .val (.int fl), .val (.ref b1), .val (.ref xq), .val .null, .unset] [(.ref d2)])) (fun t k => st36 t k) ?_
                clear st36 X35 e35
                refine own_byH (T' := T36) (g' := (mkF m 312 #[.val (.int x1), .val (.int x2), .val (.int x3), .val (.int x4), .val (.int x5), .val (.int (x1 &&& (3 : Int32))), .val (.int (((x1.toUInt32 >>> ((2 : Int32) &&& 31).toUInt32).toInt32) &&& (3 : Int32))), .val (.ref sb), .val (.int (Int32.ofNat N)), .val (.int fl), .val (.ref b1), .val (.ref xq), .val (.ref d2), .unset] [])) (fun t k => XS.astore X36.here hx rfl (hb hby at_310) rfl rfl (l' := #[.val (.int x1), .val (.int x2), .val (.int x3), .val (.int x4), .val (.int x5), .val (.int (x1 &&& (3 : Int32))), .val (.int (((x1.toUInt32 >>> ((2 : Int32) &&& 31).toUInt32).toInt32) &&& (3 : Int32))), .val (.ref sb), .val (.int (Int32.ofNat N)), .val (.int fl), .val (.ref b1), .val (.ref xq), .val (.ref d2), .unset]) rfl k) ?_
                refine own_byH (T' := T36) (g' := (mkF m 330 #[.val (.int x1), .val (.int x2), .val (.int x3), .val (.int x4), .val (.int x5), .val (.int (x1 &&& (3 : Int32))), .val (.int (((x1.toUInt32 >>> ((2 : Int32) &&& 31).toUInt32).toInt32) &&& (3 : Int32))), .val (.ref sb), .val (.int (Int32.ofNat N)), .val (.int fl), .val (.ref b1), .val (.ref xq), .val (.ref d2), .unset] [])) (fun t k => XS.goto X36.here hx rfl (pc0 := 312) (pc' := 330) rfl (hb hby at_312) (by decide) (by decide) k) ?_
                refine own_byH (T' := T36) (g' := (mkF m 332 #[.val (.int x1), .val (.int x2), .val (.int x3), .val (.int x4), .val (.int x5), .val (.int (x1 &&& (3 : Int32))), .val (.int (((x1.toUInt32 >>> ((2 : Int32) &&& 31).toUInt32).toInt32) &&& (3 : Int32))), .val (.ref sb), .val (.int (Int32.ofNat N)), .val (.int fl), .val (.ref b1), .val (.ref xq), .val (.ref d2), .unset] [(.ref xq)])) (fun t k => XS.aload X36.here hx rfl (hb hby at_330) rfl rfl k) ?_
                obtain ⟨S_COMPACT_STRINGS, -, -, -, -, S__VALUES, E_va, V_va, -, E_d0, F_field_d0, Q_f0, -, E_d1, F_field_d1, Q_f1, -, E_d2, F_field_d2, Q_f2, -, E_d3, F_field_d3, Q_f3⟩ := hW.ext O_.2
                have lt_xq_37 := Q_xq.1.lt
                have lt_tq_37 := Q_xq.2.2.2.1.lt
                have lt_va_37 := E_va.lt
                have lt_d0_37 := E_d0.lt
                have lt_f0_37 := Q_f0.1.lt
                have lt_t0_37 := Q_f0.2.2.2.1.lt
                have lt_d1_37 := E_d1.lt
                have lt_f1_37 := Q_f1.1.lt
                have lt_t1_37 := Q_f1.2.2.2.1.lt
                have lt_d2_37 := E_d2.lt
                have lt_f2_37 := Q_f2.1.lt
                have lt_t2_37 := Q_f2.2.2.2.1.lt
                have lt_d3_37 := E_d3.lt
                have lt_f3_37 := Q_f3.1.lt
                have lt_t3_37 := Q_f3.2.2.2.1.lt
                have Zpre37 := Zle
                obtain ⟨_, _, ⟨T37, L37, k37, n37⟩, -, X37, ⟨Lc37, hQ37, l37, y37, z37⟩, st37⟩ := Jvm.LawKit.callS X36 hx (y := (⟨"com/example/gate2/gate2/Dimension", "byField", "(Ljava/lang/String;)Ljava/util/Optional;"⟩ : MethodName)) hown (mvT hZ (hw _ (own_m 84 rfl))) (mvT hZ (hw _ (own_m 85 rfl))) (mvT hZ (hw _ (own_m 82 rfl))) (mvT hZ (hw _ (own_m 86 rfl))) (by decide) (backOf (W := 0) (rm18v2 l Z a0 hw [] xq va kvv d0 d1 d2 d3 f0 f1 f2 f3 t0 t1 t2 t3 ky0 ky1 ky2 ky3 zC tq kq cq h34 n0 Zle Q_xq S_COMPACT_STRINGS S__VALUES E_va V_va E_d0 F_field_d0 Q_f0 E_d1 F_field_d1 Q_f1 E_d2 F_field_d2 Q_f2 E_d3 F_field_d3 Q_f3 (hzC) (fun hq => hq0 hq.symm) (fun hq => hq1 hq.symm) (hq2.symm)) hZ (hw _ (own_m 86 rfl)) (hw _ (own_m 82 rfl)) (by decide) (by decide)) (g := (mkF m 332 #[.val (.int x1), .val (.int x2), .val (.int x3), .val (.int x4), .val (.int x5), .val (.int (x1 &&& (3 : Int32))), .val (.int (((x1.toUInt32 >>> ((2 : Int32) &&& 31).toUInt32).toInt32) &&& (3 : Int32))), .val (.ref sb), .val (.int (Int32.ofNat N)), .val (.int fl), .val (.ref b1), .val (.ref xq), .val (.ref d2), .unset] [(.ref xq)])) rfl (by rw [hml]; rfl) (argsL := [(.ref xq)]) (rest := []) (lenOf pd_17 rfl) rfl (own_le rfl) (hb hby at_332) (fun _ _ => ⟨rfl, e36, (by decide : 14 + 2 ≤ _), (by decide : 166 + 5 ≤ _)⟩)
                dsimp only [Pt.U, Pt.locs, Pt.cells, Pt.slots] at X37 l37 y37 z37 st37 hQ37
                subst l37 y37 z37
                obtain ⟨po_37, rfl, Nq37, c37_0, c37_1, c37_2, c37_3⟩ := hQ37
                replace N_ := Fr.app N_ Nq37
                clear Nq37
                have CR_ := CHr.keep c37_0 all0 R_.1
                replace R_ := R_.trans CR_
                clear CR_
                replace S_COMPACT_STRINGS := own_staKeep S_COMPACT_STRINGS c37_0 all0
                replace S__VALUES := own_staKeep S__VALUES c37_0 all0
                replace Zle := Nat.le_trans Zle c37_0.1
                replace O_ := O_.keep c37_0 all0
                replace Q_xq := Q_xq.keep c37_0 nin0 nin0
                replace hk_ := Nat.le_trans hk_ c37_0.1
                replace E_va := E_va.keep c37_0
                replace V_va := V_va.keep c37_0 nin0
                replace E_d0 := E_d0.keep c37_0
                replace F_field_d0 := F_field_d0.keep c37_0 nin0
                replace Q_f0 := Q_f0.keep c37_0 nin0 nin0
                replace E_d1 := E_d1.keep c37_0
                replace F_field_d1 := F_field_d1.keep c37_0 nin0
                replace Q_f1 := Q_f1.keep c37_0 nin0 nin0
                replace E_d2 := E_d2.keep c37_0
                replace F_field_d2 := F_field_d2.keep c37_0 nin0
                replace Q_f2 := Q_f2.keep c37_0 nin0 nin0
                replace E_d3 := E_d3.keep c37_0
                replace F_field_d3 := F_field_d3.keep c37_0 nin0
                replace Q_f3 := Q_f3.keep c37_0 nin0 nin0
                have ne_xq_po_37 : xq ≠ po_37 := Nat.ne_of_lt (Nat.lt_of_lt_of_le lt_xq_37 c37_1)
                have ne_tq_po_37 : tq ≠ po_37 := Nat.ne_of_lt (Nat.lt_of_lt_of_le lt_tq_37 c37_1)
                have ne_va_po_37 : va ≠ po_37 := Nat.ne_of_lt (Nat.lt_of_lt_of_le lt_va_37 c37_1)
                have ne_d0_po_37 : d0 ≠ po_37 := Nat.ne_of_lt (Nat.lt_of_lt_of_le lt_d0_37 c37_1)
                have ne_f0_po_37 : f0 ≠ po_37 := Nat.ne_of_lt (Nat.lt_of_lt_of_le lt_f0_37 c37_1)
                have ne_t0_po_37 : t0 ≠ po_37 := Nat.ne_of_lt (Nat.lt_of_lt_of_le lt_t0_37 c37_1)
                have ne_d1_po_37 : d1 ≠ po_37 := Nat.ne_of_lt (Nat.lt_of_lt_of_le lt_d1_37 c37_1)
                have ne_f1_po_37 : f1 ≠ po_37 := Nat.ne_of_lt (Nat.lt_of_lt_of_le lt_f1_37 c37_1)
                have ne_t1_po_37 : t1 ≠ po_37 := Nat.ne_of_lt (Nat.lt_of_lt_of_le lt_t1_37 c37_1)
                have ne_d2_po_37 : d2 ≠ po_37 := Nat.ne_of_lt (Nat.lt_of_lt_of_le lt_d2_37 c37_1)
                have ne_f2_po_37 : f2 ≠ po_37 := Nat.ne_of_lt (Nat.lt_of_lt_of_le lt_f2_37 c37_1)
                have ne_t2_po_37 : t2 ≠ po_37 := Nat.ne_of_lt (Nat.lt_of_lt_of_le lt_t2_37 c37_1)
                have ne_d3_po_37 : d3 ≠ po_37 := Nat.ne_of_lt (Nat.lt_of_lt_of_le lt_d3_37 c37_1)
                have ne_f3_po_37 : f3 ≠ po_37 := Nat.ne_of_lt (Nat.lt_of_lt_of_le lt_f3_37 c37_1)
                have ne_t3_po_37 : t3 ≠ po_37 := Nat.ne_of_lt (Nat.lt_of_lt_of_le lt_t3_37 c37_1)
                have g_po_37 : n0 ≤ po_37 := Nat.le_trans Zpre37 c37_1
                clear lt_xq_37 lt_tq_37 lt_va_37 lt_d0_37 lt_f0_37 lt_t0_37 lt_d1_37 lt_f1_37 lt_t1_37 lt_d2_37 lt_f2_37 lt_t2_37 lt_d3_37 lt_f3_37 lt_t3_37
                refine own_byH (T' := T37) (g' := (mkF m 335 #[.val (.int x1), .val (.int x2), .val (.int x3), .val (.int x4), .val (.int x5), .val (.int (x1 &&& (3 : Int32))), .val (.int (((x1.toUInt32 >>> ((2 : Int32) &&& 31).toUInt32).toInt32) &&& (3 : Int32))), .val (.ref sb), .val (.int (Int32.ofNat N)), .val (.int fl), .val (.ref b1), .val (.ref xq), .val (.ref d2), .unset] [(.ref po_37)])) (fun t k => st37 _ k) ?_
                clear st37 X36 e36
                refine own_byH (T' := T37) (g' := (mkF m 336 #[.val (.int x1), .val (.int x2), .val (.int x3), .val (.int x4), .val (.int x5), .val (.int (x1 &&& (3 : Int32))), .val (.int (((x1.toUInt32 >>> ((2 : Int32) &&& 31).toUInt32).toInt32) &&& (3 : Int32))), .val (.ref sb), .val (.int (Int32.ofNat N)), .val (.int fl), .val (.ref b1), .val (.ref xq), .val (.ref d2), .unset] [.null, (.ref po_37)])) (fun t k => XS.aconstNull X37.here hx rfl (hb hby at_335) k) ?_
                obtain ⟨cq38, kq38, q38a, q38b, q38c⟩ := isOf hZ rfl c37_2
                obtain ⟨_, _, ⟨T38, L38, k38, n38⟩, -, X38, ⟨Lc38, hQ38, l38, y38, z38⟩, st38⟩ := X37.virtualBack hx (y := (⟨"java/util/Optional", "orElse", "(Ljava/lang/Object;)Ljava/lang/Object;"⟩ : MethodName)) (z := (⟨"java/util/Optional", "orElse", "(Ljava/lang/Object;)Ljava/lang/Object;"⟩ : MethodName)) hown (mvT hZ (hw _ (own_m 125 rfl))) (mvT hZ (hw _ (own_m 126 rfl))) (notFace_of_selects (args := #[]) (mvT hZ (hw _ (own_m 128 rfl)))) (mvT hZ (hw _ (own_m 128 rfl))) (mvT hZ (hw _ (own_m 127 rfl))) (by decide) (backOf (W := 0) (rm23a l Z a0 hw [] po_37 d2 T37.heap n0 Zle c37_3) hZ (hw _ (own_m 129 rfl)) (hw _ (own_m 110 rfl)) (by decide) (by decide)) q38a q38c (g := (mkF m 336 #[.val (.int x1), .val (.int x2), .val (.int x3), .val (.int x4), .val (.int x5), .val (.int (x1 &&& (3 : Int32))), .val (.int (((x1.toUInt32 >>> ((2 : Int32) &&& 31).toUInt32).toInt32) &&& (3 : Int32))), .val (.ref sb), .val (.int (Int32.ofNat N)), .val (.int fl), .val (.ref b1), .val (.ref xq), .val (.ref d2), .unset] [.null, (.ref po_37)])) rfl (by rw [hml]; rfl) (Steps.refl _) (argsL := [.null]) (rest := []) (lenOf pd_21 rfl) rfl (own_le rfl) (hb hby at_336) (fun _ _ => ⟨rfl, rfl, (by decide : 16 + 0 ≤ _), (by decide : 171 + 0 ≤ _)⟩)
                dsimp only [Pt.U, Pt.locs, Pt.cells, Pt.slots] at X38 l38 y38 z38 st38 hQ38
                subst l38 y38 z38
                obtain ⟨rfl, Nq38, e38⟩ := hQ38
                replace N_ := Fr.app N_ Nq38
                clear Nq38
                refine own_byH (T' := T38) (g' := (mkF m 339 #[.val (.int x1), .val (.int x2), .val (.int x3), .val (.int x4), .val (.int x5), .val (.int (x1 &&& (3 : Int32))), .val (.int (((x1.toUInt32 >>> ((2 : Int32) &&& 31).toUInt32).toInt32) &&& (3 : Int32))), .val (.ref sb), .val (.int (Int32.ofNat N)), .val (.int fl), .val (.ref b1), .val (.ref xq), .val (.ref d2), .unset] [(.ref d2)])) (fun t k => st38.trans k) ?_
                clear st38 X37
                obtain ⟨T39, X39, e39, st39⟩ := castY X38 hx hZ hown (hw _ (own_m 130 rfl)) e38 (Ins.self E_d2) (g := (mkF m 339 #[.val (.int x1), .val (.int x2), .val (.int x3), .val (.int x4), .val (.int x5), .val (.int (x1 &&& (3 : Int32))), .val (.int (((x1.toUInt32 >>> ((2 : Int32) &&& 31).toUInt32).toInt32) &&& (3 : Int32))), .val (.ref sb), .val (.int (Int32.ofNat N)), .val (.int fl), .val (.ref b1), .val (.ref xq), .val (.ref d2), .unset] [(.ref d2)])) rfl rfl (hb hby at_339)
                refine own_byH (T' := T39) (g' := (mkF m 342 #[.val (.int x1), .val (.int x2), .val (.int x3), .val (.int x4), .val (.int x5), .val (.int (x1 &&& (3 : Int32))), .val (.int (((x1.toUInt32 >>> ((2 : Int32) &&& 31).toUInt32).toInt32) &&& (3 : Int32))), .val (.ref sb), .val (.int (Int32.ofNat N)), .val (.int fl), .val (.ref b1), .val (.ref xq), .val (.ref d2), .unset] [(.ref d2)])) (fun t k => st39 t k) ?_
                clear st39 X38 e38
                refine own_byH (T' := T39) (g' := (mkF m 344 #[.val (.int x1), .val (.int x2), .val (.int x3), .val (.int x4), .val (.int x5), .val (.int (x1 &&& (3 : Int32))), .val (.int (((x1.toUInt32 >>> ((2 : Int32) &&& 31).toUInt32).toInt32) &&& (3 : Int32))), .val (.ref sb), .val (.int (Int32.ofNat N)), .val (.int fl), .val (.ref b1), .val (.ref xq), .val (.ref d2), .val (.ref d2)] [])) (fun t k => XS.astore X39.here hx rfl (hb hby at_342) rfl rfl (l' := #[.val (.int x1), .val (.int x2), .val (.int x3), .val (.int x4), .val (.int x5), .val (.int (x1 &&& (3 : Int32))), .val (.int (((x1.toUInt32 >>> ((2 : Int32) &&& 31).toUInt32).toInt32) &&& (3 : Int32))), .val (.ref sb), .val (.int (Int32.ofNat N)), .val (.int fl), .val (.ref b1), .val (.ref xq), .val (.ref d2), .val (.ref d2)]) rfl k) ?_
                refine own_byH (T' := T39) (g' := (mkF m 346 #[.val (.int x1), .val (.int x2), .val (.int x3), .val (.int x4), .val (.int x5), .val (.int (x1 &&& (3 : Int32))), .val (.int (((x1.toUInt32 >>> ((2 : Int32) &&& 31).toUInt32).toInt32) &&& (3 : Int32))), .val (.ref sb), .val (.int (Int32.ofNat N)), .val (.int fl), .val (.ref b1), .val (.ref xq), .val (.ref d2), .val (.ref d2)] [(.ref d2)])) (fun t k => XS.aload X39.here hx rfl (hb hby at_344) rfl rfl k) ?_
                refine own_byH (T' := T39) (g' := (mkF m 348 #[.val (.int x1), .val (.int x2), .val (.int x3), .val (.int x4), .val (.int x5), .val (.int (x1 &&& (3 : Int32))), .val (.int (((x1.toUInt32 >>> ((2 : Int32) &&& 31).toUInt32).toInt32) &&& (3 : Int32))), .val (.ref sb), .val (.int (Int32.ofNat N)), .val (.int fl), .val (.ref b1), .val (.ref xq), .val (.ref d2), .val (.ref d2)] [(.ref d2), (.ref d2)])) (fun t k => XS.aload X39.here hx rfl (hb hby at_346) rfl rfl k) ?_
                refine own_byH (T' := T39) (g' := (mkF m 351 #[.val (.int x1), .val (.int x2), .val (.int x3), .val (.int x4), .val (.int x5), .val (.int (x1 &&& (3 : Int32))), .val (.int (((x1.toUInt32 >>> ((2 : Int32) &&& 31).toUInt32).toInt32) &&& (3 : Int32))), .val (.ref sb), .val (.int (Int32.ofNat N)), .val (.int fl), .val (.ref b1), .val (.ref xq), .val (.ref d2), .val (.ref d2)] [])) (fun t k => Jvm.RoadKit.acmp (g := (mkF m 348 #[.val (.int x1), .val (.int x2), .val (.int x3), .val (.int x4), .val (.int x5), .val (.int (x1 &&& (3 : Int32))), .val (.int (((x1.toUInt32 >>> ((2 : Int32) &&& 31).toUInt32).toInt32) &&& (3 : Int32))), .val (.ref sb), .val (.int (Int32.ofNat N)), .val (.int fl), .val (.ref b1), .val (.ref xq), .val (.ref d2), .val (.ref d2)] [(.ref d2), (.ref d2)])) X39 hx rfl rfl rfl (pc0 := 348) (pc' := 351) (same := true) rfl (hb hby at_348) rfl (decide_eq_true rfl) (by decide) (by decide) k) ?_
                refine own_byH (T' := T39) (g' := (mkF m 352 #[.val (.int x1), .val (.int x2), .val (.int x3), .val (.int x4), .val (.int x5), .val (.int (x1 &&& (3 : Int32))), .val (.int (((x1.toUInt32 >>> ((2 : Int32) &&& 31).toUInt32).toInt32) &&& (3 : Int32))), .val (.ref sb), .val (.int (Int32.ofNat N)), .val (.int fl), .val (.ref b1), .val (.ref xq), .val (.ref d2), .val (.ref d2)] [(.int 1)])) (fun t k => XS.iconst X39.here hx rfl (hb hby at_351) k) ?_
                refine own_byH (T' := T39) (g' := (mkF m 356 #[.val (.int x1), .val (.int x2), .val (.int x3), .val (.int x4), .val (.int x5), .val (.int (x1 &&& (3 : Int32))), .val (.int (((x1.toUInt32 >>> ((2 : Int32) &&& 31).toUInt32).toInt32) &&& (3 : Int32))), .val (.ref sb), .val (.int (Int32.ofNat N)), .val (.int fl), .val (.ref b1), .val (.ref xq), .val (.ref d2), .val (.ref d2)] [(.int 1)])) (fun t k => XS.goto X39.here hx rfl (pc0 := 352) (pc' := 356) rfl (hb hby at_352) (by decide) (by decide) k) ?_
                exact own_retNH X39 hS (by rw [e39]; exact hk_) hx (t := .boolean) Bd.notSynchronized Bd.returns (by simp) (hb hby at_356) (by decide) (by decide) hZ hEL (by rw [e39]; exact R_) (by rw [e39]; exact ⟨rfl, N_⟩)
              · obtain ⟨S_COMPACT_STRINGS, -, -, -, -, -, -, -, -, -, -, -, -, -, -, -, -, -, -, -, -, -, -, -⟩ := hW.ext O_.2
                have E_xq := Q_xq.1
                obtain ⟨cq40, kq40, q40a, q40b, q40c⟩ := isOf hZ e34 E_xq
                obtain ⟨_, _, ⟨T40, L40, k40, n40⟩, -, X40, ⟨Lc40, hQ40, l40, y40, z40⟩, st40⟩ := X34.virtualBack hx (y := (⟨"java/lang/String", "equals", "(Ljava/lang/Object;)Z"⟩ : MethodName)) (z := (⟨"java/lang/String", "equals", "(Ljava/lang/Object;)Z"⟩ : MethodName)) hown (mvT hZ (hw _ (own_m 72 rfl))) (mvT hZ (hw _ (own_m 73 rfl))) (notFace_of_selects (args := #[]) (mvT hZ (hw _ (own_m 75 rfl)))) (mvT hZ (hw _ (own_m 75 rfl))) (mvT hZ (hw _ (own_m 74 rfl))) (by decide) (StrChars.Road.eqW (W := 0) hZ (own_hwE hw) (kI := 4) (hw _ (own_m 2 rfl)) Q_xq.1 Q_xq.2.1 Q_xq.2.2.1 Q_xq.2.2.2.1 (own_cod Q_xq) (own_w16 Q_xq) (own_l4 Q_xq) Q_sa34.1 Q_sa34.2.1 Q_sa34.2.2.1 Q_sa34.2.2.2.1 (own_cod Q_sa34) (own_w16 Q_sa34) (own_l4 Q_sa34) S_COMPACT_STRINGS hzC (by decide) (by decide)) q40a q40c (g := (mkF m 301 #[.val (.int x1), .val (.int x2), .val (.int x3), .val (.int x4), .val (.int x5), .val (.int (x1 &&& (3 : Int32))), .val (.int (((x1.toUInt32 >>> ((2 : Int32) &&& 31).toUInt32).toInt32) &&& (3 : Int32))), .val (.ref sb), .val (.int (Int32.ofNat N)), .val (.int fl), .val (.ref b1), .val (.ref xq), .val .null, .unset] [(.ref sa34), (.ref xq)])) rfl (by rw [hml]; rfl) (Steps.refl _) (argsL := [(.ref sa34)]) (rest := []) (lenOf pd_15 rfl) rfl (own_le rfl) (hb hby at_301) (fun _ _ => ⟨rfl, e34, (by decide : 14 + 0 ≤ _), (by decide : 166 + 0 ≤ _)⟩)
                dsimp only [Pt.U, Pt.locs, Pt.cells, Pt.slots] at X40 l40 y40 z40 st40 hQ40
                subst l40 y40 z40
                rcases hQ40 with ⟨⟨rfl, hq40⟩ | ⟨rfl, hq40⟩, rfl, e40⟩
                · exact absurd hq40 hq2
                replace N_ := Fr.app N_ (Fr.nil n0)
                refine own_byH (T' := T40) (g' := (mkF m 304 #[.val (.int x1), .val (.int x2), .val (.int x3), .val (.int x4), .val (.int x5), .val (.int (x1 &&& (3 : Int32))), .val (.int (((x1.toUInt32 >>> ((2 : Int32) &&& 31).toUInt32).toInt32) &&& (3 : Int32))), .val (.ref sb), .val (.int (Int32.ofNat N)), .val (.int fl), .val (.ref b1), .val (.ref xq), .val .null, .unset] [(.int 0)])) (fun t k => st40.trans k) ?_
                clear st40 X34 e34
                refine own_byH (T' := T40) (g' := (mkF m 315 #[.val (.int x1), .val (.int x2), .val (.int x3), .val (.int x4), .val (.int x5), .val (.int (x1 &&& (3 : Int32))), .val (.int (((x1.toUInt32 >>> ((2 : Int32) &&& 31).toUInt32).toInt32) &&& (3 : Int32))), .val (.ref sb), .val (.int (Int32.ofNat N)), .val (.int fl), .val (.ref b1), .val (.ref xq), .val .null, .unset] [])) (fun t k => XS.ifYes X40.here hx rfl (pc0 := 304) (pc' := 315) rfl (hb hby at_304) rfl ((if0 _ _).trans (teq (by decide)).1) (by decide) (by decide) k) ?_
                refine own_byH (T' := T40) (g' := (mkF m 317 #[.val (.int x1), .val (.int x2), .val (.int x3), .val (.int x4), .val (.int x5), .val (.int (x1 &&& (3 : Int32))), .val (.int (((x1.toUInt32 >>> ((2 : Int32) &&& 31).toUInt32).toInt32) &&& (3 : Int32))), .val (.ref sb), .val (.int (Int32.ofNat N)), .val (.int fl), .val (.ref b1), .val (.ref xq), .val .null, .unset] [(.ref xq)])) (fun t k => XS.aload X40.here hx rfl (hb hby at_315) rfl rfl k) ?_
                obtain ⟨sa41, T41, h41, kk41, sb41, ck41, X41, e41, E41, hS, hk_, hZ, hown, Es41, Fc41, Fv41, Va41, -, -, C41, -, sf41, st41⟩ := ldcCH X40 hx hZ hown (hw _ (own_m 132 rfl)) (own_str hw (by decide +kernel)) e40 hS hk_ hEL (List.mem_of_getElem? (i := 3) rfl) R_.1 (vs := (([105, 110, 115, 116, 97, 110, 99, 101] : List Int32).map fun c => Value.int c.toInt8.toInt32)) (z := Int32.ofNat ([105, 110, 115, 116, 97, 110, 99, 101] : List Int32).length) ⟨by decide, by first | rfl | decide⟩ (by decide) (by first | rfl | decide) (g := (mkF m 317 #[.val (.int x1), .val (.int x2), .val (.int x3), .val (.int x4), .val (.int x5), .val (.int (x1 &&& (3 : Int32))), .val (.int (((x1.toUInt32 >>> ((2 : Int32) &&& 31).toUInt32).toInt32) &&& (3 : Int32))), .val (.ref sb), .val (.int (Int32.ofNat N)), .val (.int fl), .val (.ref b1), .val (.ref xq), .val .null, .unset] [(.ref xq)])) rfl (hb hby at_317) (n := 32) (by decide) (by decide) (by decide) (by decide)
                clear sf41
                replace R_ := R_.trans C41
                clear C41
                replace Zle := Nat.le_trans Zle E41.1
                replace O_ := O_.ext E41
                replace Q_xq := Q_xq.ext E41
                have Q_sa41 : own_Str Z h41 sa41 sb41 ck41 ([105, 110, 115, 116, 97, 110, 99, 101] : List Int32) := ⟨Es41, Fv41, Fc41, Va41, by decide, by decide⟩
                clear Es41 Fv41 Fc41 Va41
                refine own_byH (T' := T41) (g' := (mkF m 319 #[.val (.int x1), .val (.int x2), .val (.int x3), .val (.int x4), .val (.int x5), .val (.int (x1 &&& (3 : Int32))), .val (.int (((x1.toUInt32 >>> ((2 : Int32) &&& 31).toUInt32).toInt32) &&& (3 : Int32))), .val (.ref sb), .val (.int (Int32.ofNat N)), .val (.int fl), .val (.ref b1), .val (.ref xq), .val .null, .unset] [(.ref sa41), (.ref xq)])) (fun t k => st41 t k) ?_
                clear st41 X40 e40
                by_cases hq3 : cq = ([105, 110, 115, 116, 97, 110, 99, 101] : List Int32)
                · obtain ⟨S_COMPACT_STRINGS, -, -, -, -, -, -, -, -, -, -, -, -, -, -, -, -, -, -, -, -, -, -, -⟩ := hW.ext O_.2
                  have E_xq := Q_xq.1
                  obtain ⟨cq42, kq42, q42a, q42b, q42c⟩ := isOf hZ e41 E_xq
                  obtain ⟨_, _, ⟨T42, L42, k42, n42⟩, -, X42, ⟨Lc42, hQ42, l42, y42, z42⟩, st42⟩ := X41.virtualBack hx (y := (⟨"java/lang/String", "equals", "(Ljava/lang/Object;)Z"⟩ : MethodName)) (z := (⟨"java/lang/String", "equals", "(Ljava/lang/Object;)Z"⟩ : MethodName)) hown (mvT hZ (hw _ (own_m 72 rfl))) (mvT hZ (hw _ (own_m 73 rfl))) (notFace_of_selects (args := #[]) (mvT hZ (hw _ (own_m 75 rfl)))) (mvT hZ (hw _ (own_m 75 rfl))) (mvT hZ (hw _ (own_m 74 rfl))) (by decide) (StrChars.Road.eqW (W := 0) hZ (own_hwE hw) (kI := 4) (hw _ (own_m 2 rfl)) Q_xq.1 Q_xq.2.1 Q_xq.2.2.1 Q_xq.2.2.2.1 (own_cod Q_xq) (own_w16 Q_xq) (own_l4 Q_xq) Q_sa41.1 Q_sa41.2.1 Q_sa41.2.2.1 Q_sa41.2.2.2.1 (own_cod Q_sa41) (own_w16 Q_sa41) (own_l4 Q_sa41) S_COMPACT_STRINGS hzC (by decide) (by decide)) q42a q42c (g := (mkF m 319 #[.val (.int x1), .val (.int x2), .val (.int x3), .val (.int x4), .val (.int x5), .val (.int (x1 &&& (3 : Int32))), .val (.int (((x1.toUInt32 >>> ((2 : Int32) &&& 31).toUInt32).toInt32) &&& (3 : Int32))), .val (.ref sb), .val (.int (Int32.ofNat N)), .val (.int fl), .val (.ref b1), .val (.ref xq), .val .null, .unset] [(.ref sa41), (.ref xq)])) rfl (by rw [hml]; rfl) (Steps.refl _) (argsL := [(.ref sa41)]) (rest := []) (lenOf pd_15 rfl) rfl (own_le rfl) (hb hby at_319) (fun _ _ => ⟨rfl, e41, (by decide : 16 + 0 ≤ _), (by decide : 202 + 0 ≤ _)⟩)
                  dsimp only [Pt.U, Pt.locs, Pt.cells, Pt.slots] at X42 l42 y42 z42 st42 hQ42
                  subst l42 y42 z42
                  rcases hQ42 with ⟨⟨rfl, hq42⟩ | ⟨rfl, hq42⟩, rfl, e42⟩
                  rotate_left
                  · exact absurd hq3 hq42
                  replace N_ := Fr.app N_ (Fr.nil n0)
                  refine own_byH (T' := T42) (g' := (mkF m 322 #[.val (.int x1), .val (.int x2), .val (.int x3), .val (.int x4), .val (.int x5), .val (.int (x1 &&& (3 : Int32))), .val (.int (((x1.toUInt32 >>> ((2 : Int32) &&& 31).toUInt32).toInt32) &&& (3 : Int32))), .val (.ref sb), .val (.int (Int32.ofNat N)), .val (.int fl), .val (.ref b1), .val (.ref xq), .val .null, .unset] [(.int 1)])) (fun t k => st42.trans k) ?_
                  clear st42 X41 e41
                  refine own_byH (T' := T42) (g' := (mkF m 325 #[.val (.int x1), .val (.int x2), .val (.int x3), .val (.int x4), .val (.int x5), .val (.int (x1 &&& (3 : Int32))), .val (.int (((x1.toUInt32 >>> ((2 : Int32) &&& 31).toUInt32).toInt32) &&& (3 : Int32))), .val (.ref sb), .val (.int (Int32.ofNat N)), .val (.int fl), .val (.ref b1), .val (.ref xq), .val .null, .unset] [])) (fun t k => XS.ifNo X42.here hx rfl (hb hby at_322) rfl ((if0 _ _).trans (feq (by decide)).1) k) ?_
                  obtain ⟨-, -, -, -, -, -, -, -, -, -, -, -, -, -, -, -, -, -, -, -, S_INSTANCE, -, -, -⟩ := hW.ext O_.2
                  obtain ⟨T43, X43, e43, st43⟩ := getS2 X42 hx hZ hown (host := "") (Or.inl (hw _ (own_m 135 rfl))) Via.refl e42 S_INSTANCE (g := (mkF m 325 #[.val (.int x1), .val (.int x2), .val (.int x3), .val (.int x4), .val (.int x5), .val (.int (x1 &&& (3 : Int32))), .val (.int (((x1.toUInt32 >>> ((2 : Int32) &&& 31).toUInt32).toInt32) &&& (3 : Int32))), .val (.ref sb), .val (.int (Int32.ofNat N)), .val (.int fl), .val (.ref b1), .val (.ref xq), .val .null, .unset] [])) rfl (hb hby at_325)
                  refine own_byH (T' := T43) (g' := (mkF m 328 #[.val (.int x1), .val (.int x2), .val (.int x3), .val (.int x4), .val (.int x5), .val (.int (x1 &&& (3 : Int32))), .val (.int (((x1.toUInt32 >>> ((2 : Int32) &&& 31).toUInt32).toInt32) &&& (3 : Int32))), .val (.ref sb), .val (.int (Int32.ofNat N)), .val (.int fl), .val (.ref b1), .val (.ref xq), .val .null, .unset] [(.ref d3)])) (fun t k => st43 t k) ?_
                  clear st43 X42 e42
                  refine own_byH (T' := T43) (g' := (mkF m 330 #[.val (.int x1), .val (.int x2), .val (.int x3), .val (.int x4), .val (.int x5), .val (.int (x1 &&& (3 : Int32))), .val (.int (((x1.toUInt32 >>> ((2 : Int32) &&& 31).toUInt32).toInt32) &&& (3 : Int32))), .val (.ref sb), .val (.int (Int32.ofNat N)), .val (.int fl), .val (.ref b1), .val (.ref xq), .val (.ref d3), .unset] [])) (fun t k => XS.astore X43.here hx rfl (hb hby at_328) rfl rfl (l' := #[.val (.int x1), .val (.int x2), .val (.int x3), .val (.int x4), .val (.int x5), .val (.int (x1 &&& (3 : Int32))), .val (.int (((x1.toUInt32 >>> ((2 : Int32) &&& 31).toUInt32).toInt32) &&& (3 : Int32))), .val (.ref sb), .val (.int (Int32.ofNat N)), .val (.int fl), .val (.ref b1), .val (.ref xq), .val (.ref d3), .unset]) rfl k) ?_
                  refine own_byH (T' := T43) (g' := (mkF m 332 #[.val (.int x1), .val (.int x2), .val (.int x3), .val (.int x4), .val (.int x5), .val (.int (x1 &&& (3 : Int32))), .val (.int (((x1.toUInt32 >>> ((2 : Int32) &&& 31).toUInt32).toInt32) &&& (3 : Int32))), .val (.ref sb), .val (.int (Int32.ofNat N)), .val (.int fl), .val (.ref b1), .val (.ref xq), .val (.ref d3), .unset] [(.ref xq)])) (fun t k => XS.aload X43.here hx rfl (hb hby at_330) rfl rfl k) ?_
                  obtain ⟨S_COMPACT_STRINGS, -, -, -, -, S__VALUES, E_va, V_va, -, E_d0, F_field_d0, Q_f0, -, E_d1, F_field_d1, Q_f1, -, E_d2, F_field_d2, Q_f2, -, E_d3, F_field_d3, Q_f3⟩ := hW.ext O_.2
                  have lt_xq_44 := Q_xq.1.lt
                  have lt_tq_44 := Q_xq.2.2.2.1.lt
                  have lt_va_44 := E_va.lt
                  have lt_d0_44 := E_d0.lt
                  have lt_f0_44 := Q_f0.1.lt
                  have lt_t0_44 := Q_f0.2.2.2.1.lt
                  have lt_d1_44 := E_d1.lt
                  have lt_f1_44 := Q_f1.1.lt
                  have lt_t1_44 := Q_f1.2.2.2.1.lt
                  have lt_d2_44 := E_d2.lt
                  have lt_f2_44 := Q_f2.1.lt
                  have lt_t2_44 := Q_f2.2.2.2.1.lt
                  have lt_d3_44 := E_d3.lt
                  have lt_f3_44 := Q_f3.1.lt
                  have lt_t3_44 := Q_f3.2.2.2.1.lt
                  have Zpre44 := Zle
                  obtain ⟨_, _, ⟨T44, L44, k44, n44⟩, -, X44, ⟨Lc44, hQ44, l44, y44, z44⟩, st44⟩ := Jvm.LawKit.callS X43 hx (y := (⟨"com/example/gate2/gate2/Dimension", "byField", "(Ljava/lang/String;)Ljava/util/Optional;"⟩ : MethodName)) hown (mvT hZ (hw _ (own_m 84 rfl))) (mvT hZ (hw _ (own_m 85 rfl))) (mvT hZ (hw _ (own_m 82 rfl))) (mvT hZ (hw _ (own_m 86 rfl))) (by decide) (backOf (W := 0) (rm18v3 l Z a0 hw [] xq va kvv d0 d1 d2 d3 f0 f1 f2 f3 t0 t1 t2 t3 ky0 ky1 ky2 ky3 zC tq kq cq h41 n0 Zle Q_xq S_COMPACT_STRINGS S__VALUES E_va V_va E_d0 F_field_d0 Q_f0 E_d1 F_field_d1 Q_f1 E_d2 F_field_d2 Q_f2 E_d3 F_field_d3 Q_f3 (hzC) (fun hq => hq0 hq.symm) (fun hq => hq1 hq.symm) (fun hq => hq2 hq.symm) (hq3.symm)) hZ (hw _ (own_m 86 rfl)) (hw _ (own_m 82 rfl)) (by decide) (by decide)) (g := (mkF m 332 #[.val (.int x1), .val (.int x2), .val (.int x3), .val (.int x4), .val (.int x5), .val (.int (x1 &&& (3 : Int32))), .val (.int (((x1.toUInt32 >>> ((2 : Int32) &&& 31).toUInt32).toInt32) &&& (3 : Int32))), .val (.ref sb), .val (.int (Int32.ofNat N)), .val (.int fl), .val (.ref b1), .val (.ref xq), .val (.ref d3), .unset] [(.ref xq)])) rfl (by rw [hml]; rfl) (argsL := [(.ref xq)]) (rest := []) (lenOf pd_17 rfl) rfl (own_le rfl) (hb hby at_332) (fun _ _ => ⟨rfl, e43, (by decide : 16 + 2 ≤ _), (by decide : 202 + 5 ≤ _)⟩)
                  dsimp only [Pt.U, Pt.locs, Pt.cells, Pt.slots] at X44 l44 y44 z44 st44 hQ44
                  subst l44 y44 z44
                  obtain ⟨po_44, rfl, Nq44, c44_0, c44_1, c44_2, c44_3⟩ := hQ44
                  replace N_ := Fr.app N_ Nq44
                  clear Nq44
                  have CR_ := CHr.keep c44_0 all0 R_.1
                  replace R_ := R_.trans CR_
                  clear CR_
                  replace S_COMPACT_STRINGS := own_staKeep S_COMPACT_STRINGS c44_0 all0
                  replace S__VALUES := own_staKeep S__VALUES c44_0 all0
                  replace Zle := Nat.le_trans Zle c44_0.1
                  replace O_ := O_.keep c44_0 all0
                  replace Q_xq := Q_xq.keep c44_0 nin0 nin0
                  replace hk_ := Nat.le_trans hk_ c44_0.1
                  replace E_va := E_va.keep c44_0
                  replace V_va := V_va.keep c44_0 nin0
                  replace E_d0 := E_d0.keep c44_0
                  replace F_field_d0 := F_field_d0.keep c44_0 nin0
                  replace Q_f0 := Q_f0.keep c44_0 nin0 nin0
                  replace E_d1 := E_d1.keep c44_0
                  replace F_field_d1 := F_field_d1.keep c44_0 nin0
                  replace Q_f1 := Q_f1.keep c44_0 nin0 nin0
                  replace E_d2 := E_d2.keep c44_0
                  replace F_field_d2 := F_field_d2.keep c44_0 nin0
                  replace Q_f2 := Q_f2.keep c44_0 nin0 nin0
                  replace E_d3 := E_d3.keep c44_0
                  replace F_field_d3 := F_field_d3.keep c44_0 nin0
                  replace Q_f3 := Q_f3.keep c44_0 nin0 nin0
                  have ne_xq_po_44 : xq ≠ po_44 := Nat.ne_of_lt (Nat.lt_of_lt_of_le lt_xq_44 c44_1)
                  have ne_tq_po_44 : tq ≠ po_44 := Nat.ne_of_lt (Nat.lt_of_lt_of_le lt_tq_44 c44_1)
                  have ne_va_po_44 : va ≠ po_44 := Nat.ne_of_lt (Nat.lt_of_lt_of_le lt_va_44 c44_1)
                  have ne_d0_po_44 : d0 ≠ po_44 := Nat.ne_of_lt (Nat.lt_of_lt_of_le lt_d0_44 c44_1)
                  have ne_f0_po_44 : f0 ≠ po_44 := Nat.ne_of_lt (Nat.lt_of_lt_of_le lt_f0_44 c44_1)
                  have ne_t0_po_44 : t0 ≠ po_44 := Nat.ne_of_lt (Nat.lt_of_lt_of_le lt_t0_44 c44_1)
                  have ne_d1_po_44 : d1 ≠ po_44 := Nat.ne_of_lt (Nat.lt_of_lt_of_le lt_d1_44 c44_1)
                  have ne_f1_po_44 : f1 ≠ po_44 := Nat.ne_of_lt (Nat.lt_of_lt_of_le lt_f1_44 c44_1)
                  have ne_t1_po_44 : t1 ≠ po_44 := Nat.ne_of_lt (Nat.lt_of_lt_of_le lt_t1_44 c44_1)
                  have ne_d2_po_44 : d2 ≠ po_44 := Nat.ne_of_lt (Nat.lt_of_lt_of_le lt_d2_44 c44_1)
                  have ne_f2_po_44 : f2 ≠ po_44 := Nat.ne_of_lt (Nat.lt_of_lt_of_le lt_f2_44 c44_1)
                  have ne_t2_po_44 : t2 ≠ po_44 := Nat.ne_of_lt (Nat.lt_of_lt_of_le lt_t2_44 c44_1)
                  have ne_d3_po_44 : d3 ≠ po_44 := Nat.ne_of_lt (Nat.lt_of_lt_of_le lt_d3_44 c44_1)
                  have ne_f3_po_44 : f3 ≠ po_44 := Nat.ne_of_lt (Nat.lt_of_lt_of_le lt_f3_44 c44_1)
                  have ne_t3_po_44 : t3 ≠ po_44 := Nat.ne_of_lt (Nat.lt_of_lt_of_le lt_t3_44 c44_1)
                  have g_po_44 : n0 ≤ po_44 := Nat.le_trans Zpre44 c44_1
                  clear lt_xq_44 lt_tq_44 lt_va_44 lt_d0_44 lt_f0_44 lt_t0_44 lt_d1_44 lt_f1_44 lt_t1_44 lt_d2_44 lt_f2_44 lt_t2_44 lt_d3_44 lt_f3_44 lt_t3_44
                  refine own_byH (T' := T44) (g' := (mkF m 335 #[.val (.int x1), .val (.int x2), .val (.int x3), .val (.int x4), .val (.int x5), .val (.int (x1 &&& (3 : Int32))), .val (.int (((x1.toUInt32 >>> ((2 : Int32) &&& 31).toUInt32).toInt32) &&& (3 : Int32))), .val (.ref sb), .val (.int (Int32.ofNat N)), .val (.int fl), .val (.ref b1), .val (.ref xq), .val (.ref d3), .unset] [(.ref po_44)])) (fun t k => st44 _ k) ?_
                  clear st44 X43 e43
                  refine own_byH (T' := T44) (g' := (mkF m 336 #[.val (.int x1), .val (.int x2), .val (.int x3), .val (.int x4), .val (.int x5), .val (.int (x1 &&& (3 : Int32))), .val (.int (((x1.toUInt32 >>> ((2 : Int32) &&& 31).toUInt32).toInt32) &&& (3 : Int32))), .val (.ref sb), .val (.int (Int32.ofNat N)), .val (.int fl), .val (.ref b1), .val (.ref xq), .val (.ref d3), .unset] [.null, (.ref po_44)])) (fun t k => XS.aconstNull X44.here hx rfl (hb hby at_335) k) ?_
                  obtain ⟨cq45, kq45, q45a, q45b, q45c⟩ := isOf hZ rfl c44_2
                  obtain ⟨_, _, ⟨T45, L45, k45, n45⟩, -, X45, ⟨Lc45, hQ45, l45, y45, z45⟩, st45⟩ := X44.virtualBack hx (y := (⟨"java/util/Optional", "orElse", "(Ljava/lang/Object;)Ljava/lang/Object;"⟩ : MethodName)) (z := (⟨"java/util/Optional", "orElse", "(Ljava/lang/Object;)Ljava/lang/Object;"⟩ : MethodName)) hown (mvT hZ (hw _ (own_m 125 rfl))) (mvT hZ (hw _ (own_m 126 rfl))) (notFace_of_selects (args := #[]) (mvT hZ (hw _ (own_m 128 rfl)))) (mvT hZ (hw _ (own_m 128 rfl))) (mvT hZ (hw _ (own_m 127 rfl))) (by decide) (backOf (W := 0) (rm23a l Z a0 hw [] po_44 d3 T44.heap n0 Zle c44_3) hZ (hw _ (own_m 129 rfl)) (hw _ (own_m 110 rfl)) (by decide) (by decide)) q45a q45c (g := (mkF m 336 #[.val (.int x1), .val (.int x2), .val (.int x3), .val (.int x4), .val (.int x5), .val (.int (x1 &&& (3 : Int32))), .val (.int (((x1.toUInt32 >>> ((2 : Int32) &&& 31).toUInt32).toInt32) &&& (3 : Int32))), .val (.ref sb), .val (.int (Int32.ofNat N)), .val (.int fl), .val (.ref b1), .val (.ref xq), .val (.ref d3), .unset] [.null, (.ref po_44)])) rfl (by rw [hml]; rfl) (Steps.refl _) (argsL := [.null]) (rest := []) (lenOf pd_21 rfl) rfl (own_le rfl) (hb hby at_336) (fun _ _ => ⟨rfl, rfl, (by decide : 18 + 0 ≤ _), (by decide : 207 + 0 ≤ _)⟩)
                  dsimp only [Pt.U, Pt.locs, Pt.cells, Pt.slots] at X45 l45 y45 z45 st45 hQ45
                  subst l45 y45 z45
                  obtain ⟨rfl, Nq45, e45⟩ := hQ45
                  replace N_ := Fr.app N_ Nq45
                  clear Nq45
                  refine own_byH (T' := T45) (g' := (mkF m 339 #[.val (.int x1), .val (.int x2), .val (.int x3), .val (.int x4), .val (.int x5), .val (.int (x1 &&& (3 : Int32))), .val (.int (((x1.toUInt32 >>> ((2 : Int32) &&& 31).toUInt32).toInt32) &&& (3 : Int32))), .val (.ref sb), .val (.int (Int32.ofNat N)), .val (.int fl), .val (.ref b1), .val (.ref xq), .val (.ref d3), .unset] [(.ref d3)])) (fun t k => st45.trans k) ?_
                  clear st45 X44
                  obtain ⟨T46, X46, e46, st46⟩ := castY X45 hx hZ hown (hw _ (own_m 130 rfl)) e45 (Ins.self E_d3) (g := (mkF m 339 #[.val (.int x1), .val (.int x2), .val (.int x3), .val (.int x4), .val (.int x5), .val (.int (x1 &&& (3 : Int32))), .val (.int (((x1.toUInt32 >>> ((2 : Int32) &&& 31).toUInt32).toInt32) &&& (3 : Int32))), .val (.ref sb), .val (.int (Int32.ofNat N)), .val (.int fl), .val (.ref b1), .val (.ref xq), .val (.ref d3), .unset] [(.ref d3)])) rfl rfl (hb hby at_339)
                  refine own_byH (T' := T46) (g' := (mkF m 342 #[.val (.int x1), .val (.int x2), .val (.int x3), .val (.int x4), .val (.int x5), .val (.int (x1 &&& (3 : Int32))), .val (.int (((x1.toUInt32 >>> ((2 : Int32) &&& 31).toUInt32).toInt32) &&& (3 : Int32))), .val (.ref sb), .val (.int (Int32.ofNat N)), .val (.int fl), .val (.ref b1), .val (.ref xq), .val (.ref d3), .unset] [(.ref d3)])) (fun t k => st46 t k) ?_
                  clear st46 X45 e45
                  refine own_byH (T' := T46) (g' := (mkF m 344 #[.val (.int x1), .val (.int x2), .val (.int x3), .val (.int x4), .val (.int x5), .val (.int (x1 &&& (3 : Int32))), .val (.int (((x1.toUInt32 >>> ((2 : Int32) &&& 31).toUInt32).toInt32) &&& (3 : Int32))), .val (.ref sb), .val (.int (Int32.ofNat N)), .val (.int fl), .val (.ref b1), .val (.ref xq), .val (.ref d3), .val (.ref d3)] [])) (fun t k => XS.astore X46.here hx rfl (hb hby at_342) rfl rfl (l' := #[.val (.int x1), .val (.int x2), .val (.int x3), .val (.int x4), .val (.int x5), .val (.int (x1 &&& (3 : Int32))), .val (.int (((x1.toUInt32 >>> ((2 : Int32) &&& 31).toUInt32).toInt32) &&& (3 : Int32))), .val (.ref sb), .val (.int (Int32.ofNat N)), .val (.int fl), .val (.ref b1), .val (.ref xq), .val (.ref d3), .val (.ref d3)]) rfl k) ?_
                  refine own_byH (T' := T46) (g' := (mkF m 346 #[.val (.int x1), .val (.int x2), .val (.int x3), .val (.int x4), .val (.int x5), .val (.int (x1 &&& (3 : Int32))), .val (.int (((x1.toUInt32 >>> ((2 : Int32) &&& 31).toUInt32).toInt32) &&& (3 : Int32))), .val (.ref sb), .val (.int (Int32.ofNat N)), .val (.int fl), .val (.ref b1), .val (.ref xq), .val (.ref d3), .val (.ref d3)] [(.ref d3)])) (fun t k => XS.aload X46.here hx rfl (hb hby at_344) rfl rfl k) ?_
                  refine own_byH (T' := T46) (g' := (mkF m 348 #[.val (.int x1), .val (.int x2), .val (.int x3), .val (.int x4), .val (.int x5), .val (.int (x1 &&& (3 : Int32))), .val (.int (((x1.toUInt32 >>> ((2 : Int32) &&& 31).toUInt32).toInt32) &&& (3 : Int32))), .val (.ref sb), .val (.int (Int32.ofNat N)), .val (.int fl), .val (.ref b1), .val (.ref xq), .val (.ref d3), .val (.ref d3)] [(.ref d3), (.ref d3)])) (fun t k => XS.aload X46.here hx rfl (hb hby at_346) rfl rfl k) ?_
                  refine own_byH (T' := T46) (g' := (mkF m 351 #[.val (.int x1), .val (.int x2), .val (.int x3), .val (.int x4), .val (.int x5), .val (.int (x1 &&& (3 : Int32))), .val (.int (((x1.toUInt32 >>> ((2 : Int32) &&& 31).toUInt32).toInt32) &&& (3 : Int32))), .val (.ref sb), .val (.int (Int32.ofNat N)), .val (.int fl), .val (.ref b1), .val (.ref xq), .val (.ref d3), .val (.ref d3)] [])) (fun t k => Jvm.RoadKit.acmp (g := (mkF m 348 #[.val (.int x1), .val (.int x2), .val (.int x3), .val (.int x4), .val (.int x5), .val (.int (x1 &&& (3 : Int32))), .val (.int (((x1.toUInt32 >>> ((2 : Int32) &&& 31).toUInt32).toInt32) &&& (3 : Int32))), .val (.ref sb), .val (.int (Int32.ofNat N)), .val (.int fl), .val (.ref b1), .val (.ref xq), .val (.ref d3), .val (.ref d3)] [(.ref d3), (.ref d3)])) X46 hx rfl rfl rfl (pc0 := 348) (pc' := 351) (same := true) rfl (hb hby at_348) rfl (decide_eq_true rfl) (by decide) (by decide) k) ?_
                  refine own_byH (T' := T46) (g' := (mkF m 352 #[.val (.int x1), .val (.int x2), .val (.int x3), .val (.int x4), .val (.int x5), .val (.int (x1 &&& (3 : Int32))), .val (.int (((x1.toUInt32 >>> ((2 : Int32) &&& 31).toUInt32).toInt32) &&& (3 : Int32))), .val (.ref sb), .val (.int (Int32.ofNat N)), .val (.int fl), .val (.ref b1), .val (.ref xq), .val (.ref d3), .val (.ref d3)] [(.int 1)])) (fun t k => XS.iconst X46.here hx rfl (hb hby at_351) k) ?_
                  refine own_byH (T' := T46) (g' := (mkF m 356 #[.val (.int x1), .val (.int x2), .val (.int x3), .val (.int x4), .val (.int x5), .val (.int (x1 &&& (3 : Int32))), .val (.int (((x1.toUInt32 >>> ((2 : Int32) &&& 31).toUInt32).toInt32) &&& (3 : Int32))), .val (.ref sb), .val (.int (Int32.ofNat N)), .val (.int fl), .val (.ref b1), .val (.ref xq), .val (.ref d3), .val (.ref d3)] [(.int 1)])) (fun t k => XS.goto X46.here hx rfl (pc0 := 352) (pc' := 356) rfl (hb hby at_352) (by decide) (by decide) k) ?_
                  exact own_retNH X46 hS (by rw [e46]; exact hk_) hx (t := .boolean) Bd.notSynchronized Bd.returns (by simp) (hb hby at_356) (by decide) (by decide) hZ hEL (by rw [e46]; exact R_) (by rw [e46]; exact ⟨rfl, N_⟩)
                · obtain ⟨S_COMPACT_STRINGS, -, -, -, -, -, -, -, -, -, -, -, -, -, -, -, -, -, -, -, -, -, -, -⟩ := hW.ext O_.2
                  have E_xq := Q_xq.1
                  obtain ⟨cq47, kq47, q47a, q47b, q47c⟩ := isOf hZ e41 E_xq
                  obtain ⟨_, _, ⟨T47, L47, k47, n47⟩, -, X47, ⟨Lc47, hQ47, l47, y47, z47⟩, st47⟩ := X41.virtualBack hx (y := (⟨"java/lang/String", "equals", "(Ljava/lang/Object;)Z"⟩ : MethodName)) (z := (⟨"java/lang/String", "equals", "(Ljava/lang/Object;)Z"⟩ : MethodName)) hown (mvT hZ (hw _ (own_m 72 rfl))) (mvT hZ (hw _ (own_m 73 rfl))) (notFace_of_selects (args := #[]) (mvT hZ (hw _ (own_m 75 rfl)))) (mvT hZ (hw _ (own_m 75 rfl))) (mvT hZ (hw _ (own_m 74 rfl))) (by decide) (StrChars.Road.eqW (W := 0) hZ (own_hwE hw) (kI := 4) (hw _ (own_m 2 rfl)) Q_xq.1 Q_xq.2.1 Q_xq.2.2.1 Q_xq.2.2.2.1 (own_cod Q_xq) (own_w16 Q_xq) (own_l4 Q_xq) Q_sa41.1 Q_sa41.2.1 Q_sa41.2.2.1 Q_sa41.2.2.2.1 (own_cod Q_sa41) (own_w16 Q_sa41) (own_l4 Q_sa41) S_COMPACT_STRINGS hzC (by decide) (by decide)) q47a q47c (g := (mkF m 319 #[.val (.int x1), .val (.int x2), .val (.int x3), .val (.int x4), .val (.int x5), .val (.int (x1 &&& (3 : Int32))), .val (.int (((x1.toUInt32 >>> ((2 : Int32) &&& 31).toUInt32).toInt32) &&& (3 : Int32))), .val (.ref sb), .val (.int (Int32.ofNat N)), .val (.int fl), .val (.ref b1), .val (.ref xq), .val .null, .unset] [(.ref sa41), (.ref xq)])) rfl (by rw [hml]; rfl) (Steps.refl _) (argsL := [(.ref sa41)]) (rest := []) (lenOf pd_15 rfl) rfl (own_le rfl) (hb hby at_319) (fun _ _ => ⟨rfl, e41, (by decide : 16 + 0 ≤ _), (by decide : 202 + 0 ≤ _)⟩)
                  dsimp only [Pt.U, Pt.locs, Pt.cells, Pt.slots] at X47 l47 y47 z47 st47 hQ47
                  subst l47 y47 z47
                  rcases hQ47 with ⟨⟨rfl, hq47⟩ | ⟨rfl, hq47⟩, rfl, e47⟩
                  · exact absurd hq47 hq3
                  replace N_ := Fr.app N_ (Fr.nil n0)
                  refine own_byH (T' := T47) (g' := (mkF m 322 #[.val (.int x1), .val (.int x2), .val (.int x3), .val (.int x4), .val (.int x5), .val (.int (x1 &&& (3 : Int32))), .val (.int (((x1.toUInt32 >>> ((2 : Int32) &&& 31).toUInt32).toInt32) &&& (3 : Int32))), .val (.ref sb), .val (.int (Int32.ofNat N)), .val (.int fl), .val (.ref b1), .val (.ref xq), .val .null, .unset] [(.int 0)])) (fun t k => st47.trans k) ?_
                  clear st47 X41 e41
                  refine own_byH (T' := T47) (g' := (mkF m 330 #[.val (.int x1), .val (.int x2), .val (.int x3), .val (.int x4), .val (.int x5), .val (.int (x1 &&& (3 : Int32))), .val (.int (((x1.toUInt32 >>> ((2 : Int32) &&& 31).toUInt32).toInt32) &&& (3 : Int32))), .val (.ref sb), .val (.int (Int32.ofNat N)), .val (.int fl), .val (.ref b1), .val (.ref xq), .val .null, .unset] [])) (fun t k => XS.ifYes X47.here hx rfl (pc0 := 322) (pc' := 330) rfl (hb hby at_322) rfl ((if0 _ _).trans (teq (by decide)).1) (by decide) (by decide) k) ?_
                  refine own_byH (T' := T47) (g' := (mkF m 332 #[.val (.int x1), .val (.int x2), .val (.int x3), .val (.int x4), .val (.int x5), .val (.int (x1 &&& (3 : Int32))), .val (.int (((x1.toUInt32 >>> ((2 : Int32) &&& 31).toUInt32).toInt32) &&& (3 : Int32))), .val (.ref sb), .val (.int (Int32.ofNat N)), .val (.int fl), .val (.ref b1), .val (.ref xq), .val .null, .unset] [(.ref xq)])) (fun t k => XS.aload X47.here hx rfl (hb hby at_330) rfl rfl k) ?_
                  obtain ⟨S_COMPACT_STRINGS, -, S_EMPTY, E_em, F_value_em, S__VALUES, E_va, V_va, -, E_d0, F_field_d0, Q_f0, -, E_d1, F_field_d1, Q_f1, -, E_d2, F_field_d2, Q_f2, -, E_d3, F_field_d3, Q_f3⟩ := hW.ext O_.2
                  obtain ⟨_, _, ⟨T48, L48, k48, n48⟩, -, X48, ⟨Lc48, hQ48, l48, y48, z48⟩, st48⟩ := Jvm.LawKit.callS X47 hx (y := (⟨"com/example/gate2/gate2/Dimension", "byField", "(Ljava/lang/String;)Ljava/util/Optional;"⟩ : MethodName)) hown (mvT hZ (hw _ (own_m 84 rfl))) (mvT hZ (hw _ (own_m 85 rfl))) (mvT hZ (hw _ (own_m 82 rfl))) (mvT hZ (hw _ (own_m 86 rfl))) (by decide) (backOf (W := 0) (rm18v4 l Z a0 hw [] xq va kvv d0 d1 d2 d3 f0 f1 f2 f3 t0 t1 t2 t3 ky0 ky1 ky2 ky3 zC tq kq cq em h41 n0 Zle Q_xq S_COMPACT_STRINGS S__VALUES E_va V_va E_d0 F_field_d0 Q_f0 E_d1 F_field_d1 Q_f1 E_d2 F_field_d2 Q_f2 E_d3 F_field_d3 Q_f3 S_EMPTY (hzC) (fun hq => hq0 hq.symm) (fun hq => hq1 hq.symm) (fun hq => hq2 hq.symm) (fun hq => hq3 hq.symm)) hZ (hw _ (own_m 86 rfl)) (hw _ (own_m 82 rfl)) (by decide) (by decide)) (g := (mkF m 332 #[.val (.int x1), .val (.int x2), .val (.int x3), .val (.int x4), .val (.int x5), .val (.int (x1 &&& (3 : Int32))), .val (.int (((x1.toUInt32 >>> ((2 : Int32) &&& 31).toUInt32).toInt32) &&& (3 : Int32))), .val (.ref sb), .val (.int (Int32.ofNat N)), .val (.int fl), .val (.ref b1), .val (.ref xq), .val .null, .unset] [(.ref xq)])) rfl (by rw [hml]; rfl) (argsL := [(.ref xq)]) (rest := []) (lenOf pd_17 rfl) rfl (own_le rfl) (hb hby at_332) (fun _ _ => ⟨rfl, e47, (by decide : 16 + 2 ≤ _), (by decide : 202 + 5 ≤ _)⟩)
                  dsimp only [Pt.U, Pt.locs, Pt.cells, Pt.slots] at X48 l48 y48 z48 st48 hQ48
                  subst l48 y48 z48
                  obtain ⟨rfl, Nq48, c48_0⟩ := hQ48
                  replace N_ := Fr.app N_ Nq48
                  clear Nq48
                  have CR_ := CHr.keep c48_0 all0 R_.1
                  replace R_ := R_.trans CR_
                  clear CR_
                  replace S_COMPACT_STRINGS := own_staKeep S_COMPACT_STRINGS c48_0 all0
                  replace S__VALUES := own_staKeep S__VALUES c48_0 all0
                  replace S_EMPTY := own_staKeep S_EMPTY c48_0 all0
                  replace Zle := Nat.le_trans Zle c48_0.1
                  replace O_ := O_.keep c48_0 all0
                  replace Q_xq := Q_xq.keep c48_0 nin0 nin0
                  replace hk_ := Nat.le_trans hk_ c48_0.1
                  replace E_va := E_va.keep c48_0
                  replace V_va := V_va.keep c48_0 nin0
                  replace E_d0 := E_d0.keep c48_0
                  replace F_field_d0 := F_field_d0.keep c48_0 nin0
                  replace Q_f0 := Q_f0.keep c48_0 nin0 nin0
                  replace E_d1 := E_d1.keep c48_0
                  replace F_field_d1 := F_field_d1.keep c48_0 nin0
                  replace Q_f1 := Q_f1.keep c48_0 nin0 nin0
                  replace E_d2 := E_d2.keep c48_0
                  replace F_field_d2 := F_field_d2.keep c48_0 nin0
                  replace Q_f2 := Q_f2.keep c48_0 nin0 nin0
                  replace E_d3 := E_d3.keep c48_0
                  replace F_field_d3 := F_field_d3.keep c48_0 nin0
                  replace Q_f3 := Q_f3.keep c48_0 nin0 nin0
                  replace E_em := E_em.keep c48_0
                  replace F_value_em := F_value_em.keep c48_0 nin0
                  refine own_byH (T' := T48) (g' := (mkF m 335 #[.val (.int x1), .val (.int x2), .val (.int x3), .val (.int x4), .val (.int x5), .val (.int (x1 &&& (3 : Int32))), .val (.int (((x1.toUInt32 >>> ((2 : Int32) &&& 31).toUInt32).toInt32) &&& (3 : Int32))), .val (.ref sb), .val (.int (Int32.ofNat N)), .val (.int fl), .val (.ref b1), .val (.ref xq), .val .null, .unset] [(.ref em)])) (fun t k => st48 _ k) ?_
                  clear st48 X47 e47
                  refine own_byH (T' := T48) (g' := (mkF m 336 #[.val (.int x1), .val (.int x2), .val (.int x3), .val (.int x4), .val (.int x5), .val (.int (x1 &&& (3 : Int32))), .val (.int (((x1.toUInt32 >>> ((2 : Int32) &&& 31).toUInt32).toInt32) &&& (3 : Int32))), .val (.ref sb), .val (.int (Int32.ofNat N)), .val (.int fl), .val (.ref b1), .val (.ref xq), .val .null, .unset] [.null, (.ref em)])) (fun t k => XS.aconstNull X48.here hx rfl (hb hby at_335) k) ?_
                  obtain ⟨cq49, kq49, q49a, q49b, q49c⟩ := isOf hZ rfl E_em
                  obtain ⟨_, _, ⟨T49, L49, k49, n49⟩, -, X49, ⟨Lc49, hQ49, l49, y49, z49⟩, st49⟩ := X48.virtualBack hx (y := (⟨"java/util/Optional", "orElse", "(Ljava/lang/Object;)Ljava/lang/Object;"⟩ : MethodName)) (z := (⟨"java/util/Optional", "orElse", "(Ljava/lang/Object;)Ljava/lang/Object;"⟩ : MethodName)) hown (mvT hZ (hw _ (own_m 125 rfl))) (mvT hZ (hw _ (own_m 126 rfl))) (notFace_of_selects (args := #[]) (mvT hZ (hw _ (own_m 128 rfl)))) (mvT hZ (hw _ (own_m 128 rfl))) (mvT hZ (hw _ (own_m 127 rfl))) (by decide) (backOf (W := 0) (rm23b l Z a0 hw [] em T48.heap n0 Zle F_value_em) hZ (hw _ (own_m 129 rfl)) (hw _ (own_m 110 rfl)) (by decide) (by decide)) q49a q49c (g := (mkF m 336 #[.val (.int x1), .val (.int x2), .val (.int x3), .val (.int x4), .val (.int x5), .val (.int (x1 &&& (3 : Int32))), .val (.int (((x1.toUInt32 >>> ((2 : Int32) &&& 31).toUInt32).toInt32) &&& (3 : Int32))), .val (.ref sb), .val (.int (Int32.ofNat N)), .val (.int fl), .val (.ref b1), .val (.ref xq), .val .null, .unset] [.null, (.ref em)])) rfl (by rw [hml]; rfl) (Steps.refl _) (argsL := [.null]) (rest := []) (lenOf pd_21 rfl) rfl (own_le rfl) (hb hby at_336) (fun _ _ => ⟨rfl, rfl, (by decide : 18 + 0 ≤ _), (by decide : 207 + 0 ≤ _)⟩)
                  dsimp only [Pt.U, Pt.locs, Pt.cells, Pt.slots] at X49 l49 y49 z49 st49 hQ49
                  subst l49 y49 z49
                  obtain ⟨rfl, Nq49, e49⟩ := hQ49
                  replace N_ := Fr.app N_ Nq49
                  clear Nq49
                  refine own_byH (T' := T49) (g' := (mkF m 339 #[.val (.int x1), .val (.int x2), .val (.int x3), .val (.int x4), .val (.int x5), .val (.int (x1 &&& (3 : Int32))), .val (.int (((x1.toUInt32 >>> ((2 : Int32) &&& 31).toUInt32).toInt32) &&& (3 : Int32))), .val (.ref sb), .val (.int (Int32.ofNat N)), .val (.int fl), .val (.ref b1), .val (.ref xq), .val .null, .unset] [.null])) (fun t k => st49.trans k) ?_
                  clear st49 X48
                  refine own_byH (T' := T49) (g' := (mkF m 342 #[.val (.int x1), .val (.int x2), .val (.int x3), .val (.int x4), .val (.int x5), .val (.int (x1 &&& (3 : Int32))), .val (.int (((x1.toUInt32 >>> ((2 : Int32) &&& 31).toUInt32).toInt32) &&& (3 : Int32))), .val (.ref sb), .val (.int (Int32.ofNat N)), .val (.int fl), .val (.ref b1), .val (.ref xq), .val .null, .unset] [.null])) (fun t k => X49.checkcastNull hx (g := (mkF m 339 #[.val (.int x1), .val (.int x2), .val (.int x3), .val (.int x4), .val (.int x5), .val (.int (x1 &&& (3 : Int32))), .val (.int (((x1.toUInt32 >>> ((2 : Int32) &&& 31).toUInt32).toInt32) &&& (3 : Int32))), .val (.ref sb), .val (.int (Int32.ofNat N)), .val (.int fl), .val (.ref b1), .val (.ref xq), .val .null, .unset] [.null])) rfl rfl (hb hby at_339) _ k) ?_
                  refine own_byH (T' := T49) (g' := (mkF m 344 #[.val (.int x1), .val (.int x2), .val (.int x3), .val (.int x4), .val (.int x5), .val (.int (x1 &&& (3 : Int32))), .val (.int (((x1.toUInt32 >>> ((2 : Int32) &&& 31).toUInt32).toInt32) &&& (3 : Int32))), .val (.ref sb), .val (.int (Int32.ofNat N)), .val (.int fl), .val (.ref b1), .val (.ref xq), .val .null, .val .null] [])) (fun t k => XS.astore X49.here hx rfl (hb hby at_342) rfl rfl (l' := #[.val (.int x1), .val (.int x2), .val (.int x3), .val (.int x4), .val (.int x5), .val (.int (x1 &&& (3 : Int32))), .val (.int (((x1.toUInt32 >>> ((2 : Int32) &&& 31).toUInt32).toInt32) &&& (3 : Int32))), .val (.ref sb), .val (.int (Int32.ofNat N)), .val (.int fl), .val (.ref b1), .val (.ref xq), .val .null, .val .null]) rfl k) ?_
                  refine own_byH (T' := T49) (g' := (mkF m 346 #[.val (.int x1), .val (.int x2), .val (.int x3), .val (.int x4), .val (.int x5), .val (.int (x1 &&& (3 : Int32))), .val (.int (((x1.toUInt32 >>> ((2 : Int32) &&& 31).toUInt32).toInt32) &&& (3 : Int32))), .val (.ref sb), .val (.int (Int32.ofNat N)), .val (.int fl), .val (.ref b1), .val (.ref xq), .val .null, .val .null] [.null])) (fun t k => XS.aload X49.here hx rfl (hb hby at_344) rfl rfl k) ?_
                  refine own_byH (T' := T49) (g' := (mkF m 348 #[.val (.int x1), .val (.int x2), .val (.int x3), .val (.int x4), .val (.int x5), .val (.int (x1 &&& (3 : Int32))), .val (.int (((x1.toUInt32 >>> ((2 : Int32) &&& 31).toUInt32).toInt32) &&& (3 : Int32))), .val (.ref sb), .val (.int (Int32.ofNat N)), .val (.int fl), .val (.ref b1), .val (.ref xq), .val .null, .val .null] [.null, .null])) (fun t k => XS.aload X49.here hx rfl (hb hby at_346) rfl rfl k) ?_
                  refine own_byH (T' := T49) (g' := (mkF m 351 #[.val (.int x1), .val (.int x2), .val (.int x3), .val (.int x4), .val (.int x5), .val (.int (x1 &&& (3 : Int32))), .val (.int (((x1.toUInt32 >>> ((2 : Int32) &&& 31).toUInt32).toInt32) &&& (3 : Int32))), .val (.ref sb), .val (.int (Int32.ofNat N)), .val (.int fl), .val (.ref b1), .val (.ref xq), .val .null, .val .null] [])) (fun t k => Jvm.RoadKit.acmp (g := (mkF m 348 #[.val (.int x1), .val (.int x2), .val (.int x3), .val (.int x4), .val (.int x5), .val (.int (x1 &&& (3 : Int32))), .val (.int (((x1.toUInt32 >>> ((2 : Int32) &&& 31).toUInt32).toInt32) &&& (3 : Int32))), .val (.ref sb), .val (.int (Int32.ofNat N)), .val (.int fl), .val (.ref b1), .val (.ref xq), .val .null, .val .null] [.null, .null])) X49 hx rfl rfl rfl (pc0 := 348) (pc' := 351) (same := true) rfl (hb hby at_348) rfl (decide_eq_true rfl) (by decide) (by decide) k) ?_
                  refine own_byH (T' := T49) (g' := (mkF m 352 #[.val (.int x1), .val (.int x2), .val (.int x3), .val (.int x4), .val (.int x5), .val (.int (x1 &&& (3 : Int32))), .val (.int (((x1.toUInt32 >>> ((2 : Int32) &&& 31).toUInt32).toInt32) &&& (3 : Int32))), .val (.ref sb), .val (.int (Int32.ofNat N)), .val (.int fl), .val (.ref b1), .val (.ref xq), .val .null, .val .null] [(.int 1)])) (fun t k => XS.iconst X49.here hx rfl (hb hby at_351) k) ?_
                  refine own_byH (T' := T49) (g' := (mkF m 356 #[.val (.int x1), .val (.int x2), .val (.int x3), .val (.int x4), .val (.int x5), .val (.int (x1 &&& (3 : Int32))), .val (.int (((x1.toUInt32 >>> ((2 : Int32) &&& 31).toUInt32).toInt32) &&& (3 : Int32))), .val (.ref sb), .val (.int (Int32.ofNat N)), .val (.int fl), .val (.ref b1), .val (.ref xq), .val .null, .val .null] [(.int 1)])) (fun t k => XS.goto X49.here hx rfl (pc0 := 352) (pc' := 356) rfl (hb hby at_352) (by decide) (by decide) k) ?_
                  exact own_retNH X49 hS (by rw [e49]; exact hk_) hx (t := .boolean) Bd.notSynchronized Bd.returns (by simp) (hb hby at_356) (by decide) (by decide) hZ hEL (by rw [e49]; exact R_) (by rw [e49]; exact ⟨rfl, N_⟩)
        obtain ⟨T50, h50, X50, e50, E50, A50, D50, -, st50⟩ := newO X_c hx hZ hown (hw _ (own_m 51 rfl)) (hw _ (own_m 2 rfl)) (hw _ (own_m 1 rfl)) e_c (g := (mkF m 247 #[.val (.int x1), .val (.int x2), .val (.int x3), .val (.int x4), .val (.int x5), .val (.int (x1 &&& (3 : Int32))), .val (.int (((x1.toUInt32 >>> ((2 : Int32) &&& 31).toUInt32).toInt32) &&& (3 : Int32))), .val (.ref sb), .val (.int (Int32.ofNat N)), .val (.int fl), .val (.ref b1), .unset, .unset, .unset] [])) rfl (hb hby at_247) (by decide) (by decide)
        obtain ⟨b50, g50⟩ : ∃ z, z = h_c.size := ⟨_, rfl⟩
        rw [← g50] at A50 D50 st50
        have ne_b1_b50 : b1 ≠ b50 := Nat.ne_of_lt (Nat.lt_of_lt_of_eq V_b1.lt g50.symm)
        have g_b50 : n0 ≤ b50 := Nat.le_trans Zle (Nat.le_of_eq g50.symm)
        have Sf_b50 := Safe.ext E50 R_.1 (Safe.new (x := b50) (Nat.le_of_eq g50.symm))
        replace Zle := Nat.le_trans Zle E50.1
        replace hk_ := Nat.le_trans hk_ E50.1
        replace O_ := O_.ext E50
        replace V_b1 := V_b1.ext E50
        replace R_ := R_.trans (CHr.ext E50 R_.1)
        have E_b50 := A50
        have F_value_b50 : Fld Z h50 b50 "java/lang/String" "value" "[B" .null := D50 (Or.inr (hw _ (own_m 4 rfl))) (ty := (.array .byte)) (by decide)
        have F_coder_b50 : Fld Z h50 b50 "java/lang/String" "coder" "B" (.int 0) := D50 (Or.inr (hw _ (own_m 5 rfl))) (ty := .byte) (by decide)
        refine own_byH (T' := T50) (g' := (mkF m 250 #[.val (.int x1), .val (.int x2), .val (.int x3), .val (.int x4), .val (.int x5), .val (.int (x1 &&& (3 : Int32))), .val (.int (((x1.toUInt32 >>> ((2 : Int32) &&& 31).toUInt32).toInt32) &&& (3 : Int32))), .val (.ref sb), .val (.int (Int32.ofNat N)), .val (.int fl), .val (.ref b1), .unset, .unset, .unset] [(.ref b50)])) (fun t k => st50 t k) ?_
        clear st50
        refine own_byH (T' := T50) (g' := (mkF m 251 #[.val (.int x1), .val (.int x2), .val (.int x3), .val (.int x4), .val (.int x5), .val (.int (x1 &&& (3 : Int32))), .val (.int (((x1.toUInt32 >>> ((2 : Int32) &&& 31).toUInt32).toInt32) &&& (3 : Int32))), .val (.ref sb), .val (.int (Int32.ofNat N)), .val (.int fl), .val (.ref b1), .unset, .unset, .unset] [(.ref b50), (.ref b50)])) (fun t k => XS.dup X50.here hx rfl (hb hby at_250) rfl rfl k) ?_
        refine own_byH (T' := T50) (g' := (mkF m 253 #[.val (.int x1), .val (.int x2), .val (.int x3), .val (.int x4), .val (.int x5), .val (.int (x1 &&& (3 : Int32))), .val (.int (((x1.toUInt32 >>> ((2 : Int32) &&& 31).toUInt32).toInt32) &&& (3 : Int32))), .val (.ref sb), .val (.int (Int32.ofNat N)), .val (.int fl), .val (.ref b1), .unset, .unset, .unset] [(.ref b1), (.ref b50), (.ref b50)])) (fun t k => XS.aload X50.here hx rfl (hb hby at_251) rfl rfl k) ?_
        rcases Nat.eq_zero_or_pos N with hz0 | hpos
        · have V0_ := own_arr00 hN9 hl_9 hz0 V_b1
          obtain ⟨_, _, ⟨T51, L51, k51, n51⟩, -, X51, hS51, hg51, ⟨Lc51, hQ51, l51, y51, z51, C51⟩, st51⟩ := X50.specialBackS hx (y := (⟨"java/lang/String", "<init>", "([C)V"⟩ : MethodName)) rfl hown (mvT hZ (hw _ (own_m 52 rfl))) (mvT hZ (hw _ (own_m 53 rfl))) (mvT hZ (hw _ (own_m 54 rfl))) (by decide) (backOfSH (W := 1) (rm10 l Z a0 hw [] b50 b1 k1 h50 n0 Zle E_b50 g_b50 F_value_b50 F_coder_b50 V0_ (ne_b1_b50) (hEL)) hZ (hw _ (own_m 54 rfl)) (hw _ (own_m 1 rfl)) (by decide) (by decide) hEL R_.1) (g := (mkF m 253 #[.val (.int x1), .val (.int x2), .val (.int x3), .val (.int x4), .val (.int x5), .val (.int (x1 &&& (3 : Int32))), .val (.int (((x1.toUInt32 >>> ((2 : Int32) &&& 31).toUInt32).toInt32) &&& (3 : Int32))), .val (.ref sb), .val (.int (Int32.ofNat N)), .val (.int fl), .val (.ref b1), .unset, .unset, .unset] [(.ref b1), (.ref b50), (.ref b50)])) rfl (by rw [hml]; rfl) (Steps.refl _) (a := b50) (argsL := [(.ref b1)]) (rest := [(.ref b50)]) (lenOf pd_9 rfl) rfl (own_le rfl) (hb hby at_253) (fun _ _ => ⟨rfl, e50, (by decide : 4 + 4 ≤ _), (by decide : 49 + 8 ≤ _)⟩)
          dsimp only [Pt.U, Pt.locs, Pt.cells, Pt.slots] at X51 l51 y51 z51 st51 hQ51 hS51 hg51 C51
          subst l51 y51 z51
          have hS := foldS (T := T50) hS (by rw [e50]; exact hk_) hS51 hg51
          have hZ : Z.Warmed39 (s.setVm T51.vm).vm := State.Warmed39.trans (t := s.setVm _) hZ hS51.1
          have hown : (s.setVm T51.vm).vm.findClass "com/example/gate2/gate2/DimensionByFieldPinLaw" = some m.cls := by rw [show (s.setVm T51.vm).vm = T51.vm from rfl, hS51.1.alike.findClass]; exact hown
          replace R_ := R_.trans C51
          obtain ⟨rfl, Nq51, c51_0, c51_1⟩ := hQ51
          replace N_ := Fr.app N_ Nq51
          clear Nq51
          replace Zle := Nat.le_trans Zle c51_0.1
          replace O_ := O_.keep c51_0 (allS g_b50 all0)
          obtain ⟨tz_51, kz_51, Q_x0⟩ := c51_1
          have hk_ : T51.heap.size ≤ T51.heap.size := Nat.le_refl _
          refine own_byH (T' := T51) (g' := (mkF m 256 #[.val (.int x1), .val (.int x2), .val (.int x3), .val (.int x4), .val (.int x5), .val (.int (x1 &&& (3 : Int32))), .val (.int (((x1.toUInt32 >>> ((2 : Int32) &&& 31).toUInt32).toInt32) &&& (3 : Int32))), .val (.ref sb), .val (.int (Int32.ofNat N)), .val (.int fl), .val (.ref b1), .unset, .unset, .unset] [(.ref b50)])) (fun t k => st51.trans k) ?_
          clear st51 X50 e50
          exact J256 _ _ _ _ _ _ _ _ _ (own_mono X51 (by decide) (by decide)) rfl hS hk_ hZ hown R_ O_ Zle N_ Q_x0
        · obtain ⟨S_COMPACT_STRINGS, -, -, -, -, -, -, -, -, -, -, -, -, -, -, -, -, -, -, -, -, -, -, -⟩ := hW.ext O_.2
          obtain ⟨_, _, ⟨T52, L52, k52, n52⟩, -, X52, ⟨Lc52, hQ52, l52, y52, z52⟩, st52⟩ := X50.specialBack hx (y := (⟨"java/lang/String", "<init>", "([C)V"⟩ : MethodName)) rfl hown (mvT hZ (hw _ (own_m 52 rfl))) (mvT hZ (hw _ (own_m 53 rfl))) (mvT hZ (hw _ (own_m 54 rfl))) (by decide) (StrChars.Road.backV (W := 1) hZ (own_hws hw) (kI := 4) (hw _ (own_m 2 rfl)) (cs := cs_9) (bs := cs_9.map (fun c => c.toInt8.toInt32)) (n := cs_9.length) g_b50 Zle E_b50 F_value_b50 F_coder_b50 V_b1 S_COMPACT_STRINGS hzC rfl (by rw [hl_9]) (by rw [hl_9]; exact hpos) (own_c4 hl_9 hN9) hcs_9 rfl (by decide) (by decide)) (g := (mkF m 253 #[.val (.int x1), .val (.int x2), .val (.int x3), .val (.int x4), .val (.int x5), .val (.int (x1 &&& (3 : Int32))), .val (.int (((x1.toUInt32 >>> ((2 : Int32) &&& 31).toUInt32).toInt32) &&& (3 : Int32))), .val (.ref sb), .val (.int (Int32.ofNat N)), .val (.int fl), .val (.ref b1), .unset, .unset, .unset] [(.ref b1), (.ref b50), (.ref b50)])) rfl (by rw [hml]; rfl) (Steps.refl _) (a := b50) (argsL := [(.ref b1)]) (rest := [(.ref b50)]) (lenOf pd_9 rfl) rfl (own_le rfl) (hb hby at_253) (fun _ _ => ⟨rfl, e50, (by decide : 4 + 1 ≤ _), (Nat.le_trans (Nat.add_le_add_left (Nat.le_trans (Nat.le_of_eq hl_9) hN9) _) (by decide : 49 + 9 ≤ _))⟩)
          dsimp only [Pt.U, Pt.locs, Pt.cells, Pt.slots] at X52 l52 y52 z52 st52 hQ52
          subst l52 y52 z52
          obtain ⟨rfl, Nq52, Kq52, Eq52, Fc52, st_52, kb52, -, -, -, Fv52, Vb52⟩ := hQ52
          replace N_ := Fr.app N_ Nq52
          have hlc := hl_9
          replace X52 := own_mono X52 (Nat.le_refl _) (Nat.add_le_add_left (show cs_9.length ≤ 9 by rw [hlc]; exact hN9) _)
          have CR_ := CHr.keep Kq52 (allS Sf_b50 all0) R_.1
          replace Sf_b50 := Safe.keep Kq52 (allS Sf_b50 all0) R_.1 Sf_b50
          replace R_ := R_.trans CR_
          clear CR_
          replace Zle := Nat.le_trans Zle Kq52.1
          replace hk_ := Nat.le_trans hk_ Kq52.1
          replace O_ := O_.keep Kq52 (allS g_b50 all0)
          replace V_b1 := V_b1.keep Kq52 (ninS ne_b1_b50 nin0)
          have Q_x0 : own_Str Z T52.heap b50 st_52 kb52 cs_9 := ⟨Eq52, Fv52, Fc52, own_vb hlc Vb52, hcs_9, by rw [hlc]; exact hN9⟩
          refine own_byH (T' := T52) (g' := (mkF m 256 #[.val (.int x1), .val (.int x2), .val (.int x3), .val (.int x4), .val (.int x5), .val (.int (x1 &&& (3 : Int32))), .val (.int (((x1.toUInt32 >>> ((2 : Int32) &&& 31).toUInt32).toInt32) &&& (3 : Int32))), .val (.ref sb), .val (.int (Int32.ofNat N)), .val (.int fl), .val (.ref b1), .unset, .unset, .unset] [(.ref b50)])) (fun t k => st52.trans k) ?_
          clear st52 X50 e50
          exact J256 _ _ _ _ _ _ _ _ _ (own_mono X52 (by decide) (by decide)) rfl hS hk_ hZ hown R_ O_ Zle N_ Q_x0
      refine own_byH (T' := T19) (g' := (mkF m 221 #[.val (.int x1), .val (.int x2), .val (.int x3), .val (.int x4), .val (.int x5), .val (.int (x1 &&& (3 : Int32))), .val (.int (((x1.toUInt32 >>> ((2 : Int32) &&& 31).toUInt32).toInt32) &&& (3 : Int32))), .val (.ref sb), .val (.int (Int32.ofNat N)), .val (.int fl), .val (.ref b1), .unset, .unset, .unset] [(.int (((x1.toUInt32 >>> ((2 : Int32) &&& 31).toUInt32).toInt32) &&& (3 : Int32)))])) (fun t k => XS.iload X19.here hx rfl (hb hby at_219) rfl k) ?_
      refine own_byH (T' := T19) (g' := (mkF m 222 #[.val (.int x1), .val (.int x2), .val (.int x3), .val (.int x4), .val (.int x5), .val (.int (x1 &&& (3 : Int32))), .val (.int (((x1.toUInt32 >>> ((2 : Int32) &&& 31).toUInt32).toInt32) &&& (3 : Int32))), .val (.ref sb), .val (.int (Int32.ofNat N)), .val (.int fl), .val (.ref b1), .unset, .unset, .unset] [(.int 2), (.int (((x1.toUInt32 >>> ((2 : Int32) &&& 31).toUInt32).toInt32) &&& (3 : Int32)))])) (fun t k => XS.iconst X19.here hx rfl (hb hby at_221) k) ?_
      refine own_byH (T' := T19) (g' := (mkF m 223 #[.val (.int x1), .val (.int x2), .val (.int x3), .val (.int x4), .val (.int x5), .val (.int (x1 &&& (3 : Int32))), .val (.int (((x1.toUInt32 >>> ((2 : Int32) &&& 31).toUInt32).toInt32) &&& (3 : Int32))), .val (.ref sb), .val (.int (Int32.ofNat N)), .val (.int fl), .val (.ref b1), .unset, .unset, .unset] [(.int ((((x1.toUInt32 >>> ((2 : Int32) &&& 31).toUInt32).toInt32) &&& (3 : Int32)) &&& (2 : Int32)))])) (fun t k => XS.iand X19.here hx rfl (hb hby at_222) rfl k) ?_
      by_cases hc223_53 : ((((x1.toUInt32 >>> ((2 : Int32) &&& 31).toUInt32).toInt32) &&& (3 : Int32)) &&& (2 : Int32)) = (0 : Int32)
      · refine own_byH (T' := T19) (g' := (mkF m 247 #[.val (.int x1), .val (.int x2), .val (.int x3), .val (.int x4), .val (.int x5), .val (.int (x1 &&& (3 : Int32))), .val (.int (((x1.toUInt32 >>> ((2 : Int32) &&& 31).toUInt32).toInt32) &&& (3 : Int32))), .val (.ref sb), .val (.int (Int32.ofNat N)), .val (.int fl), .val (.ref b1), .unset, .unset, .unset] [])) (fun t k => XS.ifYes X19.here hx rfl (pc0 := 223) (pc' := 247) rfl (hb hby at_223) rfl ((if0 _ _).trans (teq hc223_53).1) (by decide) (by decide) k) ?_
        exact J247 _ _ _ _ _ _ (own_mono X19 (by decide) (by decide)) rfl hS hk_ hZ hown R_ O_ Zle N_ c19_1 c19_2 c19_3
      · refine own_byH (T' := T19) (g' := (mkF m 226 #[.val (.int x1), .val (.int x2), .val (.int x3), .val (.int x4), .val (.int x5), .val (.int (x1 &&& (3 : Int32))), .val (.int (((x1.toUInt32 >>> ((2 : Int32) &&& 31).toUInt32).toInt32) &&& (3 : Int32))), .val (.ref sb), .val (.int (Int32.ofNat N)), .val (.int fl), .val (.ref b1), .unset, .unset, .unset] [])) (fun t k => XS.ifNo X19.here hx rfl (hb hby at_223) rfl ((if0 _ _).trans (feq hc223_53).1) k) ?_
        refine own_byH (T' := T19) (g' := (mkF m 228 #[.val (.int x1), .val (.int x2), .val (.int x3), .val (.int x4), .val (.int x5), .val (.int (x1 &&& (3 : Int32))), .val (.int (((x1.toUInt32 >>> ((2 : Int32) &&& 31).toUInt32).toInt32) &&& (3 : Int32))), .val (.ref sb), .val (.int (Int32.ofNat N)), .val (.int fl), .val (.ref b1), .unset, .unset, .unset] [(.int (Int32.ofNat N))])) (fun t k => XS.iload X19.here hx rfl (hb hby at_226) rfl k) ?_
        by_cases hc228_54 : (0 : Int32) < (Int32.ofNat N)
        · refine own_byH (T' := T19) (g' := (mkF m 231 #[.val (.int x1), .val (.int x2), .val (.int x3), .val (.int x4), .val (.int x5), .val (.int (x1 &&& (3 : Int32))), .val (.int (((x1.toUInt32 >>> ((2 : Int32) &&& 31).toUInt32).toInt32) &&& (3 : Int32))), .val (.ref sb), .val (.int (Int32.ofNat N)), .val (.int fl), .val (.ref b1), .unset, .unset, .unset] [])) (fun t k => XS.ifNo X19.here hx rfl (hb hby at_228) rfl ((if0 _ _).trans (tlt hc228_54).2.2.2) k) ?_
          have hnz := own_nzN hc228_54
          have hrm := own_rmN x3 hc228_54 hN9
          refine own_byH (T' := T19) (g' := (mkF m 233 #[.val (.int x1), .val (.int x2), .val (.int x3), .val (.int x4), .val (.int x5), .val (.int (x1 &&& (3 : Int32))), .val (.int (((x1.toUInt32 >>> ((2 : Int32) &&& 31).toUInt32).toInt32) &&& (3 : Int32))), .val (.ref sb), .val (.int (Int32.ofNat N)), .val (.int fl), .val (.ref b1), .unset, .unset, .unset] [(.ref b1)])) (fun t k => XS.aload X19.here hx rfl (hb hby at_231) rfl rfl k) ?_
          refine own_byH (T' := T19) (g' := (mkF m 234 #[.val (.int x1), .val (.int x2), .val (.int x3), .val (.int x4), .val (.int x5), .val (.int (x1 &&& (3 : Int32))), .val (.int (((x1.toUInt32 >>> ((2 : Int32) &&& 31).toUInt32).toInt32) &&& (3 : Int32))), .val (.ref sb), .val (.int (Int32.ofNat N)), .val (.int fl), .val (.ref b1), .unset, .unset, .unset] [(.int x3), (.ref b1)])) (fun t k => XS.iloadN X19.here hx rfl (hb hby at_233) rfl k) ?_
          refine own_byH (T' := T19) (g' := (mkF m 236 #[.val (.int x1), .val (.int x2), .val (.int x3), .val (.int x4), .val (.int x5), .val (.int (x1 &&& (3 : Int32))), .val (.int (((x1.toUInt32 >>> ((2 : Int32) &&& 31).toUInt32).toInt32) &&& (3 : Int32))), .val (.ref sb), .val (.int (Int32.ofNat N)), .val (.int fl), .val (.ref b1), .unset, .unset, .unset] [(.int 2147483647), (.int x3), (.ref b1)])) (fun t k => X19.ldcInt hx hown (mvT hZ (hw _ (own_m 136 rfl))) (g := (mkF m 234 #[.val (.int x1), .val (.int x2), .val (.int x3), .val (.int x4), .val (.int x5), .val (.int (x1 &&& (3 : Int32))), .val (.int (((x1.toUInt32 >>> ((2 : Int32) &&& 31).toUInt32).toInt32) &&& (3 : Int32))), .val (.ref sb), .val (.int (Int32.ofNat N)), .val (.int fl), .val (.ref b1), .unset, .unset, .unset] [(.int x3), (.ref b1)])) rfl (hb hby at_234) _ k) ?_
          refine own_byH (T' := T19) (g' := (mkF m 237 #[.val (.int x1), .val (.int x2), .val (.int x3), .val (.int x4), .val (.int x5), .val (.int (x1 &&& (3 : Int32))), .val (.int (((x1.toUInt32 >>> ((2 : Int32) &&& 31).toUInt32).toInt32) &&& (3 : Int32))), .val (.ref sb), .val (.int (Int32.ofNat N)), .val (.int fl), .val (.ref b1), .unset, .unset, .unset] [(.int (x3 &&& (2147483647 : Int32))), (.ref b1)])) (fun t k => XS.iand X19.here hx rfl (hb hby at_236) rfl k) ?_
          refine own_byH (T' := T19) (g' := (mkF m 239 #[.val (.int x1), .val (.int x2), .val (.int x3), .val (.int x4), .val (.int x5), .val (.int (x1 &&& (3 : Int32))), .val (.int (((x1.toUInt32 >>> ((2 : Int32) &&& 31).toUInt32).toInt32) &&& (3 : Int32))), .val (.ref sb), .val (.int (Int32.ofNat N)), .val (.int fl), .val (.ref b1), .unset, .unset, .unset] [(.int (Int32.ofNat N)), (.int (x3 &&& (2147483647 : Int32))), (.ref b1)])) (fun t k => XS.iload X19.here hx rfl (hb hby at_237) rfl k) ?_
          refine own_byH (T' := T19) (g' := (mkF m 240 #[.val (.int x1), .val (.int x2), .val (.int x3), .val (.int x4), .val (.int x5), .val (.int (x1 &&& (3 : Int32))), .val (.int (((x1.toUInt32 >>> ((2 : Int32) &&& 31).toUInt32).toInt32) &&& (3 : Int32))), .val (.ref sb), .val (.int (Int32.ofNat N)), .val (.int fl), .val (.ref b1), .unset, .unset, .unset] [(.int ((x3 &&& (2147483647 : Int32)) % (Int32.ofNat N))), (.ref b1)])) (fun t k => iremM X19 hx rfl (hb hby at_239) rfl hnz k) ?_
          refine own_byH (T' := T19) (g' := (mkF m 241 #[.val (.int x1), .val (.int x2), .val (.int x3), .val (.int x4), .val (.int x5), .val (.int (x1 &&& (3 : Int32))), .val (.int (((x1.toUInt32 >>> ((2 : Int32) &&& 31).toUInt32).toInt32) &&& (3 : Int32))), .val (.ref sb), .val (.int (Int32.ofNat N)), .val (.int fl), .val (.ref b1), .unset, .unset, .unset] [(.int x4), (.int ((x3 &&& (2147483647 : Int32)) % (Int32.ofNat N))), (.ref b1)])) (fun t k => XS.iloadN X19.here hx rfl (hb hby at_240) rfl k) ?_
          refine own_byH (T' := T19) (g' := (mkF m 244 #[.val (.int x1), .val (.int x2), .val (.int x3), .val (.int x4), .val (.int x5), .val (.int (x1 &&& (3 : Int32))), .val (.int (((x1.toUInt32 >>> ((2 : Int32) &&& 31).toUInt32).toInt32) &&& (3 : Int32))), .val (.ref sb), .val (.int (Int32.ofNat N)), .val (.int fl), .val (.ref b1), .unset, .unset, .unset] [(.int 255), (.int x4), (.int ((x3 &&& (2147483647 : Int32)) % (Int32.ofNat N))), (.ref b1)])) (fun t k => XS.sipush X19.here hx rfl (hb hby at_241) k) ?_
          refine own_byH (T' := T19) (g' := (mkF m 245 #[.val (.int x1), .val (.int x2), .val (.int x3), .val (.int x4), .val (.int x5), .val (.int (x1 &&& (3 : Int32))), .val (.int (((x1.toUInt32 >>> ((2 : Int32) &&& 31).toUInt32).toInt32) &&& (3 : Int32))), .val (.ref sb), .val (.int (Int32.ofNat N)), .val (.int fl), .val (.ref b1), .unset, .unset, .unset] [(.int (x4 &&& (255 : Int32))), (.int ((x3 &&& (2147483647 : Int32)) % (Int32.ofNat N))), (.ref b1)])) (fun t k => XS.iand X19.here hx rfl (hb hby at_244) rfl k) ?_
          refine own_byH (T' := T19) (g' := (mkF m 246 #[.val (.int x1), .val (.int x2), .val (.int x3), .val (.int x4), .val (.int x5), .val (.int (x1 &&& (3 : Int32))), .val (.int (((x1.toUInt32 >>> ((2 : Int32) &&& 31).toUInt32).toInt32) &&& (3 : Int32))), .val (.ref sb), .val (.int (Int32.ofNat N)), .val (.int fl), .val (.ref b1), .unset, .unset, .unset] [(.int ((x4 &&& (255 : Int32)).toUInt32.toUInt16.toUInt32.toInt32)), (.int ((x3 &&& (2147483647 : Int32)) % (Int32.ofNat N))), (.ref b1)])) (fun t k => XS.i2c X19.here hx rfl (hb hby at_245) rfl k) ?_
          obtain ⟨cl55, Ar55, q55, S55, N55, Hs55, G55⟩ := id c19_3
          have hin55 : ¬ (((x3 &&& (2147483647 : Int32)) % (Int32.ofNat N)) < 0 ∨ cl55.slots.size ≤ (((x3 &&& (2147483647 : Int32)) % (Int32.ofNat N))).toNatClampNeg) := inb_of S55 ⟨hrm.1, hrm.2⟩
          obtain ⟨T55, h55, X55, e55, W55, st55⟩ := stC X19 hx hZ rfl Ar55 (j := ((x3 &&& (2147483647 : Int32)) % (Int32.ofNat N))) hin55 (g := (mkF m 246 #[.val (.int x1), .val (.int x2), .val (.int x3), .val (.int x4), .val (.int x5), .val (.int (x1 &&& (3 : Int32))), .val (.int (((x1.toUInt32 >>> ((2 : Int32) &&& 31).toUInt32).toInt32) &&& (3 : Int32))), .val (.ref sb), .val (.int (Int32.ofNat N)), .val (.int fl), .val (.ref b1), .unset, .unset, .unset] [(.int ((x4 &&& (255 : Int32)).toUInt32.toUInt16.toUInt32.toInt32)), (.int ((x3 &&& (2147483647 : Int32)) % (Int32.ofNat N))), (.ref b1)])) rfl rfl (hb hby at_246)
          rw [own_narok (own_m255 x4)] at W55
          have c19_3_ : Arv Z h55 b1 k1 .char (Int32.ofNat N) ((cs2_19.set (((x3 &&& (2147483647 : Int32)) % (Int32.ofNat N))).toNatClampNeg ((x4 &&& (255 : Int32)).toUInt32.toUInt16.toUInt32.toInt32)).map Value.int) (.int 0) := by rw [List.map_set]; exact Arv.set Ar55 q55 S55 N55 Hs55 G55 (by rw [← own_narok (own_m255 x4)]; exact fits_nar_char _) W55 (((x3 &&& (2147483647 : Int32)) % (Int32.ofNat N))).toNatClampNeg rfl (by rw [List.length_map, c19_1]; exact (own_ix hrm.1 hrm.2 hN9))
          have hl' := (own_set (((x3 &&& (2147483647 : Int32)) % (Int32.ofNat N))).toNatClampNeg c19_2 (own_m255 x4)).2.trans c19_1
          have hcs' := (own_set (((x3 &&& (2147483647 : Int32)) % (Int32.ofNat N))).toNatClampNeg c19_2 (own_m255 x4)).1
          have Sf_b1' := Safe.wr W55 Sf_b1 R_.1 Sf_b1
          replace R_ := R_.trans (CHr.wr W55 Sf_b1 R_.1)
          replace Sf_b1 := Sf_b1'
          replace Zle := Nat.le_trans Zle (Keep.of_wr W55).1
          replace hk_ := Nat.le_trans hk_ (Keep.of_wr W55).1
          replace O_ := O_.wr W55 g_b1
          replace c19_3 := c19_3_
          clear c19_3_ W55 hin55 G55 Hs55 N55 S55 q55 Ar55
          replace N_ := Fr.snoc X55 N_ g_b1
          refine own_byH (T' := T55) (g' := (mkF m 247 #[.val (.int x1), .val (.int x2), .val (.int x3), .val (.int x4), .val (.int x5), .val (.int (x1 &&& (3 : Int32))), .val (.int (((x1.toUInt32 >>> ((2 : Int32) &&& 31).toUInt32).toInt32) &&& (3 : Int32))), .val (.ref sb), .val (.int (Int32.ofNat N)), .val (.int fl), .val (.ref b1), .unset, .unset, .unset] [])) (fun t k => st55 t k) ?_
          clear st55 X19
          exact J247 _ _ _ _ _ _ (own_mono X55 (by decide) (by decide)) e55 hS hk_ hZ hown R_ O_ Zle N_ hl' hcs' c19_3
        · refine own_byH (T' := T19) (g' := (mkF m 247 #[.val (.int x1), .val (.int x2), .val (.int x3), .val (.int x4), .val (.int x5), .val (.int (x1 &&& (3 : Int32))), .val (.int (((x1.toUInt32 >>> ((2 : Int32) &&& 31).toUInt32).toInt32) &&& (3 : Int32))), .val (.ref sb), .val (.int (Int32.ofNat N)), .val (.int fl), .val (.ref b1), .unset, .unset, .unset] [])) (fun t k => XS.ifYes X19.here hx rfl (pc0 := 228) (pc' := 247) rfl (hb hby at_228) rfl ((if0 _ _).trans (flt hc228_54).2.2.2) (by decide) (by decide) k) ?_
          exact J247 _ _ _ _ _ _ (own_mono X19 (by decide) (by decide)) rfl hS hk_ hZ hown R_ O_ Zle N_ c19_1 c19_2 c19_3
    refine own_byH (T' := T_a) (g' := (mkF m 50 #[.val (.int x1), .val (.int x2), .val (.int x3), .val (.int x4), .val (.int x5), .val (.int (x1 &&& (3 : Int32))), .val (.int (((x1.toUInt32 >>> ((2 : Int32) &&& 31).toUInt32).toInt32) &&& (3 : Int32))), .val (.ref sb), .unset, .unset, .unset, .unset, .unset, .unset] [(.int (((x1.toUInt32 >>> ((2 : Int32) &&& 31).toUInt32).toInt32) &&& (3 : Int32)))])) (fun t k => XS.iload X_a.here hx rfl (hb hby at_48) rfl k) ?_
    refine own_byH (T' := T_a) (g' := (mkF m 51 #[.val (.int x1), .val (.int x2), .val (.int x3), .val (.int x4), .val (.int x5), .val (.int (x1 &&& (3 : Int32))), .val (.int (((x1.toUInt32 >>> ((2 : Int32) &&& 31).toUInt32).toInt32) &&& (3 : Int32))), .val (.ref sb), .unset, .unset, .unset, .unset, .unset, .unset] [(.int 1), (.int (((x1.toUInt32 >>> ((2 : Int32) &&& 31).toUInt32).toInt32) &&& (3 : Int32)))])) (fun t k => XS.iconst X_a.here hx rfl (hb hby at_50) k) ?_
    refine own_byH (T' := T_a) (g' := (mkF m 52 #[.val (.int x1), .val (.int x2), .val (.int x3), .val (.int x4), .val (.int x5), .val (.int (x1 &&& (3 : Int32))), .val (.int (((x1.toUInt32 >>> ((2 : Int32) &&& 31).toUInt32).toInt32) &&& (3 : Int32))), .val (.ref sb), .unset, .unset, .unset, .unset, .unset, .unset] [(.int ((((x1.toUInt32 >>> ((2 : Int32) &&& 31).toUInt32).toInt32) &&& (3 : Int32)) &&& (1 : Int32)))])) (fun t k => XS.iand X_a.here hx rfl (hb hby at_51) rfl k) ?_
    by_cases hc52_56 : ((((x1.toUInt32 >>> ((2 : Int32) &&& 31).toUInt32).toInt32) &&& (3 : Int32)) &&& (1 : Int32)) = (0 : Int32)
    · refine own_byH (T' := T_a) (g' := (mkF m 55 #[.val (.int x1), .val (.int x2), .val (.int x3), .val (.int x4), .val (.int x5), .val (.int (x1 &&& (3 : Int32))), .val (.int (((x1.toUInt32 >>> ((2 : Int32) &&& 31).toUInt32).toInt32) &&& (3 : Int32))), .val (.ref sb), .unset, .unset, .unset, .unset, .unset, .unset] [])) (fun t k => XS.ifNo X_a.here hx rfl (hb hby at_52) rfl ((if0 _ _).trans (teq hc52_56).2) k) ?_
      refine own_byH (T' := T_a) (g' := (mkF m 57 #[.val (.int x1), .val (.int x2), .val (.int x3), .val (.int x4), .val (.int x5), .val (.int (x1 &&& (3 : Int32))), .val (.int (((x1.toUInt32 >>> ((2 : Int32) &&& 31).toUInt32).toInt32) &&& (3 : Int32))), .val (.ref sb), .unset, .unset, .unset, .unset, .unset, .unset] [(.ref sb)])) (fun t k => XS.aload X_a.here hx rfl (hb hby at_55) rfl rfl k) ?_
      obtain ⟨S_COMPACT_STRINGS, -, -, -, -, -, -, -, -, -, -, -, -, -, -, -, -, -, -, -, -, -, -, -⟩ := hW.ext O_.2
      have E_sb := Q_sb.1
      obtain ⟨cq57, kq57, q57a, q57b, q57c⟩ := isOf hZ e_a E_sb
      obtain ⟨_, _, ⟨T57, L57, k57, n57⟩, -, X57, ⟨Lc57, hQ57, l57, y57, z57⟩, st57⟩ := X_a.virtualBack hx (y := (⟨"java/lang/String", "length", "()I"⟩ : MethodName)) (z := (⟨"java/lang/String", "length", "()I"⟩ : MethodName)) hown (mvT hZ (hw _ (own_m 8 rfl))) (mvT hZ (hw _ (own_m 9 rfl))) (notFace_of_selects (args := #[]) (mvT hZ (hw _ (own_m 11 rfl)))) (mvT hZ (hw _ (own_m 11 rfl))) (mvT hZ (hw _ (own_m 10 rfl))) (by decide) (StrChars.Road.lenW (W := 0) hZ (own_hwL hw) (kI := 4) (hw _ (own_m 2 rfl)) Q_sb.1 Q_sb.2.1 Q_sb.2.2.1 Q_sb.2.2.2.1 (own_cod Q_sb) (own_w16 Q_sb) S_COMPACT_STRINGS hzC (own_l4 Q_sb) (by decide) (by decide)) q57a q57c (g := (mkF m 57 #[.val (.int x1), .val (.int x2), .val (.int x3), .val (.int x4), .val (.int x5), .val (.int (x1 &&& (3 : Int32))), .val (.int (((x1.toUInt32 >>> ((2 : Int32) &&& 31).toUInt32).toInt32) &&& (3 : Int32))), .val (.ref sb), .unset, .unset, .unset, .unset, .unset, .unset] [(.ref sb)])) rfl (by rw [hml]; rfl) (Steps.refl _) (argsL := []) (rest := []) (lenOf pd_0 rfl) rfl (own_le rfl) (hb hby at_57) (fun _ _ => ⟨rfl, e_a, (by decide : 2 + 0 ≤ _), (by decide : 36 + 0 ≤ _)⟩)
      dsimp only [Pt.U, Pt.locs, Pt.cells, Pt.slots] at X57 l57 y57 z57 st57 hQ57
      subst l57 y57 z57
      obtain ⟨rfl, rfl, e57⟩ := hQ57
      replace N_ := Fr.app N_ (Fr.nil n0)
      refine own_byH (T' := T57) (g' := (mkF m 60 #[.val (.int x1), .val (.int x2), .val (.int x3), .val (.int x4), .val (.int x5), .val (.int (x1 &&& (3 : Int32))), .val (.int (((x1.toUInt32 >>> ((2 : Int32) &&& 31).toUInt32).toInt32) &&& (3 : Int32))), .val (.ref sb), .unset, .unset, .unset, .unset, .unset, .unset] [(.int (Int32.ofNat csb.length))])) (fun t k => st57.trans k) ?_
      clear st57
      refine own_byH (T' := T57) (g' := (mkF m 70 #[.val (.int x1), .val (.int x2), .val (.int x3), .val (.int x4), .val (.int x5), .val (.int (x1 &&& (3 : Int32))), .val (.int (((x1.toUInt32 >>> ((2 : Int32) &&& 31).toUInt32).toInt32) &&& (3 : Int32))), .val (.ref sb), .unset, .unset, .unset, .unset, .unset, .unset] [(.int (Int32.ofNat csb.length))])) (fun t k => XS.goto X57.here hx rfl (pc0 := 60) (pc' := 70) rfl (hb hby at_60) (by decide) (by decide) k) ?_
      exact J70 _ _ _ _ _ csb.length (own_mono X57 (by decide) (by decide)) e57 hS hk_ hZ hown R_ O_ Zle N_ Q_sb.2.2.2.2.2 Q_sb
    · refine own_byH (T' := T_a) (g' := (mkF m 63 #[.val (.int x1), .val (.int x2), .val (.int x3), .val (.int x4), .val (.int x5), .val (.int (x1 &&& (3 : Int32))), .val (.int (((x1.toUInt32 >>> ((2 : Int32) &&& 31).toUInt32).toInt32) &&& (3 : Int32))), .val (.ref sb), .unset, .unset, .unset, .unset, .unset, .unset] [])) (fun t k => XS.ifYes X_a.here hx rfl (pc0 := 52) (pc' := 63) rfl (hb hby at_52) rfl ((if0 _ _).trans (feq hc52_56).2) (by decide) (by decide) k) ?_
      refine own_byH (T' := T_a) (g' := (mkF m 64 #[.val (.int x1), .val (.int x2), .val (.int x3), .val (.int x4), .val (.int x5), .val (.int (x1 &&& (3 : Int32))), .val (.int (((x1.toUInt32 >>> ((2 : Int32) &&& 31).toUInt32).toInt32) &&& (3 : Int32))), .val (.ref sb), .unset, .unset, .unset, .unset, .unset, .unset] [(.int x2)])) (fun t k => XS.iloadN X_a.here hx rfl (hb hby at_63) rfl k) ?_
      refine own_byH (T' := T_a) (g' := (mkF m 66 #[.val (.int x1), .val (.int x2), .val (.int x3), .val (.int x4), .val (.int x5), .val (.int (x1 &&& (3 : Int32))), .val (.int (((x1.toUInt32 >>> ((2 : Int32) &&& 31).toUInt32).toInt32) &&& (3 : Int32))), .val (.ref sb), .unset, .unset, .unset, .unset, .unset, .unset] [(.int 2147483647), (.int x2)])) (fun t k => X_a.ldcInt hx hown (mvT hZ (hw _ (own_m 136 rfl))) (g := (mkF m 64 #[.val (.int x1), .val (.int x2), .val (.int x3), .val (.int x4), .val (.int x5), .val (.int (x1 &&& (3 : Int32))), .val (.int (((x1.toUInt32 >>> ((2 : Int32) &&& 31).toUInt32).toInt32) &&& (3 : Int32))), .val (.ref sb), .unset, .unset, .unset, .unset, .unset, .unset] [(.int x2)])) rfl (hb hby at_64) _ k) ?_
      refine own_byH (T' := T_a) (g' := (mkF m 67 #[.val (.int x1), .val (.int x2), .val (.int x3), .val (.int x4), .val (.int x5), .val (.int (x1 &&& (3 : Int32))), .val (.int (((x1.toUInt32 >>> ((2 : Int32) &&& 31).toUInt32).toInt32) &&& (3 : Int32))), .val (.ref sb), .unset, .unset, .unset, .unset, .unset, .unset] [(.int (x2 &&& (2147483647 : Int32)))])) (fun t k => XS.iand X_a.here hx rfl (hb hby at_66) rfl k) ?_
      refine own_byH (T' := T_a) (g' := (mkF m 69 #[.val (.int x1), .val (.int x2), .val (.int x3), .val (.int x4), .val (.int x5), .val (.int (x1 &&& (3 : Int32))), .val (.int (((x1.toUInt32 >>> ((2 : Int32) &&& 31).toUInt32).toInt32) &&& (3 : Int32))), .val (.ref sb), .unset, .unset, .unset, .unset, .unset, .unset] [(.int 10), (.int (x2 &&& (2147483647 : Int32)))])) (fun t k => XS.bipush X_a.here hx rfl (hb hby at_67) k) ?_
      refine own_byH (T' := T_a) (g' := (mkF m 70 #[.val (.int x1), .val (.int x2), .val (.int x3), .val (.int x4), .val (.int x5), .val (.int (x1 &&& (3 : Int32))), .val (.int (((x1.toUInt32 >>> ((2 : Int32) &&& 31).toUInt32).toInt32) &&& (3 : Int32))), .val (.ref sb), .unset, .unset, .unset, .unset, .unset, .unset] [(.int ((x2 &&& (2147483647 : Int32)) % (10 : Int32)))])) (fun t k => iremM X_a hx rfl (hb hby at_69) rfl (by decide) k) ?_
      obtain ⟨N', hN', eN'⟩ := own_rem10 x2
      rw [eN']
      exact J70 _ _ _ _ _ N' (own_mono X_a (by decide) (by decide)) e_a hS hk_ hZ hown R_ O_ Zle N_ hN' Q_sb
  refine own_byH (T' := s₁) (g' := (mkF m 14 #[.val (.int x1), .val (.int x2), .val (.int x3), .val (.int x4), .val (.int x5), .val (.int (x1 &&& (3 : Int32))), .val (.int (((x1.toUInt32 >>> ((2 : Int32) &&& 31).toUInt32).toInt32) &&& (3 : Int32))), .unset, .unset, .unset, .unset, .unset, .unset, .unset] [(.int (x1 &&& (3 : Int32)))])) (fun t k => XS.iload X0.here hx rfl (hb hby at_12) rfl k) ?_
  by_cases hc14_58 : (x1 &&& (3 : Int32)) = (0 : Int32)
  · refine own_byH (T' := s₁) (g' := (mkF m 17 #[.val (.int x1), .val (.int x2), .val (.int x3), .val (.int x4), .val (.int x5), .val (.int (x1 &&& (3 : Int32))), .val (.int (((x1.toUInt32 >>> ((2 : Int32) &&& 31).toUInt32).toInt32) &&& (3 : Int32))), .unset, .unset, .unset, .unset, .unset, .unset, .unset] [])) (fun t k => XS.ifNo X0.here hx rfl (hb hby at_14) rfl ((if0 _ _).trans (teq hc14_58).2) k) ?_
    obtain ⟨sa59, T59, h59, kk59, sb59, ck59, X59, e59, E59, hS, hk_, hZ, hown, Es59, Fc59, Fv59, Va59, -, -, C59, -, sf59, st59⟩ := ldcCH X0 hx hZ hown (hw _ (own_m 0 rfl)) (own_str hw (by decide +kernel)) e0 hS hk_ hEL (List.mem_of_getElem? (i := 0) rfl) R_.1 (vs := (([112, 114, 111, 106, 101, 99, 116] : List Int32).map fun c => Value.int c.toInt8.toInt32)) (z := Int32.ofNat ([112, 114, 111, 106, 101, 99, 116] : List Int32).length) ⟨by decide, by first | rfl | decide⟩ (by decide) (by first | rfl | decide) (g := (mkF m 17 #[.val (.int x1), .val (.int x2), .val (.int x3), .val (.int x4), .val (.int x5), .val (.int (x1 &&& (3 : Int32))), .val (.int (((x1.toUInt32 >>> ((2 : Int32) &&& 31).toUInt32).toInt32) &&& (3 : Int32))), .unset, .unset, .unset, .unset, .unset, .unset, .unset] [])) rfl (hb hby at_17) (n := 32) (by decide) (by decide) (by decide) (by decide)
    clear sf59
    replace R_ := R_.trans C59
    clear C59
    replace Zle := Nat.le_trans Zle E59.1
    replace O_ := O_.ext E59
    have Q_sa59 : own_Str Z h59 sa59 sb59 ck59 ([112, 114, 111, 106, 101, 99, 116] : List Int32) := ⟨Es59, Fv59, Fc59, Va59, by decide, by decide⟩
    clear Es59 Fv59 Fc59 Va59
    refine own_byH (T' := T59) (g' := (mkF m 19 #[.val (.int x1), .val (.int x2), .val (.int x3), .val (.int x4), .val (.int x5), .val (.int (x1 &&& (3 : Int32))), .val (.int (((x1.toUInt32 >>> ((2 : Int32) &&& 31).toUInt32).toInt32) &&& (3 : Int32))), .unset, .unset, .unset, .unset, .unset, .unset, .unset] [(.ref sa59)])) (fun t k => st59 t k) ?_
    clear st59 X0 e0
    refine own_byH (T' := T59) (g' := (mkF m 46 #[.val (.int x1), .val (.int x2), .val (.int x3), .val (.int x4), .val (.int x5), .val (.int (x1 &&& (3 : Int32))), .val (.int (((x1.toUInt32 >>> ((2 : Int32) &&& 31).toUInt32).toInt32) &&& (3 : Int32))), .unset, .unset, .unset, .unset, .unset, .unset, .unset] [(.ref sa59)])) (fun t k => XS.goto X59.here hx rfl (pc0 := 19) (pc' := 46) rfl (hb hby at_19) (by decide) (by decide) k) ?_
    exact J46 _ _ _ _ _ _ _ _ _ (own_mono X59 (by decide) (by decide)) e59 hS hk_ hZ hown R_ O_ Zle N_ Q_sa59
  · refine own_byH (T' := s₁) (g' := (mkF m 22 #[.val (.int x1), .val (.int x2), .val (.int x3), .val (.int x4), .val (.int x5), .val (.int (x1 &&& (3 : Int32))), .val (.int (((x1.toUInt32 >>> ((2 : Int32) &&& 31).toUInt32).toInt32) &&& (3 : Int32))), .unset, .unset, .unset, .unset, .unset, .unset, .unset] [])) (fun t k => XS.ifYes X0.here hx rfl (pc0 := 14) (pc' := 22) rfl (hb hby at_14) rfl ((if0 _ _).trans (feq hc14_58).2) (by decide) (by decide) k) ?_
    refine own_byH (T' := s₁) (g' := (mkF m 24 #[.val (.int x1), .val (.int x2), .val (.int x3), .val (.int x4), .val (.int x5), .val (.int (x1 &&& (3 : Int32))), .val (.int (((x1.toUInt32 >>> ((2 : Int32) &&& 31).toUInt32).toInt32) &&& (3 : Int32))), .unset, .unset, .unset, .unset, .unset, .unset, .unset] [(.int (x1 &&& (3 : Int32)))])) (fun t k => XS.iload X0.here hx rfl (hb hby at_22) rfl k) ?_
    refine own_byH (T' := s₁) (g' := (mkF m 25 #[.val (.int x1), .val (.int x2), .val (.int x3), .val (.int x4), .val (.int x5), .val (.int (x1 &&& (3 : Int32))), .val (.int (((x1.toUInt32 >>> ((2 : Int32) &&& 31).toUInt32).toInt32) &&& (3 : Int32))), .unset, .unset, .unset, .unset, .unset, .unset, .unset] [(.int 1), (.int (x1 &&& (3 : Int32)))])) (fun t k => XS.iconst X0.here hx rfl (hb hby at_24) k) ?_
    by_cases hc25_60 : (x1 &&& (3 : Int32)) = (1 : Int32)
    · refine own_byH (T' := s₁) (g' := (mkF m 28 #[.val (.int x1), .val (.int x2), .val (.int x3), .val (.int x4), .val (.int x5), .val (.int (x1 &&& (3 : Int32))), .val (.int (((x1.toUInt32 >>> ((2 : Int32) &&& 31).toUInt32).toInt32) &&& (3 : Int32))), .unset, .unset, .unset, .unset, .unset, .unset, .unset] [])) (fun t k => XS.icmpNo X0.here hx rfl (hb hby at_25) rfl (teq hc25_60).2 k) ?_
      obtain ⟨sa61, T61, h61, kk61, sb61, ck61, X61, e61, E61, hS, hk_, hZ, hown, Es61, Fc61, Fv61, Va61, -, -, C61, -, sf61, st61⟩ := ldcCH X0 hx hZ hown (hw _ (own_m 133 rfl)) (own_str hw (by decide +kernel)) e0 hS hk_ hEL (List.mem_of_getElem? (i := 1) rfl) R_.1 (vs := (([117, 115, 101, 114] : List Int32).map fun c => Value.int c.toInt8.toInt32)) (z := Int32.ofNat ([117, 115, 101, 114] : List Int32).length) ⟨by decide, by first | rfl | decide⟩ (by decide) (by first | rfl | decide) (g := (mkF m 28 #[.val (.int x1), .val (.int x2), .val (.int x3), .val (.int x4), .val (.int x5), .val (.int (x1 &&& (3 : Int32))), .val (.int (((x1.toUInt32 >>> ((2 : Int32) &&& 31).toUInt32).toInt32) &&& (3 : Int32))), .unset, .unset, .unset, .unset, .unset, .unset, .unset] [])) rfl (hb hby at_28) (n := 32) (by decide) (by decide) (by decide) (by decide)
      clear sf61
      replace R_ := R_.trans C61
      clear C61
      replace Zle := Nat.le_trans Zle E61.1
      replace O_ := O_.ext E61
      have Q_sa61 : own_Str Z h61 sa61 sb61 ck61 ([117, 115, 101, 114] : List Int32) := ⟨Es61, Fv61, Fc61, Va61, by decide, by decide⟩
      clear Es61 Fv61 Fc61 Va61
      refine own_byH (T' := T61) (g' := (mkF m 30 #[.val (.int x1), .val (.int x2), .val (.int x3), .val (.int x4), .val (.int x5), .val (.int (x1 &&& (3 : Int32))), .val (.int (((x1.toUInt32 >>> ((2 : Int32) &&& 31).toUInt32).toInt32) &&& (3 : Int32))), .unset, .unset, .unset, .unset, .unset, .unset, .unset] [(.ref sa61)])) (fun t k => st61 t k) ?_
      clear st61 X0 e0
      refine own_byH (T' := T61) (g' := (mkF m 46 #[.val (.int x1), .val (.int x2), .val (.int x3), .val (.int x4), .val (.int x5), .val (.int (x1 &&& (3 : Int32))), .val (.int (((x1.toUInt32 >>> ((2 : Int32) &&& 31).toUInt32).toInt32) &&& (3 : Int32))), .unset, .unset, .unset, .unset, .unset, .unset, .unset] [(.ref sa61)])) (fun t k => XS.goto X61.here hx rfl (pc0 := 30) (pc' := 46) rfl (hb hby at_30) (by decide) (by decide) k) ?_
      exact J46 _ _ _ _ _ _ _ _ _ (own_mono X61 (by decide) (by decide)) e61 hS hk_ hZ hown R_ O_ Zle N_ Q_sa61
    · refine own_byH (T' := s₁) (g' := (mkF m 33 #[.val (.int x1), .val (.int x2), .val (.int x3), .val (.int x4), .val (.int x5), .val (.int (x1 &&& (3 : Int32))), .val (.int (((x1.toUInt32 >>> ((2 : Int32) &&& 31).toUInt32).toInt32) &&& (3 : Int32))), .unset, .unset, .unset, .unset, .unset, .unset, .unset] [])) (fun t k => XS.icmpYes X0.here hx rfl (pc0 := 25) (pc' := 33) rfl (hb hby at_25) rfl (feq hc25_60).2 (by decide) (by decide) k) ?_
      refine own_byH (T' := s₁) (g' := (mkF m 35 #[.val (.int x1), .val (.int x2), .val (.int x3), .val (.int x4), .val (.int x5), .val (.int (x1 &&& (3 : Int32))), .val (.int (((x1.toUInt32 >>> ((2 : Int32) &&& 31).toUInt32).toInt32) &&& (3 : Int32))), .unset, .unset, .unset, .unset, .unset, .unset, .unset] [(.int (x1 &&& (3 : Int32)))])) (fun t k => XS.iload X0.here hx rfl (hb hby at_33) rfl k) ?_
      refine own_byH (T' := s₁) (g' := (mkF m 36 #[.val (.int x1), .val (.int x2), .val (.int x3), .val (.int x4), .val (.int x5), .val (.int (x1 &&& (3 : Int32))), .val (.int (((x1.toUInt32 >>> ((2 : Int32) &&& 31).toUInt32).toInt32) &&& (3 : Int32))), .unset, .unset, .unset, .unset, .unset, .unset, .unset] [(.int 2), (.int (x1 &&& (3 : Int32)))])) (fun t k => XS.iconst X0.here hx rfl (hb hby at_35) k) ?_
      by_cases hc36_62 : (x1 &&& (3 : Int32)) = (2 : Int32)
      · refine own_byH (T' := s₁) (g' := (mkF m 39 #[.val (.int x1), .val (.int x2), .val (.int x3), .val (.int x4), .val (.int x5), .val (.int (x1 &&& (3 : Int32))), .val (.int (((x1.toUInt32 >>> ((2 : Int32) &&& 31).toUInt32).toInt32) &&& (3 : Int32))), .unset, .unset, .unset, .unset, .unset, .unset, .unset] [])) (fun t k => XS.icmpNo X0.here hx rfl (hb hby at_36) rfl (teq hc36_62).2 k) ?_
        obtain ⟨sa63, T63, h63, kk63, sb63, ck63, X63, e63, E63, hS, hk_, hZ, hown, Es63, Fc63, Fv63, Va63, -, -, C63, -, sf63, st63⟩ := ldcCH X0 hx hZ hown (hw _ (own_m 134 rfl)) (own_str hw (by decide +kernel)) e0 hS hk_ hEL (List.mem_of_getElem? (i := 2) rfl) R_.1 (vs := (([114, 101, 103, 105, 111, 110] : List Int32).map fun c => Value.int c.toInt8.toInt32)) (z := Int32.ofNat ([114, 101, 103, 105, 111, 110] : List Int32).length) ⟨by decide, by first | rfl | decide⟩ (by decide) (by first | rfl | decide) (g := (mkF m 39 #[.val (.int x1), .val (.int x2), .val (.int x3), .val (.int x4), .val (.int x5), .val (.int (x1 &&& (3 : Int32))), .val (.int (((x1.toUInt32 >>> ((2 : Int32) &&& 31).toUInt32).toInt32) &&& (3 : Int32))), .unset, .unset, .unset, .unset, .unset, .unset, .unset] [])) rfl (hb hby at_39) (n := 32) (by decide) (by decide) (by decide) (by decide)
        clear sf63
        replace R_ := R_.trans C63
        clear C63
        replace Zle := Nat.le_trans Zle E63.1
        replace O_ := O_.ext E63
        have Q_sa63 : own_Str Z h63 sa63 sb63 ck63 ([114, 101, 103, 105, 111, 110] : List Int32) := ⟨Es63, Fv63, Fc63, Va63, by decide, by decide⟩
        clear Es63 Fv63 Fc63 Va63
        refine own_byH (T' := T63) (g' := (mkF m 41 #[.val (.int x1), .val (.int x2), .val (.int x3), .val (.int x4), .val (.int x5), .val (.int (x1 &&& (3 : Int32))), .val (.int (((x1.toUInt32 >>> ((2 : Int32) &&& 31).toUInt32).toInt32) &&& (3 : Int32))), .unset, .unset, .unset, .unset, .unset, .unset, .unset] [(.ref sa63)])) (fun t k => st63 t k) ?_
        clear st63 X0 e0
        refine own_byH (T' := T63) (g' := (mkF m 46 #[.val (.int x1), .val (.int x2), .val (.int x3), .val (.int x4), .val (.int x5), .val (.int (x1 &&& (3 : Int32))), .val (.int (((x1.toUInt32 >>> ((2 : Int32) &&& 31).toUInt32).toInt32) &&& (3 : Int32))), .unset, .unset, .unset, .unset, .unset, .unset, .unset] [(.ref sa63)])) (fun t k => XS.goto X63.here hx rfl (pc0 := 41) (pc' := 46) rfl (hb hby at_41) (by decide) (by decide) k) ?_
        exact J46 _ _ _ _ _ _ _ _ _ (own_mono X63 (by decide) (by decide)) e63 hS hk_ hZ hown R_ O_ Zle N_ Q_sa63
      · refine own_byH (T' := s₁) (g' := (mkF m 44 #[.val (.int x1), .val (.int x2), .val (.int x3), .val (.int x4), .val (.int x5), .val (.int (x1 &&& (3 : Int32))), .val (.int (((x1.toUInt32 >>> ((2 : Int32) &&& 31).toUInt32).toInt32) &&& (3 : Int32))), .unset, .unset, .unset, .unset, .unset, .unset, .unset] [])) (fun t k => XS.icmpYes X0.here hx rfl (pc0 := 36) (pc' := 44) rfl (hb hby at_36) rfl (feq hc36_62).2 (by decide) (by decide) k) ?_
        obtain ⟨sa64, T64, h64, kk64, sb64, ck64, X64, e64, E64, hS, hk_, hZ, hown, Es64, Fc64, Fv64, Va64, -, -, C64, -, sf64, st64⟩ := ldcCH X0 hx hZ hown (hw _ (own_m 132 rfl)) (own_str hw (by decide +kernel)) e0 hS hk_ hEL (List.mem_of_getElem? (i := 3) rfl) R_.1 (vs := (([105, 110, 115, 116, 97, 110, 99, 101] : List Int32).map fun c => Value.int c.toInt8.toInt32)) (z := Int32.ofNat ([105, 110, 115, 116, 97, 110, 99, 101] : List Int32).length) ⟨by decide, by first | rfl | decide⟩ (by decide) (by first | rfl | decide) (g := (mkF m 44 #[.val (.int x1), .val (.int x2), .val (.int x3), .val (.int x4), .val (.int x5), .val (.int (x1 &&& (3 : Int32))), .val (.int (((x1.toUInt32 >>> ((2 : Int32) &&& 31).toUInt32).toInt32) &&& (3 : Int32))), .unset, .unset, .unset, .unset, .unset, .unset, .unset] [])) rfl (hb hby at_44) (n := 32) (by decide) (by decide) (by decide) (by decide)
        clear sf64
        replace R_ := R_.trans C64
        clear C64
        replace Zle := Nat.le_trans Zle E64.1
        replace O_ := O_.ext E64
        have Q_sa64 : own_Str Z h64 sa64 sb64 ck64 ([105, 110, 115, 116, 97, 110, 99, 101] : List Int32) := ⟨Es64, Fv64, Fc64, Va64, by decide, by decide⟩
        clear Es64 Fv64 Fc64 Va64
        refine own_byH (T' := T64) (g' := (mkF m 46 #[.val (.int x1), .val (.int x2), .val (.int x3), .val (.int x4), .val (.int x5), .val (.int (x1 &&& (3 : Int32))), .val (.int (((x1.toUInt32 >>> ((2 : Int32) &&& 31).toUInt32).toInt32) &&& (3 : Int32))), .unset, .unset, .unset, .unset, .unset, .unset, .unset] [(.ref sa64)])) (fun t k => st64 t k) ?_
        clear st64 X0 e0
        exact J46 _ _ _ _ _ _ _ _ _ (own_mono X64 (by decide) (by decide)) e64 hS hk_ hZ hown R_ O_ Zle N_ Q_sa64

set_option maxRecDepth 65536 in
set_option maxHeartbeats 40000000 in
theorem comes_1 {Post : Tables → Env → Array Value → State → Outcome → State → Prop} (hpost : ∀ tb e args s v u, (limb_1_1.after args s (.returned v) u = true ∧ limb_1_2.after args s (.returned v) u = true ∧ True) → ReturnedEndW s (.returned v) u (Jvm.fieldLocs frame_1_writes args s ++ Jvm.arrayLocs frame_1_arrays args s ++ Jvm.staticLocs frame_1_statics s) 32 5312 → Post tb e args s (.returned v) u) :
    ArmFor flags0 classFile x code maxLocals ret World_1 tables_1 room_1 Calls_1 rest_1 Pre_1 Post := by
  intro l hfl _ _ p e ha hc hk s m args below hf hA hF happ hP
  obtain ⟨hcalls, hrest, hpre⟩ := hP
  obtain ⟨-, -, -, hnamed, -, -, -, hat⟩ := (Spec.applies_iff hf).mp happ
  obtain ⟨hg, hn⟩ := and_e (Cond.before_iff.mp (show (Jvm.Cond.and given_1 narrow_1).before args s = true from hpre))
  obtain ⟨hcount, g0⟩ := and_e hg
  obtain ⟨a0, g1⟩ := and_e g0
  obtain ⟨a1, g2⟩ := and_e g1
  obtain ⟨a2, g3⟩ := and_e g2
  obtain ⟨a3, g4⟩ := and_e g3
  obtain ⟨w0, w1, w2, w3, w4, rfl⟩ : ∃ w0 w1 w2 w3 w4 : Value, args = #[w0, w1, w2, w3, w4] := by
    have hs : args.size = 5 := by simpa [Cond.value, given_1] using hcount
    obtain ⟨L⟩ := args
    match L, hs with
    | [w0, w1, w2, w3, w4], _ => exact ⟨w0, w1, w2, w3, w4, rfl⟩
  have hw := fun d (hd : d ∈ tables_1) => atoms_spec (ws := Jvm.Cond.code x code maxLocals ret :: tables_1) hat d (List.mem_cons_of_mem _ hd)
  have hfit : Fit s := fun {y c} hc i hi => by
    obtain ⟨ha, rfl⟩ := Array.getElem?_eq_some_iff.mp hc
    have q := List.all_eq_true.mp ((Array.all_eq_true_iff_forall_mem.mp hF) _ (Array.getElem_mem ha)) i (List.mem_range.mpr hi)
    simpa [Array.getElem?_eq_getElem hi] using q
  obtain ⟨hsets, hown0⟩ := atoms_of _ (rest_1_c_eq ▸ (show rest_1_c.before _ s = true from hrest))
  obtain ⟨i0, ei0⟩ := is_v a0
  obtain rfl : w0 = (.int i0) := Option.some.inj ei0
  obtain ⟨i1, ei1⟩ := is_v a1
  obtain rfl : w1 = (.int i1) := Option.some.inj ei1
  obtain ⟨i2, ei2⟩ := is_v a2
  obtain rfl : w2 = (.int i2) := Option.some.inj ei2
  obtain ⟨i3, ei3⟩ := is_v a3
  obtain rfl : w3 = (.int i3) := Option.some.inj ei3
  obtain ⟨i4, ei4⟩ := is_v g4
  obtain rfl : w4 = (.int i4) := Option.some.inj ei4
  have n5 := not_v (Cond.before_iff.mp (hsets _ (List.mem_of_getElem? (i := 2) rfl)))
  obtain ⟨zC, ezc⟩ := is_v (Cond.before_iff.mp (hsets _ (List.mem_of_getElem? (i := 1) rfl)))
  have S_COMPACT_STRINGS := Sta.start ezc (Or.inl (hsets _ (List.mem_of_getElem? (i := 0) rfl)))
  have hzC : ¬ zC = 0 := gotF (Cond.eq_ints ezc (Term.int_eval (0))) n5
  obtain ⟨fm, efm, hfm⟩ := isR_v (Cond.before_iff.mp (hsets _ (List.mem_of_getElem? (i := 8) rfl)))
  have S_SIOOBE_FORMATTER := Sta.start efm (Or.inl (hsets _ (List.mem_of_getElem? (i := 7) rfl)))
  have hem := Cond.before_iff.mp (hsets _ (List.mem_of_getElem? (i := 11) rfl))
  obtain ⟨em, eem⟩ := exa_v hem
  have E_em := Exa.start eem hem
  have S_EMPTY := Sta.start eem (Or.inl (hsets _ (List.mem_of_getElem? (i := 10) rfl)))
  have F_value_em := Fld.start ((fld_at eem).symm.trans (null_v (Cond.before_iff.mp (hsets _ (List.mem_of_getElem? (i := 12) rfl)))))
  obtain ⟨na0, nb0⟩ := and_e hn
  obtain ⟨na1, nb1⟩ := and_e nb0
  obtain ⟨na2, nb2⟩ := and_e nb1
  obtain ⟨na3, nb3⟩ := and_e nb2
  obtain ⟨na4, nb4⟩ := and_e nb3
  obtain ⟨na5, nb5⟩ := and_e nb4
  obtain ⟨na6, nb6⟩ := and_e nb5
  obtain ⟨na7, nb7⟩ := and_e nb6
  obtain ⟨na8, nb8⟩ := and_e nb7
  obtain ⟨na9, nb9⟩ := and_e nb8
  obtain ⟨na10, nb10⟩ := and_e nb9
  obtain ⟨na11, nb11⟩ := and_e nb10
  obtain ⟨na12, nb12⟩ := and_e nb11
  obtain ⟨na13, nb13⟩ := and_e nb12
  obtain ⟨na14, nb14⟩ := and_e nb13
  obtain ⟨na15, nb15⟩ := and_e nb14
  obtain ⟨na16, nb16⟩ := and_e nb15
  obtain ⟨na17, nb17⟩ := and_e nb16
  obtain ⟨na18, nb18⟩ := and_e nb17
  obtain ⟨na19, nb19⟩ := and_e nb18
  obtain ⟨na20, nb20⟩ := and_e nb19
  obtain ⟨na21, nb21⟩ := and_e nb20
  obtain ⟨na22, nb22⟩ := and_e nb21
  obtain ⟨na23, nb23⟩ := and_e nb22
  obtain ⟨na24, nb24⟩ := and_e nb23
  obtain ⟨na25, nb25⟩ := and_e nb24
  obtain ⟨na26, nb26⟩ := and_e nb25
  obtain ⟨na27, nb27⟩ := and_e nb26
  obtain ⟨na28, nb28⟩ := and_e nb27
  obtain ⟨na29, nb29⟩ := and_e nb28
  obtain ⟨na30, nb30⟩ := and_e nb29
  obtain ⟨na31, nb31⟩ := and_e nb30
  obtain ⟨na32, nb32⟩ := and_e nb31
  obtain ⟨na33, nb33⟩ := and_e nb32
  obtain ⟨na34, nb34⟩ := and_e nb33
  obtain ⟨na35, nb35⟩ := and_e nb34
  obtain ⟨na36, nb36⟩ := and_e nb35
  obtain ⟨na37, nb37⟩ := and_e nb36
  obtain ⟨na38, nb38⟩ := and_e nb37
  obtain ⟨na39, nb39⟩ := and_e nb38
  obtain ⟨na40, nb40⟩ := and_e nb39
  obtain ⟨na41, nb41⟩ := and_e nb40
  obtain ⟨na42, nb42⟩ := and_e nb41
  obtain ⟨na43, nb43⟩ := and_e nb42
  obtain ⟨na44, nb44⟩ := and_e nb43
  obtain ⟨na45, nb45⟩ := and_e nb44
  obtain ⟨na46, nb46⟩ := and_e nb45
  obtain ⟨na47, nb47⟩ := and_e nb46
  obtain ⟨na48, nb48⟩ := and_e nb47
  obtain ⟨na49, nb49⟩ := and_e nb48
  obtain ⟨na50, nb50⟩ := and_e nb49
  obtain ⟨va, eva⟩ := exa_v na2
  have E_va := Exa.start eva na2
  have S__VALUES := Sta.start eva (Or.inr ⟨(hw _ (own_m 82 rfl)), (hw _ (own_m 91 rfl))⟩)
  obtain ⟨clv, Av⟩ := Arr.start eva na1
  obtain ⟨qv, ev⟩ := own_len eva Av na3
  obtain ⟨d0, ed0⟩ := exa_v na0
  have E_d0 := Exa.start ed0 na0
  have S_PROJECT := Sta.start ed0 (Or.inr ⟨(hw _ (own_m 82 rfl)), (hw _ (own_m 83 rfl))⟩)
  obtain ⟨d1, ed1⟩ := exa_v na5
  have E_d1 := Exa.start ed1 na5
  have S_USER := Sta.start ed1 (Or.inr ⟨(hw _ (own_m 82 rfl)), (hw _ (own_m 99 rfl))⟩)
  obtain ⟨d2, ed2⟩ := exa_v na7
  have E_d2 := Exa.start ed2 na7
  have S_REGION := Sta.start ed2 (Or.inr ⟨(hw _ (own_m 82 rfl)), (hw _ (own_m 100 rfl))⟩)
  obtain ⟨d3, ed3⟩ := exa_v na9
  have E_d3 := Exa.start ed3 na9
  have S_INSTANCE := Sta.start ed3 (Or.inr ⟨(hw _ (own_m 82 rfl)), (hw _ (own_m 101 rfl))⟩)
  have lv0 := own_elR eva Av na4 ed0 (by decide)
  have lv1 := own_elR eva Av na6 ed1 (by decide)
  have lv2 := own_elR eva Av na8 ed2 (by decide)
  have lv3 := own_elR eva Av na10 ed3 (by decide)
  have V_va : Arv s s.heap va clv.cls (.object "com/example/gate2/gate2/Dimension") (4 : Int32) [(.ref d0), (.ref d1), (.ref d2), (.ref d3)] .null := Arv.start hfit Av qv ev (by decide) (by rfl) ⟨lv0, lv1, lv2, lv3, trivial⟩
  obtain ⟨f0, ef0⟩ := exa_v na11
  have Es0 := Exa.start ef0 na11
  have F_field_d0 := Fld.start ((fld_at ed0).symm.trans ef0)
  have Fc0 := Fld.start ((fld_at ef0).symm.trans (own_eq_int na12))
  obtain ⟨t0, et0⟩ := arr_v na13
  have Fv0 := Fld.start ((fld_at ef0).symm.trans et0)
  obtain ⟨cl0, At0⟩ := Arr.start et0 na13
  obtain ⟨qt0, et0'⟩ := own_len et0 At0 na14
  have lt0_0 := own_el et0 At0 na31 (by decide)
  have lt0_1 := own_el et0 At0 na32 (by decide)
  have lt0_2 := own_el et0 At0 na33 (by decide)
  have lt0_3 := own_el et0 At0 na34 (by decide)
  have lt0_4 := own_el et0 At0 na35 (by decide)
  have lt0_5 := own_el et0 At0 na36 (by decide)
  have lt0_6 := own_el et0 At0 na37 (by decide)
  have Q_f0 : own_Str s s.heap f0 t0 cl0.cls ([112, 114, 111, 106, 101, 99, 116] : List Int32) := ⟨Es0, Fv0, Fc0, Arv.start hfit At0 qt0 et0' (by decide) (by decide) ⟨lt0_0, lt0_1, lt0_2, lt0_3, lt0_4, lt0_5, lt0_6, trivial⟩, by decide, by decide⟩
  obtain ⟨f1, ef1⟩ := exa_v na15
  have Es1 := Exa.start ef1 na15
  have F_field_d1 := Fld.start ((fld_at ed1).symm.trans ef1)
  have Fc1 := Fld.start ((fld_at ef1).symm.trans (own_eq_int na16))
  obtain ⟨t1, et1⟩ := arr_v na17
  have Fv1 := Fld.start ((fld_at ef1).symm.trans et1)
  obtain ⟨cl1, At1⟩ := Arr.start et1 na17
  obtain ⟨qt1, et1'⟩ := own_len et1 At1 na18
  have lt1_0 := own_el et1 At1 na27 (by decide)
  have lt1_1 := own_el et1 At1 na28 (by decide)
  have lt1_2 := own_el et1 At1 na29 (by decide)
  have lt1_3 := own_el et1 At1 na30 (by decide)
  have Q_f1 : own_Str s s.heap f1 t1 cl1.cls ([117, 115, 101, 114] : List Int32) := ⟨Es1, Fv1, Fc1, Arv.start hfit At1 qt1 et1' (by decide) (by decide) ⟨lt1_0, lt1_1, lt1_2, lt1_3, trivial⟩, by decide, by decide⟩
  obtain ⟨f2, ef2⟩ := exa_v na19
  have Es2 := Exa.start ef2 na19
  have F_field_d2 := Fld.start ((fld_at ed2).symm.trans ef2)
  have Fc2 := Fld.start ((fld_at ef2).symm.trans (own_eq_int na20))
  obtain ⟨t2, et2⟩ := arr_v na21
  have Fv2 := Fld.start ((fld_at ef2).symm.trans et2)
  obtain ⟨cl2, At2⟩ := Arr.start et2 na21
  obtain ⟨qt2, et2'⟩ := own_len et2 At2 na22
  have lt2_0 := own_el et2 At2 na38 (by decide)
  have lt2_1 := own_el et2 At2 na39 (by decide)
  have lt2_2 := own_el et2 At2 na40 (by decide)
  have lt2_3 := own_el et2 At2 na41 (by decide)
  have lt2_4 := own_el et2 At2 na42 (by decide)
  have lt2_5 := own_el et2 At2 na43 (by decide)
  have Q_f2 : own_Str s s.heap f2 t2 cl2.cls ([114, 101, 103, 105, 111, 110] : List Int32) := ⟨Es2, Fv2, Fc2, Arv.start hfit At2 qt2 et2' (by decide) (by decide) ⟨lt2_0, lt2_1, lt2_2, lt2_3, lt2_4, lt2_5, trivial⟩, by decide, by decide⟩
  obtain ⟨f3, ef3⟩ := exa_v na23
  have Es3 := Exa.start ef3 na23
  have F_field_d3 := Fld.start ((fld_at ed3).symm.trans ef3)
  have Fc3 := Fld.start ((fld_at ef3).symm.trans (own_eq_int na24))
  obtain ⟨t3, et3⟩ := arr_v na25
  have Fv3 := Fld.start ((fld_at ef3).symm.trans et3)
  obtain ⟨cl3, At3⟩ := Arr.start et3 na25
  obtain ⟨qt3, et3'⟩ := own_len et3 At3 na26
  have lt3_0 := own_el et3 At3 na44 (by decide)
  have lt3_1 := own_el et3 At3 na45 (by decide)
  have lt3_2 := own_el et3 At3 na46 (by decide)
  have lt3_3 := own_el et3 At3 na47 (by decide)
  have lt3_4 := own_el et3 At3 na48 (by decide)
  have lt3_5 := own_el et3 At3 na49 (by decide)
  have lt3_6 := own_el et3 At3 na50 (by decide)
  have lt3_7 := own_el et3 At3 nb50 (by decide)
  have Q_f3 : own_Str s s.heap f3 t3 cl3.cls ([105, 110, 115, 116, 97, 110, 99, 101] : List Int32) := ⟨Es3, Fv3, Fc3, Arv.start hfit At3 qt3 et3' (by decide) (by decide) ⟨lt3_0, lt3_1, lt3_2, lt3_3, lt3_4, lt3_5, lt3_6, lt3_7, trivial⟩, by decide, by decide⟩
  have hEL : EW s _ own_EL := EW.cons (hw _ (own_m 0 rfl)) (by decide) (EW.cons (hw _ (own_m 133 rfl)) (by decide) (EW.cons (hw _ (own_m 134 rfl)) (by decide) (EW.cons (hw _ (own_m 132 rfl)) (by decide) (EW.cons (hw _ (own_m 142 rfl)) (by decide) EW.nil))))
  have hCH : CHv s own_EL s.vm s.heap := CHv.start hEL (fun p hp => hcalls.1 p hp) (hsets _ (List.mem_of_getElem? (i := 2) rfl)) (hw _ (own_m 3 rfl)) (hw _ (own_m 2 rfl))
  have hWs : own_W s s.heap va d0 d1 d2 d3 f0 f1 f2 f3 t0 t1 t2 t3 em clv.cls cl0.cls cl1.cls cl2.cls cl3.cls zC fm := ⟨S_COMPACT_STRINGS, S_SIOOBE_FORMATTER, S_EMPTY, E_em, F_value_em, S__VALUES, E_va, V_va, S_PROJECT, E_d0, F_field_d0, Q_f0, S_USER, E_d1, F_field_d1, Q_f1, S_REGION, E_d2, F_field_d2, Q_f2, S_INSTANCE, E_d3, F_field_d3, Q_f3⟩
  obtain ⟨n, o, h1, h2, h3, _, L, rfl, ⟨rfl, N⟩, -, hq⟩ := rm0 l s _ hw tables_1 i0 i1 i2 i3 i4 va d0 d1 d2 d3 f0 f1 f2 f3 t0 t1 t2 t3 em clv.cls cl0.cls cl1.cls cl2.cls cl3.cls zC fm s.heap s.heap.size (Nat.le_refl _) hEL hWs (Old.start s) hzC hfm p e ha hc hk s m _ below hf ((Spec.applies_iff_loose hf).mp happ).1 ⟨rfl, State.Warmed39.refl s, rfl, hCH⟩ trivial
  refine ⟨n, _, h1, h2, h3, hpost _ _ _ _ _ _ ⟨Cond.after_iff.mpr rfl, Cond.after_iff.mpr (eq_i res_at (Term.int_eval (1)) rfl), trivial⟩ ⟨hq.1, hq.2.1, hq.2.2.1, (hq.2.2.2.sift fun y hy => Or.inr (N y hy)).mono (by decide) (by decide)⟩⟩
theorem main_1_1 : Claimed_1_1 := comes_1 fun _ _ _ _ _ _ h hF => ⟨h.1, hF⟩
theorem main_1_2 : Claimed_1_2 := comes_1 fun _ _ _ _ _ _ h hF => ⟨h.2.1, hF⟩

end Jvm.Pilot.@@N@@
namespace Jvm.Pilot.@@N@@
open Jvm Jvm.ClassFile Sem Op Lib Jvm.Free Jvm.Stand Jvm.Pilot.@@N@@.Jvm.D
/-! MADE BY PROGRAM (witnessworld.py) out of the Statement's table words and the real class files: 24 classes; the members and pool entries that the words name. The judged class is class 1, her method 1. -/
namespace start1
open Jvm.ClassFile
def u (s : String) : CpInfo := .utf8 (stringToUtf16 s)
/-- a pool by its gaps: so many unusable entries, then the entry; so many at the end -/
def gap : Nat → List CpInfo → List CpInfo
  | 0, r => r
  | n + 1, r => .unusable :: gap n r
def poolList (es : List (Nat × CpInfo)) (last : Nat) : List CpInfo := es.foldr (fun e r => gap e.1 (e.2 :: r)) (gap last [])
def pool (es : List (Nat × CpInfo)) (last : Nat) : Array CpInfo := ⟨poolList es last⟩
def fileOf (pool : Array CpInfo) (this : Nat) (attrs : Array Attribute := #[]) (ms : Array MethodInfo := #[]) (fl : Nat := 33) (sup : Nat := 0) (ifs : Array Nat := #[]) (fds : Array FieldInfo := #[]) : ClassFile where
  minorVersion := 0
  majorVersion := 65
  constantPool := pool
  accessFlags := fl
  thisClass := this
  superClass := sup
  interfaces := ifs
  fields := fds
  methods := ms
  attributes := attrs
def plain (name : String) (sup : Option ClassId) : Class where
  name := name
  kind := .ordinary
  loader := none
  accessFlags := 33
  super := sup
  interfaces := #[]
  cf := none
  fields := #[]
  methods := #[]
  instanceTypes := #[]
  staticTypes := #[]
  resolved := #[]
  callSites := []
  init := .initialized
  statics := none
  mirror := none

def pool0 : Array CpInfo := pool [(5, u "<init>"), (0, u "()V"), (1, .class_ 10), (1, u "java/lang/Object"), (85, u "clone"), (0, u "()Ljava/lang/Object;")] 26

def k0c0 : Code := { maxStack := 0, maxLocals := 1, code := object_method_1_code, exceptionTable := #[], attributes := #[] }
def k0m0 : Method := { name := "<init>", desc := "()V", sig := { parameters := [], returnType := none }, accessFlags := 1, code := some k0c0 }
def k0m1 : Method := { name := "clone", desc := "()Ljava/lang/Object;", sig := { parameters := [], returnType := some (.object "java/lang/Object") }, accessFlags := 260, code := none }
/-- java/lang/Object -/
def k0 : Class := { plain "java/lang/Object" none with
  accessFlags := 33
  interfaces := #[]
  cf := some (fileOf pool0 8 #[] #[{ accessFlags := 1, nameIndex := 5, descriptorIndex := 6, attributes := #[] }, { accessFlags := 260, nameIndex := 96, descriptorIndex := 97, attributes := #[] }] 33 0 #[] #[])
  fields := #[]
  methods := #[k0m0, k0m1]
  instanceTypes := #[]
  staticTypes := #[]
  resolved := Array.replicate 124 none
  statics := none }

def pool1 : Array CpInfo := pool [(2, .class_ 4), (1, u "java/lang/Object"), (0, u "<init>"), (0, u "()V"), (0, .string 8), (0, u "project"), (0, .string 10), (0, u "user"), (0, .string 12), (0, u "region"), (0, .string 14), (0, u "instance"), (0, .methodref 16 17), (0, .class_ 18), (0, .nameAndType 19 20), (0, u "java/lang/String"), (0, u "length"), (0, u "()I"), (0, .integer 2147483647), (0, .methodref 23 24), (0, .class_ 25), (0, .nameAndType 26 27), (0, u "com/example/gate2/gate2/DimensionByFieldPinLaw"), (0, u "ch"), (0, u "(Ljava/lang/String;IC)C"), (0, .methodref 23 29), (0, .nameAndType 30 31), (0, u "put"), (0, u "([CIC)V"), (0, .methodref 16 33), (0, .nameAndType 5 34), (0, u "([C)V"), (0, .methodref 16 36), (0, .nameAndType 37 38), (0, u "equals"), (0, u "(Ljava/lang/Object;)Z"), (0, .fieldref 40 41), (0, .class_ 42), (0, .nameAndType 43 44), (0, u "com/example/gate2/gate2/Dimension"), (0, u "PROJECT"), (0, u "Lcom/example/gate2/gate2/Dimension;"), (0, .fieldref 40 46), (0, .nameAndType 47 44), (0, u "USER"), (0, .fieldref 40 49), (0, .nameAndType 50 44), (0, u "REGION"), (0, .fieldref 40 52), (0, .nameAndType 53 44), (0, u "INSTANCE"), (0, .methodref 40 55), (0, .nameAndType 56 57), (0, u "byField"), (0, u "(Ljava/lang/String;)Ljava/util/Optional;"), (0, .methodref 59 60), (0, .class_ 61), (0, .nameAndType 62 63), (0, u "java/util/Optional"), (0, u "orElse"), (0, u "(Ljava/lang/Object;)Ljava/lang/Object;"), (0, .methodref 16 65), (0, .nameAndType 66 67), (0, u "charAt"), (0, u "(I)C"), (2, u "law"), (0, u "(IIIII)Z")] 5

def k1m0 : Method := { name := "<init>", desc := "()V", sig := { parameters := [], returnType := none }, accessFlags := 1, code := none }
def k1c1 : Code := { maxStack := 5, maxLocals := 14, code := code, exceptionTable := #[], attributes := #[] }
def k1m1 : Method := { name := "law", desc := "(IIIII)Z", sig := { parameters := [.int, .int, .int, .int, .int], returnType := some .boolean }, accessFlags := 9, code := some k1c1 }
def k1c2 : Code := { maxStack := 2, maxLocals := 3, code := method_3_code, exceptionTable := #[], attributes := #[] }
def k1m2 : Method := { name := "ch", desc := "(Ljava/lang/String;IC)C", sig := { parameters := [(.object "java/lang/String"), .int, .char], returnType := some .char }, accessFlags := 10, code := some k1c2 }
def k1c3 : Code := { maxStack := 3, maxLocals := 3, code := method_4_code, exceptionTable := #[], attributes := #[] }
def k1m3 : Method := { name := "put", desc := "([CIC)V", sig := { parameters := [(.array .char), .int, .char], returnType := none }, accessFlags := 10, code := some k1c3 }
/-- com/example/gate2/gate2/DimensionByFieldPinLaw -/
def k1 : Class := { plain "com/example/gate2/gate2/DimensionByFieldPinLaw" (some 0) with
  accessFlags := 49
  interfaces := #[]
  cf := some (fileOf pool1 23 #[] #[{ accessFlags := 1, nameIndex := 5, descriptorIndex := 6, attributes := #[] }, { accessFlags := 9, nameIndex := 70, descriptorIndex := 71, attributes := #[] }, { accessFlags := 10, nameIndex := 26, descriptorIndex := 27, attributes := #[] }, { accessFlags := 10, nameIndex := 30, descriptorIndex := 31, attributes := #[] }] 49 2 #[] #[])
  fields := #[]
  methods := #[k1m0, k1m1, k1m2, k1m3]
  instanceTypes := #[]
  staticTypes := #[]
  resolved := Array.replicate 77 none
  statics := none }

def pool2 : Array CpInfo := pool [(1, .class_ 2), (0, u "java/io/Serializable"), (0, .class_ 4), (0, u "java/lang/Object")] 2

/-- java/io/Serializable -/
def k2 : Class := { plain "java/io/Serializable" (some 0) with
  accessFlags := 1537
  interfaces := #[]
  cf := some (fileOf pool2 1 #[] #[] 1537 3 #[] #[])
  fields := #[]
  methods := #[]
  instanceTypes := #[]
  staticTypes := #[]
  resolved := Array.replicate 7 none
  statics := none }

def pool3 : Array CpInfo := pool [(1, .class_ 2), (0, u "java/lang/Comparable"), (0, .class_ 4), (0, u "java/lang/Object")] 7

/-- java/lang/Comparable -/
def k3 : Class := { plain "java/lang/Comparable" (some 0) with
  accessFlags := 1537
  interfaces := #[]
  cf := some (fileOf pool3 1 #[] #[] 1537 3 #[] #[])
  fields := #[]
  methods := #[]
  instanceTypes := #[]
  staticTypes := #[]
  resolved := Array.replicate 12 none
  statics := none }

def pool4 : Array CpInfo := pool [(2, .class_ 4), (1, u "java/lang/CharSequence"), (42, .class_ 48), (0, u "java/lang/CharSequence$1CodePointIterator"), (10, .class_ 60), (0, u "java/lang/CharSequence$1CharIterator"), (5, .class_ 67), (0, u "java/lang/Object")] 63

/-- java/lang/CharSequence -/
def k4 : Class := { plain "java/lang/CharSequence" (some 0) with
  accessFlags := 1537
  interfaces := #[]
  cf := some (fileOf pool4 2 #[.nestMembers #[47, 59]] #[] 1537 66 #[] #[])
  fields := #[]
  methods := #[]
  instanceTypes := #[]
  staticTypes := #[]
  resolved := Array.replicate 131 none
  statics := none }

def pool5 : Array CpInfo := pool [(1, .class_ 2), (0, u "java/lang/constant/Constable"), (0, .class_ 4), (0, u "java/lang/Object")] 6

/-- java/lang/constant/Constable -/
def k5 : Class := { plain "java/lang/constant/Constable" (some 0) with
  accessFlags := 1537
  interfaces := #[]
  cf := some (fileOf pool5 1 #[] #[] 1537 3 #[] #[])
  fields := #[]
  methods := #[]
  instanceTypes := #[]
  staticTypes := #[]
  resolved := Array.replicate 11 none
  statics := none }

def pool6 : Array CpInfo := pool [(1, .class_ 2), (0, u "java/lang/constant/ConstantDesc"), (0, .class_ 4), (0, u "java/lang/Object")] 32

/-- java/lang/constant/ConstantDesc -/
def k6 : Class := { plain "java/lang/constant/ConstantDesc" (some 0) with
  accessFlags := 1537
  interfaces := #[]
  cf := some (fileOf pool6 1 #[] #[] 1537 3 #[] #[])
  fields := #[]
  methods := #[]
  instanceTypes := #[]
  staticTypes := #[]
  resolved := Array.replicate 37 none
  statics := none }

def pool7 : Array CpInfo := pool [(1, .methodref 2 3), (0, .class_ 4), (0, .nameAndType 5 6), (0, u "java/lang/Object"), (0, u "<init>"), (0, u "()V"), (0, .string 8), (0, u ""), (0, .fieldref 10 11), (0, .class_ 12), (0, .nameAndType 13 14), (0, u "java/lang/String"), (0, u "value"), (0, u "[B"), (0, .fieldref 10 16), (0, .nameAndType 17 18), (0, u "coder"), (0, u "B"), (2, u "hash"), (0, u "I"), (2, u "hashIsZero"), (0, u "Z"), (0, .methodref 10 28), (0, .nameAndType 5 29), (0, u "([CIILjava/lang/Void;)V"), (8, .fieldref 10 39), (0, .nameAndType 40 26), (0, u "COMPACT_STRINGS"), (1, .class_ 44), (1, u "java/lang/StringUTF16"), (0, u "compress"), (1, .methodref 42 48), (0, .nameAndType 49 50), (0, u "coderFromArrayLen"), (0, u "([BI)B"), (56, .class_ 109), (1, u "java/lang/StringLatin1"), (32, u "()Z"), (34, .methodref 42 178), (0, .nameAndType 45 179), (0, u "([CII)[B"), (154, u "()I"), (0, .methodref 10 336), (0, .nameAndType 17 337), (0, u "()B"), (25, u "([BI)C"), (27, u "(II)V"), (35, u "(I)C"), (64, .methodref 10 493), (0, .nameAndType 494 142), (0, u "isLatin1"), (0, .methodref 107 496), (0, .nameAndType 497 363), (0, u "charAt"), (3, u "checkIndex"), (5, u "length"), (33, .methodref 107 542), (0, .nameAndType 543 544), (0, u "equals"), (0, u "([B[B)Z"), (28, u "(Ljava/lang/Object;)Z"), (1, .class_ 576), (0, u "java/lang/CharSequence"), (22, u "CASE_INSENSITIVE_ORDER"), (0, u "Ljava/util/Comparator;"), (409, u "([C)V"), (42, .fieldref 1054 1055), (0, .class_ 1056), (0, .nameAndType 1057 1058), (0, u "jdk/internal/util/Preconditions"), (0, u "SIOOBE_FORMATTER"), (0, u "Ljava/util/function/BiFunction;"), (0, .methodref 1054 1060), (0, .nameAndType 501 1061), (0, u "(IILjava/util/function/BiFunction;)I"), (39, u "serialPersistentFields"), (0, u "[Ljava/io/ObjectStreamField;"), (0, .class_ 1104), (0, u "java/lang/String$CaseInsensitiveComparator"), (1, .class_ 1107), (0, u "java/io/Serializable"), (0, .class_ 1109), (0, u "java/lang/Comparable"), (0, .class_ 1111), (0, u "java/lang/constant/Constable"), (0, .class_ 1113), (0, u "java/lang/constant/ConstantDesc"), (2, u "serialVersionUID"), (0, u "J"), (3, u "REPL"), (0, u "C"), (2, u "LATIN1"), (1, u "UTF16")] 323

def k7m0 : Method := { name := "<init>", desc := "()V", sig := { parameters := [], returnType := none }, accessFlags := 1, code := none }
def k7c1 : Code := { maxStack := 5, maxLocals := 2, code := jdk_42_method_3_code, exceptionTable := #[], attributes := #[] }
def k7m1 : Method := { name := "<init>", desc := "([C)V", sig := { parameters := [(.array .char)], returnType := none }, accessFlags := 1, code := some k7c1 }
def k7c2 : Code := { maxStack := 2, maxLocals := 1, code := jdk_42_method_54_code, exceptionTable := #[], attributes := #[] }
def k7m2 : Method := { name := "length", desc := "()I", sig := { parameters := [], returnType := some .int }, accessFlags := 1, code := some k7c2 }
def k7c3 : Code := { maxStack := 2, maxLocals := 2, code := jdk_42_method_56_code, exceptionTable := #[], attributes := #[] }
def k7m3 : Method := { name := "charAt", desc := "(I)C", sig := { parameters := [.int], returnType := some .char }, accessFlags := 1, code := some k7c3 }
def k7c4 : Code := { maxStack := 2, maxLocals := 3, code := jdk_42_method_66_code, exceptionTable := #[], attributes := #[] }
def k7m4 : Method := { name := "equals", desc := "(Ljava/lang/Object;)Z", sig := { parameters := [(.object "java/lang/Object")], returnType := some .boolean }, accessFlags := 1, code := some k7c4 }
def k7c5 : Code := { maxStack := 4, maxLocals := 6, code := jdk_42_method_149_code, exceptionTable := #[], attributes := #[] }
def k7m5 : Method := { name := "<init>", desc := "([CIILjava/lang/Void;)V", sig := { parameters := [(.array .char), .int, .int, (.object "java/lang/Void")], returnType := none }, accessFlags := 2, code := some k7c5 }
def k7c6 : Code := { maxStack := 1, maxLocals := 1, code := jdk_42_method_152_code, exceptionTable := #[], attributes := #[] }
def k7m6 : Method := { name := "coder", desc := "()B", sig := { parameters := [], returnType := some .byte }, accessFlags := 0, code := some k7c6 }
def k7c7 : Code := { maxStack := 1, maxLocals := 1, code := jdk_42_method_154_code, exceptionTable := #[], attributes := #[] }
def k7m7 : Method := { name := "isLatin1", desc := "()Z", sig := { parameters := [], returnType := some .boolean }, accessFlags := 0, code := some k7c7 }
def k7c8 : Code := { maxStack := 3, maxLocals := 2, code := jdk_42_method_155_code, exceptionTable := #[], attributes := #[] }
def k7m8 : Method := { name := "checkIndex", desc := "(II)V", sig := { parameters := [.int, .int], returnType := none }, accessFlags := 8, code := some k7c8 }
/-- java/lang/String -/
def k7 : Class := { plain "java/lang/String" (some 0) with
  accessFlags := 49
  interfaces := #[2, 3, 4, 5, 6]
  cf := some (fileOf pool7 10 #[.nestMembers #[1103]] #[{ accessFlags := 1, nameIndex := 5, descriptorIndex := 6, attributes := #[] }, { accessFlags := 1, nameIndex := 5, descriptorIndex := 1010, attributes := #[] }, { accessFlags := 1, nameIndex := 507, descriptorIndex := 334, attributes := #[] }, { accessFlags := 1, nameIndex := 497, descriptorIndex := 427, attributes := #[] }, { accessFlags := 1, nameIndex := 543, descriptorIndex := 573, attributes := #[] }, { accessFlags := 2, nameIndex := 5, descriptorIndex := 29, attributes := #[] }, { accessFlags := 0, nameIndex := 17, descriptorIndex := 337, attributes := #[] }, { accessFlags := 0, nameIndex := 494, descriptorIndex := 142, attributes := #[] }, { accessFlags := 8, nameIndex := 501, descriptorIndex := 391, attributes := #[] }] 49 2 #[1106, 1108, 575, 1110, 1112] #[{ accessFlags := 18, nameIndex := 13, descriptorIndex := 14, attributes := #[] }, { accessFlags := 18, nameIndex := 17, descriptorIndex := 18, attributes := #[] }, { accessFlags := 2, nameIndex := 21, descriptorIndex := 22, attributes := #[] }, { accessFlags := 2, nameIndex := 25, descriptorIndex := 26, attributes := #[] }, { accessFlags := 26, nameIndex := 1116, descriptorIndex := 1117, attributes := #[] }, { accessFlags := 24, nameIndex := 40, descriptorIndex := 26, attributes := #[] }, { accessFlags := 26, nameIndex := 1101, descriptorIndex := 1102, attributes := #[] }, { accessFlags := 26, nameIndex := 1121, descriptorIndex := 1122, attributes := #[] }, { accessFlags := 25, nameIndex := 599, descriptorIndex := 600, attributes := #[] }, { accessFlags := 24, nameIndex := 1125, descriptorIndex := 18, attributes := #[] }, { accessFlags := 24, nameIndex := 1127, descriptorIndex := 18, attributes := #[] }])
  fields := #[{ name := "value", type := (.array .byte), accessFlags := 18, slot := 0, constantValue := 0 }, { name := "coder", type := .byte, accessFlags := 18, slot := 1, constantValue := 0 }, { name := "hash", type := .int, accessFlags := 2, slot := 2, constantValue := 0 }, { name := "hashIsZero", type := .boolean, accessFlags := 2, slot := 3, constantValue := 0 }, { name := "serialVersionUID", type := .long, accessFlags := 26, slot := 0, constantValue := 0 }, { name := "COMPACT_STRINGS", type := .boolean, accessFlags := 24, slot := 1, constantValue := 0 }, { name := "serialPersistentFields", type := (.array (.object "java/io/ObjectStreamField")), accessFlags := 26, slot := 2, constantValue := 0 }, { name := "REPL", type := .char, accessFlags := 26, slot := 3, constantValue := 0 }, { name := "CASE_INSENSITIVE_ORDER", type := (.object "java/util/Comparator"), accessFlags := 25, slot := 4, constantValue := 0 }, { name := "LATIN1", type := .byte, accessFlags := 24, slot := 5, constantValue := 0 }, { name := "UTF16", type := .byte, accessFlags := 24, slot := 6, constantValue := 0 }]
  methods := #[k7m0, k7m1, k7m2, k7m3, k7m4, k7m5, k7m6, k7m7, k7m8]
  instanceTypes := #[(.array .byte), .byte, .int, .boolean]
  staticTypes := #[.long, .boolean, (.array (.object "java/io/ObjectStreamField")), .char, (.object "java/util/Comparator"), .byte, .byte]
  resolved := Array.replicate 1451 none
  statics := some 0 }

def pool8 : Array CpInfo := pool [(1, .class_ 2), (0, u "java/lang/String"), (1, .class_ 6), (1, u "java/lang/Object"), (0, u "<init>"), (0, u "()V"), (0, .methodref 1 10), (0, .nameAndType 11 12), (0, u "checkIndex"), (0, u "(II)V"), (1, .class_ 16), (1, u "java/lang/StringLatin1"), (36, u "([BI)C"), (67, u "$assertionsDisabled"), (0, u "Z"), (98, .class_ 223), (1, u "java/lang/StringLatin1$LinesSpliterator"), (28, u "charAt"), (28, u "equals"), (0, u "([B[B)Z"), (107, .class_ 391), (0, u "java/lang/StringLatin1$CharsSpliterator")] 3

def k8m0 : Method := { name := "<init>", desc := "()V", sig := { parameters := [], returnType := none }, accessFlags := 0, code := none }
def k8c1 : Code := { maxStack := 2, maxLocals := 2, code := jdk_43_method_2_code, exceptionTable := #[], attributes := #[] }
def k8m1 : Method := { name := "charAt", desc := "([BI)C", sig := { parameters := [(.array .byte), .int], returnType := some .char }, accessFlags := 9, code := some k8c1 }
def k8c2 : Code := { maxStack := 3, maxLocals := 3, code := jdk_43_method_13_code, exceptionTable := #[], attributes := #[] }
def k8m2 : Method := { name := "equals", desc := "([B[B)Z", sig := { parameters := [(.array .byte), (.array .byte)], returnType := some .boolean }, accessFlags := 9, code := some k8c2 }
/-- java/lang/StringLatin1 -/
def k8 : Class := { plain "java/lang/StringLatin1" (some 0) with
  accessFlags := 48
  interfaces := #[]
  cf := some (fileOf pool8 14 #[.nestMembers #[390, 221]] #[{ accessFlags := 0, nameIndex := 7, descriptorIndex := 8, attributes := #[] }, { accessFlags := 9, nameIndex := 252, descriptorIndex := 53, attributes := #[] }, { accessFlags := 9, nameIndex := 281, descriptorIndex := 282, attributes := #[] }] 48 4 #[] #[{ accessFlags := 4120, nameIndex := 121, descriptorIndex := 122, attributes := #[] }])
  fields := #[{ name := "$assertionsDisabled", type := .boolean, accessFlags := 4120, slot := 0, constantValue := 0 }]
  methods := #[k8m0, k8m1, k8m2]
  instanceTypes := #[]
  staticTypes := #[.boolean]
  resolved := Array.replicate 395 none
  statics := none }

def pool9 : Array CpInfo := pool [(2, .class_ 4), (1, u "java/lang/Object"), (0, u "<init>"), (0, u "()V"), (17, .class_ 26), (1, u "jdk/internal/util/Preconditions"), (6, u "checkIndex"), (21, .class_ 56), (0, u "jdk/internal/util/Preconditions$4"), (57, .class_ 115), (0, u "jdk/internal/util/Preconditions$1"), (7, u "SIOOBE_FORMATTER"), (0, u "Ljava/util/function/BiFunction;"), (0, .class_ 126), (0, u "jdk/internal/util/Preconditions$2"), (3, u "AIOOBE_FORMATTER"), (0, .class_ 132), (0, u "jdk/internal/util/Preconditions$3"), (3, u "IOOBE_FORMATTER"), (41, u "(IILjava/util/function/BiFunction;)I")] 15

def k9m0 : Method := { name := "<init>", desc := "()V", sig := { parameters := [], returnType := none }, accessFlags := 1, code := none }
def k9c1 : Code := { maxStack := 3, maxLocals := 3, code := jdk_41_method_11_code, exceptionTable := #[], attributes := #[] }
def k9m1 : Method := { name := "checkIndex", desc := "(IILjava/util/function/BiFunction;)I", sig := { parameters := [.int, .int, (.object "java/util/function/BiFunction")], returnType := some .int }, accessFlags := 9, code := some k9c1 }
/-- jdk/internal/util/Preconditions -/
def k9 : Class := { plain "jdk/internal/util/Preconditions" (some 0) with
  accessFlags := 33
  interfaces := #[]
  cf := some (fileOf pool9 24 #[.nestMembers #[55, 131, 125, 114]] #[{ accessFlags := 1, nameIndex := 5, descriptorIndex := 6, attributes := #[] }, { accessFlags := 9, nameIndex := 33, descriptorIndex := 178, attributes := #[] }] 33 2 #[] #[{ accessFlags := 25, nameIndex := 123, descriptorIndex := 124, attributes := #[] }, { accessFlags := 25, nameIndex := 130, descriptorIndex := 124, attributes := #[] }, { accessFlags := 25, nameIndex := 136, descriptorIndex := 124, attributes := #[] }])
  fields := #[{ name := "SIOOBE_FORMATTER", type := (.object "java/util/function/BiFunction"), accessFlags := 25, slot := 0, constantValue := 0 }, { name := "AIOOBE_FORMATTER", type := (.object "java/util/function/BiFunction"), accessFlags := 25, slot := 1, constantValue := 0 }, { name := "IOOBE_FORMATTER", type := (.object "java/util/function/BiFunction"), accessFlags := 25, slot := 2, constantValue := 0 }]
  methods := #[k9m0, k9m1]
  instanceTypes := #[]
  staticTypes := #[(.object "java/util/function/BiFunction"), (.object "java/util/function/BiFunction"), (.object "java/util/function/BiFunction")]
  resolved := Array.replicate 194 none
  statics := some 1 }

def pool10 : Array CpInfo := pool [(6, .class_ 8), (1, u "java/lang/Object"), (0, u "<init>"), (0, u "()V"), (1, .class_ 14), (1, u "java/lang/StringUTF16"), (31, u "$assertionsDisabled"), (0, u "Z"), (13, u "HI_BYTE_SHIFT"), (0, u "I"), (2, u "LO_BYTE_SHIFT"), (49, .methodref 12 116), (0, .nameAndType 117 118), (0, u "compress"), (0, u "([CI[BII)I"), (3, u "([CII)[B"), (138, u "coderFromArrayLen"), (0, u "([BI)B"), (106, .class_ 371), (1, u "java/lang/StringUTF16$LinesSpliterator"), (58, u "MAX_LENGTH"), (196, .class_ 628), (0, u "java/lang/StringUTF16$CodePointsSpliterator"), (0, .class_ 630), (0, u "java/lang/StringUTF16$CharsSpliterator")] 4

def k10m0 : Method := { name := "<init>", desc := "()V", sig := { parameters := [], returnType := none }, accessFlags := 0, code := none }
def k10c1 : Code := { maxStack := 2, maxLocals := 2, code := jdk_52_method_15_code, exceptionTable := #[], attributes := #[] }
def k10m1 : Method := { name := "coderFromArrayLen", desc := "([BI)B", sig := { parameters := [(.array .byte), .int], returnType := some .byte }, accessFlags := 8, code := some k10c1 }
def k10c2 : Code := { maxStack := 5, maxLocals := 6, code := jdk_52_method_16_code, exceptionTable := #[], attributes := #[] }
def k10m2 : Method := { name := "compress", desc := "([CII)[B", sig := { parameters := [(.array .char), .int, .int], returnType := some (.array .byte) }, accessFlags := 9, code := some k10c2 }
def k10c3 : Code := { maxStack := 3, maxLocals := 7, code := jdk_52_method_21_code, exceptionTable := #[], attributes := #[] }
def k10m3 : Method := { name := "compress", desc := "([CI[BII)I", sig := { parameters := [(.array .char), .int, (.array .byte), .int, .int], returnType := some .int }, accessFlags := 9, code := some k10c3 }
/-- java/lang/StringUTF16 -/
def k10 : Class := { plain "java/lang/StringUTF16" (some 0) with
  accessFlags := 48
  interfaces := #[]
  cf := some (fileOf pool10 12 #[.nestMembers #[627, 629, 369]] #[{ accessFlags := 0, nameIndex := 9, descriptorIndex := 10, attributes := #[] }, { accessFlags := 8, nameIndex := 261, descriptorIndex := 262, attributes := #[] }, { accessFlags := 9, nameIndex := 117, descriptorIndex := 122, attributes := #[] }, { accessFlags := 9, nameIndex := 117, descriptorIndex := 118, attributes := #[] }] 48 6 #[] #[{ accessFlags := 26, nameIndex := 61, descriptorIndex := 62, attributes := #[] }, { accessFlags := 26, nameIndex := 65, descriptorIndex := 62, attributes := #[] }, { accessFlags := 24, nameIndex := 430, descriptorIndex := 62, attributes := #[] }, { accessFlags := 4120, nameIndex := 46, descriptorIndex := 47, attributes := #[] }])
  fields := #[{ name := "HI_BYTE_SHIFT", type := .int, accessFlags := 26, slot := 0, constantValue := 0 }, { name := "LO_BYTE_SHIFT", type := .int, accessFlags := 26, slot := 1, constantValue := 0 }, { name := "MAX_LENGTH", type := .int, accessFlags := 24, slot := 2, constantValue := 0 }, { name := "$assertionsDisabled", type := .boolean, accessFlags := 4120, slot := 3, constantValue := 0 }]
  methods := #[k10m0, k10m1, k10m2, k10m3]
  instanceTypes := #[]
  staticTypes := #[.int, .int, .int, .boolean]
  resolved := Array.replicate 635 none
  statics := none }

def pool11 : Array CpInfo := pool [(2, .class_ 4), (1, u "java/lang/Enum"), (0, u "name"), (0, u "Ljava/lang/String;"), (2, u "ordinal"), (0, u "I"), (1, .class_ 14), (1, u "java/lang/Object"), (4, u "hash"), (86, .class_ 108), (1, u "java/lang/Enum$EnumDesc"), (2, .class_ 112), (0, u "java/lang/constant/Constable"), (0, .class_ 114), (0, u "java/lang/Comparable"), (0, .class_ 116), (0, u "java/io/Serializable")] 87

/-- java/lang/Enum -/
def k11 : Class := { plain "java/lang/Enum" (some 0) with
  accessFlags := 1057
  interfaces := #[5, 3, 2]
  cf := some (fileOf pool11 2 #[.nestMembers #[106]] #[] 1057 12 #[111, 113, 115] #[{ accessFlags := 18, nameIndex := 5, descriptorIndex := 6, attributes := #[] }, { accessFlags := 18, nameIndex := 9, descriptorIndex := 10, attributes := #[] }, { accessFlags := 2, nameIndex := 19, descriptorIndex := 10, attributes := #[] }])
  fields := #[{ name := "name", type := (.object "java/lang/String"), accessFlags := 18, slot := 0, constantValue := 0 }, { name := "ordinal", type := .int, accessFlags := 18, slot := 1, constantValue := 0 }, { name := "hash", type := .int, accessFlags := 2, slot := 2, constantValue := 0 }]
  methods := #[]
  instanceTypes := #[(.object "java/lang/String"), .int, .int]
  staticTypes := #[]
  resolved := Array.replicate 204 none
  statics := none }

def pool12 : Array CpInfo := pool [(1, .class_ 2), (0, u "com/example/gate2/gate2/Dimension"), (2, u "PROJECT"), (0, u "Lcom/example/gate2/gate2/Dimension;"), (2, u "USER"), (2, u "REGION"), (2, u "INSTANCE"), (0, .fieldref 1 17), (0, .nameAndType 18 19), (0, u "$VALUES"), (0, u "[Lcom/example/gate2/gate2/Dimension;"), (0, .methodref 21 22), (0, .class_ 19), (0, .nameAndType 23 24), (0, u "clone"), (0, u "()Ljava/lang/Object;"), (1, .class_ 28), (1, u "java/lang/Enum"), (6, .fieldref 1 36), (0, .nameAndType 37 38), (0, u "field"), (0, u "Ljava/lang/String;"), (0, .methodref 1 40), (0, .nameAndType 41 42), (0, u "values"), (0, u "()[Lcom/example/gate2/gate2/Dimension;"), (0, .methodref 44 45), (0, .class_ 46), (0, .nameAndType 47 48), (0, u "java/lang/String"), (0, u "equals"), (0, u "(Ljava/lang/Object;)Z"), (0, .methodref 50 51), (0, .class_ 52), (0, .nameAndType 53 54), (0, u "java/util/Optional"), (0, u "of"), (0, u "(Ljava/lang/Object;)Ljava/util/Optional;"), (0, .methodref 50 56), (0, .nameAndType 57 58), (0, u "empty"), (0, u "()Ljava/util/Optional;"), (24, u "byField"), (0, u "(Ljava/lang/String;)Ljava/util/Optional;")] 8

def k12c0 : Code := { maxStack := 1, maxLocals := 0, code := prog_6_method_1_code, exceptionTable := #[], attributes := #[] }
def k12m0 : Method := { name := "values", desc := "()[Lcom/example/gate2/gate2/Dimension;", sig := { parameters := [], returnType := some (.array (.object "com/example/gate2/gate2/Dimension")) }, accessFlags := 9, code := some k12c0 }
def k12c1 : Code := { maxStack := 2, maxLocals := 5, code := prog_6_method_4_code, exceptionTable := #[], attributes := #[] }
def k12m1 : Method := { name := "byField", desc := "(Ljava/lang/String;)Ljava/util/Optional;", sig := { parameters := [(.object "java/lang/String")], returnType := some (.object "java/util/Optional") }, accessFlags := 9, code := some k12c1 }
/-- com/example/gate2/gate2/Dimension -/
def k12 : Class := { plain "com/example/gate2/gate2/Dimension" (some 11) with
  accessFlags := 16433
  interfaces := #[]
  cf := some (fileOf pool12 1 #[] #[{ accessFlags := 9, nameIndex := 41, descriptorIndex := 42, attributes := #[] }, { accessFlags := 9, nameIndex := 83, descriptorIndex := 84, attributes := #[] }] 16433 26 #[] #[{ accessFlags := 16409, nameIndex := 5, descriptorIndex := 6, attributes := #[] }, { accessFlags := 16409, nameIndex := 9, descriptorIndex := 6, attributes := #[] }, { accessFlags := 16409, nameIndex := 12, descriptorIndex := 6, attributes := #[] }, { accessFlags := 16409, nameIndex := 15, descriptorIndex := 6, attributes := #[] }, { accessFlags := 18, nameIndex := 37, descriptorIndex := 38, attributes := #[] }, { accessFlags := 4122, nameIndex := 18, descriptorIndex := 19, attributes := #[] }])
  fields := #[{ name := "PROJECT", type := (.object "com/example/gate2/gate2/Dimension"), accessFlags := 16409, slot := 0, constantValue := 0 }, { name := "USER", type := (.object "com/example/gate2/gate2/Dimension"), accessFlags := 16409, slot := 1, constantValue := 0 }, { name := "REGION", type := (.object "com/example/gate2/gate2/Dimension"), accessFlags := 16409, slot := 2, constantValue := 0 }, { name := "INSTANCE", type := (.object "com/example/gate2/gate2/Dimension"), accessFlags := 16409, slot := 3, constantValue := 0 }, { name := "field", type := (.object "java/lang/String"), accessFlags := 18, slot := 3, constantValue := 0 }, { name := "$VALUES", type := (.array (.object "com/example/gate2/gate2/Dimension")), accessFlags := 4122, slot := 4, constantValue := 0 }]
  methods := #[k12m0, k12m1]
  instanceTypes := #[(.object "java/lang/String"), .int, .int, (.object "java/lang/String")]
  staticTypes := #[(.object "com/example/gate2/gate2/Dimension"), (.object "com/example/gate2/gate2/Dimension"), (.object "com/example/gate2/gate2/Dimension"), (.object "com/example/gate2/gate2/Dimension"), (.array (.object "com/example/gate2/gate2/Dimension"))]
  resolved := Array.replicate 93 none
  statics := some 2 }

def pool13 : Array CpInfo := pool [(1, .class_ 2), (0, u "java/lang/Cloneable"), (0, .class_ 4), (0, u "java/lang/Object")] 2

/-- java/lang/Cloneable -/
def k13 : Class := { plain "java/lang/Cloneable" (some 0) with
  accessFlags := 1537
  interfaces := #[]
  cf := some (fileOf pool13 1 #[] #[] 1537 3 #[] #[])
  fields := #[]
  methods := #[]
  instanceTypes := #[]
  staticTypes := #[]
  resolved := Array.replicate 7 none
  statics := none }

def pool14 : Array CpInfo := pool [(1, .fieldref 2 3), (0, .class_ 4), (0, .nameAndType 5 6), (0, u "java/util/Optional"), (0, u "EMPTY"), (0, u "Ljava/util/Optional;"), (0, .methodref 8 9), (0, .class_ 10), (0, .nameAndType 11 12), (0, u "java/lang/Object"), (0, u "<init>"), (0, u "()V"), (0, .fieldref 2 14), (0, .nameAndType 15 16), (0, u "value"), (0, u "Ljava/lang/Object;"), (0, .methodref 18 19), (0, .class_ 20), (0, .nameAndType 21 22), (0, u "java/util/Objects"), (0, u "requireNonNull"), (0, u "(Ljava/lang/Object;)Ljava/lang/Object;"), (0, .methodref 2 24), (0, .nameAndType 11 25), (0, u "(Ljava/lang/Object;)V"), (29, u "empty"), (0, u "()Ljava/util/Optional;"), (8, u "(Ljava/lang/Object;)Ljava/util/Optional;"), (16, u "of"), (82, u "orElse")] 21

def k14c0 : Code := { maxStack := 1, maxLocals := 1, code := jdk_32_method_1_code, exceptionTable := #[], attributes := #[] }
def k14m0 : Method := { name := "empty", desc := "()Ljava/util/Optional;", sig := { parameters := [], returnType := some (.object "java/util/Optional") }, accessFlags := 9, code := some k14c0 }
def k14c1 : Code := { maxStack := 2, maxLocals := 2, code := jdk_32_method_2_code, exceptionTable := #[], attributes := #[] }
def k14m1 : Method := { name := "<init>", desc := "(Ljava/lang/Object;)V", sig := { parameters := [(.object "java/lang/Object")], returnType := none }, accessFlags := 2, code := some k14c1 }
def k14c2 : Code := { maxStack := 3, maxLocals := 1, code := jdk_32_method_3_code, exceptionTable := #[], attributes := #[] }
def k14m2 : Method := { name := "of", desc := "(Ljava/lang/Object;)Ljava/util/Optional;", sig := { parameters := [(.object "java/lang/Object")], returnType := some (.object "java/util/Optional") }, accessFlags := 9, code := some k14c2 }
def k14c3 : Code := { maxStack := 1, maxLocals := 2, code := jdk_32_method_15_code, exceptionTable := #[], attributes := #[] }
def k14m3 : Method := { name := "orElse", desc := "(Ljava/lang/Object;)Ljava/lang/Object;", sig := { parameters := [(.object "java/lang/Object")], returnType := some (.object "java/lang/Object") }, accessFlags := 1, code := some k14c3 }
/-- java/util/Optional -/
def k14 : Class := { plain "java/util/Optional" (some 0) with
  accessFlags := 49
  interfaces := #[]
  cf := some (fileOf pool14 2 #[] #[{ accessFlags := 9, nameIndex := 55, descriptorIndex := 56, attributes := #[] }, { accessFlags := 2, nameIndex := 11, descriptorIndex := 25, attributes := #[] }, { accessFlags := 9, nameIndex := 82, descriptorIndex := 65, attributes := #[] }, { accessFlags := 1, nameIndex := 165, descriptorIndex := 22, attributes := #[] }] 49 8 #[] #[{ accessFlags := 26, nameIndex := 5, descriptorIndex := 6, attributes := #[] }, { accessFlags := 18, nameIndex := 15, descriptorIndex := 16, attributes := #[] }])
  fields := #[{ name := "EMPTY", type := (.object "java/util/Optional"), accessFlags := 26, slot := 0, constantValue := 0 }, { name := "value", type := (.object "java/lang/Object"), accessFlags := 18, slot := 0, constantValue := 0 }]
  methods := #[k14m0, k14m1, k14m2, k14m3]
  instanceTypes := #[(.object "java/lang/Object")]
  staticTypes := #[(.object "java/util/Optional")]
  resolved := Array.replicate 187 none
  statics := some 3 }

def pool15 : Array CpInfo := pool [(2, .class_ 4), (1, u "java/lang/Object"), (0, u "<init>"), (0, u "()V"), (35, .class_ 44), (1, u "java/util/Objects"), (0, u "requireNonNull"), (0, u "(Ljava/lang/Object;)Ljava/lang/Object;")] 137

def k15m0 : Method := { name := "<init>", desc := "()V", sig := { parameters := [], returnType := none }, accessFlags := 2, code := none }
def k15c1 : Code := { maxStack := 2, maxLocals := 1, code := jdk_31_method_10_code, exceptionTable := #[], attributes := #[] }
def k15m1 : Method := { name := "requireNonNull", desc := "(Ljava/lang/Object;)Ljava/lang/Object;", sig := { parameters := [(.object "java/lang/Object")], returnType := some (.object "java/lang/Object") }, accessFlags := 9, code := some k15c1 }
/-- java/util/Objects -/
def k15 : Class := { plain "java/util/Objects" (some 0) with
  accessFlags := 49
  interfaces := #[]
  cf := some (fileOf pool15 42 #[] #[{ accessFlags := 2, nameIndex := 5, descriptorIndex := 6, attributes := #[] }, { accessFlags := 9, nameIndex := 45, descriptorIndex := 46, attributes := #[] }] 49 2 #[] #[])
  fields := #[]
  methods := #[k15m0, k15m1]
  instanceTypes := #[]
  staticTypes := #[]
  resolved := Array.replicate 184 none
  statics := none }

def pool16 : Array CpInfo := pool [(9, u "<init>"), (6, .class_ 18), (1, u "java/lang/Object"), (0, u "()V"), (1, .class_ 23), (1, u "jdk/internal/util/ArraysSupport"), (0, u "LOG2_ARRAY_LONG_INDEX_SCALE"), (0, u "I"), (2, u "U"), (0, u "Ljdk/internal/misc/Unsafe;"), (8, u "BIG_ENDIAN"), (0, u "Z"), (8, u "LOG2_BYTE_BIT_SIZE"), (4, u "LOG2_ARRAY_INT_INDEX_SCALE"), (54, u "JLA"), (0, u "Ljdk/internal/access/JavaLangAccess;"), (11, u "LOG2_ARRAY_BOOLEAN_INDEX_SCALE"), (9, u "LOG2_ARRAY_BYTE_INDEX_SCALE"), (5, u "LOG2_ARRAY_CHAR_INDEX_SCALE"), (5, u "LOG2_ARRAY_SHORT_INDEX_SCALE"), (18, u "LOG2_ARRAY_FLOAT_INDEX_SCALE"), (24, u "LOG2_ARRAY_DOUBLE_INDEX_SCALE"), (89, u "T_BOOLEAN"), (2, u "T_CHAR"), (1, u "T_FLOAT"), (1, u "T_DOUBLE"), (1, u "T_BYTE"), (1, u "T_SHORT"), (1, u "T_INT"), (1, u "T_LONG"), (1, u "SOFT_MAX_ARRAY_LENGTH")] 83

def k16m0 : Method := { name := "<init>", desc := "()V", sig := { parameters := [], returnType := none }, accessFlags := 2, code := none }
/-- jdk/internal/util/ArraysSupport -/
def k16 : Class := { plain "jdk/internal/util/ArraysSupport" (some 0) with
  accessFlags := 33
  interfaces := #[]
  cf := some (fileOf pool16 21 #[] #[{ accessFlags := 2, nameIndex := 9, descriptorIndex := 19, attributes := #[] }] 33 16 #[] #[{ accessFlags := 24, nameIndex := 28, descriptorIndex := 29, attributes := #[] }, { accessFlags := 26, nameIndex := 38, descriptorIndex := 39, attributes := #[] }, { accessFlags := 25, nameIndex := 121, descriptorIndex := 25, attributes := #[] }, { accessFlags := 25, nameIndex := 131, descriptorIndex := 25, attributes := #[] }, { accessFlags := 25, nameIndex := 137, descriptorIndex := 25, attributes := #[] }, { accessFlags := 25, nameIndex := 143, descriptorIndex := 25, attributes := #[] }, { accessFlags := 25, nameIndex := 53, descriptorIndex := 25, attributes := #[] }, { accessFlags := 25, nameIndex := 24, descriptorIndex := 25, attributes := #[] }, { accessFlags := 25, nameIndex := 162, descriptorIndex := 25, attributes := #[] }, { accessFlags := 25, nameIndex := 187, descriptorIndex := 25, attributes := #[] }, { accessFlags := 26, nameIndex := 48, descriptorIndex := 25, attributes := #[] }, { accessFlags := 25, nameIndex := 277, descriptorIndex := 25, attributes := #[] }, { accessFlags := 25, nameIndex := 280, descriptorIndex := 25, attributes := #[] }, { accessFlags := 25, nameIndex := 282, descriptorIndex := 25, attributes := #[] }, { accessFlags := 25, nameIndex := 284, descriptorIndex := 25, attributes := #[] }, { accessFlags := 25, nameIndex := 286, descriptorIndex := 25, attributes := #[] }, { accessFlags := 25, nameIndex := 288, descriptorIndex := 25, attributes := #[] }, { accessFlags := 25, nameIndex := 290, descriptorIndex := 25, attributes := #[] }, { accessFlags := 25, nameIndex := 292, descriptorIndex := 25, attributes := #[] }, { accessFlags := 26, nameIndex := 108, descriptorIndex := 109, attributes := #[] }, { accessFlags := 25, nameIndex := 294, descriptorIndex := 25, attributes := #[] }])
  fields := #[{ name := "U", type := (.object "jdk/internal/misc/Unsafe"), accessFlags := 24, slot := 0, constantValue := 0 }, { name := "BIG_ENDIAN", type := .boolean, accessFlags := 26, slot := 1, constantValue := 0 }, { name := "LOG2_ARRAY_BOOLEAN_INDEX_SCALE", type := .int, accessFlags := 25, slot := 2, constantValue := 0 }, { name := "LOG2_ARRAY_BYTE_INDEX_SCALE", type := .int, accessFlags := 25, slot := 3, constantValue := 0 }, { name := "LOG2_ARRAY_CHAR_INDEX_SCALE", type := .int, accessFlags := 25, slot := 4, constantValue := 0 }, { name := "LOG2_ARRAY_SHORT_INDEX_SCALE", type := .int, accessFlags := 25, slot := 5, constantValue := 0 }, { name := "LOG2_ARRAY_INT_INDEX_SCALE", type := .int, accessFlags := 25, slot := 6, constantValue := 0 }, { name := "LOG2_ARRAY_LONG_INDEX_SCALE", type := .int, accessFlags := 25, slot := 7, constantValue := 0 }, { name := "LOG2_ARRAY_FLOAT_INDEX_SCALE", type := .int, accessFlags := 25, slot := 8, constantValue := 0 }, { name := "LOG2_ARRAY_DOUBLE_INDEX_SCALE", type := .int, accessFlags := 25, slot := 9, constantValue := 0 }, { name := "LOG2_BYTE_BIT_SIZE", type := .int, accessFlags := 26, slot := 10, constantValue := 0 }, { name := "T_BOOLEAN", type := .int, accessFlags := 25, slot := 11, constantValue := 0 }, { name := "T_CHAR", type := .int, accessFlags := 25, slot := 12, constantValue := 0 }, { name := "T_FLOAT", type := .int, accessFlags := 25, slot := 13, constantValue := 0 }, { name := "T_DOUBLE", type := .int, accessFlags := 25, slot := 14, constantValue := 0 }, { name := "T_BYTE", type := .int, accessFlags := 25, slot := 15, constantValue := 0 }, { name := "T_SHORT", type := .int, accessFlags := 25, slot := 16, constantValue := 0 }, { name := "T_INT", type := .int, accessFlags := 25, slot := 17, constantValue := 0 }, { name := "T_LONG", type := .int, accessFlags := 25, slot := 18, constantValue := 0 }, { name := "JLA", type := (.object "jdk/internal/access/JavaLangAccess"), accessFlags := 26, slot := 19, constantValue := 0 }, { name := "SOFT_MAX_ARRAY_LENGTH", type := .int, accessFlags := 25, slot := 20, constantValue := 0 }]
  methods := #[k16m0]
  instanceTypes := #[]
  staticTypes := #[(.object "jdk/internal/misc/Unsafe"), .boolean, .int, .int, .int, .int, .int, .int, .int, .int, .int, .int, .int, .int, .int, .int, .int, .int, .int, (.object "jdk/internal/access/JavaLangAccess"), .int]
  resolved := Array.replicate 378 none
  statics := none }

/-- the primitive byte -/
def k17 : Class := { plain "byte" none with kind := .primitive 'B', accessFlags := 0x411 }
/-- [B -/
def k18 : Class := { plain "[B" (some 0) with kind := .array 17 .byte, interfaces := #[13, 2], accessFlags := 1041 }

/-- the primitive char -/
def k19 : Class := { plain "char" none with kind := .primitive 'C', accessFlags := 0x411 }
/-- [C -/
def k20 : Class := { plain "[C" (some 0) with kind := .array 19 .char, interfaces := #[13, 2], accessFlags := 1041 }

/-- the primitive int -/
def k21 : Class := { plain "int" none with kind := .primitive 'I', accessFlags := 0x411 }
/-- [I -/
def k22 : Class := { plain "[I" (some 0) with kind := .array 21 .int, interfaces := #[13, 2], accessFlags := 1041 }

/-- [Lcom/example/gate2/gate2/Dimension; -/
def k23 : Class := { plain "[Lcom/example/gate2/gate2/Dimension;" (some 0) with kind := .array 12 (.object "com/example/gate2/gate2/Dimension"), interfaces := #[13, 2], accessFlags := 1041 }

def heap : Heap := #[{ cls := 7, slots := #[.long 0, .int 1, .null, .int 0, .null, .int 0, .int 0], vm := .statics 7 },
  { cls := 9, slots := #[.null, .null, .null], vm := .statics 9 },
  { cls := 12, slots := #[.ref 12, .ref 13, .ref 14, .ref 15, .ref 16], vm := .statics 12 },
  { cls := 14, slots := #[.ref 17], vm := .statics 14 },
  { cls := 18, slots := #[.int 112, .int 114, .int 111, .int 106, .int 101, .int 99, .int 116], vm := .none },
  { cls := 18, slots := #[.int 117, .int 115, .int 101, .int 114], vm := .none },
  { cls := 18, slots := #[.int 114, .int 101, .int 103, .int 105, .int 111, .int 110], vm := .none },
  { cls := 18, slots := #[.int 105, .int 110, .int 115, .int 116, .int 97, .int 110, .int 99, .int 101], vm := .none },
  { cls := 7, slots := #[.ref 4, .int 0, .int 0, .int 0], vm := .none },
  { cls := 7, slots := #[.ref 5, .int 0, .int 0, .int 0], vm := .none },
  { cls := 7, slots := #[.ref 6, .int 0, .int 0, .int 0], vm := .none },
  { cls := 7, slots := #[.ref 7, .int 0, .int 0, .int 0], vm := .none },
  { cls := 12, slots := #[.null, .int 0, .int 0, .ref 8], vm := .none },
  { cls := 12, slots := #[.null, .int 1, .int 0, .ref 9], vm := .none },
  { cls := 12, slots := #[.null, .int 2, .int 0, .ref 10], vm := .none },
  { cls := 12, slots := #[.null, .int 3, .int 0, .ref 11], vm := .none },
  { cls := 23, slots := #[.ref 12, .ref 13, .ref 14, .ref 15], vm := .none },
  { cls := 14, slots := #[.null], vm := .none }]
def classes : Array Class := #[k0, k1, k2, k3, k4, k5, k6, k7, k8, k9, k10, k11, k12, k13, k14, k15, k16, k17, k18, k19, k20, k21, k22, k23]
def interned : List (Array UInt16 × Addr) := []
def slotsUsed : Nat := 78
def theMethod : MethodId := ⟨1, 1⟩
def args0 : Array Value := #[.int 5, .int 6, .int 7, .int 8, .int 9]
def aboutOver (below : List Frame) : State where
  vm := { classes := classes, interned := interned.toArray }
  heap := heap
  slotsUsed := slotsUsed
  threads := #[{ frames := .invoking theMethod args0 :: below }]
def below0 : List Frame := [.native { method := ⟨0, 0⟩, args := #[] }]
def about1 : State := aboutOver below0
def p0 : Program := .bare "" "" ""
def e0 : Env := launch0.env 0 0 0
theorem w_frames : about1.frames = Frame.invoking theMethod args0 :: below0 := rfl
set_option maxRecDepth 65536 in
theorem w_args : argsFit about1.vm theMethod args0 = true := by decide +kernel
set_option maxRecDepth 65536 in
theorem w_heap : heapFits about1 = true := by decide +kernel
set_option maxRecDepth 65536 in
theorem w_runnable : about1.curStatus? = some .runnable := by decide +kernel
set_option maxRecDepth 65536 in
theorem w_alone : about1.alone = true := by decide +kernel
set_option maxRecDepth 65536 in
theorem w_named : about1.methodNamed? x = some theMethod := by decide +kernel
set_option maxRecDepth 65536 in
theorem w_hears : about1.hears theMethod below0 = true := by decide +kernel
set_option maxRecDepth 65536 in
theorem w_ripe : about1.ripe theMethod args0 below0 = true := by decide +kernel
theorem w_running : about1.status = .running := rfl
set_option maxRecDepth 65536 in
theorem w_room : about1.hasRoom e0.platform room_1 = true :=
  launch0.hasRoom_least _ room_1 (by decide +kernel) (by decide +kernel) (by decide +kernel) (by decide +kernel) (by decide +kernel) (by decide +kernel)
theorem allAtoms_all (ts : List Jvm.Cond) (a : Array Jvm.Value) (st : Jvm.State) : (allAtoms ts).before a st = ts.all (fun c => c.before a st) := by
  induction ts with
  | nil => rfl
  | cons c t ih =>
    show (Jvm.Cond.and c (allAtoms t)).before a st = _
    rw [Jvm.Cond.before_and, ih, List.all_cons]
def words1 : List Jvm.Cond := Jvm.Cond.code x code maxLocals ret :: tables_1
/-- a 'code' word, met by the world's own term for the bytes: nothing is compared byte by byte -/
theorem code_word {y : MethodName} {bytes : ByteArray} {mx : Nat} {rt : Option FieldType} {a : Array Value} {s : State} {m : MethodId} {meth : Method} {c : Code} (h1 : s.methodNamed? y = some m) (h2 : s.vm.method? m = some meth) (h3 : meth.code = some c) (h4 : c.code = bytes)
    (h5 : (c.maxLocals == mx && c.exceptionTable.isEmpty && decide (c.maxStack ≤ mostOperands) && decide (meth.sig.returnType = rt) && !meth.locks && decide (parseMethodDescriptor y.desc = some meth.sig)) = true) : (Jvm.Cond.code y bytes mx rt).before a s = true := by
  simp only [Bool.and_eq_true, beq_iff_eq, Bool.not_eq_true', decide_eq_true_eq] at h5
  obtain ⟨⟨⟨⟨⟨g1, g2⟩, g3⟩, g4⟩, g5⟩, g6⟩ := h5
  simp [Cond.before, Cond.holds, Cond.value, h1, h2, h3, h4, g1, g2, g3, g4, g5, g6]
def isCode : Jvm.Cond → Bool
  | .code _ _ _ _ => true
  | _ => false
theorem all_split {L : List Jvm.Cond} {P : Jvm.Cond → Bool} (h1 : L.all (fun c => isCode c || P c) = true) (h2 : ∀ c ∈ L.filter isCode, P c = true) : L.all P = true := by
  refine List.all_eq_true.mpr fun c hc => ?_
  have h := List.all_eq_true.mp h1 c hc
  rcases Bool.eq_false_or_eq_true (isCode c) with hi | hi
  · exact h2 c (List.mem_filter.mpr ⟨hc, hi⟩)
  · simpa [hi] using h
set_option maxRecDepth 65536 in
theorem w_c0 : (Jvm.Cond.code x code maxLocals ret).before args0 about1 = true := code_word (m := ⟨1, 1⟩) (meth := k1m1) (c := k1c1) (by decide +kernel) rfl rfl rfl (by decide +kernel)
set_option maxRecDepth 65536 in
theorem w_c1 : (Jvm.Cond.code ({ cls := "java/lang/String", name := "length", desc := "()I" } : Jvm.MethodName) jdk_42_method_54_code (1 : Nat) (Option.some Jvm.ClassFile.FieldType.int)).before args0 about1 = true := code_word (m := ⟨7, 2⟩) (meth := k7m2) (c := k7c2) (by decide +kernel) rfl rfl rfl (by decide +kernel)
set_option maxRecDepth 65536 in
theorem w_c2 : (Jvm.Cond.code ({ cls := "java/lang/String", name := "coder", desc := "()B" } : Jvm.MethodName) jdk_42_method_152_code (1 : Nat) (Option.some Jvm.ClassFile.FieldType.byte)).before args0 about1 = true := code_word (m := ⟨7, 6⟩) (meth := k7m6) (c := k7c6) (by decide +kernel) rfl rfl rfl (by decide +kernel)
set_option maxRecDepth 65536 in
theorem w_c3 : (Jvm.Cond.code ({ cls := "com/example/gate2/gate2/DimensionByFieldPinLaw", name := "ch", desc := "(Ljava/lang/String;IC)C" } : Jvm.MethodName) method_3_code (3 : Nat) (Option.some Jvm.ClassFile.FieldType.char)).before args0 about1 = true := code_word (m := ⟨1, 2⟩) (meth := k1m2) (c := k1c2) (by decide +kernel) rfl rfl rfl (by decide +kernel)
set_option maxRecDepth 65536 in
theorem w_c4 : (Jvm.Cond.code ({ cls := "java/lang/String", name := "charAt", desc := "(I)C" } : Jvm.MethodName) jdk_42_method_56_code (2 : Nat) (Option.some Jvm.ClassFile.FieldType.char)).before args0 about1 = true := code_word (m := ⟨7, 3⟩) (meth := k7m3) (c := k7c3) (by decide +kernel) rfl rfl rfl (by decide +kernel)
set_option maxRecDepth 65536 in
theorem w_c5 : (Jvm.Cond.code ({ cls := "java/lang/String", name := "isLatin1", desc := "()Z" } : Jvm.MethodName) jdk_42_method_154_code (1 : Nat) (Option.some Jvm.ClassFile.FieldType.boolean)).before args0 about1 = true := code_word (m := ⟨7, 7⟩) (meth := k7m7) (c := k7c7) (by decide +kernel) rfl rfl rfl (by decide +kernel)
set_option maxRecDepth 65536 in
theorem w_c6 : (Jvm.Cond.code ({ cls := "java/lang/StringLatin1", name := "charAt", desc := "([BI)C" } : Jvm.MethodName) jdk_43_method_2_code (2 : Nat) (Option.some Jvm.ClassFile.FieldType.char)).before args0 about1 = true := code_word (m := ⟨8, 1⟩) (meth := k8m1) (c := k8c1) (by decide +kernel) rfl rfl rfl (by decide +kernel)
set_option maxRecDepth 65536 in
theorem w_c7 : (Jvm.Cond.code ({ cls := "java/lang/String", name := "checkIndex", desc := "(II)V" } : Jvm.MethodName) jdk_42_method_155_code (2 : Nat) (Option.none : Option Jvm.ClassFile.FieldType)).before args0 about1 = true := code_word (m := ⟨7, 8⟩) (meth := k7m8) (c := k7c8) (by decide +kernel) rfl rfl rfl (by decide +kernel)
set_option maxRecDepth 65536 in
theorem w_c8 : (Jvm.Cond.code ({ cls := "jdk/internal/util/Preconditions", name := "checkIndex", desc := "(IILjava/util/function/BiFunction;)I" } : Jvm.MethodName) jdk_41_method_11_code (3 : Nat) (Option.some Jvm.ClassFile.FieldType.int)).before args0 about1 = true := code_word (m := ⟨9, 1⟩) (meth := k9m1) (c := k9c1) (by decide +kernel) rfl rfl rfl (by decide +kernel)
set_option maxRecDepth 65536 in
theorem w_c9 : (Jvm.Cond.code ({ cls := "com/example/gate2/gate2/DimensionByFieldPinLaw", name := "put", desc := "([CIC)V" } : Jvm.MethodName) method_4_code (3 : Nat) (Option.none : Option Jvm.ClassFile.FieldType)).before args0 about1 = true := code_word (m := ⟨1, 3⟩) (meth := k1m3) (c := k1c3) (by decide +kernel) rfl rfl rfl (by decide +kernel)
set_option maxRecDepth 65536 in
theorem w_c10 : (Jvm.Cond.code ({ cls := "java/lang/String", name := "<init>", desc := "([C)V" } : Jvm.MethodName) jdk_42_method_3_code (2 : Nat) (Option.none : Option Jvm.ClassFile.FieldType)).before args0 about1 = true := code_word (m := ⟨7, 1⟩) (meth := k7m1) (c := k7c1) (by decide +kernel) rfl rfl rfl (by decide +kernel)
set_option maxRecDepth 65536 in
theorem w_c11 : (Jvm.Cond.code ({ cls := "java/lang/String", name := "<init>", desc := "([CIILjava/lang/Void;)V" } : Jvm.MethodName) jdk_42_method_149_code (6 : Nat) (Option.none : Option Jvm.ClassFile.FieldType)).before args0 about1 = true := code_word (m := ⟨7, 5⟩) (meth := k7m5) (c := k7c5) (by decide +kernel) rfl rfl rfl (by decide +kernel)
set_option maxRecDepth 65536 in
theorem w_c12 : (Jvm.Cond.code ({ cls := "java/lang/Object", name := "<init>", desc := "()V" } : Jvm.MethodName) object_method_1_code (1 : Nat) (Option.none : Option Jvm.ClassFile.FieldType)).before args0 about1 = true := code_word (m := ⟨0, 0⟩) (meth := k0m0) (c := k0c0) (by decide +kernel) rfl rfl rfl (by decide +kernel)
set_option maxRecDepth 65536 in
theorem w_c13 : (Jvm.Cond.code ({ cls := "java/lang/StringUTF16", name := "compress", desc := "([CII)[B" } : Jvm.MethodName) jdk_52_method_16_code (6 : Nat) (Option.some (Jvm.ClassFile.FieldType.array Jvm.ClassFile.FieldType.byte))).before args0 about1 = true := code_word (m := ⟨10, 2⟩) (meth := k10m2) (c := k10c2) (by decide +kernel) rfl rfl rfl (by decide +kernel)
set_option maxRecDepth 65536 in
theorem w_c14 : (Jvm.Cond.code ({ cls := "java/lang/StringUTF16", name := "compress", desc := "([CI[BII)I" } : Jvm.MethodName) jdk_52_method_21_code (7 : Nat) (Option.some Jvm.ClassFile.FieldType.int)).before args0 about1 = true := code_word (m := ⟨10, 3⟩) (meth := k10m3) (c := k10c3) (by decide +kernel) rfl rfl rfl (by decide +kernel)
set_option maxRecDepth 65536 in
theorem w_c15 : (Jvm.Cond.code ({ cls := "java/lang/StringUTF16", name := "coderFromArrayLen", desc := "([BI)B" } : Jvm.MethodName) jdk_52_method_15_code (2 : Nat) (Option.some Jvm.ClassFile.FieldType.byte)).before args0 about1 = true := code_word (m := ⟨10, 1⟩) (meth := k10m1) (c := k10c1) (by decide +kernel) rfl rfl rfl (by decide +kernel)
set_option maxRecDepth 65536 in
theorem w_c16 : (Jvm.Cond.code ({ cls := "java/lang/String", name := "equals", desc := "(Ljava/lang/Object;)Z" } : Jvm.MethodName) jdk_42_method_66_code (3 : Nat) (Option.some Jvm.ClassFile.FieldType.boolean)).before args0 about1 = true := code_word (m := ⟨7, 4⟩) (meth := k7m4) (c := k7c4) (by decide +kernel) rfl rfl rfl (by decide +kernel)
set_option maxRecDepth 65536 in
theorem w_c17 : (Jvm.Cond.code ({ cls := "java/lang/StringLatin1", name := "equals", desc := "([B[B)Z" } : Jvm.MethodName) jdk_43_method_13_code (3 : Nat) (Option.some Jvm.ClassFile.FieldType.boolean)).before args0 about1 = true := code_word (m := ⟨8, 2⟩) (meth := k8m2) (c := k8c2) (by decide +kernel) rfl rfl rfl (by decide +kernel)
set_option maxRecDepth 65536 in
theorem w_c18 : (Jvm.Cond.code ({ cls := "com/example/gate2/gate2/Dimension", name := "byField", desc := "(Ljava/lang/String;)Ljava/util/Optional;" } : Jvm.MethodName) prog_6_method_4_code (5 : Nat) (Option.some (Jvm.ClassFile.FieldType.object "java/util/Optional"))).before args0 about1 = true := code_word (m := ⟨12, 1⟩) (meth := k12m1) (c := k12c1) (by decide +kernel) rfl rfl rfl (by decide +kernel)
set_option maxRecDepth 65536 in
theorem w_c19 : (Jvm.Cond.code ({ cls := "com/example/gate2/gate2/Dimension", name := "values", desc := "()[Lcom/example/gate2/gate2/Dimension;" } : Jvm.MethodName) prog_6_method_1_code (0 : Nat) (Option.some (Jvm.ClassFile.FieldType.array (Jvm.ClassFile.FieldType.object "com/example/gate2/gate2/Dimension")))).before args0 about1 = true := code_word (m := ⟨12, 0⟩) (meth := k12m0) (c := k12c0) (by decide +kernel) rfl rfl rfl (by decide +kernel)
set_option maxRecDepth 65536 in
theorem w_c20 : (Jvm.Cond.code ({ cls := "java/util/Optional", name := "of", desc := "(Ljava/lang/Object;)Ljava/util/Optional;" } : Jvm.MethodName) jdk_32_method_3_code (1 : Nat) (Option.some (Jvm.ClassFile.FieldType.object "java/util/Optional"))).before args0 about1 = true := code_word (m := ⟨14, 2⟩) (meth := k14m2) (c := k14c2) (by decide +kernel) rfl rfl rfl (by decide +kernel)
set_option maxRecDepth 65536 in
theorem w_c21 : (Jvm.Cond.code ({ cls := "java/util/Objects", name := "requireNonNull", desc := "(Ljava/lang/Object;)Ljava/lang/Object;" } : Jvm.MethodName) jdk_31_method_10_code (1 : Nat) (Option.some (Jvm.ClassFile.FieldType.object "java/lang/Object"))).before args0 about1 = true := code_word (m := ⟨15, 1⟩) (meth := k15m1) (c := k15c1) (by decide +kernel) rfl rfl rfl (by decide +kernel)
set_option maxRecDepth 65536 in
theorem w_c22 : (Jvm.Cond.code ({ cls := "java/util/Optional", name := "<init>", desc := "(Ljava/lang/Object;)V" } : Jvm.MethodName) jdk_32_method_2_code (2 : Nat) (Option.none : Option Jvm.ClassFile.FieldType)).before args0 about1 = true := code_word (m := ⟨14, 1⟩) (meth := k14m1) (c := k14c1) (by decide +kernel) rfl rfl rfl (by decide +kernel)
set_option maxRecDepth 65536 in
theorem w_c23 : (Jvm.Cond.code ({ cls := "java/util/Optional", name := "orElse", desc := "(Ljava/lang/Object;)Ljava/lang/Object;" } : Jvm.MethodName) jdk_32_method_15_code (2 : Nat) (Option.some (Jvm.ClassFile.FieldType.object "java/lang/Object"))).before args0 about1 = true := code_word (m := ⟨14, 3⟩) (meth := k14m3) (c := k14c3) (by decide +kernel) rfl rfl rfl (by decide +kernel)
set_option maxRecDepth 65536 in
theorem w_c24 : (Jvm.Cond.code ({ cls := "java/util/Optional", name := "empty", desc := "()Ljava/util/Optional;" } : Jvm.MethodName) jdk_32_method_1_code (1 : Nat) (Option.some (Jvm.ClassFile.FieldType.object "java/util/Optional"))).before args0 about1 = true := code_word (m := ⟨14, 0⟩) (meth := k14m0) (c := k14c0) (by decide +kernel) rfl rfl rfl (by decide +kernel)
def codes1 : List Jvm.Cond := [Jvm.Cond.code x code maxLocals ret, Jvm.Cond.code ({ cls := "java/lang/String", name := "length", desc := "()I" } : Jvm.MethodName) jdk_42_method_54_code (1 : Nat) (Option.some Jvm.ClassFile.FieldType.int), Jvm.Cond.code ({ cls := "java/lang/String", name := "coder", desc := "()B" } : Jvm.MethodName) jdk_42_method_152_code (1 : Nat) (Option.some Jvm.ClassFile.FieldType.byte), Jvm.Cond.code ({ cls := "com/example/gate2/gate2/DimensionByFieldPinLaw", name := "ch", desc := "(Ljava/lang/String;IC)C" } : Jvm.MethodName) method_3_code (3 : Nat) (Option.some Jvm.ClassFile.FieldType.char), Jvm.Cond.code ({ cls := "java/lang/String", name := "charAt", desc := "(I)C" } : Jvm.MethodName) jdk_42_method_56_code (2 : Nat) (Option.some Jvm.ClassFile.FieldType.char), Jvm.Cond.code ({ cls := "java/lang/String", name := "isLatin1", desc := "()Z" } : Jvm.MethodName) jdk_42_method_154_code (1 : Nat) (Option.some Jvm.ClassFile.FieldType.boolean), Jvm.Cond.code ({ cls := "java/lang/StringLatin1", name := "charAt", desc := "([BI)C" } : Jvm.MethodName) jdk_43_method_2_code (2 : Nat) (Option.some Jvm.ClassFile.FieldType.char), Jvm.Cond.code ({ cls := "java/lang/String", name := "checkIndex", desc := "(II)V" } : Jvm.MethodName) jdk_42_method_155_code (2 : Nat) (Option.none : Option Jvm.ClassFile.FieldType), Jvm.Cond.code ({ cls := "jdk/internal/util/Preconditions", name := "checkIndex", desc := "(IILjava/util/function/BiFunction;)I" } : Jvm.MethodName) jdk_41_method_11_code (3 : Nat) (Option.some Jvm.ClassFile.FieldType.int), Jvm.Cond.code ({ cls := "com/example/gate2/gate2/DimensionByFieldPinLaw", name := "put", desc := "([CIC)V" } : Jvm.MethodName) method_4_code (3 : Nat) (Option.none : Option Jvm.ClassFile.FieldType), Jvm.Cond.code ({ cls := "java/lang/String", name := "<init>", desc := "([C)V" } : Jvm.MethodName) jdk_42_method_3_code (2 : Nat) (Option.none : Option Jvm.ClassFile.FieldType), Jvm.Cond.code ({ cls := "java/lang/String", name := "<init>", desc := "([CIILjava/lang/Void;)V" } : Jvm.MethodName) jdk_42_method_149_code (6 : Nat) (Option.none : Option Jvm.ClassFile.FieldType), Jvm.Cond.code ({ cls := "java/lang/Object", name := "<init>", desc := "()V" } : Jvm.MethodName) object_method_1_code (1 : Nat) (Option.none : Option Jvm.ClassFile.FieldType), Jvm.Cond.code ({ cls := "java/lang/StringUTF16", name := "compress", desc := "([CII)[B" } : Jvm.MethodName) jdk_52_method_16_code (6 : Nat) (Option.some (Jvm.ClassFile.FieldType.array Jvm.ClassFile.FieldType.byte)), Jvm.Cond.code ({ cls := "java/lang/StringUTF16", name := "compress", desc := "([CI[BII)I" } : Jvm.MethodName) jdk_52_method_21_code (7 : Nat) (Option.some Jvm.ClassFile.FieldType.int), Jvm.Cond.code ({ cls := "java/lang/StringUTF16", name := "coderFromArrayLen", desc := "([BI)B" } : Jvm.MethodName) jdk_52_method_15_code (2 : Nat) (Option.some Jvm.ClassFile.FieldType.byte), Jvm.Cond.code ({ cls := "java/lang/String", name := "equals", desc := "(Ljava/lang/Object;)Z" } : Jvm.MethodName) jdk_42_method_66_code (3 : Nat) (Option.some Jvm.ClassFile.FieldType.boolean), Jvm.Cond.code ({ cls := "java/lang/StringLatin1", name := "equals", desc := "([B[B)Z" } : Jvm.MethodName) jdk_43_method_13_code (3 : Nat) (Option.some Jvm.ClassFile.FieldType.boolean), Jvm.Cond.code ({ cls := "com/example/gate2/gate2/Dimension", name := "byField", desc := "(Ljava/lang/String;)Ljava/util/Optional;" } : Jvm.MethodName) prog_6_method_4_code (5 : Nat) (Option.some (Jvm.ClassFile.FieldType.object "java/util/Optional")), Jvm.Cond.code ({ cls := "com/example/gate2/gate2/Dimension", name := "values", desc := "()[Lcom/example/gate2/gate2/Dimension;" } : Jvm.MethodName) prog_6_method_1_code (0 : Nat) (Option.some (Jvm.ClassFile.FieldType.array (Jvm.ClassFile.FieldType.object "com/example/gate2/gate2/Dimension"))), Jvm.Cond.code ({ cls := "java/util/Optional", name := "of", desc := "(Ljava/lang/Object;)Ljava/util/Optional;" } : Jvm.MethodName) jdk_32_method_3_code (1 : Nat) (Option.some (Jvm.ClassFile.FieldType.object "java/util/Optional")), Jvm.Cond.code ({ cls := "java/util/Objects", name := "requireNonNull", desc := "(Ljava/lang/Object;)Ljava/lang/Object;" } : Jvm.MethodName) jdk_31_method_10_code (1 : Nat) (Option.some (Jvm.ClassFile.FieldType.object "java/lang/Object")), Jvm.Cond.code ({ cls := "java/util/Optional", name := "<init>", desc := "(Ljava/lang/Object;)V" } : Jvm.MethodName) jdk_32_method_2_code (2 : Nat) (Option.none : Option Jvm.ClassFile.FieldType), Jvm.Cond.code ({ cls := "java/util/Optional", name := "orElse", desc := "(Ljava/lang/Object;)Ljava/lang/Object;" } : Jvm.MethodName) jdk_32_method_15_code (2 : Nat) (Option.some (Jvm.ClassFile.FieldType.object "java/lang/Object")), Jvm.Cond.code ({ cls := "java/util/Optional", name := "empty", desc := "()Ljava/util/Optional;" } : Jvm.MethodName) jdk_32_method_1_code (1 : Nat) (Option.some (Jvm.ClassFile.FieldType.object "java/util/Optional"))]
set_option maxRecDepth 65536 in
theorem codes_eq : words1.filter isCode = codes1 := rfl
theorem w_codes : ∀ c ∈ words1.filter isCode, c.before args0 about1 = true := by
  rw [codes_eq]
  intro c hc
  simp only [codes1, List.mem_cons, List.not_mem_nil, or_false] at hc
  rcases hc with rfl | rfl | rfl | rfl | rfl | rfl | rfl | rfl | rfl | rfl | rfl | rfl | rfl | rfl | rfl | rfl | rfl | rfl | rfl | rfl | rfl | rfl | rfl | rfl | rfl
  · exact w_c0
  · exact w_c1
  · exact w_c2
  · exact w_c3
  · exact w_c4
  · exact w_c5
  · exact w_c6
  · exact w_c7
  · exact w_c8
  · exact w_c9
  · exact w_c10
  · exact w_c11
  · exact w_c12
  · exact w_c13
  · exact w_c14
  · exact w_c15
  · exact w_c16
  · exact w_c17
  · exact w_c18
  · exact w_c19
  · exact w_c20
  · exact w_c21
  · exact w_c22
  · exact w_c23
  · exact w_c24
set_option maxRecDepth 65536 in
theorem w_t1 : (words1.take 24).all (fun c => isCode c || c.before args0 about1) = true := by decide +kernel
set_option maxRecDepth 65536 in
theorem w_t2 : ((words1.drop 24).take 24).all (fun c => isCode c || c.before args0 about1) = true := by decide +kernel
set_option maxRecDepth 65536 in
theorem w_t3 : (((words1.drop 24).drop 24).take 24).all (fun c => isCode c || c.before args0 about1) = true := by decide +kernel
set_option maxRecDepth 65536 in
theorem w_t4 : ((((words1.drop 24).drop 24).drop 24).take 24).all (fun c => isCode c || c.before args0 about1) = true := by decide +kernel
set_option maxRecDepth 65536 in
theorem w_t5 : (((((words1.drop 24).drop 24).drop 24).drop 24).take 24).all (fun c => isCode c || c.before args0 about1) = true := by decide +kernel
set_option maxRecDepth 65536 in
theorem w_t6 : ((((((words1.drop 24).drop 24).drop 24).drop 24).drop 24).take 24).all (fun c => isCode c || c.before args0 about1) = true := by decide +kernel
set_option maxRecDepth 65536 in
theorem w_t7 : ((((((words1.drop 24).drop 24).drop 24).drop 24).drop 24).drop 24).all (fun c => isCode c || c.before args0 about1) = true := by decide +kernel
theorem w_tables : (allAtoms (Jvm.Cond.code x code maxLocals ret :: tables_1)).before args0 about1 = true := by
  rw [allAtoms_all]
  show words1.all (fun c => c.before args0 about1) = true
  refine all_split ?_ w_codes
  rw [← List.take_append_drop 24 words1, List.all_append, w_t1, ← List.take_append_drop 24 (words1.drop 24), List.all_append, w_t2, ← List.take_append_drop 24 ((words1.drop 24).drop 24), List.all_append, w_t3, ← List.take_append_drop 24 (((words1.drop 24).drop 24).drop 24), List.all_append, w_t4, ← List.take_append_drop 24 ((((words1.drop 24).drop 24).drop 24).drop 24), List.all_append, w_t5, ← List.take_append_drop 24 (((((words1.drop 24).drop 24).drop 24).drop 24).drop 24), List.all_append, w_t6, w_t7]
  rfl
set_option maxRecDepth 65536 in
theorem w_rest : rest_1_c.before args0 about1 = true := by decide +kernel
set_option maxRecDepth 65536 in
theorem w_case : (Jvm.Cond.and given_1 narrow_1).before args0 about1 = true := by decide +kernel
set_option maxRecDepth 65536 in
theorem w_consts : constsHeld consts_1 about1 := Jvm.Lit.constsHeldB_iff.mp (by decide +kernel)
theorem w_applies : (headSpec (Jvm.Cond.code x code maxLocals ret :: tables_1) room_1).applies x e0.platform about1 = true :=
  (Spec.applies_iff w_frames).mpr ⟨w_running, w_runnable, w_alone, w_named, w_hears, w_ripe, w_room, w_tables⟩
theorem atStart : AtStart classFile x code maxLocals ret World_1 tables_1 room_1 Calls_1 rest_1 Pre_1 launch0 p0 e0 about1 theMethod args0 below0 :=
  ⟨lists_1, trivial, launch0.admits_env _ _ _, launch0.least_env, fairChoices_fair.cas, fairChoices_fair.clock, w_frames, w_args, w_heap, w_applies, ⟨w_consts, trivial⟩, w_rest, w_case⟩
end start1
theorem witness_1 : WitnessClaimed_1 := ⟨start1.p0, start1.e0, start1.about1, start1.theMethod, start1.args0, start1.below0, start1.atStart⟩
end Jvm.Pilot.@@N@@
