import JvmDerived
import JvmDerived.Pilot.@@N@@Statement
import JvmDerived.Pilot.@@N@@Code
set_option linter.unusedVariables false
set_option linter.unusedSimpArgs false
namespace Jvm.RoadKit
open Sem ClassFile Op Lib Jvm.Stand Jvm.Free Jvm.LawKit
section New
variable {p : Program} {l : Launch} {e : Env} {R : Room} {s : State} {m : MethodId} {args : Array Value} {below : List Frame} {meth : Method} {c : Code} {T : State} {locs : List Loc} {cells slots : Nat}
theorem retI (X : Stand p l e R s m args below meth c T locs cells slots) (hx : p.tables.exec = Jvm.exec) {pc : Nat} {Ls : Array Slot} {z : Int32} {rest : List Value} (hret : meth.sig.returnType = some .int) (hd : decode c.code pc = .ok (.ireturn, 1)) {fs : List Frame}
    (hl : ∀ (f : JFrame) (acts : List Action), f.method = m → f.locked = none → f.entered = [] → (doReturn e (T.setTop f) acts (some (.int z))).1 = T.setFrames fs) : Steps p.tables e below (T.setTop (mkF m pc Ls (.int z :: rest))) (T.setFrames fs) :=
  retOut X hx hret rfl (Or.inl ⟨rfl, Or.inl rfl, z, rfl⟩) hd hl
end New
end Jvm.RoadKit
/- laws to paste: Road.backV (cut by pick.py; bodies as the Statement names them) -/
namespace Jvm.Pilot.@@N@@
namespace StrChars
open Jvm Sem ClassFile Op Lib Jvm.Stand Jvm.Free.XT Jvm.Free.ALB Jvm.Free.JM Jvm.Free
open Jvm.Lib.Cold (StaticIs)
/-- a char array whose places are chars -/
def Ch (a : Addr) (A : Cell) (U : State) : Prop := Arr .char a A U ∧ Typed .char A
theorem Ch.mv {a : Addr} {A : Cell} {U U' : State} (h : Ch a A U) (hal : U.vm.Alike U'.vm) (hh : U'.heap = U.heap) : Ch a A U' := ⟨h.1.mv hal hh, h.2⟩
theorem Ch.keep {a : Addr} {A : Cell} {U U' : State} (h : Ch a A U) (hal : U.vm.Alike U'.vm) (hk : U'.heap[a]? = some A) : Ch a A U' := ⟨h.1.keep hal hk, h.2⟩
/-- what place i of a char[]'s cell holds -/
def cv (A : Cell) (i : Nat) : Int32 := match A.slots[i]? with | some (.int x) => x | _ => 0
theorem Ch.get {a : Addr} {A : Cell} {U : State} (h : Ch a A U) {i : Nat} (hi : i < A.slots.size) : A.slots[i]? = some (.int (cv A i)) := by
  have e := Array.getElem?_eq_getElem hi
  have f := h.2 i _ e
  unfold cv; rw [e]
  generalize A.slots[i] = v at f
  cases v <;> simp [fits] at f ⊢
/-- the byte that i2b leaves of a char -/
def lo8 (x : Int32) : Int32 := x.toInt8.toInt32
theorem fits_lo8 (y : Int32) : fits .byte (.int (lo8 y)) = true := by
  have h1 := y.toInt8.le_toInt
  have h2 := y.toInt8.toInt_lt
  simp only [lo8, fits, Bool.and_eq_true, decide_eq_true_eq, Int32.le_iff_toInt_le, Int8.toInt_toInt32, show (-128 : Int32).toInt = -128 from by decide, show (127 : Int32).toInt = 127 from by decide]
  omega
/-- A' is A but that each place j of lo .. hi - 1 holds f j -/
def Laid (A A' : Cell) (lo hi : Nat) (f : Nat → Value) : Prop := A'.cls = A.cls ∧ A'.vm = A.vm ∧ A'.slots.size = A.slots.size ∧ ∀ i, A'.slots[i]? = if lo ≤ i ∧ i < hi then some (f i) else A.slots[i]?
theorem Laid.zero (A : Cell) (lo : Nat) (f : Nat → Value) : Laid A A lo (lo + 0) f := ⟨rfl, rfl, rfl, fun i => by rw [if_neg (by omega)]⟩
theorem Laid.step {A Ak : Cell} {lo k : Nat} {f : Nat → Value} {v : Value} (h : Laid A Ak lo k f) (hlo : lo ≤ k) (hk : k < Ak.slots.size) (hv : v = f k) : Laid A (Ak.setSlot k v) lo (k + 1) f := by
  refine ⟨h.1, h.2.1, by simpa [Cell.setSlot] using h.2.2.1, fun i => ?_⟩
  by_cases e : k = i
  · subst e; rw [Cell.slots_setSlot_self v hk, if_pos (by omega), hv]
  · rw [Cell.slots_setSlot_ne v e, h.2.2.2 i]
    by_cases q : lo ≤ i ∧ i < k
    · rw [if_pos q, if_pos (by omega)]
    · rw [if_neg q, if_neg (by omega)]
def U16 : String := "java/lang/StringUTF16"
namespace Cmp5
def yN : MethodName := ⟨"java/lang/StringUTF16", "compress", "([CI[BII)I"⟩
abbrev yB : ByteArray := jdk_52_method_21_code
theorem d0 : decode yB 0 = .ok (.iconst 0, 1) := by decide +kernel
theorem d1 : decode yB 1 = .ok (.istore 5, 2) := by decide +kernel
theorem d3 : decode yB 3 = .ok (.iload 5, 2) := by decide +kernel
theorem d5 : decode yB 5 = .ok (.iload 4, 2) := by decide +kernel
theorem d7 : decode yB 7 = .ok (.if_icmp (.ge) 37, 3) := by decide +kernel
theorem d10 : decode yB 10 = .ok (.aload_n 0, 1) := by decide +kernel
theorem d11 : decode yB 11 = .ok (.iload_n 1, 1) := by decide +kernel
theorem d12 : decode yB 12 = .ok (.caload, 1) := by decide +kernel
theorem d13 : decode yB 13 = .ok (.istore 6, 2) := by decide +kernel
theorem d15 : decode yB 15 = .ok (.iload 6, 2) := by decide +kernel
theorem d17 : decode yB 17 = .ok (.sipush 255, 3) := by decide +kernel
theorem d20 : decode yB 20 = .ok (.if_icmp (.le) 6, 3) := by decide +kernel
theorem d26 : decode yB 26 = .ok (.aload_n 2, 1) := by decide +kernel
theorem d27 : decode yB 27 = .ok (.iload_n 3, 1) := by decide +kernel
theorem d28 : decode yB 28 = .ok (.iload 6, 2) := by decide +kernel
theorem d30 : decode yB 30 = .ok (.i2b, 1) := by decide +kernel
theorem d31 : decode yB 31 = .ok (.bastore, 1) := by decide +kernel
theorem d32 : decode yB 32 = .ok (.iinc 1 1, 3) := by decide +kernel
theorem d35 : decode yB 35 = .ok (.iinc 3 1, 3) := by decide +kernel
theorem d38 : decode yB 38 = .ok (.iinc 5 1, 3) := by decide +kernel
theorem d41 : decode yB 41 = .ok (.goto (-38), 3) := by decide +kernel
theorem d44 : decode yB 44 = .ok (.iload 4, 2) := by decide +kernel
theorem d46 : decode yB 46 = .ok (.ireturn, 1) := by decide +kernel
def site : List Cond := []
def tab : Cond := tabOf yN yB 7 (some .int) site
def P (b : Addr) (A : Cell) (d : Addr) (B : Cell) (o q len : Nat) (args : Array Value) (s : State) : Prop := args = #[.ref b, .int (Int32.ofNat o), .ref d, .int (Int32.ofNat q), .int (Int32.ofNat len)] ∧ Ch b A s ∧ Arr .byte d B s ∧ b ≠ d ∧ o + len ≤ A.slots.size ∧ q + len ≤ B.slots.size ∧ ∀ i, i < len → ¬ 255 < cv A (o + i)
def E (b : Addr) (A : Cell) (d : Addr) (B : Cell) (o q len : Nat) (r : Option Value) (s u : State) : Prop := r = some (.int (Int32.ofNat len)) ∧ ∃ B', Put d B' s u ∧ Laid B B' q (q + len) (fun j => Value.int (lo8 (cv A (o + (j - q)))))
/-- no char of the range above 255: len; the places written hold each char's low byte -/
theorem law (l : Launch) (b : Addr) (A : Cell) (d : Addr) (B : Cell) (o q len : Nat) : Law l yN 5 5 0 0 yB 7 (some .int) site (P b A d B o q len) (E b A d B o q len) (copyLocs d q len) 0 0 := by
  refine Law.of_walk (plainFor_of_name (by decide +kernel)) (by decide +kernel) (by decide +kernel) (by decide) (fun _ _ h => by rw [h.1]; rfl) (fun _ U U' hal hh h => ⟨h.1, h.2.1.mv hal hh, h.2.2.1.mv hal hh, h.2.2.2⟩) (fun r U U' V V' h1 hal h2 h => ⟨h.1, h.2.elim fun B' q => ⟨B', q.1.mv h1 h2, q.2⟩⟩) ?_
  intro p e s m args below meth c s₁ X0 hexec hbytes hml hret hlk hnm hown hh0 W hP
  obtain ⟨rfl, hA, hB, hne, l1, l2, hp⟩ := hP
  have c1 : Steps p.tables e below (s₁.setTop (entryFrame m #[.ref b, .int (Int32.ofNat o), .ref d, .int (Int32.ofNat q), .int (Int32.ofNat len)] 7)) (s₁.setTop (mkF m 0 #[.val (.ref b), .val (.int (Int32.ofNat o)), .val (.ref d), .val (.int (Int32.ofNat q)), .val (.int (Int32.ofNat len)), .unset, .unset] [])) := entry rfl
  have hA0 := hA.1.mv X0.warmed.alike hh0
  have hB0 := hB.mv X0.warmed.alike hh0
  have a31 := hA.1.2.2.2
  have c2 : Steps p.tables e below (s₁.setTop (entryFrame m #[.ref b, .int (Int32.ofNat o), .ref d, .int (Int32.ofNat q), .int (Int32.ofNat len)] 7)) (s₁.setTop (mkF m 3 #[.val (.ref b), .val (.int (Int32.ofNat o)), .val (.ref d), .val (.int (Int32.ofNat q)), .val (.int (Int32.ofNat len)), .val (.int 0), .unset] [])) := c1.trans (by
    refine iconstV X0.here hexec rfl 0 (hb hbytes d0) (by decide) ?_
    refine XS.istore X0.here hexec rfl (hb hbytes d1) rfl rfl ?_
    exact Steps.refl _)
  have loop : ∀ (r i : Nat), i + r = len → ∀ (z : Slot), (z = .unset ∨ ∃ w, z = .val w ∧ w.category = 1) → ∀ (Tl : State) (Bk : Cell), Stand p l e { frames := 0, locals := 0, cells := 0, slots := 0 } s m #[.ref b, .int (Int32.ofNat o), .ref d, .int (Int32.ofNat q), .int (Int32.ofNat len)] below meth c Tl ([] ++ copyLocs d q i) 0 0 → Put d Bk s₁ Tl → Laid B Bk q (q + i) (fun j => Value.int (lo8 (cv A (o + (j - q))))) →
      Steps p.tables e below (s₁.setTop (entryFrame m #[.ref b, .int (Int32.ofNat o), .ref d, .int (Int32.ofNat q), .int (Int32.ofNat len)] 7)) (Tl.setTop (mkF m 3 #[.val (.ref b), .val (.int (Int32.ofNat (o + i))), .val (.ref d), .val (.int (Int32.ofNat (q + i))), .val (.int (Int32.ofNat len)), .val (.int (Int32.ofNat i)), z] [])) → ∃ (T' : State) (B' : Cell) (z' : Slot), Stand p l e { frames := 0, locals := 0, cells := 0, slots := 0 } s m #[.ref b, .int (Int32.ofNat o), .ref d, .int (Int32.ofNat q), .int (Int32.ofNat len)] below meth c T' ([] ++ copyLocs d q len) 0 0 ∧ Put d B' s₁ T' ∧ Laid B B' q (q + len) (fun j => Value.int (lo8 (cv A (o + (j - q))))) ∧
      Steps p.tables e below (s₁.setTop (entryFrame m #[.ref b, .int (Int32.ofNat o), .ref d, .int (Int32.ofNat q), .int (Int32.ofNat len)] 7)) (T'.setTop (mkF m 3 #[.val (.ref b), .val (.int (Int32.ofNat (o + len))), .val (.ref d), .val (.int (Int32.ofNat (q + len))), .val (.int (Int32.ofNat len)), .val (.int (Int32.ofNat len)), z'] [])) := by
    intro r
    induction r with
    | zero =>
      intro i hi z hz Tl Bk Xl pl fl cl
      have hil : i = len := by omega
      rw [hil] at Xl fl cl
      exact ⟨Tl, Bk, z, Xl, pl, fl, cl⟩
    | succ r ih =>
      intro i hi z hz Tl Bk Xl pl fl cl
      have all := X0.warmed.alike.symm.trans Xl.warmed.alike
      have hAl := hA0.keep all (pl.other hne hA0.1)
      have hBk := hB0.like all pl.1 fl.1 fl.2.1 fl.2.2.1
      have hlt : q + i < Bk.slots.size := by rw [fl.2.2.1]; omega
      have c3 : Steps p.tables e below (s₁.setTop (entryFrame m #[.ref b, .int (Int32.ofNat o), .ref d, .int (Int32.ofNat q), .int (Int32.ofNat len)] 7)) (Tl.setTop (mkF m 12 #[.val (.ref b), .val (.int (Int32.ofNat (o + i))), .val (.ref d), .val (.int (Int32.ofNat (q + i))), .val (.int (Int32.ofNat len)), .val (.int (Int32.ofNat i)), z] [.int (Int32.ofNat (o + i)), .ref b])) := cl.trans (by
        refine XS.iload Xl.here hexec rfl (hb hbytes d3) rfl ?_
        refine XS.iload Xl.here hexec rfl (hb hbytes d5) rfl ?_
        refine XS.icmpNo Xl.here hexec rfl (hb hbytes d7) rfl (ii_ge_f (lt32 (by omega) (by omega))) ?_
        refine XS.aloadN Xl.here hexec rfl (hb hbytes d10) rfl rfl ?_
        refine XS.iloadN Xl.here hexec rfl (hb hbytes d11) rfl ?_
        exact Steps.refl _)
      have c4 : Steps p.tables e below (s₁.setTop (entryFrame m #[.ref b, .int (Int32.ofNat o), .ref d, .int (Int32.ofNat q), .int (Int32.ofNat len)] 7)) (Tl.setTop (mkF m 13 #[.val (.ref b), .val (.int (Int32.ofNat (o + i))), .val (.ref d), .val (.int (Int32.ofNat (q + i))), .val (.int (Int32.ofNat len)), .val (.int (Int32.ofNat i)), z] [.int (cv A (o + i))])) := c3.trans (by
        refine Xl.aget hexec hAl rfl (hA.get (i := o + i) (by omega)) rfl rfl (hb hbytes d12) ?_
        exact Steps.refl _)
      have c5 : Steps p.tables e below (s₁.setTop (entryFrame m #[.ref b, .int (Int32.ofNat o), .ref d, .int (Int32.ofNat q), .int (Int32.ofNat len)] 7)) (Tl.setTop (mkF m 15 #[.val (.ref b), .val (.int (Int32.ofNat (o + i))), .val (.ref d), .val (.int (Int32.ofNat (q + i))), .val (.int (Int32.ofNat len)), .val (.int (Int32.ofNat i)), .val (.int (cv A (o + i)))] [])) := c4.trans (by
        refine XS.istoreS Xl.here hexec rfl (hb hbytes d13) rfl rfl hz ?_
        exact Steps.refl _)
      have c6 : Steps p.tables e below (s₁.setTop (entryFrame m #[.ref b, .int (Int32.ofNat o), .ref d, .int (Int32.ofNat q), .int (Int32.ofNat len)] 7)) (Tl.setTop (mkF m 31 #[.val (.ref b), .val (.int (Int32.ofNat (o + i))), .val (.ref d), .val (.int (Int32.ofNat (q + i))), .val (.int (Int32.ofNat len)), .val (.int (Int32.ofNat i)), .val (.int (cv A (o + i)))] [.int (lo8 (cv A (o + i))), .int (Int32.ofNat (q + i)), .ref d])) := c5.trans (by
        refine XS.iload Xl.here hexec rfl (hb hbytes d15) rfl ?_
        refine sipushV Xl.here hexec rfl 255 (hb hbytes d17) (by decide) ?_
        refine XS.icmpYes Xl.here hexec rfl (pc0 := 20) rfl (hb hbytes d20) rfl (ii_le_t (hp i (by omega))) (by decide) rfl ?_
        refine XS.aloadN Xl.here hexec rfl (hb hbytes d26) rfl rfl ?_
        refine XS.iloadN Xl.here hexec rfl (hb hbytes d27) rfl ?_
        refine XS.iload Xl.here hexec rfl (hb hbytes d28) rfl ?_
        refine i2b Xl.here hexec rfl (hb hbytes d30) rfl ?_
        exact Steps.refl _)
      obtain ⟨T7, X7, p7, st7⟩ := Xl.aput hexec hBk rfl hlt rfl (fits_lo8 (cv A (o + i))) (g := (mkF m 31 #[.val (.ref b), .val (.int (Int32.ofNat (o + i))), .val (.ref d), .val (.int (Int32.ofNat (q + i))), .val (.int (Int32.ofNat len)), .val (.int (Int32.ofNat i)), .val (.int (cv A (o + i)))] [.int (lo8 (cv A (o + i))), .int (Int32.ofNat (q + i)), .ref d])) rfl (rest := []) rfl (hb hbytes d31)
      have c8 : Steps p.tables e below (s₁.setTop (entryFrame m #[.ref b, .int (Int32.ofNat o), .ref d, .int (Int32.ofNat q), .int (Int32.ofNat len)] 7)) (T7.setTop (mkF m 32 #[.val (.ref b), .val (.int (Int32.ofNat (o + i))), .val (.ref d), .val (.int (Int32.ofNat (q + i))), .val (.int (Int32.ofNat len)), .val (.int (Int32.ofNat i)), .val (.int (cv A (o + i)))] [])) := c6.trans (st7 _ (Steps.refl _))
      have c9 : Steps p.tables e below (s₁.setTop (entryFrame m #[.ref b, .int (Int32.ofNat o), .ref d, .int (Int32.ofNat q), .int (Int32.ofNat len)] 7)) (T7.setTop (mkF m 3 #[.val (.ref b), .val (.int (Int32.ofNat (o + i) + 1)), .val (.ref d), .val (.int (Int32.ofNat (q + i) + 1)), .val (.int (Int32.ofNat len)), .val (.int (Int32.ofNat i + 1)), .val (.int (cv A (o + i)))] [])) := c8.trans (by
        refine iincV X7.here hexec rfl 1 (hb hbytes d32) (by decide) rfl rfl ?_
        refine iincV X7.here hexec rfl 1 (hb hbytes d35) (by decide) rfl rfl ?_
        refine iincV X7.here hexec rfl 1 (hb hbytes d38) (by decide) rfl rfl ?_
        refine XS.goto X7.here hexec rfl (pc0 := 41) rfl (hb hbytes d41) (by decide) rfl ?_
        exact Steps.refl _)
      have c10 : Steps p.tables e below (s₁.setTop (entryFrame m #[.ref b, .int (Int32.ofNat o), .ref d, .int (Int32.ofNat q), .int (Int32.ofNat len)] 7)) (T7.setTop (mkF m 3 #[.val (.ref b), .val (.int (Int32.ofNat (o + (i + 1)))), .val (.ref d), .val (.int (Int32.ofNat (q + (i + 1)))), .val (.int (Int32.ofNat len)), .val (.int (Int32.ofNat (i + 1))), .val (.int (cv A (o + i)))] [])) := by
        have := c9
        rw [succ32, succ32, succ32] at this
        exact this
      exact ih (i + 1) (by omega) _ (Or.inr ⟨_, rfl, rfl⟩) T7 _ (by rw [copyLocs_step, ← List.append_assoc]; exact X7) (pl.trans p7) (fl.step (by omega) hlt (by simp)) c10
  obtain ⟨T9, B9, z9, X9, p9, f9, g9⟩ := loop len 0 (by omega) .unset (Or.inl rfl) s₁ B (by simpa [copyLocs] using X0) ⟨hB0.1, fun _ _ => rfl, rfl⟩ (Laid.zero _ _ _) c2
  have c11 : Steps p.tables e below (s₁.setTop (entryFrame m #[.ref b, .int (Int32.ofNat o), .ref d, .int (Int32.ofNat q), .int (Int32.ofNat len)] 7)) (T9.setTop (mkF m 46 #[.val (.ref b), .val (.int (Int32.ofNat (o + len))), .val (.ref d), .val (.int (Int32.ofNat (q + len))), .val (.int (Int32.ofNat len)), .val (.int (Int32.ofNat len)), z9] [.int (Int32.ofNat len)])) := g9.trans (by
    refine XS.iload X9.here hexec rfl (hb hbytes d3) rfl ?_
    refine XS.iload X9.here hexec rfl (hb hbytes d5) rfl ?_
    refine XS.icmpYes X9.here hexec rfl (pc0 := 7) rfl (hb hbytes d7) rfl (ii_ge_t (nlt32 (by omega) (Nat.le_refl _))) (by decide) rfl ?_
    refine XS.iload X9.here hexec rfl (hb hbytes d44) rfl ?_
    exact Steps.refl _)
  exact ⟨T9, some (.int (Int32.ofNat len)), _, _, _, X9, by simp, rfl, rfl, (fun h => by cases h), ⟨rfl, B9, p9.from hh0, f9⟩, fun fs hl => c11.trans (X9.ireturnOut hexec hret rfl (Or.inl rfl) (hb hbytes d46) hl)⟩
end Cmp5
namespace Cmp3
def yN : MethodName := ⟨"java/lang/StringUTF16", "compress", "([CII)[B"⟩
abbrev yB : ByteArray := jdk_52_method_16_code
theorem d0 : decode yB 0 = .ok (.iload_n 2, 1) := by decide +kernel
theorem d1 : decode yB 1 = .ok (.newarray .byte, 2) := by decide +kernel
theorem d3 : decode yB 3 = .ok (.astore_n 3, 1) := by decide +kernel
theorem d4 : decode yB 4 = .ok (.aload_n 0, 1) := by decide +kernel
theorem d5 : decode yB 5 = .ok (.iload_n 1, 1) := by decide +kernel
theorem d6 : decode yB 6 = .ok (.aload_n 3, 1) := by decide +kernel
theorem d7 : decode yB 7 = .ok (.iconst 0, 1) := by decide +kernel
theorem d8 : decode yB 8 = .ok (.iload_n 2, 1) := by decide +kernel
theorem d9 : decode yB 9 = .ok (.invokestatic 115, 3) := by decide +kernel
theorem d12 : decode yB 12 = .ok (.istore 4, 2) := by decide +kernel
theorem d14 : decode yB 14 = .ok (.iload 4, 2) := by decide +kernel
theorem d16 : decode yB 16 = .ok (.iload_n 2, 1) := by decide +kernel
theorem d17 : decode yB 17 = .ok (.if_icmp (.eq) 40, 3) := by decide +kernel
theorem d57 : decode yB 57 = .ok (.aload_n 3, 1) := by decide +kernel
theorem d58 : decode yB 58 = .ok (.areturn, 1) := by decide +kernel
def site : List Cond := [.arrayClass .byte, Cmp5.tab] ++ staticW U16 115 Cmp5.yN
def tab : Cond := tabOf yN yB 6 (some (.array .byte)) site
def P (b : Addr) (A : Cell) (o len : Nat) (args : Array Value) (s : State) : Prop := args = #[.ref b, .int (Int32.ofNat o), .int (Int32.ofNat len)] ∧ Ch b A s ∧ o + len ≤ A.slots.size ∧ len ≤ 536870912 ∧ ∀ i, i < len → ¬ 255 < cv A (o + i)
def E (b : Addr) (A : Cell) (o len : Nat) (r : Option Value) (s u : State) : Prop := NewArr .byte "[B" len (fun j => .int (lo8 (cv A (o + j)))) r s u ∧ u.heap.size = s.heap.size + 1
/-- no char of the range above 255: a new byte[] of their low bytes -/
theorem law (l : Launch) (b : Addr) (A : Cell) (o len : Nat) : Law l yN 3 3 1 18 yB 6 (some (.array .byte)) site (P b A o len) (E b A o len) [] 1 len := by
  refine Law.of_walk (plainFor_of_name (by decide +kernel)) (by decide +kernel) (by decide +kernel) (by decide) (fun _ _ h => by rw [h.1]; rfl) (fun _ U U' hal hh h => ⟨h.1, h.2.1.mv hal hh, h.2.2⟩) (fun r U U' V V' h1 hal h2 h => ⟨NewArr.mv r U U' V V' h1 hal h2 h.1, by rw [h1, h2]; exact h.2⟩) ?_
  intro p e s m args below meth c s₁ X0 hexec hbytes hml hret hlk hnm hown hh0 W hP
  obtain ⟨rfl, hA, l1, l2, hp⟩ := hP
  have a31 := hA.1.2.2.2
  have c1 : Steps p.tables e below (s₁.setTop (entryFrame m #[.ref b, .int (Int32.ofNat o), .int (Int32.ofNat len)] 6)) (s₁.setTop (mkF m 0 #[.val (.ref b), .val (.int (Int32.ofNat o)), .val (.int (Int32.ofNat len)), .unset, .unset, .unset] [])) := entry rfl
  have c2 : Steps p.tables e below (s₁.setTop (entryFrame m #[.ref b, .int (Int32.ofNat o), .int (Int32.ofNat len)] 6)) (s₁.setTop (mkF m 1 #[.val (.ref b), .val (.int (Int32.ofNat o)), .val (.int (Int32.ofNat len)), .unset, .unset, .unset] [.int (Int32.ofNat len)])) := c1.trans (by
    refine XS.iloadN X0.here hexec rfl (hb hbytes d0) rfl ?_
    exact Steps.refl _)
  obtain ⟨T3, B3, X3, ba3, bs3, bv3, bh3, bf3, st3⟩ := X0.anew hexec (atype := .byte) (wk W (.arrayClass .byte)) rfl (by show len * 1 ≤ _; omega) (by omega) (g := (mkF m 1 #[.val (.ref b), .val (.int (Int32.ofNat o)), .val (.int (Int32.ofNat len)), .unset, .unset, .unset] [.int (Int32.ofNat len)])) rfl (hb hbytes d1) (rest := []) rfl (Nat.le_refl _) (by show 0 + len ≤ len; omega)
  rw [hh0] at ba3 st3
  have kp3 : XT.Kept s T3 := (XT.Kept.of_eq hh0).push bh3
  have hA3 := hA.keep X3.warmed.alike (kp3 _ _ hA.1.1)
  have hne : b ≠ s.heap.size := hA.1.ne
  have c4 : Steps p.tables e below (s₁.setTop (entryFrame m #[.ref b, .int (Int32.ofNat o), .int (Int32.ofNat len)] 6)) (T3.setTop (mkF m 3 #[.val (.ref b), .val (.int (Int32.ofNat o)), .val (.int (Int32.ofNat len)), .unset, .unset, .unset] [.ref s.heap.size])) := c2.trans (st3 _ (Steps.refl _))
  have c5 : Steps p.tables e below (s₁.setTop (entryFrame m #[.ref b, .int (Int32.ofNat o), .int (Int32.ofNat len)] 6)) (T3.setTop (mkF m 9 #[.val (.ref b), .val (.int (Int32.ofNat o)), .val (.int (Int32.ofNat len)), .val (.ref s.heap.size), .unset, .unset] [.int (Int32.ofNat len), .int 0, .ref s.heap.size, .int (Int32.ofNat o), .ref b])) := c4.trans (by
    refine XS.astoreN X3.here hexec rfl (hb hbytes d3) rfl rfl rfl ?_
    refine XS.aloadN X3.here hexec rfl (hb hbytes d4) rfl rfl ?_
    refine XS.iloadN X3.here hexec rfl (hb hbytes d5) rfl ?_
    refine XS.aloadN X3.here hexec rfl (hb hbytes d6) rfl rfl ?_
    refine iconstV X3.here hexec rfl 0 (hb hbytes d7) (by decide) ?_
    refine XS.iloadN X3.here hexec rfl (hb hbytes d8) rfl ?_
    exact Steps.refl _)
  obtain ⟨v6, T6, X6, E6, g6⟩ := X3.callS hexec (Cmp5.law l b A s.heap.size B3 o 0 len) hown (wks W (staticW U16 115 Cmp5.yN)) (wk W Cmp5.tab) (W := 0) (Nat.le_of_ble_eq_true rfl) (Nat.le_of_ble_eq_true rfl) (Nat.le_refl _) (by show 0 + len + 0 ≤ len; omega) (g := (mkF m 9 #[.val (.ref b), .val (.int (Int32.ofNat o)), .val (.int (Int32.ofNat len)), .val (.ref s.heap.size), .unset, .unset] [.int (Int32.ofNat len), .int (Int32.ofNat 0), .ref s.heap.size, .int (Int32.ofNat o), .ref b])) rfl (by rw [hml]; rfl) c5 (argsL := [.ref b, .int (Int32.ofNat o), .ref s.heap.size, .int (Int32.ofNat 0), .int (Int32.ofNat len)]) (rest := []) rfl rfl (by show 2 * 0 + 0 ≤ _; decide) (hb hbytes d9) (⟨rfl, hA3, ba3, hne, l1, by rw [bs3]; simp, hp⟩)
  obtain ⟨rfl, B6, p6, f6⟩ := E6
  have c7 : Steps p.tables e below (s₁.setTop (entryFrame m #[.ref b, .int (Int32.ofNat o), .int (Int32.ofNat len)] 6)) (T6.setTop (mkF m 12 #[.val (.ref b), .val (.int (Int32.ofNat o)), .val (.int (Int32.ofNat len)), .val (.ref s.heap.size), .unset, .unset] [.int (Int32.ofNat len)])) := g6
  have c8 : Steps p.tables e below (s₁.setTop (entryFrame m #[.ref b, .int (Int32.ofNat o), .int (Int32.ofNat len)] 6)) (T6.setTop (mkF m 58 #[.val (.ref b), .val (.int (Int32.ofNat o)), .val (.int (Int32.ofNat len)), .val (.ref s.heap.size), .val (.int (Int32.ofNat len)), .unset] [.ref s.heap.size])) := c7.trans (by
    refine XS.istore X6.here hexec rfl (hb hbytes d12) rfl rfl ?_
    refine XS.iload X6.here hexec rfl (hb hbytes d14) rfl ?_
    refine XS.iloadN X6.here hexec rfl (hb hbytes d16) rfl ?_
    refine XS.icmpYes X6.here hexec rfl (pc0 := 17) rfl (hb hbytes d17) rfl (ii_eq_t rfl) (by decide) rfl ?_
    refine XS.aloadN X6.here hexec rfl (hb hbytes d57) rfl rfl ?_
    exact Steps.refl _)
  have X8 := X6.wide (L' := []) (cells' := 1) (slots' := len) (fun x hx hlt => by
    simp only [List.nil_append, copyLocs, List.mem_map, List.mem_range] at hx
    obtain ⟨i, -, rfl⟩ := hx
    exact absurd hlt (Nat.lt_irrefl _)) (Nat.le_refl _) (by omega)
  exact ⟨T6, some (.ref s.heap.size), _, _, _, X8, rfl, rfl, rfl, (fun h => by cases h), ⟨⟨rfl, B6, ba3.like (X3.warmed.alike.symm.trans X6.warmed.alike) p6.1 f6.1 f6.2.1 f6.2.2.1, f6.2.1.trans bv3, by rw [X6.warmed.alike.findClass, f6.1]; exact bf3, by rw [f6.2.2.1, bs3]; simp, fun j hj => by rw [f6.2.2.2 j, if_pos (by omega)]; rfl, kp3.put p6 (Nat.le_refl _)⟩, by rw [p6.2.2, bh3, hh0]; simp⟩, fun fs hl => c8.trans (X8.areturnOut hexec rfl hret rfl (hb hbytes d58) hl)⟩
end Cmp3
namespace CodL
def yN : MethodName := ⟨"java/lang/StringUTF16", "coderFromArrayLen", "([BI)B"⟩
abbrev yB : ByteArray := jdk_52_method_15_code
theorem d0 : decode yB 0 = .ok (.iload_n 1, 1) := by decide +kernel
theorem d1 : decode yB 1 = .ok (.aload_n 0, 1) := by decide +kernel
theorem d2 : decode yB 2 = .ok (.arraylength, 1) := by decide +kernel
theorem d3 : decode yB 3 = .ok (.isub, 1) := by decide +kernel
theorem d4 : decode yB 4 = .ok (.bipush 31, 2) := by decide +kernel
theorem d6 : decode yB 6 = .ok (.iushr, 1) := by decide +kernel
theorem d7 : decode yB 7 = .ok (.i2b, 1) := by decide +kernel
theorem d8 : decode yB 8 = .ok (.ireturn, 1) := by decide +kernel
def site : List Cond := []
def tab : Cond := tabOf yN yB 2 (some .byte) site
def P (d : Addr) (B : Cell) (args : Array Value) (s : State) : Prop := args = #[.ref d, .int (Int32.ofNat B.slots.size)] ∧ Arr .byte d B s
def E (r : Option Value) (s u : State) : Prop := XT.PureE (some (.int 0)) r s u
/-- an array as long as the number of chars: LATIN1 -/
theorem law (l : Launch) (d : Addr) (B : Cell) : Law l yN 2 2 0 0 yB 2 (some .byte) site (P d B) E [] 0 0 := by
  refine Law.of_walk (plainFor_of_name (by decide +kernel)) (by decide +kernel) (by decide +kernel) (by decide) (fun _ _ h => by rw [h.1]; rfl) (fun _ U U' hal hh h => ⟨h.1, h.2.mv hal hh⟩) (fun r U U' V V' h1 hal h2 h => XT.PureE.mv r U U' V V' h1 hal h2 h) ?_
  intro p e s m args below meth c s₁ X0 hexec hbytes hml hret hlk hnm hown hh0 W hP
  obtain ⟨rfl, hB⟩ := hP
  have hB0 := hB.mv X0.warmed.alike hh0
  have c1 : Steps p.tables e below (s₁.setTop (entryFrame m #[.ref d, .int (Int32.ofNat B.slots.size)] 2)) (s₁.setTop (mkF m 0 #[.val (.ref d), .val (.int (Int32.ofNat B.slots.size))] [])) := entry rfl
  have c2 : Steps p.tables e below (s₁.setTop (entryFrame m #[.ref d, .int (Int32.ofNat B.slots.size)] 2)) (s₁.setTop (mkF m 2 #[.val (.ref d), .val (.int (Int32.ofNat B.slots.size))] [.ref d, .int (Int32.ofNat B.slots.size)])) := c1.trans (by
    refine XS.iloadN X0.here hexec rfl (hb hbytes d0) rfl ?_
    refine XS.aloadN X0.here hexec rfl (hb hbytes d1) rfl rfl ?_
    exact Steps.refl _)
  have c3 : Steps p.tables e below (s₁.setTop (entryFrame m #[.ref d, .int (Int32.ofNat B.slots.size)] 2)) (s₁.setTop (mkF m 8 #[.val (.ref d), .val (.int (Int32.ofNat B.slots.size))] [.int (lo8 (ushr (Int32.ofNat B.slots.size - Int32.ofNat B.slots.size) 31))])) := c2.trans (by
    refine X0.alen hexec hB0 rfl rfl (hb hbytes d2) ?_
    refine XS.isub X0.here hexec rfl (hb hbytes d3) rfl ?_
    refine bipushV X0.here hexec rfl 31 (hb hbytes d4) (by decide) ?_
    refine iushr X0.here hexec rfl (hb hbytes d6) rfl ?_
    refine i2b X0.here hexec rfl (hb hbytes d7) rfl ?_
    exact Steps.refl _)
  have e0 : lo8 (ushr (Int32.ofNat B.slots.size - Int32.ofNat B.slots.size) 31) = 0 := by rw [Int32.sub_self]; decide
  rw [e0] at c3
  exact ⟨s₁, some (.int 0), _, _, _, X0, rfl, rfl, rfl, (fun h => by cases h), ⟨rfl, hh0⟩, fun fs hl => c3.trans (X0.ireturnOut hexec hret rfl (Or.inr (Or.inr (Or.inl rfl))) (hb hbytes d8) hl)⟩
end CodL
/-- the String at a is Latin-1 over a new byte[] (the heap's one new cell): the low bytes of the len chars of A from o on; every cell but a is kept -/
def Got (a : Addr) (D : Cell) (fV fC : Field) (A : Cell) (o len : Nat) (r : Option Value) (s u : State) : Prop := r = none ∧ ∃ D' V : Cell, Blank "java/lang/String" a D' u ∧ Same D D' [fV.slot, fC.slot] ∧ D'.slots[fV.slot]? = some (.ref s.heap.size) ∧ D'.slots[fC.slot]? = some (.int 0) ∧ Arr .byte s.heap.size V u ∧ V.vm = .none ∧ u.vm.findClass "[B" = some V.cls ∧ V.slots.size = len ∧ (∀ j, j < len → V.slots[j]? = some (.int (lo8 (cv A (o + j))))) ∧ (∀ (y : Addr) (c : Cell), y ≠ a → s.heap[y]? = some c → u.heap[y]? = some c) ∧ u.heap.size = s.heap.size + 1
theorem Got.mv {a : Addr} {D A : Cell} {fV fC : Field} {o len : Nat} : ∀ r (U U' V V' : State), U'.heap = U.heap → V.vm.Alike V'.vm → V'.heap = V.heap → Got a D fV fC A o len r U V → Got a D fV fC A o len r U' V' :=
  fun r U U' V V' h1 hal h2 ⟨e0, D', X, a1, a2, a3, a4, a5, a6, a7, a8, a9, a10, a11⟩ => ⟨e0, D', X, a1.mv hal h2, a2, by rw [h1]; exact a3, a4, by rw [h1]; exact a5.mv hal h2, a6, by rw [hal.findClass]; exact a7, a8, a9, by rw [h1, h2]; exact a10, by rw [h1, h2]; exact a11⟩
namespace New4
def yN : MethodName := ⟨"java/lang/String", "<init>", "([CIILjava/lang/Void;)V"⟩
abbrev yB : ByteArray := jdk_42_method_149_code
theorem d0 : decode yB 0 = .ok (.aload_n 0, 1) := by decide +kernel
theorem d1 : decode yB 1 = .ok (.invokespecial 1, 3) := by decide +kernel
theorem d4 : decode yB 4 = .ok (.iload_n 3, 1) := by decide +kernel
theorem d5 : decode yB 5 = .ok (.ifCond (.ne) 22, 3) := by decide +kernel
theorem d27 : decode yB 27 = .ok (.getstatic 38, 3) := by decide +kernel
theorem d30 : decode yB 30 = .ok (.ifCond (.eq) 28, 3) := by decide +kernel
theorem d33 : decode yB 33 = .ok (.aload_n 1, 1) := by decide +kernel
theorem d34 : decode yB 34 = .ok (.iload_n 2, 1) := by decide +kernel
theorem d35 : decode yB 35 = .ok (.iload_n 3, 1) := by decide +kernel
theorem d36 : decode yB 36 = .ok (.invokestatic 177, 3) := by decide +kernel
theorem d39 : decode yB 39 = .ok (.astore 5, 2) := by decide +kernel
theorem d41 : decode yB 41 = .ok (.aload_n 0, 1) := by decide +kernel
theorem d42 : decode yB 42 = .ok (.aload 5, 2) := by decide +kernel
theorem d44 : decode yB 44 = .ok (.iload_n 3, 1) := by decide +kernel
theorem d45 : decode yB 45 = .ok (.invokestatic 47, 3) := by decide +kernel
theorem d48 : decode yB 48 = .ok (.putfield 15, 3) := by decide +kernel
theorem d51 : decode yB 51 = .ok (.aload_n 0, 1) := by decide +kernel
theorem d52 : decode yB 52 = .ok (.aload 5, 2) := by decide +kernel
theorem d54 : decode yB 54 = .ok (.putfield 9, 3) := by decide +kernel
theorem d57 : decode yB 57 = .ok (.return_, 1) := by decide +kernel
def site : List Cond := [.fieldLink "java/lang/String" 38 "java/lang/String" "COMPACT_STRINGS" "Z", Cmp3.tab, CodL.tab, .laysFinal "java/lang/String" "java/lang/String" "value" "[B", .fieldLink "java/lang/String" 9 "java/lang/String" "value" "[B", .laysFinal "java/lang/String" "java/lang/String" "coder" "B", .fieldLink "java/lang/String" 15 "java/lang/String" "coder" "B"] ++ objW "java/lang/String" 1 ++ staticW "java/lang/String" 177 Cmp3.yN ++ staticW "java/lang/String" 47 CodL.yN
def tab : Cond := tabOf yN yB 6 none site
def P (a : Addr) (D : Cell) (fV fC : Field) (b : Addr) (A : Cell) (z : Int32) (o len : Nat) (args : Array Value) (s : State) : Prop := args = #[.ref a, .ref b, .int (Int32.ofNat o), .int (Int32.ofNat len), .null] ∧ Blank "java/lang/String" a D s ∧ Found "java/lang/String" "value" "[B" fV s ∧ Found "java/lang/String" "coder" "B" fC s ∧ Ch b A s ∧ StaticIs s "java/lang/String" "COMPACT_STRINGS" "Z" (.int z) ∧ ¬ z = 0 ∧ 0 < len ∧ o + len ≤ A.slots.size ∧ len ≤ 536870912 ∧ ∀ i, i < len → ¬ 255 < cv A (o + i)
def E (a : Addr) (D : Cell) (fV fC : Field) (A : Cell) (o len : Nat) (r : Option Value) (s u : State) : Prop := Got a D fV fC A o len r s u
/-- len > 0, no char of the range above 255: a Latin-1 String of their low bytes -/
theorem law (l : Launch) (a : Addr) (D : Cell) (fV fC : Field) (b : Addr) (A : Cell) (z : Int32) (o len : Nat) : Law l yN 5 4 2 35 yB 6 none site (P a D fV fC b A z o len) (E a D fV fC A o len) [⟨a, fC.slot⟩, ⟨a, fV.slot⟩] 1 len := by
  refine Law.of_walk (plainFor_of_name (by decide +kernel)) (by decide +kernel) (by decide +kernel) (by decide) (fun _ _ h => by rw [h.1]; rfl) (fun _ U U' hal hh h => ⟨h.1, h.2.1.mv hal hh, h.2.2.1.al hal, h.2.2.2.1.al hal, h.2.2.2.2.1.mv hal hh, h.2.2.2.2.2.1.there hal hh, h.2.2.2.2.2.2⟩) (fun r U U' V V' h1 hal h2 h => Got.mv r U U' V V' h1 hal h2 h) ?_
  intro p e s m args below meth c s₁ X0 hexec hbytes hml hret hlk hnm hown hh0 W hP
  obtain ⟨rfl, hB, f1, f2, hA, s1, hz, l0, l1, l2, hp⟩ := hP
  have a31 := hA.1.2.2.2
  have c1 : Steps p.tables e below (s₁.setTop (entryFrame m #[.ref a, .ref b, .int (Int32.ofNat o), .int (Int32.ofNat len), .null] 6)) (s₁.setTop (mkF m 0 #[.val (.ref a), .val (.ref b), .val (.int (Int32.ofNat o)), .val (.int (Int32.ofNat len)), .val .null, .unset] [])) := entry rfl
  have c2 : Steps p.tables e below (s₁.setTop (entryFrame m #[.ref a, .ref b, .int (Int32.ofNat o), .int (Int32.ofNat len), .null] 6)) (s₁.setTop (mkF m 1 #[.val (.ref a), .val (.ref b), .val (.int (Int32.ofNat o)), .val (.int (Int32.ofNat len)), .val .null, .unset] [.ref a])) := c1.trans (by
    refine XS.aloadN X0.here hexec rfl (hb hbytes d0) rfl rfl ?_
    exact Steps.refl _)
  obtain ⟨T3, X3, q3, st3⟩ := X0.oinit hexec hown (wks W (objW "java/lang/String" 1)) (g := (mkF m 1 #[.val (.ref a), .val (.ref b), .val (.int (Int32.ofNat o)), .val (.int (Int32.ofNat len)), .val .null, .unset] [.ref a])) rfl (by rw [hml]; rfl) (rest := []) rfl (hb hbytes d1) (W := 0) (by show 2 * 0 + 0 ≤ _; decide) (Nat.le_of_ble_eq_true rfl) (Nat.le_of_ble_eq_true rfl)
  have hh3 := q3.trans hh0
  have c4 : Steps p.tables e below (s₁.setTop (entryFrame m #[.ref a, .ref b, .int (Int32.ofNat o), .int (Int32.ofNat len), .null] 6)) (T3.setTop (mkF m 27 #[.val (.ref a), .val (.ref b), .val (.int (Int32.ofNat o)), .val (.int (Int32.ofNat len)), .val .null, .unset] [])) := (c2.trans (st3 _ (Steps.refl _))).trans (by
    refine XS.iloadN X3.here hexec rfl (hb hbytes d4) rfl ?_
    refine XS.ifYes X3.here hexec rfl (pc0 := 5) rfl (hb hbytes d5) rfl (i0_ne_t (nz32 (by omega) l0)) (by decide) rfl ?_
    exact Steps.refl _)
  obtain ⟨T5, X5, q5, st5⟩ := X3.sget hexec hown (wk W (.fieldLink "java/lang/String" 38 "java/lang/String" "COMPACT_STRINGS" "Z")) s1 (fun _ _ h => by rw [hh3]; exact h) (g := (mkF m 27 #[.val (.ref a), .val (.ref b), .val (.int (Int32.ofNat o)), .val (.int (Int32.ofNat len)), .val .null, .unset] [])) rfl (hb hbytes d27)
  have hh5 := q5.trans hh3
  have c6 : Steps p.tables e below (s₁.setTop (entryFrame m #[.ref a, .ref b, .int (Int32.ofNat o), .int (Int32.ofNat len), .null] 6)) (T5.setTop (mkF m 30 #[.val (.ref a), .val (.ref b), .val (.int (Int32.ofNat o)), .val (.int (Int32.ofNat len)), .val .null, .unset] [.int z])) := c4.trans (st5 _ (Steps.refl _))
  have c7 : Steps p.tables e below (s₁.setTop (entryFrame m #[.ref a, .ref b, .int (Int32.ofNat o), .int (Int32.ofNat len), .null] 6)) (T5.setTop (mkF m 36 #[.val (.ref a), .val (.ref b), .val (.int (Int32.ofNat o)), .val (.int (Int32.ofNat len)), .val .null, .unset] [.int (Int32.ofNat len), .int (Int32.ofNat o), .ref b])) := c6.trans (by
    refine XS.ifNo X5.here hexec rfl (hb hbytes d30) rfl (i0_eq_f hz) ?_
    refine XS.aloadN X5.here hexec rfl (hb hbytes d33) rfl rfl ?_
    refine XS.iloadN X5.here hexec rfl (hb hbytes d34) rfl ?_
    refine XS.iloadN X5.here hexec rfl (hb hbytes d35) rfl ?_
    exact Steps.refl _)
  obtain ⟨v8, T8, X8, E8, g8⟩ := X5.callS hexec (Cmp3.law l b A o len) hown (wks W (staticW "java/lang/String" 177 Cmp3.yN)) (wk W Cmp3.tab) (W := 0) (Nat.le_of_ble_eq_true rfl) (Nat.le_of_ble_eq_true rfl) (Nat.le_refl _) (by show 0 + len ≤ len; omega) (g := (mkF m 36 #[.val (.ref a), .val (.ref b), .val (.int (Int32.ofNat o)), .val (.int (Int32.ofNat len)), .val .null, .unset] [.int (Int32.ofNat len), .int (Int32.ofNat o), .ref b])) rfl (by rw [hml]; rfl) c7 (argsL := [.ref b, .int (Int32.ofNat o), .int (Int32.ofNat len)]) (rest := []) rfl rfl (by show 2 * 0 + 0 ≤ _; decide) (hb hbytes d36) (⟨rfl, hA.mv X5.warmed.alike hh5, l1, l2, hp⟩)
  obtain ⟨e8, z8⟩ := E8
  obtain ⟨rfl, N, n1, n2, n3, n4, n5, n6⟩ := NewArr.mv _ T5 s _ _ hh5.symm (Vm.Alike.refl _) rfl e8
  rw [hh5] at z8
  have hB1 := hB.keep X8.warmed.alike (n6 _ _ hB.1)
  have hne : s.heap.size ≠ a := (Nat.ne_of_lt (Array.getElem?_eq_some_iff.mp hB.1).1).symm
  have c9 : Steps p.tables e below (s₁.setTop (entryFrame m #[.ref a, .ref b, .int (Int32.ofNat o), .int (Int32.ofNat len), .null] 6)) (T8.setTop (mkF m 39 #[.val (.ref a), .val (.ref b), .val (.int (Int32.ofNat o)), .val (.int (Int32.ofNat len)), .val .null, .unset] [.ref s.heap.size])) := g8
  have c10 : Steps p.tables e below (s₁.setTop (entryFrame m #[.ref a, .ref b, .int (Int32.ofNat o), .int (Int32.ofNat len), .null] 6)) (T8.setTop (mkF m 45 #[.val (.ref a), .val (.ref b), .val (.int (Int32.ofNat o)), .val (.int (Int32.ofNat len)), .val .null, .val (.ref s.heap.size)] [.int (Int32.ofNat N.slots.size), .ref s.heap.size, .ref a])) := by
    have hc : Steps p.tables e below (s₁.setTop (entryFrame m #[.ref a, .ref b, .int (Int32.ofNat o), .int (Int32.ofNat len), .null] 6)) (T8.setTop (mkF m 45 #[.val (.ref a), .val (.ref b), .val (.int (Int32.ofNat o)), .val (.int (Int32.ofNat len)), .val .null, .val (.ref s.heap.size)] [.int (Int32.ofNat len), .ref s.heap.size, .ref a])) := c9.trans (by
      refine XS.astore X8.here hexec rfl (hb hbytes d39) rfl rfl rfl ?_
      refine XS.aloadN X8.here hexec rfl (hb hbytes d41) rfl rfl ?_
      refine XS.aload X8.here hexec rfl (hb hbytes d42) rfl rfl ?_
      refine XS.iloadN X8.here hexec rfl (hb hbytes d44) rfl ?_
      exact Steps.refl _)
    rw [n4]; exact hc
  obtain ⟨v11, T11, X11, E11, g11⟩ := X8.callS hexec (CodL.law l s.heap.size N) hown (wks W (staticW "java/lang/String" 47 CodL.yN)) (wk W CodL.tab) (W := 1) (Nat.le_of_ble_eq_true rfl) (Nat.le_of_ble_eq_true rfl) (Nat.le_refl _) (by show 0 + len + 0 ≤ len; omega) (g := (mkF m 45 #[.val (.ref a), .val (.ref b), .val (.int (Int32.ofNat o)), .val (.int (Int32.ofNat len)), .val .null, .val (.ref s.heap.size)] [.int (Int32.ofNat N.slots.size), .ref s.heap.size, .ref a])) rfl (by rw [hml]; rfl) c10 (argsL := [.ref s.heap.size, .int (Int32.ofNat N.slots.size)]) (rest := [.ref a]) rfl rfl (by show 2 * 0 + (1 + 0) ≤ _; decide) (hb hbytes d45) (⟨rfl, n1⟩)
  obtain ⟨rfl, q11⟩ := E11
  have hB11 := hB1.mv (X8.warmed.alike.symm.trans X11.warmed.alike) q11
  have c12 : Steps p.tables e below (s₁.setTop (entryFrame m #[.ref a, .ref b, .int (Int32.ofNat o), .int (Int32.ofNat len), .null] 6)) (T11.setTop (mkF m 48 #[.val (.ref a), .val (.ref b), .val (.int (Int32.ofNat o)), .val (.int (Int32.ofNat len)), .val .null, .val (.ref s.heap.size)] [.int 0, .ref a])) := g11
  obtain ⟨T13, X13, p13, bl13, sl13, st13⟩ := X11.finit hexec hown (wk W (.fieldLink "java/lang/String" 15 "java/lang/String" "coder" "B")) (Or.inr ⟨_, (wk W (.laysFinal "java/lang/String" "java/lang/String" "coder" "B"))⟩) (Or.inl ⟨rfl, hnm⟩) f2 (Or.inl rfl) hB11 (t := .byte) (by decide +kernel) rfl (g := (mkF m 48 #[.val (.ref a), .val (.ref b), .val (.int (Int32.ofNat o)), .val (.int (Int32.ofNat len)), .val .null, .val (.ref s.heap.size)] [.int 0, .ref a])) rfl (rest := []) rfl (hb hbytes d48)
  have c14 : Steps p.tables e below (s₁.setTop (entryFrame m #[.ref a, .ref b, .int (Int32.ofNat o), .int (Int32.ofNat len), .null] 6)) (T13.setTop (mkF m 54 #[.val (.ref a), .val (.ref b), .val (.int (Int32.ofNat o)), .val (.int (Int32.ofNat len)), .val .null, .val (.ref s.heap.size)] [.ref s.heap.size, .ref a])) := (c12.trans (st13 _ (Steps.refl _))).trans (by
    refine XS.aloadN X13.here hexec rfl (hb hbytes d51) rfl rfl ?_
    refine XS.aload X13.here hexec rfl (hb hbytes d52) rfl rfl ?_
    exact Steps.refl _)
  obtain ⟨T15, X15, p15, bl15, sl15, st15⟩ := X13.finit hexec hown (wk W (.fieldLink "java/lang/String" 9 "java/lang/String" "value" "[B")) (Or.inr ⟨_, (wk W (.laysFinal "java/lang/String" "java/lang/String" "value" "[B"))⟩) (Or.inl ⟨rfl, hnm⟩) f1 (Or.inl rfl) bl13 (t := (.array .byte)) (by decide +kernel) rfl (g := (mkF m 54 #[.val (.ref a), .val (.ref b), .val (.int (Int32.ofNat o)), .val (.int (Int32.ofNat len)), .val .null, .val (.ref s.heap.size)] [.ref s.heap.size, .ref a])) rfl (rest := []) rfl (hb hbytes d54)
  have c16 : Steps p.tables e below (s₁.setTop (entryFrame m #[.ref a, .ref b, .int (Int32.ofNat o), .int (Int32.ofNat len), .null] 6)) (T15.setTop (mkF m 57 #[.val (.ref a), .val (.ref b), .val (.int (Int32.ofNat o)), .val (.int (Int32.ofNat len)), .val .null, .val (.ref s.heap.size)] [])) := c14.trans (st15 _ (Steps.refl _))
  have ap := apart (Or.inr ⟨_, (wk W (.laysFinal "java/lang/String" "java/lang/String" "value" "[B"))⟩) (Or.inr ⟨_, (wk W (.laysFinal "java/lang/String" "java/lang/String" "coder" "B"))⟩) f1 f2 (t₁ := .array .byte) (t₂ := .byte) (by decide +kernel) (by decide +kernel) (by decide)
  have al := X8.warmed.alike.symm.trans X15.warmed.alike
  have n7 : T11.heap[s.heap.size]? = some N := by rw [q11]; exact n1.1
  exact ⟨T15, none, _, _, _, X15, by simp, rfl, by omega, (fun _ => rfl), ⟨rfl, _, N, bl15, ((Same.refl D _).set _ (by simp)).set _ (by simp), sl15, (Cell.slots_setSlot_ne _ ap).trans sl13, n1.keep al (p15.other hne (p13.other hne n7)), n2, by rw [al.findClass]; exact n3, n4, n5, fun y c h1 h2 => p15.other h1 (p13.other h1 (by rw [q11]; exact n6 y c h2)), by rw [p15.2.2, p13.2.2, q11]; exact z8⟩, fun fs hl => c16.trans (X15.returnOut hexec hret (hb hbytes d57) hl)⟩
end New4
namespace New1
def yN : MethodName := ⟨"java/lang/String", "<init>", "([C)V"⟩
abbrev yB : ByteArray := jdk_42_method_3_code
theorem d0 : decode yB 0 = .ok (.aload_n 0, 1) := by decide +kernel
theorem d1 : decode yB 1 = .ok (.aload_n 1, 1) := by decide +kernel
theorem d2 : decode yB 2 = .ok (.iconst 0, 1) := by decide +kernel
theorem d3 : decode yB 3 = .ok (.aload_n 1, 1) := by decide +kernel
theorem d4 : decode yB 4 = .ok (.arraylength, 1) := by decide +kernel
theorem d5 : decode yB 5 = .ok (.aconst_null, 1) := by decide +kernel
theorem d6 : decode yB 6 = .ok (.invokespecial 27, 3) := by decide +kernel
theorem d9 : decode yB 9 = .ok (.return_, 1) := by decide +kernel
def site : List Cond := [New4.tab] ++ initW "java/lang/String" 27 New4.yN
def tab : Cond := tabOf yN yB 2 none site
def P (a : Addr) (D : Cell) (fV fC : Field) (b : Addr) (A : Cell) (z : Int32) (args : Array Value) (s : State) : Prop := args = #[.ref a, .ref b] ∧ Blank "java/lang/String" a D s ∧ Found "java/lang/String" "value" "[B" fV s ∧ Found "java/lang/String" "coder" "B" fC s ∧ Ch b A s ∧ StaticIs s "java/lang/String" "COMPACT_STRINGS" "Z" (.int z) ∧ ¬ z = 0 ∧ 0 < A.slots.size ∧ A.slots.size ≤ 536870912 ∧ ∀ i, i < A.slots.size → ¬ 255 < cv A i
def E (a : Addr) (D : Cell) (fV fC : Field) (A : Cell) (r : Option Value) (s u : State) : Prop := Got a D fV fC A 0 A.slots.size r s u
/-- new String(chars), not empty, no char above 255: a Latin-1 String of their low bytes -/
theorem law (l : Launch) (a : Addr) (D : Cell) (fV fC : Field) (b : Addr) (A : Cell) (z : Int32) : Law l yN 2 1 3 52 yB 2 none site (P a D fV fC b A z) (E a D fV fC A) [⟨a, fC.slot⟩, ⟨a, fV.slot⟩] 1 A.slots.size := by
  refine Law.of_walk (plainFor_of_name (by decide +kernel)) (by decide +kernel) (by decide +kernel) (by decide) (fun _ _ h => by rw [h.1]; rfl) (fun _ U U' hal hh h => ⟨h.1, h.2.1.mv hal hh, h.2.2.1.al hal, h.2.2.2.1.al hal, h.2.2.2.2.1.mv hal hh, h.2.2.2.2.2.1.there hal hh, h.2.2.2.2.2.2⟩) (fun r U U' V V' h1 hal h2 h => Got.mv r U U' V V' h1 hal h2 h) ?_
  intro p e s m args below meth c s₁ X0 hexec hbytes hml hret hlk hnm hown hh0 W hP
  obtain ⟨rfl, hB, f1, f2, hA, s1, hz, l0, l2, hp⟩ := hP
  have c1 : Steps p.tables e below (s₁.setTop (entryFrame m #[.ref a, .ref b] 2)) (s₁.setTop (mkF m 0 #[.val (.ref a), .val (.ref b)] [])) := entry rfl
  have c2 : Steps p.tables e below (s₁.setTop (entryFrame m #[.ref a, .ref b] 2)) (s₁.setTop (mkF m 6 #[.val (.ref a), .val (.ref b)] [.null, .int (Int32.ofNat A.slots.size), .int 0, .ref b, .ref a])) := c1.trans (by
    refine XS.aloadN X0.here hexec rfl (hb hbytes d0) rfl rfl ?_
    refine XS.aloadN X0.here hexec rfl (hb hbytes d1) rfl rfl ?_
    refine iconstV X0.here hexec rfl 0 (hb hbytes d2) (by decide) ?_
    refine XS.aloadN X0.here hexec rfl (hb hbytes d3) rfl rfl ?_
    refine X0.alen hexec (hA.1.mv X0.warmed.alike hh0) rfl rfl (hb hbytes d4) ?_
    refine XS.aconstNull X0.here hexec rfl (hb hbytes d5) ?_
    exact Steps.refl _)
  obtain ⟨v3, T3, X3, E3, g3⟩ := X0.callN hexec (New4.law l a D fV fC b A z 0 A.slots.size) rfl hown (wks W (initW "java/lang/String" 27 New4.yN)) (W New4.tab (by simp only [site, List.mem_cons, List.mem_append, true_or, or_true])) (W := 0) (Nat.le_of_ble_eq_true rfl) (Nat.le_of_ble_eq_true rfl) (Nat.le_refl _) (by show 0 + A.slots.size ≤ A.slots.size; omega) (g := (mkF m 6 #[.val (.ref a), .val (.ref b)] [.null, .int (Int32.ofNat A.slots.size), .int (Int32.ofNat 0), .ref b, .ref a])) rfl (by rw [hml]; rfl) c2 (argsL := [.ref b, .int (Int32.ofNat 0), .int (Int32.ofNat A.slots.size), .null]) (rest := []) rfl rfl (by show 2 * 0 + 0 ≤ _; decide) (hb hbytes d6) (⟨rfl, hB.mv X0.warmed.alike hh0, f1.al X0.warmed.alike, f2.al X0.warmed.alike, hA.mv X0.warmed.alike hh0, s1.there X0.warmed.alike hh0, hz, l0, by omega, l2, fun i hi => by rw [Nat.zero_add]; exact hp i hi⟩)
  have e0 := Got.mv _ s₁ s _ _ hh0.symm (Vm.Alike.refl _) rfl E3
  obtain rfl := e0.1
  have c4 : Steps p.tables e below (s₁.setTop (entryFrame m #[.ref a, .ref b] 2)) (T3.setTop (mkF m 9 #[.val (.ref a), .val (.ref b)] [])) := g3
  exact ⟨T3, none, _, _, _, X3, by simp, rfl, by omega, (fun _ => rfl), e0, fun fs hl => c4.trans (X3.returnOut hexec hret (hb hbytes d9) hl)⟩
theorem pays {l : Launch} {R : Room} {p : Program} {e : Env} {below : List Frame} {s : State} {sargs : Array Value} {len W : Nat} (a : Addr) (D : Cell) (fV fC : Field) (b : Addr) (A : Cell) (z : Int32) (htab : tab.before sargs s = true) (hfr : 4 ≤ R.frames) (hlo : W + 65 ≤ R.locals) :
    Back l R p e below s sargs yN len W (fun A₁ a₁ => A₁.cells + 1 ≤ R.cells ∧ A₁.slots + A.slots.size ≤ R.slots ∧ P a D fV fC b A z a₁ A₁.U) (fun A₁ _ v₁ B₁ => E a D fV fC A v₁ A₁.U B₁.U ∧ B₁.locs = A₁.locs ++ [⟨a, fC.slot⟩, ⟨a, fV.slot⟩] ∧ B₁.cells = A₁.cells + 1 ∧ B₁.slots = A₁.slots + A.slots.size) :=
  (law l a D fV fC b A z).pays htab hfr (by omega)
end New1
end StrChars
namespace StrChars.Road
open Jvm Sem ClassFile Op Lib Jvm.Stand Jvm.Free Jvm.Free.XT
open Jvm.Lib.Cold (StaticIs)
abbrev ST : String := "java/lang/String"
/-- every table word that New1's law asks, flat -/
abbrev words : List Jvm.Cond := [.code New1.yN New1.yB 2 none, .initialized ST, .methodLink ST 27 New4.yN, .instanceMethod New4.yN,
  .code New4.yN New4.yB 6 none, .fieldLink ST 38 ST "COMPACT_STRINGS" "Z", .laysFinal ST ST "value" "[B", .fieldLink ST 9 ST "value" "[B", .laysFinal ST ST "coder" "B", .fieldLink ST 15 ST "coder" "B",
  .methodLink ST 1 Lib.objectInit, .instanceMethod Lib.objectInit, .code Lib.objectInit ⟨#[0xb1]⟩ 1 none, .methodLink ST 177 Cmp3.yN, .static Cmp3.yN, .methodLink ST 47 CodL.yN, .static CodL.yN,
  .code Cmp3.yN Cmp3.yB 6 (some (.array .byte)), .initialized U16, .arrayClass .byte, .methodLink U16 115 Cmp5.yN, .static Cmp5.yN, .code Cmp5.yN Cmp5.yB 7 (some .int), .code CodL.yN CodL.yB 2 (some .byte)]
theorem tab_of {a : Array Value} {s : State} (h : ∀ w ∈ words, w.before a s = true) : New1.tab.before a s = true := by
  have h5 : Cmp5.tab.before a s = true := unparts (wk h (.code Cmp5.yN Cmp5.yB 7 (some .int))) (wks h (.initialized Cmp5.yN.cls :: Cmp5.site))
  have hc : CodL.tab.before a s = true := unparts (wk h (.code CodL.yN CodL.yB 2 (some .byte))) (wks h (.initialized CodL.yN.cls :: CodL.site))
  have q5 : ∀ w ∈ Cmp5.tab :: words, w.before a s = true := fun w hw => (List.mem_cons.mp hw).elim (fun e => e ▸ h5) (h w)
  have h3 : Cmp3.tab.before a s = true := unparts (wk q5 (.code Cmp3.yN Cmp3.yB 6 (some (.array .byte)))) (wks q5 (.initialized Cmp3.yN.cls :: Cmp3.site))
  have q3 : ∀ w ∈ Cmp3.tab :: CodL.tab :: words, w.before a s = true := fun w hw => (List.mem_cons.mp hw).elim (fun e => e ▸ h3) fun hw => (List.mem_cons.mp hw).elim (fun e => e ▸ hc) (h w)
  have h4 : New4.tab.before a s = true := unparts (wk q3 (.code New4.yN New4.yB 6 none)) (wks q3 (.initialized New4.yN.cls :: New4.site))
  have q4 : ∀ w ∈ New4.tab :: words, w.before a s = true := fun w hw => (List.mem_cons.mp hw).elim (fun e => e ▸ h4) (h w)
  exact unparts (wk q4 (.code New1.yN New1.yB 2 none)) (wks q4 (.initialized New1.yN.cls :: New1.site))
/-- the words ride from the start Z to the walk's own state -/
theorem moved {Z s : State} {a0 args : Array Value} (hZ : Z.Warmed39 s.vm) (hw : ∀ d ∈ words, d.before a0 Z = true) : ∀ d ∈ words, d.before args s = true := fun d hd => by
  have q := hw d hd
  have t : ∀ d ∈ words, d = .arrayClass .byte ∨ (d.onTables && d.keepsFace) = true := by decide +kernel
  rcases t d hd with rfl | t
  · exact RoadKit.mvA hZ q
  · exact RoadKit.mv hZ q t
/-- WHAT COMES BACK, over the tables of the start Z: h the heap at the call, h' behind it -/
def Q (Z : State) (x : Addr) (A : Cell) (h : Heap) (v : Option Value) (h' : Heap) (L : List Loc) : Prop := v = none ∧ (∀ y ∈ L, y.base = x) ∧ RoadKit.Keep h h' [x] ∧ h'.size = h.size + 1 ∧ RoadKit.Exa Z h' x ST ∧ RoadKit.Fld Z h' x ST "value" "[B" (.ref h.size) ∧ RoadKit.Fld Z h' x ST "coder" "B" (.int 0) ∧
  (∃ V : Cell, RoadKit.Arr Z h' h.size V .byte ∧ V.vm = .none ∧ Z.vm.findClass "[B" = some V.cls ∧ V.slots.size = A.slots.size ∧ ∀ j, j < A.slots.size → V.slots[j]? = some (.int (lo8 (cv A j)))) ∧
  ∀ (O n d : String) (w : Value), RoadKit.Fld Z h x O n d w → RoadKit.slotOf Z O n d ≠ RoadKit.slotOf Z ST "value" "[B" → RoadKit.slotOf Z O n d ≠ RoadKit.slotOf Z ST "coder" "B" → RoadKit.Fld Z h' x O n d w
/-- **new String(chars) AT A CALL, IN THE ROAD'S FORM**: for specialBack behind newO: x the fresh String, b the char[] with the cell A -/
theorem back {p : Program} {l : Launch} {e : Env} {R : Room} {s : State} {args : Array Value} {below : List Frame} {len W : Nat} {Z : State} {a0 : Array Value} {h : Heap} (hZ : Z.Warmed39 s.vm) (hw : ∀ d ∈ words, d.before a0 Z = true) {kI : Nat} (wi : (Jvm.Cond.instantiable ST kI).before a0 Z = true)
    {x b : Addr} {A : Cell} {z : Int32} {v0 c0 : Value} (E : RoadKit.Exa Z h x ST) (V : RoadKit.Fld Z h x ST "value" "[B" v0) (C : RoadKit.Fld Z h x ST "coder" "B" c0) (K : RoadKit.Arr Z h b A .char) (hty : Typed .char A) (S : RoadKit.Sta Z h ST "COMPACT_STRINGS" "Z" (.int z)) (hz : ¬ z = 0)
    (l0 : 0 < A.slots.size) (l2 : A.slots.size ≤ 536870912) (hp : ∀ i, i < A.slots.size → ¬ 255 < cv A i) (hfr : 4 ≤ R.frames) (hlo : W + 65 ≤ R.locals) :
    Back l R p e below s args New1.yN len W (fun P a => a = #[.ref x, .ref b] ∧ P.U.heap = h ∧ P.cells + 1 ≤ R.cells ∧ P.slots + A.slots.size ≤ R.slots)
      (fun P _ v B => ∃ L, Q Z x A h v B.U.heap L ∧ B.locs = P.locs ++ L ∧ B.cells = P.cells + 1 ∧ B.slots = P.slots + A.slots.size) := by
  intro m meth c P g ig mk a X hg hsize hdg hW hn hp'
  obtain ⟨rfl, rfl, r1, r2⟩ := hp'
  have al : Z.vm.Alike P.U.vm := hZ.alike.trans X.warmed.alike
  obtain ⟨D, cfV, kV, iV, fV, hD, gV, stV, knV, obV, asV, slV⟩ := id V
  obtain ⟨D', cfC, kC, iC, fC, hD', gC, stC, -, -, asC, slC⟩ := id C
  cases hD.symm.trans hD'
  obtain ⟨D2, kD, e1, e2, e3, e4, e5⟩ := id E
  cases hD.symm.trans e1
  obtain ⟨c2, k2, i1, i2, i3, -⟩ := Cond.instantiable_spec wi
  cases e2.symm.trans i1
  cases e3.symm.trans i2
  obtain ⟨kU, u1, u2⟩ := al.2.2 _ _ e3
  have hB : Blank ST x D P.U := ⟨hD, ⟨knV, fun q hq => by rw [hq] at obV; cases obV⟩, by rw [al.findClass]; exact e2, kU, u1, by rw [u2]; exact i3, by rw [u2]; exact e5 i3⟩
  have F1 : Found ST "value" "[B" fV P.U := ⟨SBG.found_only al ⟨cfV, kV, iV, gV⟩, stV⟩
  have F2 : Found ST "coder" "B" fC P.U := ⟨SBG.found_only al ⟨cfC, kC, iC, gC⟩, stC⟩
  have hA : Ch b A P.U := ⟨⟨K.1, State.isArrayOf_alike al K.2.1, K.2.2, by omega⟩, hty⟩
  have hS : StaticIs P.U ST "COMPACT_STRINGS" "Z" (.int z) := by
    obtain ⟨cfS, iS, kS, fS, st, cS, t1, t2, t3, t4, t5, t6, t7⟩ := S
    exact StaticIs.there (s := { Z with heap := P.U.heap }) ⟨cfS, iS, kS, fS, st, cS, t1, t2, t3, t4, t5, (fun q => by rw [q] at t6; cases t6), t7⟩ al rfl
  obtain ⟨v, B, X', ⟨⟨hv, E', V', q1, q2, q3, q4, q5, q6, q7, q8, q9, q10, q11⟩, hl, hc, hs⟩, st⟩ := New1.pays x D fV fC b A z (tab_of (moved hZ hw)) hfr hlo m meth c P g ig mk _ X hg hsize hdg hW hn ⟨r1, r2, rfl, hB, F1, F2, hA, hS, hz, l0, l2, hp⟩
  have al' : Z.vm.Alike B.U.vm := hZ.alike.trans X'.warmed.alike
  have hsz : E'.slots.size = D.slots.size := by
    obtain ⟨-, -, -, kB, w1, w2, w3⟩ := q1
    obtain ⟨kB', y1, y2⟩ := al'.2.2 _ _ e3
    rw [q2.2.1] at w1
    cases w1.symm.trans y1
    rw [w3, e5 i3, y2]
  refine ⟨v, B, X', ⟨_, ⟨hv, ?_, ⟨by omega, fun y cy hy hn' => q10 y cy (by simpa using hn') hy, fun y cy hy => ?_⟩, q11, ⟨E', _, q1.1, by rw [q2.2.1]; exact e2, by rw [q2.2.1]; exact e3, by rw [q2.1]; exact obV, fun _ => by rw [hsz]; exact e5 i3⟩,
    ⟨E', cfV, kV, iV, fV, q1.1, gV, stV, by rw [q2.1]; exact knV, by rw [q2.1]; exact obV, by rw [q2.2.1]; exact asV, q3⟩, ⟨E', cfC, kC, iC, fC, q1.1, gC, stC, by rw [q2.1]; exact knV, by rw [q2.1]; exact obV, by rw [q2.2.1]; exact asC, q4⟩,
    ⟨V', ⟨q5.1, State.isArrayOf_alike al'.symm q5.2.1, q5.2.2.1⟩, q6, by rw [← al'.findClass]; exact q7, q8, fun j hj => by have := q9 j hj; rwa [Nat.zero_add] at this⟩, fun O n d w F n1 n2 => ?_⟩, hl, hc, hs⟩, st⟩
  · intro y hy
    simp only [List.mem_cons, List.not_mem_nil, or_false] at hy
    rcases hy with rfl | rfl <;> rfl
  · by_cases q : y = x
    · subst q
      cases hD.symm.trans hy
      exact ⟨E', q1.1, q2.2.1, q2.1, hsz⟩
    · exact ⟨cy, q10 y cy q hy, rfl, rfl, rfl⟩
  · obtain ⟨D3, cf, k, i, f, g1, g2, g3, g4, g5, g6, g7⟩ := F
    cases hD.symm.trans g1
    simp only [RoadKit.slotOf, g2, gV, gC, Option.map_some, Option.getD_some] at n1 n2
    exact ⟨E', cf, k, i, f, q1.1, g2, g3, by rw [q2.1]; exact g4, by rw [q2.1]; exact g5, by rw [q2.2.1]; exact g6, by rw [q2.2.2 f.slot (by simp [n1, n2])]; exact g7⟩
end StrChars.Road
namespace StrChars.Road
open Jvm Sem ClassFile Op Lib Jvm.Stand Jvm.Free Jvm.Free.XT
/-- WHAT COMES BACK, the byte[] as a list of values -/
def QA (Z : State) (x : Addr) (zn : Int32) (cs : List Int32) (h : Heap) (v : Option Value) (h' : Heap) (L : List Loc) : Prop := v = none ∧ (∀ y ∈ L, y.base = x) ∧ RoadKit.Keep h h' [x] ∧ h'.size = h.size + 1 ∧ RoadKit.Exa Z h' x ST ∧ RoadKit.Fld Z h' x ST "value" "[B" (.ref h.size) ∧ RoadKit.Fld Z h' x ST "coder" "B" (.int 0) ∧
  (∃ kb, Z.vm.findClass "[B" = some kb ∧ RoadKit.Arv Z h' h.size kb .byte zn (cs.map fun c => .int (lo8 c)) (.int 0)) ∧
  ∀ (O n d : String) (w : Value), RoadKit.Fld Z h x O n d w → RoadKit.slotOf Z O n d ≠ RoadKit.slotOf Z ST "value" "[B" → RoadKit.slotOf Z O n d ≠ RoadKit.slotOf Z ST "coder" "B" → RoadKit.Fld Z h' x O n d w
/-- **new String(chars) AT A CALL, THE ARRAYS AS LISTS**: the char[] at b holds cs, not empty, no char above 255 -/
theorem backArv {p : Program} {l : Launch} {e : Env} {R : Room} {s : State} {args : Array Value} {below : List Frame} {len W : Nat} {Z : State} {a0 : Array Value} {h : Heap} (hZ : Z.Warmed39 s.vm) (hw : ∀ d ∈ words, d.before a0 Z = true) {kI : Nat} (wi : (Jvm.Cond.instantiable ST kI).before a0 Z = true)
    {x b : Addr} {k : ClassId} {zn z : Int32} {cs : List Int32} {dv v0 c0 : Value} (E : RoadKit.Exa Z h x ST) (V : RoadKit.Fld Z h x ST "value" "[B" v0) (C : RoadKit.Fld Z h x ST "coder" "B" c0) (K : RoadKit.Arv Z h b k .char zn (cs.map Value.int) dv) (S : RoadKit.Sta Z h ST "COMPACT_STRINGS" "Z" (.int z)) (hz : ¬ z = 0)
    (hlen : zn.toNatClampNeg = cs.length) (h0 : 0 < cs.length) (hbig : cs.length ≤ 536870912) (hall : ∀ c ∈ cs, ¬ 255 < c) (hfr : 4 ≤ R.frames) (hlo : W + 65 ≤ R.locals) :
    Back l R p e below s args New1.yN len W (fun P a => a = #[.ref x, .ref b] ∧ P.U.heap = h ∧ P.cells + 1 ≤ R.cells ∧ P.slots + cs.length ≤ R.slots)
      (fun P _ v B => ∃ L, QA Z x zn cs h v B.U.heap L ∧ B.locs = P.locs ++ L ∧ B.cells = P.cells + 1 ∧ B.slots = P.slots + cs.length) := by
  obtain ⟨A, K1, K2, K3, K4, K5, K6⟩ := K
  have e : A.slots.size = cs.length := K3.trans hlen
  have hat : ∀ (i : Nat) (hi : i < cs.length), A.slots[i]? = some (.int cs[i]) := fun i hi => by rw [K5 i (by omega)]; simp [List.getD_eq_getElem?_getD, hi]
  have hcv : ∀ (i : Nat) (hi : i < cs.length), cv A i = cs[i] := fun i hi => by unfold cv; rw [hat i hi]
  have hty : Typed .char A := fun i v hv => by
    have hi : i < A.slots.size := (Array.getElem?_eq_some_iff.mp hv).1
    have q := K5 i hi
    rw [hv] at q
    rw [Option.some.inj q]
    exact K6 i hi
  refine Back.mono (back hZ hw wi E V C K1 hty S hz (by omega) (by omega) (fun i hi => by rw [hcv i (by omega)]; exact hall _ (List.getElem_mem _)) hfr hlo) (fun P a hp => ⟨hp.1, hp.2.1, hp.2.2.1, by rw [e]; exact hp.2.2.2⟩) (fun P a v B hp hq => ?_)
  obtain ⟨L, ⟨q1, q2, q3, q4, q5, q6, q7, ⟨V', v1, v2, v3, v4, v5⟩, q9⟩, hl, hc, hs⟩ := hq
  refine ⟨L, ⟨q1, q2, q3, q4, q5, q6, q7, ⟨V'.cls, v3, V', v1, rfl, by rw [v4, e, hlen], K4, fun i hi => ?_, fun i hi => ?_⟩, q9⟩, hl, hc, by rw [hs, e]⟩
  · have hi' : i < cs.length := by omega
    rw [v5 i (by omega), hcv i hi']; simp [List.getD_eq_getElem?_getD, hi']
  · have hi' : i < cs.length := by omega
    simp only [List.getD_eq_getElem?_getD, List.getElem?_map, List.getElem?_eq_getElem hi', Option.map_some, Option.getD_some]
    exact fits_lo8 _
end StrChars.Road
namespace StrChars.Road
open Jvm Sem ClassFile Op Lib Jvm.Stand Jvm.Free Jvm.Free.XT
/-- WHAT COMES BACK, in the writer's own shape -/
def QV (Z : State) (x : Addr) (N : Int32) (bs : List Int32) (h : Heap) (n0 : Nat) (v : Option Value) (h' : Heap) (L : List Loc) : Prop := v = none ∧ RoadKit.Fr n0 L ∧ RoadKit.Keep h h' [x] ∧ RoadKit.Exa Z h' x ST ∧ RoadKit.Fld Z h' x ST "coder" "B" (.int 0) ∧
  ∃ (t : Addr) (kb : ClassId), n0 ≤ t ∧ h.size ≤ t ∧ ¬ t = x ∧ RoadKit.Fld Z h' x ST "value" "[B" (.ref t) ∧ RoadKit.Arv Z h' t kb .byte N (bs.map Value.int) (.int 0)
/-- **new String(chars) AT A CALL, FOR THE WRITER**: a char[] of n known ints, each 0 to 255 -/
theorem backV {p : Program} {l : Launch} {e : Env} {R : Room} {s : State} {args : Array Value} {below : List Frame} {len W : Nat} {Z : State} {a0 : Array Value} {h : Heap} (hZ : Z.Warmed39 s.vm) (hw : ∀ d ∈ words, d.before a0 Z = true) {kI : Nat} (wi : (Jvm.Cond.instantiable ST kI).before a0 Z = true)
    {x b : Addr} {kC : ClassId} {cs bs : List Int32} {d v0 c0 : Value} {z N : Int32} {n n0 : Nat} (hx0 : n0 ≤ x) (hh0 : n0 ≤ h.size) (E : RoadKit.Exa Z h x ST) (V : RoadKit.Fld Z h x ST "value" "[B" v0) (C : RoadKit.Fld Z h x ST "coder" "B" c0) (K : RoadKit.Arv Z h b kC .char N (cs.map Value.int) d) (S : RoadKit.Sta Z h ST "COMPACT_STRINGS" "Z" (.int z)) (hz : ¬ z = 0)
    (hn : cs.length = n) (hN : N = Int32.ofNat n) (l0 : 0 < n) (l2 : n ≤ 4000) (hp : ∀ c ∈ cs, ¬ c < 0 ∧ ¬ (255 : Int32) < c) (hb : bs = cs.map (fun c => c.toInt8.toInt32)) (hfr : 4 ≤ R.frames) (hlo : W + 65 ≤ R.locals) :
    Back l R p e below s args (⟨"java/lang/String", "<init>", "([C)V"⟩ : MethodName) len W (fun P a => a = #[.ref x, .ref b] ∧ P.U.heap = h ∧ P.cells + 1 ≤ R.cells ∧ P.slots + n ≤ R.slots)
      (fun P _ v B => ∃ L, QV Z x N bs h n0 v B.U.heap L ∧ B.locs = P.locs ++ L ∧ B.cells = P.cells + 1 ∧ B.slots = P.slots + n) := by
  subst hn hN hb
  refine Back.mono (backArv hZ hw wi E V C K S hz (n32 (by omega)) l0 (by omega) (fun c hc => (hp c hc).2) hfr hlo) (fun P a hp => hp) (fun P a v B hp hq => ?_)
  obtain ⟨L, ⟨q1, q2, q3, q4, q5, q6, q7, ⟨kb, v1, v2⟩, q9⟩, hl, hc, hs⟩ := hq
  exact ⟨L, ⟨q1, fun y hy => by rw [q2 y hy]; exact hx0, q3, q5, q7, h.size, kb, hh0, Nat.le_refl _, Nat.ne_of_gt E.lt, q6, by rw [List.map_map]; exact v2⟩, hl, hc, hs⟩
end StrChars.Road
end Jvm.Pilot.@@N@@
namespace Jvm.Pilot.@@N@@
open Jvm Jvm.ClassFile Sem Op Lib Jvm.Free Jvm.Stand Jvm.LawKit Jvm.RoadKit Bundle Jvm.Pilot.@@N@@.Jvm.D
theorem own_dloadN {tb : Tables} [Ours tb] {e : Env} {below : List Frame} {T target : State} {m : MethodId} {c : Code} {g : JFrame} (h : At T m c below) (hx : tb.exec = Jvm.exec) (hg : g.method = m) {k : Fin 4} {v : UInt64} (hd : decode c.code g.pc = .ok (.dload_n k, 1)) (hl : g.locals[k.val]? = some (.val (.double v)))
    (hr : Steps tb e below (T.setTop { g with pc := g.pc + 1, stack := .double v :: g.stack }) target) : Steps tb e below (T.setTop g) target := by
  subst hg
  jvm_step h [h.top, hx, hd, hl]
  exact hr
theorem own_dload {tb : Tables} [Ours tb] {e : Env} {below : List Frame} {T target : State} {m : MethodId} {c : Code} {g : JFrame} (h : At T m c below) (hx : tb.exec = Jvm.exec) (hg : g.method = m) {k : Nat} {v : UInt64} (hd : decode c.code g.pc = .ok (.dload k, 2)) (hl : g.locals[k]? = some (.val (.double v)))
    (hr : Steps tb e below (T.setTop { g with pc := g.pc + 2, stack := .double v :: g.stack }) target) : Steps tb e below (T.setTop g) target := by
  subst hg
  jvm_step h [h.top, hx, hd, hl]
  exact hr
theorem own_dstoreN {tb : Tables} [Ours tb] {e : Env} {below : List Frame} {T target : State} {m : MethodId} {c : Code} {g : JFrame} (h : At T m c below) (hx : tb.exec = Jvm.exec) (hg : g.method = m) {k : Fin 4} {x : UInt64} {rest : List Value} {l' : Array Slot} (hd : decode c.code g.pc = .ok (.dstore_n k, 1)) (hs : g.stack = .double x :: rest) (hl : storeLocals g.locals k.val (.double x) = some l')
    (hr : Steps tb e below (T.setTop { g with pc := g.pc + 1, stack := rest, locals := l' }) target) : Steps tb e below (T.setTop g) target := by
  subst hg
  jvm_step h [h.top, hx, hd, hs, hl]
  exact hr
theorem own_dstore {tb : Tables} [Ours tb] {e : Env} {below : List Frame} {T target : State} {m : MethodId} {c : Code} {g : JFrame} (h : At T m c below) (hx : tb.exec = Jvm.exec) (hg : g.method = m) {k : Nat} {x : UInt64} {rest : List Value} {l' : Array Slot} (hd : decode c.code g.pc = .ok (.dstore k, 2)) (hs : g.stack = .double x :: rest) (hl : storeLocals g.locals k (.double x) = some l')
    (hr : Steps tb e below (T.setTop { g with pc := g.pc + 2, stack := rest, locals := l' }) target) : Steps tb e below (T.setTop g) target := by
  subst hg
  jvm_step h [h.top, hx, hd, hs, hl]
  exact hr
theorem own_dconst0 {tb : Tables} [Ours tb] {e : Env} {below : List Frame} {T target : State} {m : MethodId} {c : Code} {g : JFrame} (h : At T m c below) (hx : tb.exec = Jvm.exec) (hg : g.method = m) (hd : decode c.code g.pc = .ok (.dconst 0, 1))
    (hr : Steps tb e below (T.setTop { g with pc := g.pc + 1, stack := .double FP.dconst0 :: g.stack }) target) : Steps tb e below (T.setTop g) target := by
  subst hg
  jvm_step h [h.top, hx, hd]
  exact hr
theorem own_dconst1 {tb : Tables} [Ours tb] {e : Env} {below : List Frame} {T target : State} {m : MethodId} {c : Code} {g : JFrame} (h : At T m c below) (hx : tb.exec = Jvm.exec) (hg : g.method = m) (hd : decode c.code g.pc = .ok (.dconst 1, 1))
    (hr : Steps tb e below (T.setTop { g with pc := g.pc + 1, stack := .double FP.dconst1 :: g.stack }) target) : Steps tb e below (T.setTop g) target := by
  subst hg
  jvm_step h [h.top, hx, hd]
  exact hr
theorem own_i2d {tb : Tables} [Ours tb] {e : Env} {below : List Frame} {T target : State} {m : MethodId} {c : Code} {g : JFrame} (h : At T m c below) (hx : tb.exec = Jvm.exec) (hg : g.method = m) {x : Int32} {rest : List Value} (hd : decode c.code g.pc = .ok (.i2d, 1)) (hs : g.stack = .int x :: rest)
    (hr : Steps tb e below (T.setTop { g with pc := g.pc + 1, stack := .double (FP.i2d x) :: rest }) target) : Steps tb e below (T.setTop g) target := by
  subst hg
  jvm_step h [h.top, hx, hd, hs]
  exact hr
theorem own_l2d {tb : Tables} [Ours tb] {e : Env} {below : List Frame} {T target : State} {m : MethodId} {c : Code} {g : JFrame} (h : At T m c below) (hx : tb.exec = Jvm.exec) (hg : g.method = m) {x : Int64} {rest : List Value} (hd : decode c.code g.pc = .ok (.l2d, 1)) (hs : g.stack = .long x :: rest)
    (hr : Steps tb e below (T.setTop { g with pc := g.pc + 1, stack := .double (FP.l2d x) :: rest }) target) : Steps tb e below (T.setTop g) target := by
  subst hg
  jvm_step h [h.top, hx, hd, hs]
  exact hr
theorem own_d2l {tb : Tables} [Ours tb] {e : Env} {below : List Frame} {T target : State} {m : MethodId} {c : Code} {g : JFrame} (h : At T m c below) (hx : tb.exec = Jvm.exec) (hg : g.method = m) {x : UInt64} {rest : List Value} (hd : decode c.code g.pc = .ok (.d2l, 1)) (hs : g.stack = .double x :: rest)
    (hr : Steps tb e below (T.setTop { g with pc := g.pc + 1, stack := .long (FP.d2l x) :: rest }) target) : Steps tb e below (T.setTop g) target := by
  subst hg
  jvm_step h [h.top, hx, hd, hs]
  exact hr
theorem own_d2i {tb : Tables} [Ours tb] {e : Env} {below : List Frame} {T target : State} {m : MethodId} {c : Code} {g : JFrame} (h : At T m c below) (hx : tb.exec = Jvm.exec) (hg : g.method = m) {x : UInt64} {rest : List Value} (hd : decode c.code g.pc = .ok (.d2i, 1)) (hs : g.stack = .double x :: rest)
    (hr : Steps tb e below (T.setTop { g with pc := g.pc + 1, stack := .int (FP.d2i x) :: rest }) target) : Steps tb e below (T.setTop g) target := by
  subst hg
  jvm_step h [h.top, hx, hd, hs]
  exact hr
theorem own_dneg {tb : Tables} [Ours tb] {e : Env} {below : List Frame} {T target : State} {m : MethodId} {c : Code} {g : JFrame} (h : At T m c below) (hx : tb.exec = Jvm.exec) (hg : g.method = m) {x : UInt64} {rest : List Value} (hd : decode c.code g.pc = .ok (.dneg, 1)) (hs : g.stack = .double x :: rest)
    (hr : Steps tb e below (T.setTop { g with pc := g.pc + 1, stack := .double (FP.dneg x) :: rest }) target) : Steps tb e below (T.setTop g) target := by
  subst hg
  jvm_step h [h.top, hx, hd, hs]
  exact hr
theorem own_dcmp {tb : Tables} [Ours tb] {e : Env} {below : List Frame} {T target : State} {m : MethodId} {c : Code} {g : JFrame} (h : At T m c below) (hx : tb.exec = Jvm.exec) (hg : g.method = m) {op : CmpOp} {x y : UInt64} {rest : List Value} (hd : decode c.code g.pc = .ok (.dcmp op, 1)) (hs : g.stack = .double y :: .double x :: rest)
    (hr : Steps tb e below (T.setTop { g with pc := g.pc + 1, stack := .int (cmpValue (FP.dcmp x y) op) :: rest }) target) : Steps tb e below (T.setTop g) target := by
  subst hg
  jvm_step h [h.top, hx, hd, hs]
  exact hr
theorem own_dadd {tb : Tables} [Ours tb] {e : Env} {below : List Frame} {T target : State} {m : MethodId} {c : Code} {g : JFrame} (h : At T m c below) (hx : tb.exec = Jvm.exec) (hg : g.method = m) {x y : UInt64} {rest : List Value} (hd : decode c.code g.pc = .ok (.dadd, 1)) (hs : g.stack = .double y :: .double x :: rest) (hn : Jvm.Free.Fl.NoNaN64 (FP.dadd x y))
    (hr : Steps tb e below (T.setTop { g with pc := g.pc + 1, stack := .double (FP.dadd x y) :: rest }) target) : Steps tb e below (T.setTop g) target := by
  obtain ⟨gm, gpc, gl, gs, glk, gen, gmr⟩ := g
  subst hg
  dsimp only at hs
  subst hs
  jvm_step h [hx, hd, Op.dadd.at_number h.top hn]
  exact hr
theorem own_dsub {tb : Tables} [Ours tb] {e : Env} {below : List Frame} {T target : State} {m : MethodId} {c : Code} {g : JFrame} (h : At T m c below) (hx : tb.exec = Jvm.exec) (hg : g.method = m) {x y : UInt64} {rest : List Value} (hd : decode c.code g.pc = .ok (.dsub, 1)) (hs : g.stack = .double y :: .double x :: rest) (hn : Jvm.Free.Fl.NoNaN64 (FP.dsub x y))
    (hr : Steps tb e below (T.setTop { g with pc := g.pc + 1, stack := .double (FP.dsub x y) :: rest }) target) : Steps tb e below (T.setTop g) target := by
  obtain ⟨gm, gpc, gl, gs, glk, gen, gmr⟩ := g
  subst hg
  dsimp only at hs
  subst hs
  jvm_step h [hx, hd, Op.dsub.at_number h.top hn]
  exact hr
theorem own_dmul {tb : Tables} [Ours tb] {e : Env} {below : List Frame} {T target : State} {m : MethodId} {c : Code} {g : JFrame} (h : At T m c below) (hx : tb.exec = Jvm.exec) (hg : g.method = m) {x y : UInt64} {rest : List Value} (hd : decode c.code g.pc = .ok (.dmul, 1)) (hs : g.stack = .double y :: .double x :: rest) (hn : Jvm.Free.Fl.NoNaN64 (FP.dmul x y))
    (hr : Steps tb e below (T.setTop { g with pc := g.pc + 1, stack := .double (FP.dmul x y) :: rest }) target) : Steps tb e below (T.setTop g) target := by
  obtain ⟨gm, gpc, gl, gs, glk, gen, gmr⟩ := g
  subst hg
  dsimp only at hs
  subst hs
  jvm_step h [hx, hd, Op.dmul.at_number h.top hn]
  exact hr
theorem own_ddiv {tb : Tables} [Ours tb] {e : Env} {below : List Frame} {T target : State} {m : MethodId} {c : Code} {g : JFrame} (h : At T m c below) (hx : tb.exec = Jvm.exec) (hg : g.method = m) {x y : UInt64} {rest : List Value} (hd : decode c.code g.pc = .ok (.ddiv, 1)) (hs : g.stack = .double y :: .double x :: rest) (hn : Jvm.Free.Fl.NoNaN64 (FP.ddiv x y))
    (hr : Steps tb e below (T.setTop { g with pc := g.pc + 1, stack := .double (FP.ddiv x y) :: rest }) target) : Steps tb e below (T.setTop g) target := by
  obtain ⟨gm, gpc, gl, gs, glk, gen, gmr⟩ := g
  subst hg
  dsimp only at hs
  subst hs
  jvm_step h [hx, hd, Op.ddiv.at_number h.top hn]
  exact hr
theorem own_dup2D {tb : Tables} [Ours tb] {e : Env} {below : List Frame} {T target : State} {m : MethodId} {c : Code} {g : JFrame} (h : At T m c below) (hx : tb.exec = Jvm.exec) (hg : g.method = m) {x : UInt64} {rest : List Value} (hd : decode c.code g.pc = .ok (.dup2, 1)) (hs : g.stack = .double x :: rest)
    (hr : Steps tb e below (T.setTop { g with pc := g.pc + 1, stack := .double x :: .double x :: rest }) target) : Steps tb e below (T.setTop g) target := by
  subst hg
  jvm_step h [h.top, hx, hd, hs, Value.category]
  exact hr
theorem own_retD {p : Program} {l : Launch} {e : Env} {R : Room} {s : State} {m : MethodId} {args : Array Value} {below : List Frame} {meth : Method} {c : Code} {T : State} {locs : List Loc} {cells slots : Nat} (Y : Stand p l e R s m args below meth c T locs cells slots) (hexec : p.tables.exec = Jvm.exec) {pc : Nat} {Ls : Array Slot} {w : UInt64} {rest : List Value} (hret : meth.sig.returnType = some .double)
    (hdg : decode c.code pc = .ok (.dreturn, 1)) {fs : List Frame} (hleave : ∀ (f : JFrame) (acts : List Action), f.method = m → f.locked = none → f.entered = [] → (doReturn e (T.setTop f) acts (some (.double w))).1 = T.setFrames fs) :
    Steps p.tables e below (T.setTop (mkF m pc Ls (.double w :: rest))) (T.setFrames fs) :=
  retOut Y hexec hret rfl (Or.inr (Or.inr (Or.inl ⟨rfl, rfl, w, rfl⟩))) hdg hleave
theorem own_stD {p : Program} {l : Launch} {e : Env} {R : Room} {s : State} {m : MethodId} {args : Array Value} {below : List Frame} {meth : Method} {c : Code} {T : State} {locs : List Loc} {cells slots : Nat} {Z : State} {h : Heap}
    (X : Stand p l e R s m args below meth c T locs cells slots) (hx : p.tables.exec = Jvm.exec) (hZ : Z.Warmed39 s.vm) (eT : T.heap = h) {a : Addr} {cl : Cell} (A : Arr Z h a cl .double) {j : Int32} {x : UInt64} (hj : ¬ (j < 0 ∨ cl.slots.size ≤ j.toNatClampNeg)) {g : JFrame} (hg : g.method = m) {rest : List Value} (hs : g.stack = .double x :: .int j :: .ref a :: rest) (hd : decode c.code g.pc = .ok (.dastore, 1)) :
    ∃ T' h', Stand p l e R s m args below meth c T' (locs ++ [⟨a, j.toNatClampNeg⟩]) cells slots ∧ T'.heap = h' ∧ Wr h h' a j.toNatClampNeg (.double x) ∧ ∀ target, Steps p.tables e below (T'.setTop { g with pc := g.pc + 1, stack := rest }) target → Steps p.tables e below (T.setTop g) target := by
  obtain ⟨X', st⟩ := X.dastore hx (by rw [eT]; exact A.1) (State.isArrayOf_alike hZ.alike A.2.1) A.2.2 hj hg hs hd
  exact ⟨_, _, X', rfl, ⟨cl, A.1, A.plain, Nat.lt_of_not_le fun q => hj (Or.inr q), by rw [← eT]; rfl⟩, st⟩
section OwnCalls
variable {p : Program} {l : Launch} {e : Env} {R : Room} {s : State} {m : MethodId} {args : Array Value} {below : List Frame} {meth : Method} {c : Code} {T : State} {locs : List Loc} {cells slots : Nat} {Z : State} {a0 : Array Value} {h : Heap}
theorem own_virt (X : Stand p l e R s m args below meth c T locs cells slots) (hx : p.tables.exec = Jvm.exec) (hZ : Z.Warmed39 s.vm) {own C : String} {index : Nat} {y : MethodName} (hown : s.vm.findClass own = some m.cls)
    (w1 : (Jvm.Cond.methodLink own index y).before a0 Z = true) (w2 : (Jvm.Cond.declares y).before a0 Z = true) (w3 : (Jvm.Cond.selects C y y).before a0 Z = true) (w4 : (Jvm.Cond.instanceMethod y).before a0 Z = true)
    (hy : y.cls ≠ "java/lang/invoke/MethodHandle" ∧ y.cls ≠ "java/lang/invoke/VarHandle") {bytes : ByteArray} {maxL : Nat} {ret : Option FieldType} {rm : Room} {as' : Array Value} {Q : Option Value → Heap → List Loc → Prop}
    (hM : MetFree l y (head1 [Jvm.Cond.code y bytes maxL ret] rm) (fun α U => α = as' ∧ Z.Warmed39 U.vm ∧ U.heap = h) (fun _ _ _ _ _ => True) (fun _ U o U' => ∃ v L, o = .returned v ∧ Q v U'.heap L ∧ FrameEnd U o U' L rm.cells rm.slots))
    (wc : (Jvm.Cond.code y bytes maxL ret).before a0 Z = true) (wz : (Jvm.Cond.initialized y.cls).before a0 Z = true) (W : Nat) (hf : rm.frames + 1 ≤ R.frames) (hl : W + (maxL + 11) + rm.locals ≤ R.locals)
    {b : Addr} (E : Exa Z h b C) (eT : T.heap = h) (g : JFrame) (hg : g.method = m) (hsize : g.locals.size = c.maxLocals) (argsL rest : List Value) (has : (.ref b :: argsL).toArray = as')
    (hlen : ∀ sig, parseMethodDescriptor y.desc = some sig → argsL.length = sig.parameters.length) (hstack : g.stack = argsL.reverse ++ .ref b :: rest) (hW : 2 * g.monitorRoom + (rest.map fun v => v.category).sum ≤ W)
    (hdg : decode c.code g.pc = .ok (.invokevirtual index, 3)) (hc : cells + rm.cells ≤ R.cells) (hs : slots + rm.slots ≤ R.slots) :
    ∃ (v : Option Value) (T' : State) (L : List Loc), Stand p l e R s m args below meth c T' (locs ++ L) (cells + rm.cells) (slots + rm.slots) ∧ Q v T'.heap L ∧
      ∀ τ, Steps p.tables e below (T'.setTop { g with pc := g.pc + 3, stack := v.toList ++ rest }) τ → Steps p.tables e below (T.setTop g) τ := by
  obtain ⟨cq, kq, qa, qb, qc⟩ := isOf hZ eT E
  obtain ⟨v, _, ⟨T1, L1, k1, n1⟩, -, X1, ⟨Lc, hQ, l1, y1, z1⟩, st⟩ := X.virtualBack hx (y := y) (z := y) hown (mvT hZ w1) (mvT hZ w2) (notFace_of_selects (args := #[]) (mvT hZ w3)) (mvT hZ w3) (mvT hZ w4) hy (backOf (W := W) hM hZ wc wz hf hl) qa qc (g := g) hg hsize (Steps.refl _) (argsL := argsL) (rest := rest) hlen hstack hW hdg (fun _ _ => ⟨has, eT, hc, hs⟩)
  dsimp only [Pt.U, Pt.locs, Pt.cells, Pt.slots] at X1 l1 y1 z1 st hQ
  subst l1 y1 z1
  exact ⟨v, T1, Lc, X1, hQ, fun τ kt => st.trans kt⟩
theorem own_spec (X : Stand p l e R s m args below meth c T locs cells slots) (hx : p.tables.exec = Jvm.exec) (hZ : Z.Warmed39 s.vm) {own : String} {index : Nat} {y : MethodName} (hy1 : y.name = "<init>") (hown : s.vm.findClass own = some m.cls)
    (w1 : (Jvm.Cond.methodLink own index y).before a0 Z = true) (w4 : (Jvm.Cond.instanceMethod y).before a0 Z = true)
    (hy : y.cls ≠ "java/lang/invoke/MethodHandle" ∧ y.cls ≠ "java/lang/invoke/VarHandle") {bytes : ByteArray} {maxL : Nat} {rm : Room} {as' : Array Value} {Q : Option Value → Heap → List Loc → Prop}
    (hM : MetFree l y (head1 [Jvm.Cond.code y bytes maxL none] rm) (fun α U => α = as' ∧ Z.Warmed39 U.vm ∧ U.heap = h) (fun _ _ _ _ _ => True) (fun _ U o U' => ∃ v L, o = .returned v ∧ Q v U'.heap L ∧ FrameEnd U o U' L rm.cells rm.slots))
    (wc : (Jvm.Cond.code y bytes maxL none).before a0 Z = true) (wz : (Jvm.Cond.initialized y.cls).before a0 Z = true) (W : Nat) (hf : rm.frames + 1 ≤ R.frames) (hl : W + (maxL + 11) + rm.locals ≤ R.locals)
    {b : Addr} (eT : T.heap = h) (g : JFrame) (hg : g.method = m) (hsize : g.locals.size = c.maxLocals) (argsL rest : List Value) (has : (.ref b :: argsL).toArray = as')
    (hlen : ∀ sig, parseMethodDescriptor y.desc = some sig → argsL.length = sig.parameters.length) (hstack : g.stack = argsL.reverse ++ .ref b :: rest) (hW : 2 * g.monitorRoom + (rest.map fun v => v.category).sum ≤ W)
    (hdg : decode c.code g.pc = .ok (.invokespecial index, 3)) (hc : cells + rm.cells ≤ R.cells) (hs : slots + rm.slots ≤ R.slots) :
    ∃ (v : Option Value) (T' : State) (L : List Loc), Stand p l e R s m args below meth c T' (locs ++ L) (cells + rm.cells) (slots + rm.slots) ∧ Q v T'.heap L ∧
      ∀ τ, Steps p.tables e below (T'.setTop { g with pc := g.pc + 3, stack := v.toList ++ rest }) τ → Steps p.tables e below (T.setTop g) τ := by
  obtain ⟨v, _, ⟨T1, L1, k1, n1⟩, -, X1, ⟨Lc, hQ, l1, y1, z1⟩, st⟩ := X.specialBack hx (y := y) hy1 hown (mvT hZ w1) (mvT hZ w4) (mvT hZ wc) hy (backOf (W := W) hM hZ wc wz hf hl) (g := g) hg hsize (Steps.refl _) (a := b) (argsL := argsL) (rest := rest) hlen hstack hW hdg (fun _ _ => ⟨has, eT, hc, hs⟩)
  dsimp only [Pt.U, Pt.locs, Pt.cells, Pt.slots] at X1 l1 y1 z1 st hQ
  subst l1 y1 z1
  exact ⟨v, T1, Lc, X1, hQ, fun τ kt => st.trans kt⟩
theorem own_stat (X : Stand p l e R s m args below meth c T locs cells slots) (hx : p.tables.exec = Jvm.exec) (hZ : Z.Warmed39 s.vm) {own : String} {index : Nat} {y : MethodName} (hown : s.vm.findClass own = some m.cls)
    (w1 : (Jvm.Cond.methodLink own index y).before a0 Z = true) (w2 : (Jvm.Cond.static y).before a0 Z = true)
    (hy : y.cls ≠ "java/lang/invoke/MethodHandle" ∧ y.cls ≠ "java/lang/invoke/VarHandle") {bytes : ByteArray} {maxL : Nat} {ret : Option FieldType} {rm : Room} {as' : Array Value} {Q : Option Value → Heap → List Loc → Prop}
    (hM : MetFree l y (head1 [Jvm.Cond.code y bytes maxL ret] rm) (fun α U => α = as' ∧ Z.Warmed39 U.vm ∧ U.heap = h) (fun _ _ _ _ _ => True) (fun _ U o U' => ∃ v L, o = .returned v ∧ Q v U'.heap L ∧ FrameEnd U o U' L rm.cells rm.slots))
    (wc : (Jvm.Cond.code y bytes maxL ret).before a0 Z = true) (wz : (Jvm.Cond.initialized y.cls).before a0 Z = true) (W : Nat) (hf : rm.frames + 1 ≤ R.frames) (hl : W + (maxL + 11) + rm.locals ≤ R.locals)
    (eT : T.heap = h) (g : JFrame) (hg : g.method = m) (hsize : g.locals.size = c.maxLocals) (argsL rest : List Value) (has : argsL.toArray = as')
    (hlen : ∀ sig, parseMethodDescriptor y.desc = some sig → argsL.length = sig.parameters.length) (hstack : g.stack = argsL.reverse ++ rest) (hW : 2 * g.monitorRoom + (rest.map fun v => v.category).sum ≤ W)
    (hdg : decode c.code g.pc = .ok (.invokestatic index, 3)) (hc : cells + rm.cells ≤ R.cells) (hs : slots + rm.slots ≤ R.slots) :
    ∃ (v : Option Value) (T' : State) (L : List Loc), Stand p l e R s m args below meth c T' (locs ++ L) (cells + rm.cells) (slots + rm.slots) ∧ Q v T'.heap L ∧
      ∀ τ, Steps p.tables e below (T'.setTop { g with pc := g.pc + 3, stack := v.toList ++ rest }) τ → Steps p.tables e below (T.setTop g) τ := by
  obtain ⟨v, _, ⟨T1, L1, k1, n1⟩, -, X1, ⟨Lc, hQ, l1, y1, z1⟩, st⟩ := Jvm.LawKit.callS X hx (y := y) hown (mvT hZ w1) (mvT hZ w2) (mvT hZ wz) (mvT hZ wc) hy (backOf (W := W) hM hZ wc wz hf hl) (g := g) hg hsize (argsL := argsL) (rest := rest) hlen hstack hW hdg (fun _ _ => ⟨has, eT, hc, hs⟩)
  dsimp only [Pt.U, Pt.locs, Pt.cells, Pt.slots] at X1 l1 y1 z1 st hQ
  subst l1 y1 z1
  exact ⟨v, T1, Lc, X1, hQ, st⟩
end OwnCalls
section OwnHeld
theorem own_isref {v : Value} (q : v = .null ∨ ∃ b, v = .ref b) : v.isRef = true := by rcases q with rfl | ⟨_, rfl⟩ <;> rfl
theorem own_nv {v : Value} {C : String} (q : v = .null ∨ ∃ b, v = .ref b) : narrow (.object C) v = v := by rcases q with rfl | ⟨_, rfl⟩ <;> rfl
theorem own_nvA {v : Value} {t : FieldType} (q : v = .null ∨ ∃ b, v = .ref b) : narrow (.array t) v = v := by rcases q with rfl | ⟨_, rfl⟩ <;> rfl
theorem own_fv {v : Value} {C : String} (q : v = .null ∨ ∃ b, v = .ref b) : fits (.object C) v = true := by rcases q with rfl | ⟨_, rfl⟩ <;> rfl
theorem own_fvA {v : Value} {t : FieldType} (q : v = .null ∨ ∃ b, v = .ref b) : fits (.array t) v = true := by rcases q with rfl | ⟨_, rfl⟩ <;> rfl
variable {p : Program} {l : Launch} {e : Env} {R : Room} {s : State} {m : MethodId} {args : Array Value} {below : List Frame} {meth : Method} {c : Code} {T : State} {locs : List Loc} {cells slots : Nat} {Z : State} {a0 : Array Value} {h : Heap} {EL : List (String × Nat)} {vm vm0 : Vm}
/-- a String whose value is still null is none that the tables book -/
theorem own_safe_null {a : Addr} (hal : Z.vm.Alike vm) (E : Exa Z h a "java/lang/String") (F : Fld Z h a "java/lang/String" "value" "[B" .null) : Safe Z EL vm h a := fun B => by
  obtain ⟨cell, k, e1, e2, e3, -, -⟩ := E
  obtain ⟨cell', cf, kf, i, f, f1, f2, f3, -, -, -, f7⟩ := F
  cases f1.symm.trans e1
  obtain ⟨p, -, u, a', -, q, -, G, rfl | rfl⟩ := B
  · cases (show h[q.sa]? = some q.sC from G.ha).symm.trans e1
    obtain ⟨cS, ⟨⟨-, -, -, ⟨c1, k1, i1, g1, -⟩, -, -, -, v1, -⟩, -⟩, -⟩ := G
    obtain ⟨k3, e4, -⟩ := State.fieldFound?_setVm (s := Z) hal f2
    have e5 := (show (Wst Z vm h).fieldFound? _ _ _ = _ from e4).symm.trans g1
    simp only [Option.some.injEq, Prod.mk.injEq] at e5
    rw [← e5.2.2.2, f7] at v1
    cases v1
  · cases (show h[q.sd]? = some q.SA from G.hd).symm.trans e1
    obtain ⟨cS, -, -, g, -⟩ := G
    have g' : vm.findClass "[B" = some q.SA.cls := g
    rw [hal.findClass] at g'
    obtain ⟨k1, q1, q2⟩ := Vm.findClass_spec g'
    obtain ⟨k2, q3, q4⟩ := Vm.findClass_spec e2
    cases q1.symm.trans q3
    exact absurd (q2.symm.trans q4) (by decide)
/-- a constructor's call by a contract that keeps the invariant of the booked constants -/
theorem own_specH (X : Stand p l e R (s.setVm vm0) m args below meth c T locs cells slots) (hx : p.tables.exec = Jvm.exec) (hZ : Z.Warmed39 vm0) {own : String} {index : Nat} {y : MethodName} (hy1 : y.name = "<init>") (hown : vm0.findClass own = some m.cls)
    (w1 : (Jvm.Cond.methodLink own index y).before a0 Z = true) (w4 : (Jvm.Cond.instanceMethod y).before a0 Z = true)
    (hy : y.cls ≠ "java/lang/invoke/MethodHandle" ∧ y.cls ≠ "java/lang/invoke/VarHandle") {bytes : ByteArray} {maxL : Nat} {rm : Room} {as' : Array Value} {Q : Option Value → Heap → List Loc → Prop}
    (hM : MetFree l y (head1 [Jvm.Cond.code y bytes maxL none] rm) (fun α U => α = as' ∧ Z.Warmed39 U.vm ∧ U.heap = h ∧ CHv Z EL U.vm h) (fun _ _ _ _ _ => True) (fun _ U o U' => ∃ v L, o = .returned v ∧ Q v U'.heap L ∧ CHr Z EL U.vm U.heap U'.vm U'.heap ∧ ReturnedEndW U o U' L rm.cells rm.slots))
    (wc : (Jvm.Cond.code y bytes maxL none).before a0 Z = true) (wz : (Jvm.Cond.initialized y.cls).before a0 Z = true) (W : Nat) (hf : rm.frames + 1 ≤ R.frames) (hl : W + (maxL + 11) + rm.locals ≤ R.locals)
    {k0 : Nat} (hS : s.Since vm0 k0) (hk : k0 ≤ h.size) (hEL : EW Z a0 EL) (H : CHv Z EL vm0 h)
    {b : Addr} (eT : T.heap = h) (g : JFrame) (hg : g.method = m) (hsize : g.locals.size = c.maxLocals) (argsL rest : List Value) (has : (.ref b :: argsL).toArray = as')
    (hlen : ∀ sig, parseMethodDescriptor y.desc = some sig → argsL.length = sig.parameters.length) (hstack : g.stack = argsL.reverse ++ .ref b :: rest) (hW : 2 * g.monitorRoom + (rest.map fun v => v.category).sum ≤ W)
    (hdg : decode c.code g.pc = .ok (.invokespecial index, 3)) (hc : cells + rm.cells ≤ R.cells) (hs : slots + rm.slots ≤ R.slots) :
    ∃ (v : Option Value) (T' : State) (L : List Loc) (k1 : Nat), Stand p l e R (s.setVm T'.vm) m args below meth c T' (locs ++ L) (cells + rm.cells) (slots + rm.slots) ∧ Q v T'.heap L ∧ s.Since T'.vm k1 ∧ k1 ≤ T'.heap.size ∧ Z.Warmed39 (s.setVm T'.vm).vm ∧ (s.setVm T'.vm).vm.findClass own = some m.cls ∧ CHr Z EL vm0 h T'.vm T'.heap ∧
      ∀ τ, Steps p.tables e below (T'.setTop { g with pc := g.pc + 3, stack := v.toList ++ rest }) τ → Steps p.tables e below (T.setTop g) τ := by
  obtain ⟨v, vm1, ⟨T1, L1, k1, n1⟩, -, X1, hS1, hgr, ⟨Lc, hQ, l1, y1, z1, hC⟩, st⟩ := X.specialBackS hx (y := y) hy1 hown (mvT (s := s.setVm vm0) hZ w1) (mvT (s := s.setVm vm0) hZ w4) (mvT (s := s.setVm vm0) hZ wc) hy (backOfSH (W := W) hM hZ wc wz hf hl hEL H) (g := g) hg hsize (Steps.refl _) (a := b) (argsL := argsL) (rest := rest) hlen hstack hW hdg (fun _ _ => ⟨has, eT, hc, hs⟩)
  dsimp only [Pt.U, Pt.locs, Pt.cells, Pt.slots] at X1 l1 y1 z1 st hQ hS1 hgr hC
  subst l1 y1 z1
  have hW1 : Z.Warmed39 T1.vm := State.Warmed39.trans (t := s.setVm vm0) hZ hS1.1
  have hf1 : T1.vm.findClass own = some m.cls := by rw [hS1.1.alike.findClass]; exact hown
  exact ⟨v, T1, Lc, _, X1, hQ, foldS (T := T) hS (by rw [eT]; exact hk) hS1 hgr, Nat.le_refl _, hW1, hf1, hC, fun τ kt => st.trans kt⟩
end OwnHeld
theorem own_pd___C_V : parseMethodDescriptor "([C)V" = some ⟨[(.array .char)], none⟩ := by decide +kernel
theorem own_pd___CIILjava_lang_Void__V : parseMethodDescriptor "([CIILjava/lang/Void;)V" = some ⟨[(.array .char), .int, .int, (.object "java/lang/Void")], none⟩ := by decide +kernel
theorem own_pd__ILjava_lang_String_Ljava_lang_String_Ljava_lang_String__BZ_V : parseMethodDescriptor "(ILjava/lang/String;Ljava/lang/String;Ljava/lang/String;[BZ)V" = some ⟨[.int, (.object "java/lang/String"), (.object "java/lang/String"), (.object "java/lang/String"), (.array .byte), .boolean], none⟩ := by decide +kernel
theorem own_pd___V : parseMethodDescriptor "()V" = some ⟨[], none⟩ := by decide +kernel
theorem own_pd___Z : parseMethodDescriptor "()Z" = some ⟨[], some .boolean⟩ := by decide +kernel
theorem own_strw {a0 : Array Value} {Z : State} (hw : ∀ d ∈ tables_1, d.before a0 Z = true) : ∀ d ∈ StrChars.Road.words, d.before a0 Z = true := fun d hd => hw d ((by decide +kernel : ∀ d ∈ StrChars.Road.words, d ∈ tables_1) d hd)
theorem own_chars (x : Int32) : ¬ nar .char ((x &&& (255 : Int32)).toUInt32.toUInt16.toUInt32.toInt32) < 0 ∧ ¬ (255 : Int32) < nar .char ((x &&& (255 : Int32)).toUInt32.toUInt16.toUInt32.toInt32) := by
  have t : ∀ k : Fin 256, ¬ nar .char ((Int32.ofNat k.val).toUInt32.toUInt16.toUInt32.toInt32) < 0 ∧ ¬ (255 : Int32) < nar .char ((Int32.ofNat k.val).toUInt32.toUInt16.toUInt32.toInt32) := by decide +kernel
  have h : (x &&& 255).toBitVec.toNat < 256 := by
    simp only [Int32.toBitVec_and, BitVec.toNat_and]
    exact Nat.lt_succ_of_le Nat.and_le_right
  have e : (x &&& 255) = Int32.ofNat (x &&& 255).toBitVec.toNat := by
    apply Int32.toBitVec_inj.mp
    show _ = BitVec.ofNat 32 _
    rw [BitVec.ofNat_toNat]; simp
  rw [e]
  exact t ⟨_, h⟩
/-- isRedirect's answer: nn is 1 where a location is there -/
def own_red (st nn : Int32) : Int32 := if st < (300 : Int32) then 0 else if st < (400 : Int32) then nn else 0
theorem own_div3 (st : Int32) : st / (100 : Int32) = (3 : Int32) ↔ ¬ st < (300 : Int32) ∧ st < (400 : Int32) := by
  have e : (st / (100 : Int32)).toInt = st.toInt.tdiv 100 := by
    rw [Int32.toInt_div]
    have h1 := Int32.le_toInt st
    have h2 := Int32.toInt_lt st
    have : (100 : Int32).toInt = 100 := by decide
    rw [this]
    rcases Int.le_total 0 st.toInt with h | h
    · rw [Int.tdiv_eq_ediv_of_nonneg h, Int.bmod_eq_of_le] <;> omega
    · have q : st.toInt.tdiv 100 = -((-st.toInt) / 100) := by rw [← Int.tdiv_eq_ediv_of_nonneg (by omega), Int.neg_tdiv, Int.neg_neg]
      rw [q, Int.bmod_eq_of_le] <;> omega
  have e3 : (3 : Int32).toInt = 3 := by decide
  have e300 : (300 : Int32).toInt = 300 := by decide
  have e400 : (400 : Int32).toInt = 400 := by decide
  rw [← Int32.toInt_inj, e, e3, Int32.lt_iff_toInt_lt, Int32.lt_iff_toInt_lt, e300, e400]
  rcases Int.le_total 0 st.toInt with h | h
  · rw [Int.tdiv_eq_ediv_of_nonneg h]; omega
  · have q : st.toInt.tdiv 100 = -((-st.toInt) / 100) := by rw [← Int.tdiv_eq_ediv_of_nonneg (by omega), Int.neg_tdiv, Int.neg_neg]
    rw [q]; omega
theorem own_red0 (st : Int32) : own_red st 0 = 0 := by by_cases h : st < (300 : Int32) <;> by_cases h2 : st < (400 : Int32) <;> simp [own_red, h, h2]
theorem own_redY {st : Int32} (h : st / (100 : Int32) = (3 : Int32)) : own_red st 1 = 1 := by
  obtain ⟨a, b⟩ := (own_div3 st).mp h
  unfold own_red; rw [if_neg a, if_pos b]
theorem own_redN {st : Int32} (h : ¬ st / (100 : Int32) = (3 : Int32)) : own_red st 1 = 0 := by
  unfold own_red
  split
  · rfl
  · split
    · exact absurd ((own_div3 st).mpr ⟨by assumption, by assumption⟩) h
    · rfl
abbrev own_mn0 : MethodName := ⟨"java/lang/String", "<init>", "([CIILjava/lang/Void;)V"⟩
abbrev own_mn1 : MethodName := ⟨"java/lang/Record", "<init>", "()V"⟩
abbrev own_mn2 : MethodName := ⟨"java/lang/String", "<init>", "([C)V"⟩
abbrev own_mn3 : MethodName := ⟨"com/example/winder/winder/io/Fetched", "<init>", "(ILjava/lang/String;Ljava/lang/String;Ljava/lang/String;[BZ)V"⟩
abbrev own_mn4 : MethodName := ⟨"com/example/winder/winder/io/Fetched", "isRedirect", "()Z"⟩
theorem own_W0 {a0 : Array Value} {Z : State} (hw : ∀ d ∈ tables_1, d.before a0 Z = true) : Jvm.Cond.before (Jvm.Cond.constant "com/example/winder/winder/io/FetchedIsRedirectPinLaw" (7 : Nat) (2147483647 : Int32)) a0 Z = true := hw _ (List.mem_of_getElem? (i := 0) rfl)
theorem own_W1 {a0 : Array Value} {Z : State} (hw : ∀ d ∈ tables_1, d.before a0 Z = true) : Jvm.Cond.before (Jvm.Cond.arrayClass Jvm.ClassFile.FieldType.char) a0 Z = true := hw _ (List.mem_of_getElem? (i := 1) rfl)
theorem own_W2 {a0 : Array Value} {Z : State} (hw : ∀ d ∈ tables_1, d.before a0 Z = true) : Jvm.Cond.before (Jvm.Cond.classLink "com/example/winder/winder/io/FetchedIsRedirectPinLaw" (8 : Nat) "java/lang/String") a0 Z = true := hw _ (List.mem_of_getElem? (i := 2) rfl)
theorem own_W3 {a0 : Array Value} {Z : State} (hw : ∀ d ∈ tables_1, d.before a0 Z = true) : Jvm.Cond.before (Jvm.Cond.instantiable "java/lang/String" (4 : Nat)) a0 Z = true := hw _ (List.mem_of_getElem? (i := 3) rfl)
theorem own_W4 {a0 : Array Value} {Z : State} (hw : ∀ d ∈ tables_1, d.before a0 Z = true) : Jvm.Cond.before (Jvm.Cond.initialized "java/lang/String") a0 Z = true := hw _ (List.mem_of_getElem? (i := 4) rfl)
theorem own_W5 {a0 : Array Value} {Z : State} (hw : ∀ d ∈ tables_1, d.before a0 Z = true) : Jvm.Cond.before (Jvm.Cond.methodLink "com/example/winder/winder/io/FetchedIsRedirectPinLaw" (10 : Nat) ({ cls := "java/lang/String", name := "<init>", desc := "([C)V" } : Jvm.MethodName)) a0 Z = true := hw _ (List.mem_of_getElem? (i := 5) rfl)
theorem own_W6 {a0 : Array Value} {Z : State} (hw : ∀ d ∈ tables_1, d.before a0 Z = true) : Jvm.Cond.before (Jvm.Cond.instanceMethod ({ cls := "java/lang/String", name := "<init>", desc := "([C)V" } : Jvm.MethodName)) a0 Z = true := hw _ (List.mem_of_getElem? (i := 6) rfl)
theorem own_W7 {a0 : Array Value} {Z : State} (hw : ∀ d ∈ tables_1, d.before a0 Z = true) : Jvm.Cond.before (Jvm.Cond.code ({ cls := "java/lang/String", name := "<init>", desc := "([C)V" } : Jvm.MethodName) jdk_42_method_3_code (2 : Nat) (Option.none : Option Jvm.ClassFile.FieldType)) a0 Z = true := hw _ (List.mem_of_getElem? (i := 7) rfl)
theorem own_W8 {a0 : Array Value} {Z : State} (hw : ∀ d ∈ tables_1, d.before a0 Z = true) : Jvm.Cond.before (Jvm.Cond.methodLink "java/lang/String" (27 : Nat) ({ cls := "java/lang/String", name := "<init>", desc := "([CIILjava/lang/Void;)V" } : Jvm.MethodName)) a0 Z = true := hw _ (List.mem_of_getElem? (i := 8) rfl)
theorem own_W9 {a0 : Array Value} {Z : State} (hw : ∀ d ∈ tables_1, d.before a0 Z = true) : Jvm.Cond.before (Jvm.Cond.instanceMethod ({ cls := "java/lang/String", name := "<init>", desc := "([CIILjava/lang/Void;)V" } : Jvm.MethodName)) a0 Z = true := hw _ (List.mem_of_getElem? (i := 9) rfl)
theorem own_W11 {a0 : Array Value} {Z : State} (hw : ∀ d ∈ tables_1, d.before a0 Z = true) : Jvm.Cond.before (Jvm.Cond.code ({ cls := "java/lang/String", name := "<init>", desc := "([CIILjava/lang/Void;)V" } : Jvm.MethodName) jdk_42_method_149_code (6 : Nat) (Option.none : Option Jvm.ClassFile.FieldType)) a0 Z = true := hw _ (List.mem_of_getElem? (i := 11) rfl)
theorem own_W12 {a0 : Array Value} {Z : State} (hw : ∀ d ∈ tables_1, d.before a0 Z = true) : Jvm.Cond.before (Jvm.Cond.methodLink "java/lang/String" (1 : Nat) ({ cls := "java/lang/Object", name := "<init>", desc := "()V" } : Jvm.MethodName)) a0 Z = true := hw _ (List.mem_of_getElem? (i := 12) rfl)
theorem own_W13 {a0 : Array Value} {Z : State} (hw : ∀ d ∈ tables_1, d.before a0 Z = true) : Jvm.Cond.before (Jvm.Cond.instanceMethod ({ cls := "java/lang/Object", name := "<init>", desc := "()V" } : Jvm.MethodName)) a0 Z = true := hw _ (List.mem_of_getElem? (i := 13) rfl)
theorem own_W14 {a0 : Array Value} {Z : State} (hw : ∀ d ∈ tables_1, d.before a0 Z = true) : Jvm.Cond.before (Jvm.Cond.code ({ cls := "java/lang/Object", name := "<init>", desc := "()V" } : Jvm.MethodName) object_method_1_code (1 : Nat) (Option.none : Option Jvm.ClassFile.FieldType)) a0 Z = true := hw _ (List.mem_of_getElem? (i := 14) rfl)
theorem own_W20 {a0 : Array Value} {Z : State} (hw : ∀ d ∈ tables_1, d.before a0 Z = true) : Jvm.Cond.before (Jvm.Cond.arrayClass Jvm.ClassFile.FieldType.byte) a0 Z = true := hw _ (List.mem_of_getElem? (i := 20) rfl)
theorem own_W27 {a0 : Array Value} {Z : State} (hw : ∀ d ∈ tables_1, d.before a0 Z = true) : Jvm.Cond.before (Jvm.Cond.fieldLink "java/lang/String" (15 : Nat) "java/lang/String" "coder" "B") a0 Z = true := hw _ (List.mem_of_getElem? (i := 27) rfl)
theorem own_W28 {a0 : Array Value} {Z : State} (hw : ∀ d ∈ tables_1, d.before a0 Z = true) : Jvm.Cond.before (Jvm.Cond.laysFinal "java/lang/String" "java/lang/String" "coder" "B") a0 Z = true := hw _ (List.mem_of_getElem? (i := 28) rfl)
theorem own_W29 {a0 : Array Value} {Z : State} (hw : ∀ d ∈ tables_1, d.before a0 Z = true) : Jvm.Cond.before (Jvm.Cond.fieldLink "java/lang/String" (9 : Nat) "java/lang/String" "value" "[B") a0 Z = true := hw _ (List.mem_of_getElem? (i := 29) rfl)
theorem own_W30 {a0 : Array Value} {Z : State} (hw : ∀ d ∈ tables_1, d.before a0 Z = true) : Jvm.Cond.before (Jvm.Cond.laysFinal "java/lang/String" "java/lang/String" "value" "[B") a0 Z = true := hw _ (List.mem_of_getElem? (i := 30) rfl)
theorem own_W31 {a0 : Array Value} {Z : State} (hw : ∀ d ∈ tables_1, d.before a0 Z = true) : Jvm.Cond.before (Jvm.Cond.classLink "com/example/winder/winder/io/FetchedIsRedirectPinLaw" (13 : Nat) "com/example/winder/winder/io/Fetched") a0 Z = true := hw _ (List.mem_of_getElem? (i := 31) rfl)
theorem own_W32 {a0 : Array Value} {Z : State} (hw : ∀ d ∈ tables_1, d.before a0 Z = true) : Jvm.Cond.before (Jvm.Cond.instantiable "com/example/winder/winder/io/Fetched" (6 : Nat)) a0 Z = true := hw _ (List.mem_of_getElem? (i := 32) rfl)
theorem own_W33 {a0 : Array Value} {Z : State} (hw : ∀ d ∈ tables_1, d.before a0 Z = true) : Jvm.Cond.before (Jvm.Cond.initialized "com/example/winder/winder/io/Fetched") a0 Z = true := hw _ (List.mem_of_getElem? (i := 33) rfl)
theorem own_W34 {a0 : Array Value} {Z : State} (hw : ∀ d ∈ tables_1, d.before a0 Z = true) : Jvm.Cond.before (Jvm.Cond.stringLink "java/lang/String" (7 : Nat) "") a0 Z = true := hw _ (List.mem_of_getElem? (i := 34) rfl)
theorem own_W37 {a0 : Array Value} {Z : State} (hw : ∀ d ∈ tables_1, d.before a0 Z = true) : Jvm.Cond.before (Jvm.Cond.methodLink "com/example/winder/winder/io/FetchedIsRedirectPinLaw" (15 : Nat) ({ cls := "com/example/winder/winder/io/Fetched", name := "<init>", desc := "(ILjava/lang/String;Ljava/lang/String;Ljava/lang/String;[BZ)V" } : Jvm.MethodName)) a0 Z = true := hw _ (List.mem_of_getElem? (i := 37) rfl)
theorem own_W38 {a0 : Array Value} {Z : State} (hw : ∀ d ∈ tables_1, d.before a0 Z = true) : Jvm.Cond.before (Jvm.Cond.instanceMethod ({ cls := "com/example/winder/winder/io/Fetched", name := "<init>", desc := "(ILjava/lang/String;Ljava/lang/String;Ljava/lang/String;[BZ)V" } : Jvm.MethodName)) a0 Z = true := hw _ (List.mem_of_getElem? (i := 38) rfl)
theorem own_W39 {a0 : Array Value} {Z : State} (hw : ∀ d ∈ tables_1, d.before a0 Z = true) : Jvm.Cond.before (Jvm.Cond.code ({ cls := "com/example/winder/winder/io/Fetched", name := "<init>", desc := "(ILjava/lang/String;Ljava/lang/String;Ljava/lang/String;[BZ)V" } : Jvm.MethodName) prog_5_method_1_code (7 : Nat) (Option.none : Option Jvm.ClassFile.FieldType)) a0 Z = true := hw _ (List.mem_of_getElem? (i := 39) rfl)
theorem own_W40 {a0 : Array Value} {Z : State} (hw : ∀ d ∈ tables_1, d.before a0 Z = true) : Jvm.Cond.before (Jvm.Cond.methodLink "com/example/winder/winder/io/Fetched" (1 : Nat) ({ cls := "java/lang/Record", name := "<init>", desc := "()V" } : Jvm.MethodName)) a0 Z = true := hw _ (List.mem_of_getElem? (i := 40) rfl)
theorem own_W41 {a0 : Array Value} {Z : State} (hw : ∀ d ∈ tables_1, d.before a0 Z = true) : Jvm.Cond.before (Jvm.Cond.instanceMethod ({ cls := "java/lang/Record", name := "<init>", desc := "()V" } : Jvm.MethodName)) a0 Z = true := hw _ (List.mem_of_getElem? (i := 41) rfl)
theorem own_W43 {a0 : Array Value} {Z : State} (hw : ∀ d ∈ tables_1, d.before a0 Z = true) : Jvm.Cond.before (Jvm.Cond.initialized "java/lang/Record") a0 Z = true := hw _ (List.mem_of_getElem? (i := 43) rfl)
theorem own_W44 {a0 : Array Value} {Z : State} (hw : ∀ d ∈ tables_1, d.before a0 Z = true) : Jvm.Cond.before (Jvm.Cond.code ({ cls := "java/lang/Record", name := "<init>", desc := "()V" } : Jvm.MethodName) jdk_30_method_1_code (1 : Nat) (Option.none : Option Jvm.ClassFile.FieldType)) a0 Z = true := hw _ (List.mem_of_getElem? (i := 44) rfl)
theorem own_W45 {a0 : Array Value} {Z : State} (hw : ∀ d ∈ tables_1, d.before a0 Z = true) : Jvm.Cond.before (Jvm.Cond.methodLink "java/lang/Record" (1 : Nat) ({ cls := "java/lang/Object", name := "<init>", desc := "()V" } : Jvm.MethodName)) a0 Z = true := hw _ (List.mem_of_getElem? (i := 45) rfl)
theorem own_W46 {a0 : Array Value} {Z : State} (hw : ∀ d ∈ tables_1, d.before a0 Z = true) : Jvm.Cond.before (Jvm.Cond.fieldLink "com/example/winder/winder/io/Fetched" (7 : Nat) "com/example/winder/winder/io/Fetched" "status" "I") a0 Z = true := hw _ (List.mem_of_getElem? (i := 46) rfl)
theorem own_W47 {a0 : Array Value} {Z : State} (hw : ∀ d ∈ tables_1, d.before a0 Z = true) : Jvm.Cond.before (Jvm.Cond.laysFinal "com/example/winder/winder/io/Fetched" "com/example/winder/winder/io/Fetched" "status" "I") a0 Z = true := hw _ (List.mem_of_getElem? (i := 47) rfl)
theorem own_W48 {a0 : Array Value} {Z : State} (hw : ∀ d ∈ tables_1, d.before a0 Z = true) : Jvm.Cond.before (Jvm.Cond.fieldLink "com/example/winder/winder/io/Fetched" (13 : Nat) "com/example/winder/winder/io/Fetched" "mediaType" "Ljava/lang/String;") a0 Z = true := hw _ (List.mem_of_getElem? (i := 48) rfl)
theorem own_W49 {a0 : Array Value} {Z : State} (hw : ∀ d ∈ tables_1, d.before a0 Z = true) : Jvm.Cond.before (Jvm.Cond.laysFinal "com/example/winder/winder/io/Fetched" "com/example/winder/winder/io/Fetched" "mediaType" "Ljava/lang/String;") a0 Z = true := hw _ (List.mem_of_getElem? (i := 49) rfl)
theorem own_W50 {a0 : Array Value} {Z : State} (hw : ∀ d ∈ tables_1, d.before a0 Z = true) : Jvm.Cond.before (Jvm.Cond.fieldLink "com/example/winder/winder/io/Fetched" (17 : Nat) "com/example/winder/winder/io/Fetched" "charset" "Ljava/lang/String;") a0 Z = true := hw _ (List.mem_of_getElem? (i := 50) rfl)
theorem own_W51 {a0 : Array Value} {Z : State} (hw : ∀ d ∈ tables_1, d.before a0 Z = true) : Jvm.Cond.before (Jvm.Cond.laysFinal "com/example/winder/winder/io/Fetched" "com/example/winder/winder/io/Fetched" "charset" "Ljava/lang/String;") a0 Z = true := hw _ (List.mem_of_getElem? (i := 51) rfl)
theorem own_W52 {a0 : Array Value} {Z : State} (hw : ∀ d ∈ tables_1, d.before a0 Z = true) : Jvm.Cond.before (Jvm.Cond.fieldLink "com/example/winder/winder/io/Fetched" (20 : Nat) "com/example/winder/winder/io/Fetched" "location" "Ljava/lang/String;") a0 Z = true := hw _ (List.mem_of_getElem? (i := 52) rfl)
theorem own_W53 {a0 : Array Value} {Z : State} (hw : ∀ d ∈ tables_1, d.before a0 Z = true) : Jvm.Cond.before (Jvm.Cond.laysFinal "com/example/winder/winder/io/Fetched" "com/example/winder/winder/io/Fetched" "location" "Ljava/lang/String;") a0 Z = true := hw _ (List.mem_of_getElem? (i := 53) rfl)
theorem own_W54 {a0 : Array Value} {Z : State} (hw : ∀ d ∈ tables_1, d.before a0 Z = true) : Jvm.Cond.before (Jvm.Cond.fieldLink "com/example/winder/winder/io/Fetched" (23 : Nat) "com/example/winder/winder/io/Fetched" "body" "[B") a0 Z = true := hw _ (List.mem_of_getElem? (i := 54) rfl)
theorem own_W55 {a0 : Array Value} {Z : State} (hw : ∀ d ∈ tables_1, d.before a0 Z = true) : Jvm.Cond.before (Jvm.Cond.laysFinal "com/example/winder/winder/io/Fetched" "com/example/winder/winder/io/Fetched" "body" "[B") a0 Z = true := hw _ (List.mem_of_getElem? (i := 55) rfl)
theorem own_W56 {a0 : Array Value} {Z : State} (hw : ∀ d ∈ tables_1, d.before a0 Z = true) : Jvm.Cond.before (Jvm.Cond.fieldLink "com/example/winder/winder/io/Fetched" (27 : Nat) "com/example/winder/winder/io/Fetched" "oversized" "Z") a0 Z = true := hw _ (List.mem_of_getElem? (i := 56) rfl)
theorem own_W57 {a0 : Array Value} {Z : State} (hw : ∀ d ∈ tables_1, d.before a0 Z = true) : Jvm.Cond.before (Jvm.Cond.laysFinal "com/example/winder/winder/io/Fetched" "com/example/winder/winder/io/Fetched" "oversized" "Z") a0 Z = true := hw _ (List.mem_of_getElem? (i := 57) rfl)
theorem own_W58 {a0 : Array Value} {Z : State} (hw : ∀ d ∈ tables_1, d.before a0 Z = true) : Jvm.Cond.before (Jvm.Cond.methodLink "com/example/winder/winder/io/FetchedIsRedirectPinLaw" (18 : Nat) ({ cls := "com/example/winder/winder/io/Fetched", name := "isRedirect", desc := "()Z" } : Jvm.MethodName)) a0 Z = true := hw _ (List.mem_of_getElem? (i := 58) rfl)
theorem own_W59 {a0 : Array Value} {Z : State} (hw : ∀ d ∈ tables_1, d.before a0 Z = true) : Jvm.Cond.before (Jvm.Cond.declares ({ cls := "com/example/winder/winder/io/Fetched", name := "isRedirect", desc := "()Z" } : Jvm.MethodName)) a0 Z = true := hw _ (List.mem_of_getElem? (i := 59) rfl)
theorem own_W60 {a0 : Array Value} {Z : State} (hw : ∀ d ∈ tables_1, d.before a0 Z = true) : Jvm.Cond.before (Jvm.Cond.instanceMethod ({ cls := "com/example/winder/winder/io/Fetched", name := "isRedirect", desc := "()Z" } : Jvm.MethodName)) a0 Z = true := hw _ (List.mem_of_getElem? (i := 60) rfl)
theorem own_W61 {a0 : Array Value} {Z : State} (hw : ∀ d ∈ tables_1, d.before a0 Z = true) : Jvm.Cond.before (Jvm.Cond.selects "com/example/winder/winder/io/Fetched" ({ cls := "com/example/winder/winder/io/Fetched", name := "isRedirect", desc := "()Z" } : Jvm.MethodName) ({ cls := "com/example/winder/winder/io/Fetched", name := "isRedirect", desc := "()Z" } : Jvm.MethodName)) a0 Z = true := hw _ (List.mem_of_getElem? (i := 61) rfl)
theorem own_W62 {a0 : Array Value} {Z : State} (hw : ∀ d ∈ tables_1, d.before a0 Z = true) : Jvm.Cond.before (Jvm.Cond.code ({ cls := "com/example/winder/winder/io/Fetched", name := "isRedirect", desc := "()Z" } : Jvm.MethodName) prog_5_method_3_code (1 : Nat) (Option.some Jvm.ClassFile.FieldType.boolean)) a0 Z = true := hw _ (List.mem_of_getElem? (i := 62) rfl)
def QU (h0 : Heap) (n0 : Nat) (v : Option Value) (h : Heap) (L : List Loc) : Prop := v = none ∧ Fr n0 L ∧ h = h0
def QZ (z : Value) (h0 : Heap) (n0 : Nat) (v : Option Value) (h : Heap) (L : List Loc) : Prop := v = some z ∧ Fr n0 L ∧ h = h0
def QK (a : Addr) (h0 : Heap) (n0 : Nat) (v : Option Value) (h : Heap) (L : List Loc) : Prop := v = none ∧ Fr n0 L ∧ Keep h0 h [a]
theorem d2_0 : decode jdk_42_method_149_code 0 = .ok (.aload_n 0, 1) := by decide +kernel
theorem d2_1 : decode jdk_42_method_149_code 1 = .ok (.invokespecial 1, 3) := by decide +kernel
theorem d2_4 : decode jdk_42_method_149_code 4 = .ok (.iload_n 3, 1) := by decide +kernel
theorem d2_5 : decode jdk_42_method_149_code 5 = .ok (.ifCond .ne 22, 3) := by decide +kernel
theorem d2_8 : decode jdk_42_method_149_code 8 = .ok (.aload_n 0, 1) := by decide +kernel
theorem d2_9 : decode jdk_42_method_149_code 9 = .ok (.ldc 7, 2) := by decide +kernel
theorem d2_11 : decode jdk_42_method_149_code 11 = .ok (.getfield 9, 3) := by decide +kernel
theorem d2_14 : decode jdk_42_method_149_code 14 = .ok (.putfield 9, 3) := by decide +kernel
theorem d2_17 : decode jdk_42_method_149_code 17 = .ok (.aload_n 0, 1) := by decide +kernel
theorem d2_18 : decode jdk_42_method_149_code 18 = .ok (.ldc 7, 2) := by decide +kernel
theorem d2_20 : decode jdk_42_method_149_code 20 = .ok (.getfield 15, 3) := by decide +kernel
theorem d2_23 : decode jdk_42_method_149_code 23 = .ok (.putfield 15, 3) := by decide +kernel
theorem d2_26 : decode jdk_42_method_149_code 26 = .ok (.return_, 1) := by decide +kernel
theorem d2_27 : decode jdk_42_method_149_code 27 = .ok (.getstatic 38, 3) := by decide +kernel
theorem d2_30 : decode jdk_42_method_149_code 30 = .ok (.ifCond .eq 28, 3) := by decide +kernel
theorem d2_33 : decode jdk_42_method_149_code 33 = .ok (.aload_n 1, 1) := by decide +kernel
theorem d2_34 : decode jdk_42_method_149_code 34 = .ok (.iload_n 2, 1) := by decide +kernel
theorem d2_35 : decode jdk_42_method_149_code 35 = .ok (.iload_n 3, 1) := by decide +kernel
theorem d2_36 : decode jdk_42_method_149_code 36 = .ok (.invokestatic 177, 3) := by decide +kernel
theorem d2_39 : decode jdk_42_method_149_code 39 = .ok (.astore 5, 2) := by decide +kernel
theorem d2_41 : decode jdk_42_method_149_code 41 = .ok (.aload_n 0, 1) := by decide +kernel
theorem d2_42 : decode jdk_42_method_149_code 42 = .ok (.aload 5, 2) := by decide +kernel
theorem d2_44 : decode jdk_42_method_149_code 44 = .ok (.iload_n 3, 1) := by decide +kernel
theorem d2_45 : decode jdk_42_method_149_code 45 = .ok (.invokestatic 47, 3) := by decide +kernel
theorem d2_48 : decode jdk_42_method_149_code 48 = .ok (.putfield 15, 3) := by decide +kernel
theorem d2_51 : decode jdk_42_method_149_code 51 = .ok (.aload_n 0, 1) := by decide +kernel
theorem d2_52 : decode jdk_42_method_149_code 52 = .ok (.aload 5, 2) := by decide +kernel
theorem d2_54 : decode jdk_42_method_149_code 54 = .ok (.putfield 9, 3) := by decide +kernel
theorem d2_57 : decode jdk_42_method_149_code 57 = .ok (.return_, 1) := by decide +kernel
theorem d2_58 : decode jdk_42_method_149_code 58 = .ok (.aload_n 0, 1) := by decide +kernel
theorem d2_59 : decode jdk_42_method_149_code 59 = .ok (.iconst 1, 1) := by decide +kernel
theorem d2_60 : decode jdk_42_method_149_code 60 = .ok (.putfield 15, 3) := by decide +kernel
theorem d2_63 : decode jdk_42_method_149_code 63 = .ok (.aload_n 0, 1) := by decide +kernel
theorem d2_64 : decode jdk_42_method_149_code 64 = .ok (.aload_n 1, 1) := by decide +kernel
theorem d2_65 : decode jdk_42_method_149_code 65 = .ok (.iload_n 2, 1) := by decide +kernel
theorem d2_66 : decode jdk_42_method_149_code 66 = .ok (.iload_n 3, 1) := by decide +kernel
theorem d2_67 : decode jdk_42_method_149_code 67 = .ok (.invokestatic 180, 3) := by decide +kernel
theorem d2_70 : decode jdk_42_method_149_code 70 = .ok (.putfield 9, 3) := by decide +kernel
theorem d2_73 : decode jdk_42_method_149_code 73 = .ok (.return_, 1) := by decide +kernel
theorem own_pn_java_lang_String : plainName "java/lang/String" = true := by first | (simp [plainName, overriddenIn]; done) | decide +kernel
theorem own_ef2_xxxxn (m : MethodId) (x0 : Addr) (x1 : Addr) (x2 : Int32) (x3 : Int32) : entryFrame m #[(.ref x0), (.ref x1), (.int x2), (.int x3), .null] 6 = mkF m 0 #[.val (.ref x0), .val (.ref x1), .val (.int x2), .val (.int x3), .val .null, .unset] [] := by first | (simp [entryFrame, mkF, argsToLocals, Value.category]; done) | rfl
set_option maxRecDepth 65536 in
set_option maxHeartbeats 40000000 in
theorem rmE4 (l : Launch) (Z : State) (a0 : Array Value) (hw : ∀ d ∈ tables_1, d.before a0 Z = true) (ws : List Jvm.Cond) (a : Addr) (ca : Addr) (of : Int32) (le : Int32)  (h0 : Heap) (n0 : Nat) (Z0 : n0 ≤ h0.size) (EL : List (String × Nat)) (hEL : EW Z a0 EL) (hmem : ("java/lang/String", 7) ∈ EL) (wS : ∀ a ∈ Bundle.stringAtoms, a.before a0 Z = true) (hle : le = 0) (E7 : Exa Z h0 a "java/lang/String") (F1 : Fld Z h0 a "java/lang/String" "value" "[B" .null) (F2 : Fld Z h0 a "java/lang/String" "coder" "B" (.int (0 : Int32))) (ga : n0 ≤ a) :
    MetFree l (⟨"java/lang/String", "<init>", "([CIILjava/lang/Void;)V"⟩ : MethodName) (head1 (Jvm.Cond.code (⟨"java/lang/String", "<init>", "([CIILjava/lang/Void;)V"⟩ : MethodName) jdk_42_method_149_code 6 none :: ws) ({ frames := 1, cells := 4, slots := 8, locals := 12 } : Room)) (fun α U => α = #[(.ref a), (.ref ca), (.int of), (.int le), .null] ∧ Z.Warmed39 U.vm ∧ U.heap = h0 ∧ CHv Z EL U.vm h0) (fun _ _ _ _ _ => True) (fun _ U ω U' => ∃ ν Λ, ω = .returned ν ∧ QK a h0 n0 ν U'.heap Λ ∧ CHr Z EL U.vm U.heap U'.vm U'.heap ∧ ReturnedEndW U ω U' Λ ({ frames := 1, cells := 4, slots := 8, locals := 12 } : Room).cells ({ frames := 1, cells := 4, slots := 8, locals := 12 } : Room).slots) := by
  refine MetFree.of_bodySF (plainFor_of_name own_pn_java_lang_String) hisR ?_
  intro p e s m args below meth c s₁ Bd hml0 hP hK
  obtain ⟨rfl, hZ0, hh, CV0⟩ := hP
  have hZ : Z.Warmed39 (s.setVm s.vm).vm := hZ0
  have hx := Bd.exec
  have hby := Bd.bytes
  have hml : c.maxLocals = 6 := hml0
  have hown : (s.setVm s.vm).vm.findClass "java/lang/String" = some m.cls := findClass_of_methodNamed Bd.named
  have hnm := (name_of_methodNamed Bd.named Bd.method).1
  have X0 : Stand p l e ({ frames := 1, cells := 4, slots := 8, locals := 12 } : Room) (s.setVm s.vm) m #[(.ref a), (.ref ca), (.int of), (.int le), .null] below meth c s₁ [] 0 0 := Stand.of_body Bd
  have e0 : s₁.heap = h0 := by rw [← hh, Bd.state]; rfl
  have N0 := Fr.nil n0
  have KK0 : Keep h0 h0 [a] := Keep.refl h0 [a]
  have hS0 : s.Since s.vm h0.size := (State.WarmedH.refl s).since _
  have hk0 : h0.size ≤ h0.size := Nat.le_refl _
  have CT0 := CHr.refl CV0
  have CM0 := CHr.refl CV0
  obtain ⟨PS, hPS⟩ : ∃ P : State → Prop, P = fun τ => Steps p.tables e below (s₁.setTop (entryFrame m #[(.ref a), (.ref ca), (.int of), (.int le), .null] 6)) τ := ⟨_, rfl⟩
  have pre0 : ∀ τ, Steps p.tables e below (s₁.setTop (mkF m 0 #[.val (.ref a), .val (.ref ca), .val (.int of), .val (.int le), .val .null, .unset] [])) τ → PS τ := by rw [hPS]; exact fun τ κ => castTop (own_ef2_xxxxn m a ca of le) κ
  have sf_a : Safe Z EL (s.setVm s.vm).vm h0 a := own_safe_null hZ.alike E7 F1
  obtain ⟨T1, X1, e1, st1⟩ := initO X0 hx hZ hown (own_W12 hw) (own_W13 hw) (own_W14 hw) e0 (g := (mkF m 1 #[.val (.ref a), .val (.ref ca), .val (.int of), .val (.int le), .val .null, .unset] [(.ref a)])) rfl (by rw [hml]; rfl) rfl (Jvm.hb hby d2_1) (by decide) (W := 0) (by show 2 * 0 + _ ≤ _; exact Nat.le_of_eq rfl) (by decide)
  have pre2 := fun (τ : State) kt => pre0 τ (by
    show Steps p.tables e below (s₁.setTop (mkF m 0 #[.val (.ref a), .val (.ref ca), .val (.int of), .val (.int le), .val .null, .unset] [])) τ
    refine XS.aloadN X0.here hx rfl (Jvm.hb hby d2_0) rfl rfl ?_
    exact st1 τ kt)
  obtain ⟨x1, T3, h3, k3, b3, kb3, X3, e3, E3, hS3, hk3, hZ, hown, A3, fc3, fv3, V3, lt3, ltb3, C3, -, ne3, st3⟩ := ldcCH X1 hx hZ hown (own_W34 hw) wS e1 hS0 (Nat.le_trans hk0 CM0.2.1) hEL hmem CM0.1 (vs := []) (z := (0 : Int32)) ⟨by decide, rfl⟩ (by decide) rfl (g := (mkF m 9 #[.val (.ref a), .val (.ref ca), .val (.int of), .val (.int le), .val .null, .unset] [(.ref a)])) rfl (Jvm.hb hby d2_9) (n := 0) (by decide) (by decide) (by decide) (by decide)
  have K3 : Keep h0 h3 [a] := KK0.ext E3
  have CT3 := (CT0.trans CM0).trans C3
  have sf3_a := C3.safe E7.lt sf_a
  have CM3 := CHr.refl C3.1
  have ne_a_x1 : a ≠ x1 := (ne3 a sf3_a).1
  have pre4 := fun (τ : State) kt => pre2 τ (by
    show Steps p.tables e below (T1.setTop (mkF m 4 #[.val (.ref a), .val (.ref ca), .val (.int of), .val (.int le), .val .null, .unset] [])) τ
    refine XS.iloadN X1.here hx rfl (Jvm.hb hby d2_4) rfl ?_
    refine XS.ifNo X1.here hx rfl (Jvm.hb hby d2_5) rfl ((if0 _ _).trans (teq hle).2) ?_
    refine XS.aloadN X1.here hx rfl (Jvm.hb hby d2_8) rfl rfl ?_
    exact st3 τ kt)
  obtain ⟨T5, X5, e5, st5⟩ := getF X3 hx hZ hown (host := "") (Or.inl (own_W29 hw)) Via.refl e3 fv3 (g := (mkF m 11 #[.val (.ref a), .val (.ref ca), .val (.int of), .val (.int le), .val .null, .unset] [(.ref x1), (.ref a)])) rfl rfl (Jvm.hb hby d2_11)
  have pre6 := fun (τ : State) kt => pre4 τ (st5 τ kt)
  have f8 := F1.ext E3
  have f9 := E7.ext E3
  obtain ⟨T7, h7, X7, e7, W7, st7⟩ := putF X5 hx hZ hown (host := "") (Or.inl (own_W29 hw)) Via.refl e5 f8 f9 (Or.inr ⟨(own_W30 hw), rfl, hnm⟩) (own_W3 hw) (ty := (.array .byte)) (by decide) rfl rfl (g := (mkF m 14 #[.val (.ref a), .val (.ref ca), .val (.int of), .val (.int le), .val .null, .unset] [(.ref b3), (.ref a)])) rfl rfl (Jvm.hb hby d2_14)
  have fw7 := Fld.same W7 f8
  have N7 := Fr.snoc X7 N0 ga
  have K7 : Keep h0 h7 [a] := K3.wr W7 (Or.inl (by simp))
  have pre10 := fun (τ : State) kt => pre6 τ (st7 τ kt)
  have CM7 := CM3.trans (CHr.wr W7 sf3_a CM3.1)
  have sf7_a := Safe.wr W7 sf3_a CM3.1 sf3_a
  have f12 := f9.wr W7
  obtain ⟨x2, T11, h11, k11, b11, kb11, X11, e11, E11, hS11, hk11, hZ, hown, A11, fc11, fv11, V11, lt11, ltb11, C11, -, ne11, st11⟩ := ldcCH X7 hx hZ hown (own_W34 hw) wS e7 hS3 (Nat.le_trans hk3 CM7.2.1) hEL hmem CM7.1 (vs := []) (z := (0 : Int32)) ⟨by decide, rfl⟩ (by decide) rfl (g := (mkF m 18 #[.val (.ref a), .val (.ref ca), .val (.int of), .val (.int le), .val .null, .unset] [(.ref a)])) rfl (Jvm.hb hby d2_18) (n := 0) (by decide) (by decide) (by decide) (by decide)
  have K11 : Keep h0 h11 [a] := K7.ext E11
  have CT11 := (CT3.trans CM7).trans C11
  have sf11_a := C11.safe f12.lt sf7_a
  have CM11 := CHr.refl C11.1
  have ne_a_x2 : a ≠ x2 := (ne11 a sf11_a).1
  have pre13 := fun (τ : State) kt => pre10 τ (by
    show Steps p.tables e below (T7.setTop (mkF m 17 #[.val (.ref a), .val (.ref ca), .val (.int of), .val (.int le), .val .null, .unset] [])) τ
    refine XS.aloadN X7.here hx rfl (Jvm.hb hby d2_17) rfl rfl ?_
    exact st11 τ kt)
  obtain ⟨T14, X14, e14, st14⟩ := getF X11 hx hZ hown (host := "") (Or.inl (own_W27 hw)) Via.refl e11 fc11 (g := (mkF m 20 #[.val (.ref a), .val (.ref ca), .val (.int of), .val (.int le), .val .null, .unset] [(.ref x2), (.ref a)])) rfl rfl (Jvm.hb hby d2_20)
  have pre15 := fun (τ : State) kt => pre13 τ (st14 τ kt)
  have f17 := F2.ext E3
  have f18 := (f17.other W7 (Or.inr (slot_ne (Or.inr (own_W28 hw)) (Or.inr (own_W30 hw)) (by decide) (t := .byte) (t' := (.array .byte)) (by decide) (by decide))))
  have f19 := f18.ext E11
  have f20 := f12.ext E11
  obtain ⟨T16, h16, X16, e16, W16, st16⟩ := putFN X14 hx hZ hown (own_W27 hw) Via.refl e14 f19 f20 (Or.inr ⟨(own_W28 hw), rfl, hnm⟩) (own_W3 hw) (ty := .byte) (v' := (.int (nar .byte (0 : Int32)))) (by decide) rfl (fits_nar_byte _) (g := (mkF m 23 #[.val (.ref a), .val (.ref ca), .val (.int of), .val (.int le), .val .null, .unset] [(.int (0 : Int32)), (.ref a)])) rfl rfl (Jvm.hb hby d2_23)
  have fw16 := Fld.same W16 f19
  have N16 := Fr.snoc X16 N7 ga
  have K16 : Keep h0 h16 [a] := K11.wr W16 (Or.inl (by simp))
  have pre21 := fun (τ : State) kt => pre15 τ (st16 τ kt)
  have CM16 := CM11.trans (CHr.wr W16 sf11_a CM11.1)
  have sf16_a := Safe.wr W16 sf11_a CM11.1 sf11_a
  have eE : T16.heap = h16 := e16
  obtain ⟨fs, hrL, hrun, hended, hRE⟩ := X16.leaveW hS11 (Nat.le_trans (Nat.le_trans hk11 CM16.2.1) (Nat.le_of_eq (congrArg Array.size eE.symm))) (v := none) (fun _ => rfl)
  refine ⟨_, _, cast (congrFun hPS _) (pre21 _ ?_), hrun, hended, _, _, rfl, ?_, ?_, hRE.1, hRE.2.1, hRE.2.2.1, hRE.2.2.2.mono (by decide) (by decide)⟩
  · show Steps p.tables e below (T16.setTop (mkF m 26 #[.val (.ref a), .val (.ref ca), .val (.int of), .val (.int le), .val .null, .unset] [])) _
    exact X16.returnOut hx Bd.returns (Jvm.hb hby d2_26) hrL
  · show QK a h0 n0 _ T16.heap _
    rw [e16]
    exact ⟨rfl, N16, K16⟩
  · show CHr Z EL s.vm s.heap T16.vm T16.heap
    rw [hh, eE]
    exact (CT11.trans CM16).trans (CHv.at X16 hZ hEL CM16.1)
theorem d1_0 : decode jdk_42_method_3_code 0 = .ok (.aload_n 0, 1) := by decide +kernel
theorem d1_1 : decode jdk_42_method_3_code 1 = .ok (.aload_n 1, 1) := by decide +kernel
theorem d1_2 : decode jdk_42_method_3_code 2 = .ok (.iconst 0, 1) := by decide +kernel
theorem d1_3 : decode jdk_42_method_3_code 3 = .ok (.aload_n 1, 1) := by decide +kernel
theorem d1_4 : decode jdk_42_method_3_code 4 = .ok (.arraylength, 1) := by decide +kernel
theorem d1_5 : decode jdk_42_method_3_code 5 = .ok (.aconst_null, 1) := by decide +kernel
theorem d1_6 : decode jdk_42_method_3_code 6 = .ok (.invokespecial 27, 3) := by decide +kernel
theorem d1_9 : decode jdk_42_method_3_code 9 = .ok (.return_, 1) := by decide +kernel
theorem own_ef1 (m : MethodId) (x0 : Addr) (x1 : Addr) : entryFrame m #[(.ref x0), (.ref x1)] 2 = mkF m 0 #[.val (.ref x0), .val (.ref x1)] [] := by first | (simp [entryFrame, mkF, argsToLocals, Value.category]; done) | rfl
set_option maxRecDepth 65536 in
set_option maxHeartbeats 40000000 in
theorem rmE1 (l : Launch) (Z : State) (a0 : Array Value) (hw : ∀ d ∈ tables_1, d.before a0 Z = true) (ws : List Jvm.Cond) (a : Addr) (ca : Addr) (kc : ClassId) (h0 : Heap) (n0 : Nat) (Z0 : n0 ≤ h0.size) (EL : List (String × Nat)) (hEL : EW Z a0 EL) (hmem : ("java/lang/String", 7) ∈ EL) (wS : ∀ a ∈ Bundle.stringAtoms, a.before a0 Z = true) (E7 : Exa Z h0 a "java/lang/String") (F1 : Fld Z h0 a "java/lang/String" "value" "[B" .null) (F2 : Fld Z h0 a "java/lang/String" "coder" "B" (.int (0 : Int32))) (ga : n0 ≤ a) (V1 : Arv Z h0 ca kc .char (0 : Int32) [] (.int (0 : Int32))) :
    MetFree l (⟨"java/lang/String", "<init>", "([C)V"⟩ : MethodName) (head1 (Jvm.Cond.code (⟨"java/lang/String", "<init>", "([C)V"⟩ : MethodName) jdk_42_method_3_code 2 none :: ws) ({ frames := 2, cells := 4, slots := 8, locals := 29 } : Room)) (fun α U => α = #[(.ref a), (.ref ca)] ∧ Z.Warmed39 U.vm ∧ U.heap = h0 ∧ CHv Z EL U.vm h0) (fun _ _ _ _ _ => True) (fun _ U ω U' => ∃ ν Λ, ω = .returned ν ∧ QK a h0 n0 ν U'.heap Λ ∧ CHr Z EL U.vm U.heap U'.vm U'.heap ∧ ReturnedEndW U ω U' Λ ({ frames := 2, cells := 4, slots := 8, locals := 29 } : Room).cells ({ frames := 2, cells := 4, slots := 8, locals := 29 } : Room).slots) := by
  refine MetFree.of_bodySF (plainFor_of_name own_pn_java_lang_String) hisR ?_
  intro p e s m args below meth c s₁ Bd hml0 hP hK
  obtain ⟨rfl, hZ0, hh, CV0⟩ := hP
  have hZ : Z.Warmed39 (s.setVm s.vm).vm := hZ0
  have hx := Bd.exec
  have hby := Bd.bytes
  have hml : c.maxLocals = 2 := hml0
  have hown : (s.setVm s.vm).vm.findClass "java/lang/String" = some m.cls := findClass_of_methodNamed Bd.named
  have hnm := (name_of_methodNamed Bd.named Bd.method).1
  have X0 : Stand p l e ({ frames := 2, cells := 4, slots := 8, locals := 29 } : Room) (s.setVm s.vm) m #[(.ref a), (.ref ca)] below meth c s₁ [] 0 0 := Stand.of_body Bd
  have e0 : s₁.heap = h0 := by rw [← hh, Bd.state]; rfl
  have N0 := Fr.nil n0
  have KK0 : Keep h0 h0 [a] := Keep.refl h0 [a]
  have hS0 : s.Since s.vm h0.size := (State.WarmedH.refl s).since _
  have hk0 : h0.size ≤ h0.size := Nat.le_refl _
  have CT0 := CHr.refl CV0
  have CM0 := CHr.refl CV0
  obtain ⟨PS, hPS⟩ : ∃ P : State → Prop, P = fun τ => Steps p.tables e below (s₁.setTop (entryFrame m #[(.ref a), (.ref ca)] 2)) τ := ⟨_, rfl⟩
  have pre0 : ∀ τ, Steps p.tables e below (s₁.setTop (mkF m 0 #[.val (.ref a), .val (.ref ca)] [])) τ → PS τ := by rw [hPS]; exact fun τ κ => castTop (own_ef1 m a ca) κ
  obtain ⟨cl22, Ar22, q22, S22, M22, H22, U22⟩ := id V1
  have pre23 := fun (τ : State) kt => pre0 τ (by
    show Steps p.tables e below (s₁.setTop (mkF m 0 #[.val (.ref a), .val (.ref ca)] [])) τ
    refine XS.aloadN X0.here hx rfl (Jvm.hb hby d1_0) rfl rfl ?_
    refine XS.aloadN X0.here hx rfl (Jvm.hb hby d1_1) rfl rfl ?_
    refine XS.iconst X0.here hx rfl (Jvm.hb hby d1_2) ?_
    refine XS.aloadN X0.here hx rfl (Jvm.hb hby d1_3) rfl rfl ?_
    refine X0.arraylength hx ((congrArg (fun (HH : Heap) => HH[ca]?) (e0 : s₁.heap = h0)).trans Ar22.1) (State.isArrayOf_alike hZ.alike Ar22.2.1) (g := (mkF m 4 #[.val (.ref a), .val (.ref ca)] [(.ref ca), (.int (0 : Int32)), (.ref ca), (.ref a)])) rfl rfl (Jvm.hb hby d1_4) _ ?_
    exact kt)
  have pre24 : ∀ τ, Steps p.tables e below (s₁.setTop (mkF m 5 #[.val (.ref a), .val (.ref ca)] [(.int (0 : Int32)), (.int (0 : Int32)), (.ref ca), (.ref a)])) τ → PS τ := by
    have hq := pre23
    rw [len_of S22 M22] at hq
    exact hq
  obtain ⟨_, T25, L25, k25, X25, ⟨rfl, Nq25, Kq25⟩, hS25, hk25, hZ, hown, C25, st25⟩ := own_specH (y := own_mn0) (b := a) X0 hx hZ rfl hown (own_W8 hw) (own_W9 hw) (by decide) (rmE4 l Z a0 hw [] a ca (0 : Int32) (0 : Int32) h0 n0 (Nat.le_trans Z0 KK0.1) EL hEL hmem wS rfl E7 F1 F2 ga) (own_W11 hw) (own_W4 hw) 0 (by decide) (by decide) hS0 (Nat.le_trans hk0 CM0.2.1) hEL CM0.1 e0 (mkF m 6 #[.val (.ref a), .val (.ref ca)] [.null, (.int (0 : Int32)), (.int (0 : Int32)), (.ref ca), (.ref a)]) rfl (by rw [hml]; rfl) [(.ref ca), (.int (0 : Int32)), (.int (0 : Int32)), .null] [] rfl (lenOf own_pd___CIILjava_lang_Void__V rfl) rfl (Nat.le_refl _) (Jvm.hb hby d1_6) (by decide) (by decide)
  have N25 := Fr.app N0 Nq25
  have K25 : Keep h0 T25.heap [a] := KK0.trans Kq25 (allS (Or.inl (by simp)) (all0))
  have pre26 := fun (τ : State) kt => pre24 τ (by
    show Steps p.tables e below (s₁.setTop (mkF m 5 #[.val (.ref a), .val (.ref ca)] [(.int (0 : Int32)), (.int (0 : Int32)), (.ref ca), (.ref a)])) τ
    refine XS.aconstNull X0.here hx rfl (Jvm.hb hby d1_5) ?_
    exact st25 τ kt)
  have CT25 := (CT0.trans CM0).trans C25
  have CM25 := CHr.refl C25.1
  have eE : T25.heap = T25.heap := rfl
  obtain ⟨fs, hrL, hrun, hended, hRE⟩ := X25.leaveW hS25 (Nat.le_trans (Nat.le_trans hk25 CM25.2.1) (Nat.le_of_eq (congrArg Array.size eE.symm))) (v := none) (fun _ => rfl)
  refine ⟨_, _, cast (congrFun hPS _) (pre26 _ ?_), hrun, hended, _, _, rfl, ?_, ?_, hRE.1, hRE.2.1, hRE.2.2.1, hRE.2.2.2.mono (by decide) (by decide)⟩
  · show Steps p.tables e below (T25.setTop (mkF m 9 #[.val (.ref a), .val (.ref ca)] [])) _
    exact X25.returnOut hx Bd.returns (Jvm.hb hby d1_9) hrL
  · show QK a h0 n0 _ T25.heap _
    exact ⟨rfl, N25, K25⟩
  · show CHr Z EL s.vm s.heap T25.vm T25.heap
    rw [hh, eE]
    exact (CT25.trans CM25).trans (CHv.at X25 hZ hEL CM25.1)
theorem d8_0 : decode jdk_30_method_1_code 0 = .ok (.aload_n 0, 1) := by decide +kernel
theorem d8_1 : decode jdk_30_method_1_code 1 = .ok (.invokespecial 1, 3) := by decide +kernel
theorem d8_4 : decode jdk_30_method_1_code 4 = .ok (.return_, 1) := by decide +kernel
theorem own_pn_java_lang_Record : plainName "java/lang/Record" = true := by first | (simp [plainName, overriddenIn]; done) | decide +kernel
theorem own_ef8 (m : MethodId) (x0 : Addr) : entryFrame m #[(.ref x0)] 1 = mkF m 0 #[.val (.ref x0)] [] := by first | (simp [entryFrame, mkF, argsToLocals, Value.category]; done) | rfl
set_option maxRecDepth 65536 in
set_option maxHeartbeats 40000000 in
theorem rmR (l : Launch) (Z : State) (a0 : Array Value) (hw : ∀ d ∈ tables_1, d.before a0 Z = true) (ws : List Jvm.Cond) (a : Addr)  (h0 : Heap) (n0 : Nat) (Z0 : n0 ≤ h0.size)  :
    MetFree l (⟨"java/lang/Record", "<init>", "()V"⟩ : MethodName) (head1 (Jvm.Cond.code (⟨"java/lang/Record", "<init>", "()V"⟩ : MethodName) jdk_30_method_1_code 1 none :: ws) ({ frames := 1, cells := 0, slots := 0, locals := 12 } : Room)) (fun α U => α = #[(.ref a)] ∧ Z.Warmed39 U.vm ∧ U.heap = h0) (fun _ _ _ _ _ => True) (fun _ U ω U' => ∃ ν Λ, ω = .returned ν ∧ QU h0 n0 ν U'.heap Λ ∧ FrameEnd U ω U' Λ ({ frames := 1, cells := 0, slots := 0, locals := 12 } : Room).cells ({ frames := 1, cells := 0, slots := 0, locals := 12 } : Room).slots) := by
  refine MetFree.of_bodySF (plainFor_of_name own_pn_java_lang_Record) hisR ?_
  intro p e s m args below meth c s₁ Bd hml0 hP hK
  obtain ⟨rfl, hZ, hh⟩ := hP
  have hx := Bd.exec
  have hby := Bd.bytes
  have hml : c.maxLocals = 1 := hml0
  have hown : s.vm.findClass "java/lang/Record" = some m.cls := findClass_of_methodNamed Bd.named
  have hnm := (name_of_methodNamed Bd.named Bd.method).1
  have X0 : Stand p l e ({ frames := 1, cells := 0, slots := 0, locals := 12 } : Room) s m #[(.ref a)] below meth c s₁ [] 0 0 := Stand.of_body Bd
  have e0 : s₁.heap = h0 := by rw [← hh, Bd.state]; rfl
  have N0 := Fr.nil n0
  have KK0 : Keep h0 h0 [] := Keep.refl h0 []
  obtain ⟨PS, hPS⟩ : ∃ P : State → Prop, P = fun τ => Steps p.tables e below (s₁.setTop (entryFrame m #[(.ref a)] 1)) τ := ⟨_, rfl⟩
  have pre0 : ∀ τ, Steps p.tables e below (s₁.setTop (mkF m 0 #[.val (.ref a)] [])) τ → PS τ := by rw [hPS]; exact fun τ κ => castTop (own_ef8 m a) κ
  obtain ⟨T27, X27, e27, st27⟩ := initO X0 hx hZ hown (own_W45 hw) (own_W13 hw) (own_W14 hw) e0 (g := (mkF m 1 #[.val (.ref a)] [(.ref a)])) rfl (by rw [hml]; rfl) rfl (Jvm.hb hby d8_1) (by decide) (W := 0) (by show 2 * 0 + _ ≤ _; exact Nat.le_of_eq rfl) (by decide)
  have pre28 := fun (τ : State) kt => pre0 τ (by
    show Steps p.tables e below (s₁.setTop (mkF m 0 #[.val (.ref a)] [])) τ
    refine XS.aloadN X0.here hx rfl (Jvm.hb hby d8_0) rfl rfl ?_
    exact st27 τ kt)
  obtain ⟨fs, hrL, hrun, hended, hW, hsame⟩ := X27.leave (v := none) (fun _ => rfl)
  refine ⟨_, _, cast (congrFun hPS _) (pre28 _ ?_), hrun, hended, _, _, rfl, ?_, ⟨_, rfl⟩, hW, hsame.mono (by decide) (by decide)⟩
  · show Steps p.tables e below (T27.setTop (mkF m 4 #[.val (.ref a)] [])) _
    exact X27.returnOut hx Bd.returns (Jvm.hb hby d8_4) hrL
  · show QU h0 n0 _ T27.heap _
    rw [e27]
    exact ⟨rfl, N0, rfl⟩
def QF (Z : State) (a : Addr) (st : Int32) (lo : Value) (h0 : Heap) (n0 : Nat) (v : Option Value) (h : Heap) (L : List Loc) : Prop := v = none ∧ Fr n0 L ∧ Keep h0 h [a] ∧ Fld Z h a "com/example/winder/winder/io/Fetched" "status" "I" (.int st) ∧ Fld Z h a "com/example/winder/winder/io/Fetched" "location" "Ljava/lang/String;" lo
theorem d7_0 : decode prog_5_method_1_code 0 = .ok (.aload_n 0, 1) := by decide +kernel
theorem d7_1 : decode prog_5_method_1_code 1 = .ok (.invokespecial 1, 3) := by decide +kernel
theorem d7_4 : decode prog_5_method_1_code 4 = .ok (.aload_n 0, 1) := by decide +kernel
theorem d7_5 : decode prog_5_method_1_code 5 = .ok (.iload_n 1, 1) := by decide +kernel
theorem d7_6 : decode prog_5_method_1_code 6 = .ok (.putfield 7, 3) := by decide +kernel
theorem d7_9 : decode prog_5_method_1_code 9 = .ok (.aload_n 0, 1) := by decide +kernel
theorem d7_10 : decode prog_5_method_1_code 10 = .ok (.aload_n 2, 1) := by decide +kernel
theorem d7_11 : decode prog_5_method_1_code 11 = .ok (.putfield 13, 3) := by decide +kernel
theorem d7_14 : decode prog_5_method_1_code 14 = .ok (.aload_n 0, 1) := by decide +kernel
theorem d7_15 : decode prog_5_method_1_code 15 = .ok (.aload_n 3, 1) := by decide +kernel
theorem d7_16 : decode prog_5_method_1_code 16 = .ok (.putfield 17, 3) := by decide +kernel
theorem d7_19 : decode prog_5_method_1_code 19 = .ok (.aload_n 0, 1) := by decide +kernel
theorem d7_20 : decode prog_5_method_1_code 20 = .ok (.aload 4, 2) := by decide +kernel
theorem d7_22 : decode prog_5_method_1_code 22 = .ok (.putfield 20, 3) := by decide +kernel
theorem d7_25 : decode prog_5_method_1_code 25 = .ok (.aload_n 0, 1) := by decide +kernel
theorem d7_26 : decode prog_5_method_1_code 26 = .ok (.aload 5, 2) := by decide +kernel
theorem d7_28 : decode prog_5_method_1_code 28 = .ok (.putfield 23, 3) := by decide +kernel
theorem d7_31 : decode prog_5_method_1_code 31 = .ok (.aload_n 0, 1) := by decide +kernel
theorem d7_32 : decode prog_5_method_1_code 32 = .ok (.iload 6, 2) := by decide +kernel
theorem d7_34 : decode prog_5_method_1_code 34 = .ok (.putfield 27, 3) := by decide +kernel
theorem d7_37 : decode prog_5_method_1_code 37 = .ok (.return_, 1) := by decide +kernel
theorem own_pn_com_example_winder_winder_io_Fetched : plainName "com/example/winder/winder/io/Fetched" = true := by first | (simp [plainName, overriddenIn]; done) | decide +kernel
theorem own_ef7 (m : MethodId) (x0 : Addr) (x1 : Int32) (x2 : Addr) (x3 : Value) (x4 : Value) (x5 : Value) (x6 : Int32) (q3 : x3 = .null ∨ ∃ b, x3 = .ref b) (q4 : x4 = .null ∨ ∃ b, x4 = .ref b) (q5 : x5 = .null ∨ ∃ b, x5 = .ref b) : entryFrame m #[(.ref x0), (.int x1), (.ref x2), x3, x4, x5, (.int x6)] 7 = mkF m 0 #[.val (.ref x0), .val (.int x1), .val (.ref x2), .val x3, .val x4, .val x5, .val (.int x6)] [] := by rcases q3 with rfl | ⟨b3, rfl⟩ <;> rcases q4 with rfl | ⟨b4, rfl⟩ <;> rcases q5 with rfl | ⟨b5, rfl⟩ <;> first | (simp [entryFrame, mkF, argsToLocals, Value.category]; done) | rfl
set_option maxRecDepth 65536 in
set_option maxHeartbeats 40000000 in
theorem rmF (l : Launch) (Z : State) (a0 : Array Value) (hw : ∀ d ∈ tables_1, d.before a0 Z = true) (ws : List Jvm.Cond) (a : Addr) (st : Int32) (me : Addr) (cs : Value) (lo : Value) (bo : Value) (ov : Int32)  (h0 : Heap) (n0 : Nat) (Z0 : n0 ≤ h0.size) (q_cs : cs = .null ∨ ∃ b, cs = .ref b) (q_lo : lo = .null ∨ ∃ b, lo = .ref b) (q_bo : bo = .null ∨ ∃ b, bo = .ref b) (E7 : Exa Z h0 a "com/example/winder/winder/io/Fetched") (F0 : Fld Z h0 a "com/example/winder/winder/io/Fetched" "status" "I" (.int (0 : Int32))) (F1 : Fld Z h0 a "com/example/winder/winder/io/Fetched" "mediaType" "Ljava/lang/String;" .null) (F2 : Fld Z h0 a "com/example/winder/winder/io/Fetched" "charset" "Ljava/lang/String;" .null) (F3 : Fld Z h0 a "com/example/winder/winder/io/Fetched" "location" "Ljava/lang/String;" .null) (F4 : Fld Z h0 a "com/example/winder/winder/io/Fetched" "body" "[B" .null) (F5 : Fld Z h0 a "com/example/winder/winder/io/Fetched" "oversized" "Z" (.int (0 : Int32))) (ga : n0 ≤ a) :
    MetFree l (⟨"com/example/winder/winder/io/Fetched", "<init>", "(ILjava/lang/String;Ljava/lang/String;Ljava/lang/String;[BZ)V"⟩ : MethodName) (head1 (Jvm.Cond.code (⟨"com/example/winder/winder/io/Fetched", "<init>", "(ILjava/lang/String;Ljava/lang/String;Ljava/lang/String;[BZ)V"⟩ : MethodName) prog_5_method_1_code 7 none :: ws) ({ frames := 2, cells := 0, slots := 0, locals := 24 } : Room)) (fun α U => α = #[(.ref a), (.int st), (.ref me), cs, lo, bo, (.int ov)] ∧ Z.Warmed39 U.vm ∧ U.heap = h0) (fun _ _ _ _ _ => True) (fun _ U ω U' => ∃ ν Λ, ω = .returned ν ∧ QF Z a st lo h0 n0 ν U'.heap Λ ∧ FrameEnd U ω U' Λ ({ frames := 2, cells := 0, slots := 0, locals := 24 } : Room).cells ({ frames := 2, cells := 0, slots := 0, locals := 24 } : Room).slots) := by
  refine MetFree.of_bodySF (plainFor_of_name own_pn_com_example_winder_winder_io_Fetched) hisR ?_
  intro p e s m args below meth c s₁ Bd hml0 hP hK
  obtain ⟨rfl, hZ, hh⟩ := hP
  have hx := Bd.exec
  have hby := Bd.bytes
  have hml : c.maxLocals = 7 := hml0
  have hown : s.vm.findClass "com/example/winder/winder/io/Fetched" = some m.cls := findClass_of_methodNamed Bd.named
  have hnm := (name_of_methodNamed Bd.named Bd.method).1
  have X0 : Stand p l e ({ frames := 2, cells := 0, slots := 0, locals := 24 } : Room) s m #[(.ref a), (.int st), (.ref me), cs, lo, bo, (.int ov)] below meth c s₁ [] 0 0 := Stand.of_body Bd
  have e0 : s₁.heap = h0 := by rw [← hh, Bd.state]; rfl
  have N0 := Fr.nil n0
  have KK0 : Keep h0 h0 [a] := Keep.refl h0 [a]
  obtain ⟨PS, hPS⟩ : ∃ P : State → Prop, P = fun τ => Steps p.tables e below (s₁.setTop (entryFrame m #[(.ref a), (.int st), (.ref me), cs, lo, bo, (.int ov)] 7)) τ := ⟨_, rfl⟩
  have pre0 : ∀ τ, Steps p.tables e below (s₁.setTop (mkF m 0 #[.val (.ref a), .val (.int st), .val (.ref me), .val cs, .val lo, .val bo, .val (.int ov)] [])) τ → PS τ := by rw [hPS]; exact fun τ κ => castTop (own_ef7 m a st me cs lo bo ov q_cs q_lo q_bo) κ
  obtain ⟨_, T29, L29, X29, ⟨rfl, Nq29, eq29⟩, st29⟩ := own_spec (y := own_mn1) (b := a) X0 hx hZ rfl hown (own_W40 hw) (own_W41 hw) (by decide) (rmR l Z a0 hw [] a h0 n0 Z0) (own_W44 hw) (own_W43 hw) 0 (by decide) (by decide) e0 (mkF m 1 #[.val (.ref a), .val (.int st), .val (.ref me), .val cs, .val lo, .val bo, .val (.int ov)] [(.ref a)]) rfl (by rw [hml]; rfl) [] [] rfl (lenOf own_pd___V rfl) rfl (Nat.le_refl _) (Jvm.hb hby d7_1) (by decide) (by decide)
  have N29 := Fr.app N0 Nq29
  have pre30 := fun (τ : State) kt => pre0 τ (by
    show Steps p.tables e below (s₁.setTop (mkF m 0 #[.val (.ref a), .val (.int st), .val (.ref me), .val cs, .val lo, .val bo, .val (.int ov)] [])) τ
    refine XS.aloadN X0.here hx rfl (Jvm.hb hby d7_0) rfl rfl ?_
    exact st29 τ kt)
  obtain ⟨T31, h31, X31, e31, W31, st31⟩ := putF X29 hx hZ hown (host := "") (Or.inl (own_W46 hw)) Via.refl eq29 F0 E7 (Or.inr ⟨(own_W47 hw), rfl, hnm⟩) (own_W32 hw) (ty := .int) (by decide) rfl rfl (g := (mkF m 6 #[.val (.ref a), .val (.int st), .val (.ref me), .val cs, .val lo, .val bo, .val (.int ov)] [(.int st), (.ref a)])) rfl rfl (Jvm.hb hby d7_6)
  have fw31 := Fld.same W31 F0
  have N31 := Fr.snoc X31 N29 ga
  have K31 : Keep h0 h31 [a] := KK0.wr W31 (Or.inl (by simp))
  have pre32 := fun (τ : State) kt => pre30 τ (by
    show Steps p.tables e below (T29.setTop (mkF m 4 #[.val (.ref a), .val (.int st), .val (.ref me), .val cs, .val lo, .val bo, .val (.int ov)] [])) τ
    refine XS.aloadN X29.here hx rfl (Jvm.hb hby d7_4) rfl rfl ?_
    refine XS.iloadN X29.here hx rfl (Jvm.hb hby d7_5) rfl ?_
    exact st31 τ kt)
  have f34 := (F1.other W31 (Or.inr (slot_ne (Or.inr (own_W49 hw)) (Or.inr (own_W47 hw)) (by decide) (t := (.object "java/lang/String")) (t' := .int) (by decide) (by decide))))
  have f35 := E7.wr W31
  obtain ⟨T33, h33, X33, e33, W33, st33⟩ := putF X31 hx hZ hown (host := "") (Or.inl (own_W48 hw)) Via.refl e31 f34 f35 (Or.inr ⟨(own_W49 hw), rfl, hnm⟩) (own_W32 hw) (ty := (.object "java/lang/String")) (by decide) rfl rfl (g := (mkF m 11 #[.val (.ref a), .val (.int st), .val (.ref me), .val cs, .val lo, .val bo, .val (.int ov)] [(.ref me), (.ref a)])) rfl rfl (Jvm.hb hby d7_11)
  have fw33 := Fld.same W33 f34
  have N33 := Fr.snoc X33 N31 ga
  have K33 : Keep h0 h33 [a] := K31.wr W33 (Or.inl (by simp))
  have pre36 := fun (τ : State) kt => pre32 τ (by
    show Steps p.tables e below (T31.setTop (mkF m 9 #[.val (.ref a), .val (.int st), .val (.ref me), .val cs, .val lo, .val bo, .val (.int ov)] [])) τ
    refine XS.aloadN X31.here hx rfl (Jvm.hb hby d7_9) rfl rfl ?_
    refine XS.aloadN X31.here hx rfl (Jvm.hb hby d7_10) rfl rfl ?_
    exact st33 τ kt)
  have f38 := (F2.other W31 (Or.inr (slot_ne (Or.inr (own_W51 hw)) (Or.inr (own_W47 hw)) (by decide) (t := (.object "java/lang/String")) (t' := .int) (by decide) (by decide))))
  have f39 := (f38.other W33 (Or.inr (slot_ne (Or.inr (own_W51 hw)) (Or.inr (own_W49 hw)) (by decide) (t := (.object "java/lang/String")) (t' := (.object "java/lang/String")) (by decide) (by decide))))
  have f40 := f35.wr W33
  obtain ⟨T37, h37, X37, e37, W37, st37⟩ := putF X33 hx hZ hown (host := "") (Or.inl (own_W50 hw)) Via.refl e33 f39 f40 (Or.inr ⟨(own_W51 hw), rfl, hnm⟩) (own_W32 hw) (ty := (.object "java/lang/String")) (by decide) (own_nv q_cs) (own_fv q_cs) (g := (mkF m 16 #[.val (.ref a), .val (.int st), .val (.ref me), .val cs, .val lo, .val bo, .val (.int ov)] [cs, (.ref a)])) rfl rfl (Jvm.hb hby d7_16)
  have fw37 := Fld.same W37 f39
  have N37 := Fr.snoc X37 N33 ga
  have K37 : Keep h0 h37 [a] := K33.wr W37 (Or.inl (by simp))
  have pre41 := fun (τ : State) kt => pre36 τ (by
    show Steps p.tables e below (T33.setTop (mkF m 14 #[.val (.ref a), .val (.int st), .val (.ref me), .val cs, .val lo, .val bo, .val (.int ov)] [])) τ
    refine XS.aloadN X33.here hx rfl (Jvm.hb hby d7_14) rfl rfl ?_
    refine XS.aloadN X33.here hx rfl (Jvm.hb hby d7_15) rfl (own_isref q_cs) ?_
    exact st37 τ kt)
  have f43 := (F3.other W31 (Or.inr (slot_ne (Or.inr (own_W53 hw)) (Or.inr (own_W47 hw)) (by decide) (t := (.object "java/lang/String")) (t' := .int) (by decide) (by decide))))
  have f44 := (f43.other W33 (Or.inr (slot_ne (Or.inr (own_W53 hw)) (Or.inr (own_W49 hw)) (by decide) (t := (.object "java/lang/String")) (t' := (.object "java/lang/String")) (by decide) (by decide))))
  have f45 := (f44.other W37 (Or.inr (slot_ne (Or.inr (own_W53 hw)) (Or.inr (own_W51 hw)) (by decide) (t := (.object "java/lang/String")) (t' := (.object "java/lang/String")) (by decide) (by decide))))
  have f46 := f40.wr W37
  obtain ⟨T42, h42, X42, e42, W42, st42⟩ := putF X37 hx hZ hown (host := "") (Or.inl (own_W52 hw)) Via.refl e37 f45 f46 (Or.inr ⟨(own_W53 hw), rfl, hnm⟩) (own_W32 hw) (ty := (.object "java/lang/String")) (by decide) (own_nv q_lo) (own_fv q_lo) (g := (mkF m 22 #[.val (.ref a), .val (.int st), .val (.ref me), .val cs, .val lo, .val bo, .val (.int ov)] [lo, (.ref a)])) rfl rfl (Jvm.hb hby d7_22)
  have fw42 := Fld.same W42 f45
  have N42 := Fr.snoc X42 N37 ga
  have K42 : Keep h0 h42 [a] := K37.wr W42 (Or.inl (by simp))
  have pre47 := fun (τ : State) kt => pre41 τ (by
    show Steps p.tables e below (T37.setTop (mkF m 19 #[.val (.ref a), .val (.int st), .val (.ref me), .val cs, .val lo, .val bo, .val (.int ov)] [])) τ
    refine XS.aloadN X37.here hx rfl (Jvm.hb hby d7_19) rfl rfl ?_
    refine XS.aload X37.here hx rfl (Jvm.hb hby d7_20) rfl (own_isref q_lo) ?_
    exact st42 τ kt)
  have f49 := (F4.other W31 (Or.inr (slot_ne (Or.inr (own_W55 hw)) (Or.inr (own_W47 hw)) (by decide) (t := (.array .byte)) (t' := .int) (by decide) (by decide))))
  have f50 := (f49.other W33 (Or.inr (slot_ne (Or.inr (own_W55 hw)) (Or.inr (own_W49 hw)) (by decide) (t := (.array .byte)) (t' := (.object "java/lang/String")) (by decide) (by decide))))
  have f51 := (f50.other W37 (Or.inr (slot_ne (Or.inr (own_W55 hw)) (Or.inr (own_W51 hw)) (by decide) (t := (.array .byte)) (t' := (.object "java/lang/String")) (by decide) (by decide))))
  have f52 := (f51.other W42 (Or.inr (slot_ne (Or.inr (own_W55 hw)) (Or.inr (own_W53 hw)) (by decide) (t := (.array .byte)) (t' := (.object "java/lang/String")) (by decide) (by decide))))
  have f53 := f46.wr W42
  obtain ⟨T48, h48, X48, e48, W48, st48⟩ := putF X42 hx hZ hown (host := "") (Or.inl (own_W54 hw)) Via.refl e42 f52 f53 (Or.inr ⟨(own_W55 hw), rfl, hnm⟩) (own_W32 hw) (ty := (.array .byte)) (by decide) (own_nvA q_bo) (own_fvA q_bo) (g := (mkF m 28 #[.val (.ref a), .val (.int st), .val (.ref me), .val cs, .val lo, .val bo, .val (.int ov)] [bo, (.ref a)])) rfl rfl (Jvm.hb hby d7_28)
  have fw48 := Fld.same W48 f52
  have N48 := Fr.snoc X48 N42 ga
  have K48 : Keep h0 h48 [a] := K42.wr W48 (Or.inl (by simp))
  have pre54 := fun (τ : State) kt => pre47 τ (by
    show Steps p.tables e below (T42.setTop (mkF m 25 #[.val (.ref a), .val (.int st), .val (.ref me), .val cs, .val lo, .val bo, .val (.int ov)] [])) τ
    refine XS.aloadN X42.here hx rfl (Jvm.hb hby d7_25) rfl rfl ?_
    refine XS.aload X42.here hx rfl (Jvm.hb hby d7_26) rfl (own_isref q_bo) ?_
    exact st48 τ kt)
  have f56 := (F5.other W31 (Or.inr (slot_ne (Or.inr (own_W57 hw)) (Or.inr (own_W47 hw)) (by decide) (t := .boolean) (t' := .int) (by decide) (by decide))))
  have f57 := (f56.other W33 (Or.inr (slot_ne (Or.inr (own_W57 hw)) (Or.inr (own_W49 hw)) (by decide) (t := .boolean) (t' := (.object "java/lang/String")) (by decide) (by decide))))
  have f58 := (f57.other W37 (Or.inr (slot_ne (Or.inr (own_W57 hw)) (Or.inr (own_W51 hw)) (by decide) (t := .boolean) (t' := (.object "java/lang/String")) (by decide) (by decide))))
  have f59 := (f58.other W42 (Or.inr (slot_ne (Or.inr (own_W57 hw)) (Or.inr (own_W53 hw)) (by decide) (t := .boolean) (t' := (.object "java/lang/String")) (by decide) (by decide))))
  have f60 := (f59.other W48 (Or.inr (slot_ne (Or.inr (own_W57 hw)) (Or.inr (own_W55 hw)) (by decide) (t := .boolean) (t' := (.array .byte)) (by decide) (by decide))))
  have f61 := f53.wr W48
  obtain ⟨T55, h55, X55, e55, W55, st55⟩ := putFN X48 hx hZ hown (own_W56 hw) Via.refl e48 f60 f61 (Or.inr ⟨(own_W57 hw), rfl, hnm⟩) (own_W32 hw) (ty := .boolean) (v' := (.int (nar .boolean ov))) (by decide) rfl (fits_nar_bool _) (g := (mkF m 34 #[.val (.ref a), .val (.int st), .val (.ref me), .val cs, .val lo, .val bo, .val (.int ov)] [(.int ov), (.ref a)])) rfl rfl (Jvm.hb hby d7_34)
  have fw55 := Fld.same W55 f60
  have N55 := Fr.snoc X55 N48 ga
  have K55 : Keep h0 h55 [a] := K48.wr W55 (Or.inl (by simp))
  have pre62 := fun (τ : State) kt => pre54 τ (by
    show Steps p.tables e below (T48.setTop (mkF m 31 #[.val (.ref a), .val (.int st), .val (.ref me), .val cs, .val lo, .val bo, .val (.int ov)] [])) τ
    refine XS.aloadN X48.here hx rfl (Jvm.hb hby d7_31) rfl rfl ?_
    refine XS.iload X48.here hx rfl (Jvm.hb hby d7_32) rfl ?_
    exact st55 τ kt)
  have f63 := (fw31.other W33 (Or.inr (slot_ne (Or.inr (own_W47 hw)) (Or.inr (own_W49 hw)) (by decide) (t := .int) (t' := (.object "java/lang/String")) (by decide) (by decide))))
  have f64 := (f63.other W37 (Or.inr (slot_ne (Or.inr (own_W47 hw)) (Or.inr (own_W51 hw)) (by decide) (t := .int) (t' := (.object "java/lang/String")) (by decide) (by decide))))
  have f65 := (f64.other W42 (Or.inr (slot_ne (Or.inr (own_W47 hw)) (Or.inr (own_W53 hw)) (by decide) (t := .int) (t' := (.object "java/lang/String")) (by decide) (by decide))))
  have f66 := (f65.other W48 (Or.inr (slot_ne (Or.inr (own_W47 hw)) (Or.inr (own_W55 hw)) (by decide) (t := .int) (t' := (.array .byte)) (by decide) (by decide))))
  have f67 := (f66.other W55 (Or.inr (slot_ne (Or.inr (own_W47 hw)) (Or.inr (own_W57 hw)) (by decide) (t := .int) (t' := .boolean) (by decide) (by decide))))
  have f68 := (fw42.other W48 (Or.inr (slot_ne (Or.inr (own_W53 hw)) (Or.inr (own_W55 hw)) (by decide) (t := (.object "java/lang/String")) (t' := (.array .byte)) (by decide) (by decide))))
  have f69 := (f68.other W55 (Or.inr (slot_ne (Or.inr (own_W53 hw)) (Or.inr (own_W57 hw)) (by decide) (t := (.object "java/lang/String")) (t' := .boolean) (by decide) (by decide))))
  obtain ⟨fs, hrL, hrun, hended, hW, hsame⟩ := X55.leave (v := none) (fun _ => rfl)
  refine ⟨_, _, cast (congrFun hPS _) (pre62 _ ?_), hrun, hended, _, _, rfl, ?_, ⟨_, rfl⟩, hW, hsame.mono (by decide) (by decide)⟩
  · show Steps p.tables e below (T55.setTop (mkF m 37 #[.val (.ref a), .val (.int st), .val (.ref me), .val cs, .val lo, .val bo, .val (.int ov)] [])) _
    exact X55.returnOut hx Bd.returns (Jvm.hb hby d7_37) hrL
  · show QF Z a st lo h0 n0 _ T55.heap _
    rw [e55]
    exact ⟨rfl, N55, K55, f67, f69⟩
theorem d9_0 : decode prog_5_method_3_code 0 = .ok (.aload_n 0, 1) := by decide +kernel
theorem d9_1 : decode prog_5_method_3_code 1 = .ok (.getfield 7, 3) := by decide +kernel
theorem d9_4 : decode prog_5_method_3_code 4 = .ok (.sipush 300, 3) := by decide +kernel
theorem d9_7 : decode prog_5_method_3_code 7 = .ok (.if_icmp .lt 24, 3) := by decide +kernel
theorem d9_10 : decode prog_5_method_3_code 10 = .ok (.aload_n 0, 1) := by decide +kernel
theorem d9_11 : decode prog_5_method_3_code 11 = .ok (.getfield 7, 3) := by decide +kernel
theorem d9_14 : decode prog_5_method_3_code 14 = .ok (.sipush 400, 3) := by decide +kernel
theorem d9_17 : decode prog_5_method_3_code 17 = .ok (.if_icmp .ge 14, 3) := by decide +kernel
theorem d9_20 : decode prog_5_method_3_code 20 = .ok (.aload_n 0, 1) := by decide +kernel
theorem d9_21 : decode prog_5_method_3_code 21 = .ok (.getfield 20, 3) := by decide +kernel
theorem d9_24 : decode prog_5_method_3_code 24 = .ok (.ifnull 7, 3) := by decide +kernel
theorem d9_27 : decode prog_5_method_3_code 27 = .ok (.iconst 1, 1) := by decide +kernel
theorem d9_28 : decode prog_5_method_3_code 28 = .ok (.goto 4, 3) := by decide +kernel
theorem d9_31 : decode prog_5_method_3_code 31 = .ok (.iconst 0, 1) := by decide +kernel
theorem d9_32 : decode prog_5_method_3_code 32 = .ok (.ireturn, 1) := by decide +kernel
theorem own_ef9 (m : MethodId) (x0 : Addr) : entryFrame m #[(.ref x0)] 1 = mkF m 0 #[.val (.ref x0)] [] := by first | (simp [entryFrame, mkF, argsToLocals, Value.category]; done) | rfl
set_option maxRecDepth 65536 in
set_option maxHeartbeats 40000000 in
theorem rmIN (l : Launch) (Z : State) (a0 : Array Value) (hw : ∀ d ∈ tables_1, d.before a0 Z = true) (ws : List Jvm.Cond) (a : Addr) (st : Int32) (h0 : Heap) (n0 : Nat) (Z0 : n0 ≤ h0.size) (F1 : Fld Z h0 a "com/example/winder/winder/io/Fetched" "status" "I" (.int st)) (F2 : Fld Z h0 a "com/example/winder/winder/io/Fetched" "location" "Ljava/lang/String;" .null) :
    MetFree l (⟨"com/example/winder/winder/io/Fetched", "isRedirect", "()Z"⟩ : MethodName) (head1 (Jvm.Cond.code (⟨"com/example/winder/winder/io/Fetched", "isRedirect", "()Z"⟩ : MethodName) prog_5_method_3_code 1 (some .boolean) :: ws) ({ frames := 0, cells := 0, slots := 0, locals := 0 } : Room)) (fun α U => α = #[(.ref a)] ∧ Z.Warmed39 U.vm ∧ U.heap = h0) (fun _ _ _ _ _ => True) (fun _ U ω U' => ∃ ν Λ, ω = .returned ν ∧ QZ (.int (own_red st 0)) h0 n0 ν U'.heap Λ ∧ FrameEnd U ω U' Λ ({ frames := 0, cells := 0, slots := 0, locals := 0 } : Room).cells ({ frames := 0, cells := 0, slots := 0, locals := 0 } : Room).slots) := by
  refine MetFree.of_bodySF (plainFor_of_name own_pn_com_example_winder_winder_io_Fetched) hisR ?_
  intro p e s m args below meth c s₁ Bd hml0 hP hK
  obtain ⟨rfl, hZ, hh⟩ := hP
  have hx := Bd.exec
  have hby := Bd.bytes
  have hml : c.maxLocals = 1 := hml0
  have hown : s.vm.findClass "com/example/winder/winder/io/Fetched" = some m.cls := findClass_of_methodNamed Bd.named
  have hnm := (name_of_methodNamed Bd.named Bd.method).1
  have X0 : Stand p l e ({ frames := 0, cells := 0, slots := 0, locals := 0 } : Room) s m #[(.ref a)] below meth c s₁ [] 0 0 := Stand.of_body Bd
  have e0 : s₁.heap = h0 := by rw [← hh, Bd.state]; rfl
  have N0 := Fr.nil n0
  have KK0 : Keep h0 h0 [] := Keep.refl h0 []
  obtain ⟨PS, hPS⟩ : ∃ P : State → Prop, P = fun τ => Steps p.tables e below (s₁.setTop (entryFrame m #[(.ref a)] 1)) τ := ⟨_, rfl⟩
  have pre0 : ∀ τ, Steps p.tables e below (s₁.setTop (mkF m 0 #[.val (.ref a)] [])) τ → PS τ := by rw [hPS]; exact fun τ κ => castTop (own_ef9 m a) κ
  obtain ⟨T70, X70, e70, st70⟩ := getF X0 hx hZ hown (host := "") (Or.inl (own_W46 hw)) Via.refl e0 F1 (g := (mkF m 1 #[.val (.ref a)] [(.ref a)])) rfl rfl (Jvm.hb hby d9_1)
  have pre71 := fun (τ : State) kt => pre0 τ (by
    show Steps p.tables e below (s₁.setTop (mkF m 0 #[.val (.ref a)] [])) τ
    refine XS.aloadN X0.here hx rfl (Jvm.hb hby d9_0) rfl rfl ?_
    exact st70 τ kt)
  have pre72 := fun (τ : State) kt => pre71 τ (by
    show Steps p.tables e below (T70.setTop (mkF m 4 #[.val (.ref a)] [(.int st)])) τ
    refine XS.sipush X70.here hx rfl (Jvm.hb hby d9_4) ?_
    exact kt)
  by_cases q0 : st < (300 : Int32)
  · skip
    have pre73 := fun (τ : State) kt => pre72 τ (by
      show Steps p.tables e below (T70.setTop (mkF m 7 #[.val (.ref a)] [(.int (300 : Int32)), (.int st)])) τ
      refine XS.icmpYes X70.here hx rfl (pc0 := 7) (pc' := 31) rfl (Jvm.hb hby d9_7) rfl (tlt q0).1 (by decide) (by decide) ?_
      refine XS.iconst X70.here hx rfl (Jvm.hb hby d9_31) ?_
      exact kt)
    obtain ⟨fs, hrL, hrun, hended, hW, hsame⟩ := X70.leave (v := some (.int (0 : Int32))) (fun h => by rw [Bd.returns] at h; cases h)
    refine ⟨_, _, cast (congrFun hPS _) (pre73 _ ?_), hrun, hended, _, _, rfl, ?_, ⟨_, rfl⟩, hW, hsame.mono (by decide) (by decide)⟩
    · show Steps p.tables e below (T70.setTop (mkF m 32 #[.val (.ref a)] [(.int (0 : Int32))])) _
      exact retN X70 hx (t := .boolean) Bd.returns (by simp) (Jvm.hb hby d9_32) hrL
    · show QZ (.int (own_red st 0)) h0 n0 _ T70.heap _
      rw [e70]
      exact ⟨by rw [show own_red st 0 = (0 : Int32) from by unfold own_red; rw [if_pos q0]], N0, rfl⟩
  · skip
    obtain ⟨T74, X74, e74, st74⟩ := getF X70 hx hZ hown (host := "") (Or.inl (own_W46 hw)) Via.refl e70 F1 (g := (mkF m 11 #[.val (.ref a)] [(.ref a)])) rfl rfl (Jvm.hb hby d9_11)
    have pre75 := fun (τ : State) kt => pre72 τ (by
      show Steps p.tables e below (T70.setTop (mkF m 7 #[.val (.ref a)] [(.int (300 : Int32)), (.int st)])) τ
      refine XS.icmpNo X70.here hx rfl (Jvm.hb hby d9_7) rfl (flt q0).1 ?_
      refine XS.aloadN X70.here hx rfl (Jvm.hb hby d9_10) rfl rfl ?_
      exact st74 τ kt)
    have pre76 := fun (τ : State) kt => pre75 τ (by
      show Steps p.tables e below (T74.setTop (mkF m 14 #[.val (.ref a)] [(.int st)])) τ
      refine XS.sipush X74.here hx rfl (Jvm.hb hby d9_14) ?_
      exact kt)
    by_cases q1 : st < (400 : Int32)
    · skip
      obtain ⟨T77, X77, e77, st77⟩ := getF X74 hx hZ hown (host := "") (Or.inl (own_W52 hw)) Via.refl e74 F2 (g := (mkF m 21 #[.val (.ref a)] [(.ref a)])) rfl rfl (Jvm.hb hby d9_21)
      have pre78 := fun (τ : State) kt => pre76 τ (by
        show Steps p.tables e below (T74.setTop (mkF m 17 #[.val (.ref a)] [(.int (400 : Int32)), (.int st)])) τ
        refine XS.icmpNo X74.here hx rfl (Jvm.hb hby d9_17) rfl (tlt q1).2.1 ?_
        refine XS.aloadN X74.here hx rfl (Jvm.hb hby d9_20) rfl rfl ?_
        exact st77 τ kt)
      have pre79 := fun (τ : State) kt => pre78 τ (by
        show Steps p.tables e below (T77.setTop (mkF m 24 #[.val (.ref a)] [.null])) τ
        refine XS.ifnullYes X77.here hx rfl (pc0 := 24) (pc' := 31) rfl (Jvm.hb hby d9_24) rfl (by decide) (by decide) ?_
        refine XS.iconst X77.here hx rfl (Jvm.hb hby d9_31) ?_
        exact kt)
      obtain ⟨fs, hrL, hrun, hended, hW, hsame⟩ := X77.leave (v := some (.int (0 : Int32))) (fun h => by rw [Bd.returns] at h; cases h)
      refine ⟨_, _, cast (congrFun hPS _) (pre79 _ ?_), hrun, hended, _, _, rfl, ?_, ⟨_, rfl⟩, hW, hsame.mono (by decide) (by decide)⟩
      · show Steps p.tables e below (T77.setTop (mkF m 32 #[.val (.ref a)] [(.int (0 : Int32))])) _
        exact retN X77 hx (t := .boolean) Bd.returns (by simp) (Jvm.hb hby d9_32) hrL
      · show QZ (.int (own_red st 0)) h0 n0 _ T77.heap _
        rw [e77]
        exact ⟨by rw [show own_red st 0 = (0 : Int32) from by unfold own_red; rw [if_neg q0, if_pos q1]], N0, rfl⟩
    · skip
      have pre80 := fun (τ : State) kt => pre76 τ (by
        show Steps p.tables e below (T74.setTop (mkF m 17 #[.val (.ref a)] [(.int (400 : Int32)), (.int st)])) τ
        refine XS.icmpYes X74.here hx rfl (pc0 := 17) (pc' := 31) rfl (Jvm.hb hby d9_17) rfl (flt q1).2.1 (by decide) (by decide) ?_
        refine XS.iconst X74.here hx rfl (Jvm.hb hby d9_31) ?_
        exact kt)
      obtain ⟨fs, hrL, hrun, hended, hW, hsame⟩ := X74.leave (v := some (.int (0 : Int32))) (fun h => by rw [Bd.returns] at h; cases h)
      refine ⟨_, _, cast (congrFun hPS _) (pre80 _ ?_), hrun, hended, _, _, rfl, ?_, ⟨_, rfl⟩, hW, hsame.mono (by decide) (by decide)⟩
      · show Steps p.tables e below (T74.setTop (mkF m 32 #[.val (.ref a)] [(.int (0 : Int32))])) _
        exact retN X74 hx (t := .boolean) Bd.returns (by simp) (Jvm.hb hby d9_32) hrL
      · show QZ (.int (own_red st 0)) h0 n0 _ T74.heap _
        rw [e74]
        exact ⟨by rw [show own_red st 0 = (0 : Int32) from by unfold own_red; rw [if_neg q0, if_neg q1]], N0, rfl⟩
set_option maxRecDepth 65536 in
set_option maxHeartbeats 40000000 in
theorem rmIR (l : Launch) (Z : State) (a0 : Array Value) (hw : ∀ d ∈ tables_1, d.before a0 Z = true) (ws : List Jvm.Cond) (a : Addr) (st : Int32) (lb : Addr) (h0 : Heap) (n0 : Nat) (Z0 : n0 ≤ h0.size) (F1 : Fld Z h0 a "com/example/winder/winder/io/Fetched" "status" "I" (.int st)) (F2 : Fld Z h0 a "com/example/winder/winder/io/Fetched" "location" "Ljava/lang/String;" (.ref lb)) :
    MetFree l (⟨"com/example/winder/winder/io/Fetched", "isRedirect", "()Z"⟩ : MethodName) (head1 (Jvm.Cond.code (⟨"com/example/winder/winder/io/Fetched", "isRedirect", "()Z"⟩ : MethodName) prog_5_method_3_code 1 (some .boolean) :: ws) ({ frames := 0, cells := 0, slots := 0, locals := 0 } : Room)) (fun α U => α = #[(.ref a)] ∧ Z.Warmed39 U.vm ∧ U.heap = h0) (fun _ _ _ _ _ => True) (fun _ U ω U' => ∃ ν Λ, ω = .returned ν ∧ QZ (.int (own_red st 1)) h0 n0 ν U'.heap Λ ∧ FrameEnd U ω U' Λ ({ frames := 0, cells := 0, slots := 0, locals := 0 } : Room).cells ({ frames := 0, cells := 0, slots := 0, locals := 0 } : Room).slots) := by
  refine MetFree.of_bodySF (plainFor_of_name own_pn_com_example_winder_winder_io_Fetched) hisR ?_
  intro p e s m args below meth c s₁ Bd hml0 hP hK
  obtain ⟨rfl, hZ, hh⟩ := hP
  have hx := Bd.exec
  have hby := Bd.bytes
  have hml : c.maxLocals = 1 := hml0
  have hown : s.vm.findClass "com/example/winder/winder/io/Fetched" = some m.cls := findClass_of_methodNamed Bd.named
  have hnm := (name_of_methodNamed Bd.named Bd.method).1
  have X0 : Stand p l e ({ frames := 0, cells := 0, slots := 0, locals := 0 } : Room) s m #[(.ref a)] below meth c s₁ [] 0 0 := Stand.of_body Bd
  have e0 : s₁.heap = h0 := by rw [← hh, Bd.state]; rfl
  have N0 := Fr.nil n0
  have KK0 : Keep h0 h0 [] := Keep.refl h0 []
  obtain ⟨PS, hPS⟩ : ∃ P : State → Prop, P = fun τ => Steps p.tables e below (s₁.setTop (entryFrame m #[(.ref a)] 1)) τ := ⟨_, rfl⟩
  have pre0 : ∀ τ, Steps p.tables e below (s₁.setTop (mkF m 0 #[.val (.ref a)] [])) τ → PS τ := by rw [hPS]; exact fun τ κ => castTop (own_ef9 m a) κ
  obtain ⟨T81, X81, e81, st81⟩ := getF X0 hx hZ hown (host := "") (Or.inl (own_W46 hw)) Via.refl e0 F1 (g := (mkF m 1 #[.val (.ref a)] [(.ref a)])) rfl rfl (Jvm.hb hby d9_1)
  have pre82 := fun (τ : State) kt => pre0 τ (by
    show Steps p.tables e below (s₁.setTop (mkF m 0 #[.val (.ref a)] [])) τ
    refine XS.aloadN X0.here hx rfl (Jvm.hb hby d9_0) rfl rfl ?_
    exact st81 τ kt)
  have pre83 := fun (τ : State) kt => pre82 τ (by
    show Steps p.tables e below (T81.setTop (mkF m 4 #[.val (.ref a)] [(.int st)])) τ
    refine XS.sipush X81.here hx rfl (Jvm.hb hby d9_4) ?_
    exact kt)
  by_cases q0 : st < (300 : Int32)
  · skip
    have pre84 := fun (τ : State) kt => pre83 τ (by
      show Steps p.tables e below (T81.setTop (mkF m 7 #[.val (.ref a)] [(.int (300 : Int32)), (.int st)])) τ
      refine XS.icmpYes X81.here hx rfl (pc0 := 7) (pc' := 31) rfl (Jvm.hb hby d9_7) rfl (tlt q0).1 (by decide) (by decide) ?_
      refine XS.iconst X81.here hx rfl (Jvm.hb hby d9_31) ?_
      exact kt)
    obtain ⟨fs, hrL, hrun, hended, hW, hsame⟩ := X81.leave (v := some (.int (0 : Int32))) (fun h => by rw [Bd.returns] at h; cases h)
    refine ⟨_, _, cast (congrFun hPS _) (pre84 _ ?_), hrun, hended, _, _, rfl, ?_, ⟨_, rfl⟩, hW, hsame.mono (by decide) (by decide)⟩
    · show Steps p.tables e below (T81.setTop (mkF m 32 #[.val (.ref a)] [(.int (0 : Int32))])) _
      exact retN X81 hx (t := .boolean) Bd.returns (by simp) (Jvm.hb hby d9_32) hrL
    · show QZ (.int (own_red st 1)) h0 n0 _ T81.heap _
      rw [e81]
      exact ⟨by rw [show own_red st 1 = (0 : Int32) from by unfold own_red; rw [if_pos q0]], N0, rfl⟩
  · skip
    obtain ⟨T85, X85, e85, st85⟩ := getF X81 hx hZ hown (host := "") (Or.inl (own_W46 hw)) Via.refl e81 F1 (g := (mkF m 11 #[.val (.ref a)] [(.ref a)])) rfl rfl (Jvm.hb hby d9_11)
    have pre86 := fun (τ : State) kt => pre83 τ (by
      show Steps p.tables e below (T81.setTop (mkF m 7 #[.val (.ref a)] [(.int (300 : Int32)), (.int st)])) τ
      refine XS.icmpNo X81.here hx rfl (Jvm.hb hby d9_7) rfl (flt q0).1 ?_
      refine XS.aloadN X81.here hx rfl (Jvm.hb hby d9_10) rfl rfl ?_
      exact st85 τ kt)
    have pre87 := fun (τ : State) kt => pre86 τ (by
      show Steps p.tables e below (T85.setTop (mkF m 14 #[.val (.ref a)] [(.int st)])) τ
      refine XS.sipush X85.here hx rfl (Jvm.hb hby d9_14) ?_
      exact kt)
    by_cases q1 : st < (400 : Int32)
    · skip
      obtain ⟨T88, X88, e88, st88⟩ := getF X85 hx hZ hown (host := "") (Or.inl (own_W52 hw)) Via.refl e85 F2 (g := (mkF m 21 #[.val (.ref a)] [(.ref a)])) rfl rfl (Jvm.hb hby d9_21)
      have pre89 := fun (τ : State) kt => pre87 τ (by
        show Steps p.tables e below (T85.setTop (mkF m 17 #[.val (.ref a)] [(.int (400 : Int32)), (.int st)])) τ
        refine XS.icmpNo X85.here hx rfl (Jvm.hb hby d9_17) rfl (tlt q1).2.1 ?_
        refine XS.aloadN X85.here hx rfl (Jvm.hb hby d9_20) rfl rfl ?_
        exact st88 τ kt)
      have pre90 := fun (τ : State) kt => pre89 τ (by
        show Steps p.tables e below (T88.setTop (mkF m 24 #[.val (.ref a)] [(.ref lb)])) τ
        refine XS.ifnullNo X88.here hx rfl (Jvm.hb hby d9_24) rfl ?_
        refine XS.iconst X88.here hx rfl (Jvm.hb hby d9_27) ?_
        refine XS.goto X88.here hx rfl (pc0 := 28) (pc' := 32) rfl (Jvm.hb hby d9_28) (by decide) (by decide) ?_
        exact kt)
      obtain ⟨fs, hrL, hrun, hended, hW, hsame⟩ := X88.leave (v := some (.int (1 : Int32))) (fun h => by rw [Bd.returns] at h; cases h)
      refine ⟨_, _, cast (congrFun hPS _) (pre90 _ ?_), hrun, hended, _, _, rfl, ?_, ⟨_, rfl⟩, hW, hsame.mono (by decide) (by decide)⟩
      · show Steps p.tables e below (T88.setTop (mkF m 32 #[.val (.ref a)] [(.int (1 : Int32))])) _
        exact retN X88 hx (t := .boolean) Bd.returns (by simp) (Jvm.hb hby d9_32) hrL
      · show QZ (.int (own_red st 1)) h0 n0 _ T88.heap _
        rw [e88]
        exact ⟨by rw [show own_red st 1 = (1 : Int32) from by unfold own_red; rw [if_neg q0, if_pos q1]], N0, rfl⟩
    · skip
      have pre91 := fun (τ : State) kt => pre87 τ (by
        show Steps p.tables e below (T85.setTop (mkF m 17 #[.val (.ref a)] [(.int (400 : Int32)), (.int st)])) τ
        refine XS.icmpYes X85.here hx rfl (pc0 := 17) (pc' := 31) rfl (Jvm.hb hby d9_17) rfl (flt q1).2.1 (by decide) (by decide) ?_
        refine XS.iconst X85.here hx rfl (Jvm.hb hby d9_31) ?_
        exact kt)
      obtain ⟨fs, hrL, hrun, hended, hW, hsame⟩ := X85.leave (v := some (.int (0 : Int32))) (fun h => by rw [Bd.returns] at h; cases h)
      refine ⟨_, _, cast (congrFun hPS _) (pre91 _ ?_), hrun, hended, _, _, rfl, ?_, ⟨_, rfl⟩, hW, hsame.mono (by decide) (by decide)⟩
      · show Steps p.tables e below (T85.setTop (mkF m 32 #[.val (.ref a)] [(.int (0 : Int32))])) _
        exact retN X85 hx (t := .boolean) Bd.returns (by simp) (Jvm.hb hby d9_32) hrL
      · show QZ (.int (own_red st 1)) h0 n0 _ T85.heap _
        rw [e85]
        exact ⟨by rw [show own_red st 1 = (0 : Int32) from by unfold own_red; rw [if_neg q0, if_neg q1]], N0, rfl⟩
def Q0 (n0 : Nat) (v : Option Value) (h : Heap) (L : List Loc) : Prop := v = some (.int 1) ∧ Fr n0 L
theorem own_pn_com_example_winder_winder_io_FetchedIsRedirectPinLaw : plainName "com/example/winder/winder/io/FetchedIsRedirectPinLaw" = true := by first | (simp [plainName, overriddenIn]; done) | decide +kernel
theorem own_ef0 (m : MethodId) (x0 : Int32) (x1 : Int32) (x2 : Int32) (x3 : Int32) : entryFrame m #[(.int x0), (.int x1), (.int x2), (.int x3)] maxLocals = mkF m 0 #[.val (.int x0), .val (.int x1), .val (.int x2), .val (.int x3), .unset, .unset, .unset, .unset, .unset, .unset, .unset, .unset] [] := by first | (simp [entryFrame, mkF, argsToLocals, Value.category, maxLocals]; done) | rfl
set_option maxRecDepth 65536 in
set_option maxHeartbeats 40000000 in
theorem rm0 (l : Launch) (Z : State) (a0 : Array Value) (hw : ∀ d ∈ tables_1, d.before a0 Z = true) (ws : List Jvm.Cond) (p1 : Int32) (p2 : Int32) (p3 : Int32) (p4 : Int32) (cz : Int32) (h0 : Heap) (n0 : Nat) (Z0 : n0 ≤ h0.size) (EL : List (String × Nat)) (hEL : EW Z a0 EL) (hmem : ("java/lang/String", 7) ∈ EL) (wS : ∀ a ∈ Bundle.stringAtoms, a.before a0 Z = true) (O2 : Sta Z Z.heap "java/lang/String" "COMPACT_STRINGS" "Z" (.int cz)) (P5 : ¬ cz = 0) (OLD0 : Old Z n0 h0) :
    MetFree l x (head1 (Jvm.Cond.code x code maxLocals ret :: ws) room_1) (fun α U => α = #[(.int p1), (.int p2), (.int p3), (.int p4)] ∧ Z.Warmed39 U.vm ∧ U.heap = h0 ∧ CHv Z EL U.vm h0) (fun _ _ _ _ _ => True) (fun _ U ω U' => ∃ ν Λ, ω = .returned ν ∧ Q0 n0 ν U'.heap Λ ∧ ReturnedEndW U ω U' Λ room_1.cells room_1.slots) := by
  refine MetFree.of_bodySF (plainFor_of_name own_pn_com_example_winder_winder_io_FetchedIsRedirectPinLaw) hisR ?_
  intro p e s m args below meth c s₁ Bd hml0 hP hK
  obtain ⟨rfl, hZ0, hh, CV0⟩ := hP
  have hZ : Z.Warmed39 (s.setVm s.vm).vm := hZ0
  have hx := Bd.exec
  have hby := Bd.bytes
  have hml : c.maxLocals = 12 := hml0
  have hown : (s.setVm s.vm).vm.findClass "com/example/winder/winder/io/FetchedIsRedirectPinLaw" = some m.cls := findClass_of_methodNamed Bd.named
  have hnm := (name_of_methodNamed Bd.named Bd.method).1
  have X0 : Stand p l e room_1 (s.setVm s.vm) m #[(.int p1), (.int p2), (.int p3), (.int p4)] below meth c s₁ [] 0 0 := Stand.of_body Bd
  have e0 : s₁.heap = h0 := by rw [← hh, Bd.state]; rfl
  have N0 := Fr.nil n0
  have KK0 : Keep h0 h0 [] := Keep.refl h0 []
  have hS0 : s.Since s.vm h0.size := (State.WarmedH.refl s).since _
  have hk0 : h0.size ≤ h0.size := Nat.le_refl _
  have CT0 := CHr.refl CV0
  have CM0 := CHr.refl CV0
  obtain ⟨PS, hPS⟩ : ∃ P : State → Prop, P = fun τ => Steps p.tables e below (s₁.setTop (entryFrame m #[(.int p1), (.int p2), (.int p3), (.int p4)] maxLocals)) τ := ⟨_, rfl⟩
  have pre0 : ∀ τ, Steps p.tables e below (s₁.setTop (mkF m 0 #[.val (.int p1), .val (.int p2), .val (.int p3), .val (.int p4), .unset, .unset, .unset, .unset, .unset, .unset, .unset, .unset] [])) τ → PS τ := by rw [hPS]; exact fun τ κ => castTop (own_ef0 m p1 p2 p3 p4) κ
  have pre92 := fun (τ : State) kt => pre0 τ (by
    show Steps p.tables e below (s₁.setTop (mkF m 0 #[.val (.int p1), .val (.int p2), .val (.int p3), .val (.int p4), .unset, .unset, .unset, .unset, .unset, .unset, .unset, .unset] [])) τ
    refine XS.iloadN X0.here hx rfl (Jvm.hb hby at_0) rfl ?_
    refine XS.iconst X0.here hx rfl (Jvm.hb hby at_1) ?_
    refine XS.iand X0.here hx rfl (Jvm.hb hby at_2) rfl ?_
    exact kt)
  obtain ⟨st, hj93, pre93⟩ : ∃ (st : Int32), (True) ∧ ∀ τ, Steps p.tables e below (s₁.setTop (mkF m 25 #[.val (.int p1), .val (.int p2), .val (.int p3), .val (.int p4), .val (.int st), .unset, .unset, .unset, .unset, .unset, .unset, .unset] [])) τ → PS τ := by
    by_cases q0 : (p2 &&& (1 : Int32)) = (0 : Int32)
    · skip
      have pre94 := fun (τ : State) kt => pre92 τ (by
        show Steps p.tables e below (s₁.setTop (mkF m 3 #[.val (.int p1), .val (.int p2), .val (.int p3), .val (.int p4), .unset, .unset, .unset, .unset, .unset, .unset, .unset, .unset] [(.int (p2 &&& (1 : Int32)))])) τ
        refine XS.ifNo X0.here hx rfl (Jvm.hb hby at_3) rfl ((if0 _ _).trans (teq q0).2) ?_
        refine XS.iloadN X0.here hx rfl (Jvm.hb hby at_6) rfl ?_
        refine XS.istore X0.here hx rfl (Jvm.hb hby at_7) rfl (l' := #[.val (.int p1), .val (.int p2), .val (.int p3), .val (.int p4), .val (.int p1), .unset, .unset, .unset, .unset, .unset, .unset, .unset]) rfl ?_
        refine XS.goto X0.here hx rfl (pc0 := 9) (pc' := 25) rfl (Jvm.hb hby at_9) (by decide) (by decide) ?_
        exact kt)
      exact ⟨p1, trivial, pre94⟩
    · skip
      have pre95 := fun (τ : State) kt => pre92 τ (by
        show Steps p.tables e below (s₁.setTop (mkF m 3 #[.val (.int p1), .val (.int p2), .val (.int p3), .val (.int p4), .unset, .unset, .unset, .unset, .unset, .unset, .unset, .unset] [(.int (p2 &&& (1 : Int32)))])) τ
        refine XS.ifYes X0.here hx rfl (pc0 := 3) (pc' := 12) rfl (Jvm.hb hby at_3) rfl ((if0 _ _).trans (feq q0).2) (by decide) (by decide) ?_
        refine XS.sipush X0.here hx rfl (Jvm.hb hby at_12) ?_
        refine XS.iloadN X0.here hx rfl (Jvm.hb hby at_15) rfl ?_
        refine X0.ldcInt hx hown (mvT hZ (own_W0 hw)) (g := (mkF m 16 #[.val (.int p1), .val (.int p2), .val (.int p3), .val (.int p4), .unset, .unset, .unset, .unset, .unset, .unset, .unset, .unset] [(.int p1), (.int (299 : Int32))])) rfl (Jvm.hb hby at_16) _ ?_
        refine XS.iand X0.here hx rfl (Jvm.hb hby at_18) rfl ?_
        refine XS.bipush X0.here hx rfl (Jvm.hb hby at_19) ?_
        refine iremM X0 hx rfl (Jvm.hb hby at_21) rfl (by decide) ?_
        refine XS.iadd X0.here hx rfl (Jvm.hb hby at_22) rfl ?_
        refine XS.istore X0.here hx rfl (Jvm.hb hby at_23) rfl (l' := #[.val (.int p1), .val (.int p2), .val (.int p3), .val (.int p4), .val (.int ((299 : Int32) + ((p1 &&& (2147483647 : Int32)) % (103 : Int32)))), .unset, .unset, .unset, .unset, .unset, .unset, .unset]) rfl ?_
        exact kt)
      exact ⟨((299 : Int32) + ((p1 &&& (2147483647 : Int32)) % (103 : Int32))), trivial, pre95⟩
  have pre96 := fun (τ : State) kt => pre93 τ (by
    show Steps p.tables e below (s₁.setTop (mkF m 25 #[.val (.int p1), .val (.int p2), .val (.int p3), .val (.int p4), .val (.int st), .unset, .unset, .unset, .unset, .unset, .unset, .unset] [])) τ
    refine XS.iloadN X0.here hx rfl (Jvm.hb hby at_25) rfl ?_
    refine XS.iconst X0.here hx rfl (Jvm.hb hby at_26) ?_
    refine XS.iand X0.here hx rfl (Jvm.hb hby at_27) rfl ?_
    refine XS.istore X0.here hx rfl (Jvm.hb hby at_28) rfl (l' := #[.val (.int p1), .val (.int p2), .val (.int p3), .val (.int p4), .val (.int st), .val (.int (p3 &&& (3 : Int32))), .unset, .unset, .unset, .unset, .unset, .unset]) rfl ?_
    refine XS.iload X0.here hx rfl (Jvm.hb hby at_30) rfl ?_
    refine XS.iconst X0.here hx rfl (Jvm.hb hby at_32) ?_
    exact kt)
  obtain ⟨T97, h97, vm97, k97, Lj97, lo, s7, X97, e97, N97, K97, hS97, hk97, hZ, hown, CV97, old97, hj97, pre97⟩ : ∃ (T97 : State) (h97 : Heap) (vm97 : Vm) (k97 : Nat) (Lj : List Loc) (lo : Value) (s7 : Slot), Stand p l e room_1 (s.setVm vm97) m #[(.int p1), (.int p2), (.int p3), (.int p4)] below meth c T97 Lj (6) (12) ∧ T97.heap = h97 ∧ Fr n0 Lj ∧ Keep h0 h97 [] ∧ s.Since vm97 k97 ∧ k97 ≤ h97.size ∧ Z.Warmed39 (s.setVm vm97).vm ∧ (s.setVm vm97).vm.findClass "com/example/winder/winder/io/FetchedIsRedirectPinLaw" = some m.cls ∧ CHv Z EL vm97 h97 ∧ Old Z n0 h97 ∧ ((lo = .null ∨ ∃ b, lo = .ref b) ∧ (s7 = .unset ∨ ∃ b, s7 = .val (.ref b))) ∧ ∀ τ, Steps p.tables e below (T97.setTop (mkF m 137 #[.val (.int p1), .val (.int p2), .val (.int p3), .val (.int p4), .val (.int st), .val (.int (p3 &&& (3 : Int32))), .val lo, s7, .unset, .unset, .unset, .unset] [])) τ → PS τ := by
    by_cases q1 : (p3 &&& (3 : Int32)) = (1 : Int32)
    · skip
      obtain ⟨T98, h98, X98, e98, E98, A98, D98, -, st98⟩ := newO X0 hx hZ hown (own_W2 hw) (own_W3 hw) (own_W4 hw) e0 (g := (mkF m 36 #[.val (.int p1), .val (.int p2), .val (.int p3), .val (.int p4), .val (.int st), .val (.int (p3 &&& (3 : Int32))), .unset, .unset, .unset, .unset, .unset, .unset] [])) rfl (Jvm.hb hby at_36) (by decide) (by decide)
      obtain ⟨s1, g98⟩ : ∃ z, z = h0.size := ⟨_, rfl⟩
      rw [← g98] at A98 D98 st98
      have g_s1 : n0 ≤ s1 := Nat.le_trans (Nat.le_trans Z0 KK0.1) (Nat.le_of_eq g98.symm)
      have sz_s1 : h0.size ≤ s1 := Nat.le_trans KK0.1 (Nat.le_of_eq g98.symm)
      have K98 : Keep h0 h98 [] := KK0.ext E98
      have F_coder_s1 : Fld Z h98 s1 "java/lang/String" "coder" "B" (.int (0 : Int32)) := D98 (Or.inr (own_W28 hw)) (ty := .byte) (by decide)
      have F_value_s1 : Fld Z h98 s1 "java/lang/String" "value" "[B" .null := D98 (Or.inr (own_W30 hw)) (ty := (.array .byte)) (by decide)
      have pre99 := fun (τ : State) kt => pre96 τ (by
        show Steps p.tables e below (s₁.setTop (mkF m 33 #[.val (.int p1), .val (.int p2), .val (.int p3), .val (.int p4), .val (.int st), .val (.int (p3 &&& (3 : Int32))), .unset, .unset, .unset, .unset, .unset, .unset] [(.int (1 : Int32)), (.int (p3 &&& (3 : Int32)))])) τ
        refine XS.icmpNo X0.here hx rfl (Jvm.hb hby at_33) rfl (teq q1).2 ?_
        exact st98 τ kt)
      have CM98 := CM0.trans (CHr.ext E98 CM0.1)
      obtain ⟨T100, h100, k100, X100, e100, E100, A100, st100⟩ := newP (aty := .char) X98 hx hZ (own_W1 hw) e98 (g := (mkF m 41 #[.val (.int p1), .val (.int p2), .val (.int p3), .val (.int p4), .val (.int st), .val (.int (p3 &&& (3 : Int32))), .unset, .unset, .unset, .unset, .unset, .unset] [(.int (0 : Int32)), (.ref s1), (.ref s1)])) rfl (Jvm.hb hby at_41) rfl (by decide) (cap := 0) (by decide) (by decide) (by decide) (by decide)
      obtain ⟨c1, g100⟩ : ∃ z, z = h98.size := ⟨_, rfl⟩
      rw [← g100] at A100 st100
      have ne_s1_c1 : s1 ≠ c1 := Nat.ne_of_lt (Nat.lt_of_lt_of_le A98.lt (Nat.le_of_eq g100.symm))
      have g_c1 : n0 ≤ c1 := Nat.le_trans (Nat.le_trans Z0 K98.1) (Nat.le_of_eq g100.symm)
      have sz_c1 : h0.size ≤ c1 := Nat.le_trans K98.1 (Nat.le_of_eq g100.symm)
      have K100 : Keep h0 h100 [] := K98.ext E100
      have V_c1 : Arv Z h100 c1 k100 .char (0 : Int32) [] (.int (0 : Int32)) := (Arv.new A100 (by decide)).pad (pad_rep [] (.int (0 : Int32)) 0)
      have pre101 := fun (τ : State) kt => pre99 τ (by
        show Steps p.tables e below (T98.setTop (mkF m 39 #[.val (.int p1), .val (.int p2), .val (.int p3), .val (.int p4), .val (.int st), .val (.int (p3 &&& (3 : Int32))), .unset, .unset, .unset, .unset, .unset, .unset] [(.ref s1)])) τ
        refine XS.dup X98.here hx rfl (Jvm.hb hby at_39) rfl rfl ?_
        refine XS.iconst X98.here hx rfl (Jvm.hb hby at_40) ?_
        exact st100 τ kt)
      have CM100 := CM98.trans (CHr.ext E100 CM98.1)
      have f102 := A98.ext E100
      have f103 := F_value_s1.ext E100
      have f104 := F_coder_s1.ext E100
      obtain ⟨_, T105, L105, k105, X105, ⟨rfl, Nq105, Kq105⟩, hS105, hk105, hZ, hown, C105, st105⟩ := own_specH (y := own_mn2) (b := s1) X100 hx hZ rfl hown (own_W5 hw) (own_W6 hw) (by decide) (rmE1 l Z a0 hw [] s1 c1 k100 h100 n0 (Nat.le_trans Z0 K100.1) EL hEL hmem wS f102 f103 f104 g_s1 V_c1) (own_W7 hw) (own_W4 hw) 1 (by decide) (by decide) hS0 (Nat.le_trans hk0 CM100.2.1) hEL CM100.1 e100 (mkF m 43 #[.val (.int p1), .val (.int p2), .val (.int p3), .val (.int p4), .val (.int st), .val (.int (p3 &&& (3 : Int32))), .unset, .unset, .unset, .unset, .unset, .unset] [(.ref c1), (.ref s1), (.ref s1)]) rfl (by rw [hml]; rfl) [(.ref c1)] [(.ref s1)] rfl (lenOf own_pd___C_V rfl) rfl (Nat.le_refl _) (Jvm.hb hby at_43) (by decide) (by decide)
      have N105 := Fr.app N0 Nq105
      have K105 : Keep h0 T105.heap [] := K100.trans Kq105 (allS (Or.inr sz_s1) (all0))
      have pre106 := fun (τ : State) kt => pre101 τ (st105 τ kt)
      have CM105 := CHr.refl C105.1
      have pre107 := fun (τ : State) kt => pre106 τ (by
        show Steps p.tables e below (T105.setTop (mkF m 46 #[.val (.int p1), .val (.int p2), .val (.int p3), .val (.int p4), .val (.int st), .val (.int (p3 &&& (3 : Int32))), .unset, .unset, .unset, .unset, .unset, .unset] [(.ref s1)])) τ
        refine XS.astore X105.here hx rfl (Jvm.hb hby at_46) rfl rfl (l' := #[.val (.int p1), .val (.int p2), .val (.int p3), .val (.int p4), .val (.int st), .val (.int (p3 &&& (3 : Int32))), .val (.ref s1), .unset, .unset, .unset, .unset, .unset]) rfl ?_
        refine XS.goto X105.here hx rfl (pc0 := 48) (pc' := 137) rfl (Jvm.hb hby at_48) (by decide) (by decide) ?_
        exact kt)
      have old108 := OLD0.ext E98
      have old109 := old108.ext E100
      have old110 := old109.keep Kq105 (allS g_s1 (all0))
      exact ⟨_, _, _, _, _, (.ref s1), .unset, X105, rfl, N105, K105, hS105, (Nat.le_trans hk105 CM105.2.1), hZ, hown, CM105.1, old110, ⟨Or.inr ⟨_, rfl⟩, Or.inl rfl⟩, pre107⟩
    · skip
      have pre111 := fun (τ : State) kt => pre96 τ (by
        show Steps p.tables e below (s₁.setTop (mkF m 33 #[.val (.int p1), .val (.int p2), .val (.int p3), .val (.int p4), .val (.int st), .val (.int (p3 &&& (3 : Int32))), .unset, .unset, .unset, .unset, .unset, .unset] [(.int (1 : Int32)), (.int (p3 &&& (3 : Int32)))])) τ
        refine XS.icmpYes X0.here hx rfl (pc0 := 33) (pc' := 51) rfl (Jvm.hb hby at_33) rfl (feq q1).2 (by decide) (by decide) ?_
        refine XS.iload X0.here hx rfl (Jvm.hb hby at_51) rfl ?_
        refine XS.iconst X0.here hx rfl (Jvm.hb hby at_53) ?_
        exact kt)
      by_cases q2 : (p3 &&& (3 : Int32)) = (2 : Int32)
      · skip
        obtain ⟨T112, h112, k112, X112, e112, E112, A112, st112⟩ := newP (aty := .char) X0 hx hZ (own_W1 hw) e0 (g := (mkF m 58 #[.val (.int p1), .val (.int p2), .val (.int p3), .val (.int p4), .val (.int st), .val (.int (p3 &&& (3 : Int32))), .unset, .unset, .unset, .unset, .unset, .unset] [(.int (1 : Int32))])) rfl (Jvm.hb hby at_58) rfl (by decide) (cap := 1) (by decide) (by decide) (by decide) (by decide)
        obtain ⟨c1, g112⟩ : ∃ z, z = h0.size := ⟨_, rfl⟩
        rw [← g112] at A112 st112
        have g_c1 : n0 ≤ c1 := Nat.le_trans (Nat.le_trans Z0 KK0.1) (Nat.le_of_eq g112.symm)
        have sz_c1 : h0.size ≤ c1 := Nat.le_trans KK0.1 (Nat.le_of_eq g112.symm)
        have K112 : Keep h0 h112 [] := KK0.ext E112
        have V_c1 : Arv Z h112 c1 k112 .char (1 : Int32) [(.int (0 : Int32))] (.int (0 : Int32)) := (Arv.new A112 (by decide)).pad (pad_rep [] (.int (0 : Int32)) 1)
        have pre113 := fun (τ : State) kt => pre111 τ (by
          show Steps p.tables e below (s₁.setTop (mkF m 54 #[.val (.int p1), .val (.int p2), .val (.int p3), .val (.int p4), .val (.int st), .val (.int (p3 &&& (3 : Int32))), .unset, .unset, .unset, .unset, .unset, .unset] [(.int (2 : Int32)), (.int (p3 &&& (3 : Int32)))])) τ
          refine XS.icmpNo X0.here hx rfl (Jvm.hb hby at_54) rfl (teq q2).2 ?_
          refine XS.iconst X0.here hx rfl (Jvm.hb hby at_57) ?_
          exact st112 τ kt)
        have CM112 := CM0.trans (CHr.ext E112 CM0.1)
        obtain ⟨cl114, Ar114, q114, S114, M114, H114, U114⟩ := id V_c1
        obtain ⟨cl115, Ar115, q115, S115, M115, H115, U115⟩ := id V_c1
        obtain ⟨T116, h116, X116, e116, W116, st116⟩ := stC X112 hx hZ e112 Ar115 (j := (0 : Int32)) (inb_of S115 ⟨by decide, by decide⟩) (g := (mkF m 71 #[.val (.int p1), .val (.int p2), .val (.int p3), .val (.int p4), .val (.int st), .val (.int (p3 &&& (3 : Int32))), .unset, .val (.ref c1), .unset, .unset, .unset, .unset] [(.int ((p4 &&& (255 : Int32))).toUInt32.toUInt16.toUInt32.toInt32), (.int (0 : Int32)), (.ref c1)])) rfl rfl (Jvm.hb hby at_71)
        have V116 : Arv Z h116 c1 k112 .char (1 : Int32) [(.int (nar .char ((p4 &&& (255 : Int32))).toUInt32.toUInt16.toUInt32.toInt32))] (.int (0 : Int32)) := Arv.set Ar115 q115 S115 M115 H115 U115 (fits_nar_char _) W116 0 rfl (Nat.le_of_ble_eq_true rfl)
        have N116 := Fr.snoc X116 N0 g_c1
        have K116 : Keep h0 h116 [] := K112.wr W116 (Or.inr sz_c1)
        have pre117 := fun (τ : State) kt => pre113 τ (by
          show Steps p.tables e below (T112.setTop (mkF m 60 #[.val (.int p1), .val (.int p2), .val (.int p3), .val (.int p4), .val (.int st), .val (.int (p3 &&& (3 : Int32))), .unset, .unset, .unset, .unset, .unset, .unset] [(.ref c1)])) τ
          refine XS.astore X112.here hx rfl (Jvm.hb hby at_60) rfl rfl (l' := #[.val (.int p1), .val (.int p2), .val (.int p3), .val (.int p4), .val (.int st), .val (.int (p3 &&& (3 : Int32))), .unset, .val (.ref c1), .unset, .unset, .unset, .unset]) rfl ?_
          refine XS.aload X112.here hx rfl (Jvm.hb hby at_62) rfl rfl ?_
          refine XS.iconst X112.here hx rfl (Jvm.hb hby at_64) ?_
          refine XS.iloadN X112.here hx rfl (Jvm.hb hby at_65) rfl ?_
          refine XS.sipush X112.here hx rfl (Jvm.hb hby at_66) ?_
          refine XS.iand X112.here hx rfl (Jvm.hb hby at_69) rfl ?_
          refine XT.i2c X112.here hx rfl (Jvm.hb hby at_70) rfl ?_
          exact st116 τ kt)
        have CM116 := CM112.trans (CHr.wr W116 (Safe.arr hZ.alike Ar114 (by decide)) CM112.1)
        obtain ⟨T118, h118, X118, e118, E118, A118, D118, -, st118⟩ := newO X116 hx hZ hown (own_W2 hw) (own_W3 hw) (own_W4 hw) e116 (g := (mkF m 72 #[.val (.int p1), .val (.int p2), .val (.int p3), .val (.int p4), .val (.int st), .val (.int (p3 &&& (3 : Int32))), .unset, .val (.ref c1), .unset, .unset, .unset, .unset] [])) rfl (Jvm.hb hby at_72) (by decide) (by decide)
        obtain ⟨s1, g118⟩ : ∃ z, z = h116.size := ⟨_, rfl⟩
        rw [← g118] at A118 D118 st118
        have ne_c1_s1 : c1 ≠ s1 := Nat.ne_of_lt (Nat.lt_of_lt_of_le V116.lt (Nat.le_of_eq g118.symm))
        have g_s1 : n0 ≤ s1 := Nat.le_trans (Nat.le_trans Z0 K116.1) (Nat.le_of_eq g118.symm)
        have sz_s1 : h0.size ≤ s1 := Nat.le_trans K116.1 (Nat.le_of_eq g118.symm)
        have K118 : Keep h0 h118 [] := K116.ext E118
        have F_coder_s1 : Fld Z h118 s1 "java/lang/String" "coder" "B" (.int (0 : Int32)) := D118 (Or.inr (own_W28 hw)) (ty := .byte) (by decide)
        have F_value_s1 : Fld Z h118 s1 "java/lang/String" "value" "[B" .null := D118 (Or.inr (own_W30 hw)) (ty := (.array .byte)) (by decide)
        have pre119 := fun (τ : State) kt => pre117 τ (st118 τ kt)
        have CM118 := CM116.trans (CHr.ext E118 CM116.1)
        have hps1 : ∀ c ∈ ([(nar .char ((p4 &&& (255 : Int32))).toUInt32.toUInt16.toUInt32.toInt32)] : List Int32), ¬ c < 0 ∧ ¬ (255 : Int32) < c := by
          intro c hc
          simp only [List.mem_cons, List.not_mem_nil, or_false] at hc
          rw [hc]; exact own_chars _
        have old120 := OLD0.ext E112
        have old121 := old120.wr W116 g_c1
        have old122 := old121.ext E118
        have f124 := V116.ext E118
        obtain ⟨_, _, ⟨T123, L123, k123, n123⟩, -, X123, ⟨Lc123, hQ123, l123, y123, z123⟩, st123⟩ := X118.specialBack hx (y := own_mn2) rfl hown (mvT hZ (own_W5 hw)) (mvT hZ (own_W6 hw)) (mvT hZ (own_W7 hw)) (by decide) (StrChars.Road.backV (W := 1) hZ (own_strw hw) (kI := 4) (own_W3 hw) (cs := ([(nar .char ((p4 &&& (255 : Int32))).toUInt32.toUInt16.toUInt32.toInt32)] : List Int32)) (bs := ([(nar .char ((p4 &&& (255 : Int32))).toUInt32.toUInt16.toUInt32.toInt32)] : List Int32).map (fun c => c.toInt8.toInt32)) (n := 1) g_s1 (Nat.le_trans Z0 K118.1) A118 F_value_s1 F_coder_s1 f124 (O2.ext old122.2) P5 rfl rfl (by decide) (by decide) hps1 rfl (by decide) (by decide)) (g := (mkF m 78 #[.val (.int p1), .val (.int p2), .val (.int p3), .val (.int p4), .val (.int st), .val (.int (p3 &&& (3 : Int32))), .unset, .val (.ref c1), .unset, .unset, .unset, .unset] [(.ref c1), (.ref s1), (.ref s1)])) rfl (by rw [hml]; rfl) (Steps.refl _) (a := s1) (argsL := [(.ref c1)]) (rest := [(.ref s1)]) (lenOf own_pd___C_V rfl) rfl (by show 2 * 0 + _ ≤ _; exact Nat.le_of_eq rfl) (Jvm.hb hby at_78) (fun _ _ => ⟨rfl, e118, (by decide : 2 + 1 ≤ _), (by decide : 5 + 1 ≤ _)⟩)
        dsimp only [Pt.U, Pt.locs, Pt.cells, Pt.slots] at X123 l123 y123 z123 st123 hQ123
        subst l123 y123 z123
        obtain ⟨rfl, Nq123, Kq123, sE123, sC123, sb123, sk123, sg123, sz123, sn123, sV123, sB123⟩ := hQ123
        have N123 := Fr.app N116 Nq123
        have K123 : Keep h0 T123.heap [] := K118.trans Kq123 (allS (Or.inr sz_s1) (all0))
        have pre125 := fun (τ : State) kt => pre119 τ (by
          show Steps p.tables e below (T118.setTop (mkF m 75 #[.val (.int p1), .val (.int p2), .val (.int p3), .val (.int p4), .val (.int st), .val (.int (p3 &&& (3 : Int32))), .unset, .val (.ref c1), .unset, .unset, .unset, .unset] [(.ref s1)])) τ
          refine XS.dup X118.here hx rfl (Jvm.hb hby at_75) rfl rfl ?_
          refine XS.aload X118.here hx rfl (Jvm.hb hby at_76) rfl rfl ?_
          exact (st123).trans kt)
        have CM126 := CM118.trans (CHr.keep Kq123 (fun y hy => by rw [List.mem_singleton.mp hy]; exact (own_safe_null hZ.alike A118 F_value_s1)) CM118.1)
        have pre127 := fun (τ : State) kt => pre125 τ (by
          show Steps p.tables e below (T123.setTop (mkF m 81 #[.val (.int p1), .val (.int p2), .val (.int p3), .val (.int p4), .val (.int st), .val (.int (p3 &&& (3 : Int32))), .unset, .val (.ref c1), .unset, .unset, .unset, .unset] [(.ref s1)])) τ
          refine XS.astore X123.here hx rfl (Jvm.hb hby at_81) rfl rfl (l' := #[.val (.int p1), .val (.int p2), .val (.int p3), .val (.int p4), .val (.int st), .val (.int (p3 &&& (3 : Int32))), .val (.ref s1), .val (.ref c1), .unset, .unset, .unset, .unset]) rfl ?_
          refine XS.goto X123.here hx rfl (pc0 := 83) (pc' := 137) rfl (Jvm.hb hby at_83) (by decide) (by decide) ?_
          exact kt)
        have old128 := old122.keep Kq123 (allS g_s1 (all0))
        exact ⟨_, _, _, _, _, (.ref s1), .val (.ref c1), X123.more (by decide) (by decide), rfl, N123, K123, hS0, (Nat.le_trans hk0 CM126.2.1), hZ, hown, CM126.1, old128, ⟨Or.inr ⟨_, rfl⟩, Or.inr ⟨_, rfl⟩⟩, pre127⟩
      · skip
        have pre129 := fun (τ : State) kt => pre111 τ (by
          show Steps p.tables e below (s₁.setTop (mkF m 54 #[.val (.int p1), .val (.int p2), .val (.int p3), .val (.int p4), .val (.int st), .val (.int (p3 &&& (3 : Int32))), .unset, .unset, .unset, .unset, .unset, .unset] [(.int (2 : Int32)), (.int (p3 &&& (3 : Int32)))])) τ
          refine XS.icmpYes X0.here hx rfl (pc0 := 54) (pc' := 86) rfl (Jvm.hb hby at_54) rfl (feq q2).2 (by decide) (by decide) ?_
          refine XS.iload X0.here hx rfl (Jvm.hb hby at_86) rfl ?_
          refine XS.iconst X0.here hx rfl (Jvm.hb hby at_88) ?_
          exact kt)
        by_cases q3 : (p3 &&& (3 : Int32)) = (3 : Int32)
        · skip
          obtain ⟨T130, h130, k130, X130, e130, E130, A130, st130⟩ := newP (aty := .char) X0 hx hZ (own_W1 hw) e0 (g := (mkF m 93 #[.val (.int p1), .val (.int p2), .val (.int p3), .val (.int p4), .val (.int st), .val (.int (p3 &&& (3 : Int32))), .unset, .unset, .unset, .unset, .unset, .unset] [(.int (2 : Int32))])) rfl (Jvm.hb hby at_93) rfl (by decide) (cap := 2) (by decide) (by decide) (by decide) (by decide)
          obtain ⟨c1, g130⟩ : ∃ z, z = h0.size := ⟨_, rfl⟩
          rw [← g130] at A130 st130
          have g_c1 : n0 ≤ c1 := Nat.le_trans (Nat.le_trans Z0 KK0.1) (Nat.le_of_eq g130.symm)
          have sz_c1 : h0.size ≤ c1 := Nat.le_trans KK0.1 (Nat.le_of_eq g130.symm)
          have K130 : Keep h0 h130 [] := KK0.ext E130
          have V_c1 : Arv Z h130 c1 k130 .char (2 : Int32) [(.int (0 : Int32)), (.int (0 : Int32))] (.int (0 : Int32)) := (Arv.new A130 (by decide)).pad (pad_rep [] (.int (0 : Int32)) 2)
          have pre131 := fun (τ : State) kt => pre129 τ (by
            show Steps p.tables e below (s₁.setTop (mkF m 89 #[.val (.int p1), .val (.int p2), .val (.int p3), .val (.int p4), .val (.int st), .val (.int (p3 &&& (3 : Int32))), .unset, .unset, .unset, .unset, .unset, .unset] [(.int (3 : Int32)), (.int (p3 &&& (3 : Int32)))])) τ
            refine XS.icmpNo X0.here hx rfl (Jvm.hb hby at_89) rfl (teq q3).2 ?_
            refine XS.iconst X0.here hx rfl (Jvm.hb hby at_92) ?_
            exact st130 τ kt)
          have CM130 := CM0.trans (CHr.ext E130 CM0.1)
          obtain ⟨cl132, Ar132, q132, S132, M132, H132, U132⟩ := id V_c1
          obtain ⟨cl133, Ar133, q133, S133, M133, H133, U133⟩ := id V_c1
          obtain ⟨T134, h134, X134, e134, W134, st134⟩ := stC X130 hx hZ e130 Ar133 (j := (0 : Int32)) (inb_of S133 ⟨by decide, by decide⟩) (g := (mkF m 106 #[.val (.int p1), .val (.int p2), .val (.int p3), .val (.int p4), .val (.int st), .val (.int (p3 &&& (3 : Int32))), .unset, .val (.ref c1), .unset, .unset, .unset, .unset] [(.int ((p4 &&& (255 : Int32))).toUInt32.toUInt16.toUInt32.toInt32), (.int (0 : Int32)), (.ref c1)])) rfl rfl (Jvm.hb hby at_106)
          have V134 : Arv Z h134 c1 k130 .char (2 : Int32) [(.int (nar .char ((p4 &&& (255 : Int32))).toUInt32.toUInt16.toUInt32.toInt32)), (.int (0 : Int32))] (.int (0 : Int32)) := Arv.set Ar133 q133 S133 M133 H133 U133 (fits_nar_char _) W134 0 rfl (Nat.le_of_ble_eq_true rfl)
          have N134 := Fr.snoc X134 N0 g_c1
          have K134 : Keep h0 h134 [] := K130.wr W134 (Or.inr sz_c1)
          have pre135 := fun (τ : State) kt => pre131 τ (by
            show Steps p.tables e below (T130.setTop (mkF m 95 #[.val (.int p1), .val (.int p2), .val (.int p3), .val (.int p4), .val (.int st), .val (.int (p3 &&& (3 : Int32))), .unset, .unset, .unset, .unset, .unset, .unset] [(.ref c1)])) τ
            refine XS.astore X130.here hx rfl (Jvm.hb hby at_95) rfl rfl (l' := #[.val (.int p1), .val (.int p2), .val (.int p3), .val (.int p4), .val (.int st), .val (.int (p3 &&& (3 : Int32))), .unset, .val (.ref c1), .unset, .unset, .unset, .unset]) rfl ?_
            refine XS.aload X130.here hx rfl (Jvm.hb hby at_97) rfl rfl ?_
            refine XS.iconst X130.here hx rfl (Jvm.hb hby at_99) ?_
            refine XS.iloadN X130.here hx rfl (Jvm.hb hby at_100) rfl ?_
            refine XS.sipush X130.here hx rfl (Jvm.hb hby at_101) ?_
            refine XS.iand X130.here hx rfl (Jvm.hb hby at_104) rfl ?_
            refine XT.i2c X130.here hx rfl (Jvm.hb hby at_105) rfl ?_
            exact st134 τ kt)
          have CM134 := CM130.trans (CHr.wr W134 (Safe.arr hZ.alike Ar132 (by decide)) CM130.1)
          obtain ⟨cl136, Ar136, q136, S136, M136, H136, U136⟩ := id V134
          obtain ⟨cl137, Ar137, q137, S137, M137, H137, U137⟩ := id V134
          obtain ⟨T138, h138, X138, e138, W138, st138⟩ := stC X134 hx hZ e134 Ar137 (j := (1 : Int32)) (inb_of S137 ⟨by decide, by decide⟩) (g := (mkF m 119 #[.val (.int p1), .val (.int p2), .val (.int p3), .val (.int p4), .val (.int st), .val (.int (p3 &&& (3 : Int32))), .unset, .val (.ref c1), .unset, .unset, .unset, .unset] [(.int (((XT.ushr p4 (8 : Int32)) &&& (255 : Int32))).toUInt32.toUInt16.toUInt32.toInt32), (.int (1 : Int32)), (.ref c1)])) rfl rfl (Jvm.hb hby at_119)
          have V138 : Arv Z h138 c1 k130 .char (2 : Int32) [(.int (nar .char ((p4 &&& (255 : Int32))).toUInt32.toUInt16.toUInt32.toInt32)), (.int (nar .char (((XT.ushr p4 (8 : Int32)) &&& (255 : Int32))).toUInt32.toUInt16.toUInt32.toInt32))] (.int (0 : Int32)) := Arv.set Ar137 q137 S137 M137 H137 U137 (fits_nar_char _) W138 1 rfl (Nat.le_of_ble_eq_true rfl)
          have N138 := Fr.snoc X138 N134 g_c1
          have K138 : Keep h0 h138 [] := K134.wr W138 (Or.inr sz_c1)
          have pre139 := fun (τ : State) kt => pre135 τ (by
            show Steps p.tables e below (T134.setTop (mkF m 107 #[.val (.int p1), .val (.int p2), .val (.int p3), .val (.int p4), .val (.int st), .val (.int (p3 &&& (3 : Int32))), .unset, .val (.ref c1), .unset, .unset, .unset, .unset] [])) τ
            refine XS.aload X134.here hx rfl (Jvm.hb hby at_107) rfl rfl ?_
            refine XS.iconst X134.here hx rfl (Jvm.hb hby at_109) ?_
            refine XS.iloadN X134.here hx rfl (Jvm.hb hby at_110) rfl ?_
            refine XS.bipush X134.here hx rfl (Jvm.hb hby at_111) ?_
            refine XT.iushr X134.here hx rfl (Jvm.hb hby at_113) rfl ?_
            refine XS.sipush X134.here hx rfl (Jvm.hb hby at_114) ?_
            refine XS.iand X134.here hx rfl (Jvm.hb hby at_117) rfl ?_
            refine XT.i2c X134.here hx rfl (Jvm.hb hby at_118) rfl ?_
            exact st138 τ kt)
          have CM138 := CM134.trans (CHr.wr W138 (Safe.arr hZ.alike Ar136 (by decide)) CM134.1)
          obtain ⟨T140, h140, X140, e140, E140, A140, D140, -, st140⟩ := newO X138 hx hZ hown (own_W2 hw) (own_W3 hw) (own_W4 hw) e138 (g := (mkF m 120 #[.val (.int p1), .val (.int p2), .val (.int p3), .val (.int p4), .val (.int st), .val (.int (p3 &&& (3 : Int32))), .unset, .val (.ref c1), .unset, .unset, .unset, .unset] [])) rfl (Jvm.hb hby at_120) (by decide) (by decide)
          obtain ⟨s1, g140⟩ : ∃ z, z = h138.size := ⟨_, rfl⟩
          rw [← g140] at A140 D140 st140
          have ne_c1_s1 : c1 ≠ s1 := Nat.ne_of_lt (Nat.lt_of_lt_of_le V138.lt (Nat.le_of_eq g140.symm))
          have g_s1 : n0 ≤ s1 := Nat.le_trans (Nat.le_trans Z0 K138.1) (Nat.le_of_eq g140.symm)
          have sz_s1 : h0.size ≤ s1 := Nat.le_trans K138.1 (Nat.le_of_eq g140.symm)
          have K140 : Keep h0 h140 [] := K138.ext E140
          have F_coder_s1 : Fld Z h140 s1 "java/lang/String" "coder" "B" (.int (0 : Int32)) := D140 (Or.inr (own_W28 hw)) (ty := .byte) (by decide)
          have F_value_s1 : Fld Z h140 s1 "java/lang/String" "value" "[B" .null := D140 (Or.inr (own_W30 hw)) (ty := (.array .byte)) (by decide)
          have pre141 := fun (τ : State) kt => pre139 τ (st140 τ kt)
          have CM140 := CM138.trans (CHr.ext E140 CM138.1)
          have hps1 : ∀ c ∈ ([(nar .char ((p4 &&& (255 : Int32))).toUInt32.toUInt16.toUInt32.toInt32), (nar .char (((XT.ushr p4 (8 : Int32)) &&& (255 : Int32))).toUInt32.toUInt16.toUInt32.toInt32)] : List Int32), ¬ c < 0 ∧ ¬ (255 : Int32) < c := by
            intro c hc
            simp only [List.mem_cons, List.not_mem_nil, or_false] at hc
            rcases hc with hc | hc
            · rw [hc]; exact own_chars _
            · rw [hc]; exact own_chars _
          have old142 := OLD0.ext E130
          have old143 := old142.wr W134 g_c1
          have old144 := old143.wr W138 g_c1
          have old145 := old144.ext E140
          have f147 := V138.ext E140
          obtain ⟨_, _, ⟨T146, L146, k146, n146⟩, -, X146, ⟨Lc146, hQ146, l146, y146, z146⟩, st146⟩ := X140.specialBack hx (y := own_mn2) rfl hown (mvT hZ (own_W5 hw)) (mvT hZ (own_W6 hw)) (mvT hZ (own_W7 hw)) (by decide) (StrChars.Road.backV (W := 1) hZ (own_strw hw) (kI := 4) (own_W3 hw) (cs := ([(nar .char ((p4 &&& (255 : Int32))).toUInt32.toUInt16.toUInt32.toInt32), (nar .char (((XT.ushr p4 (8 : Int32)) &&& (255 : Int32))).toUInt32.toUInt16.toUInt32.toInt32)] : List Int32)) (bs := ([(nar .char ((p4 &&& (255 : Int32))).toUInt32.toUInt16.toUInt32.toInt32), (nar .char (((XT.ushr p4 (8 : Int32)) &&& (255 : Int32))).toUInt32.toUInt16.toUInt32.toInt32)] : List Int32).map (fun c => c.toInt8.toInt32)) (n := 2) g_s1 (Nat.le_trans Z0 K140.1) A140 F_value_s1 F_coder_s1 f147 (O2.ext old145.2) P5 rfl rfl (by decide) (by decide) hps1 rfl (by decide) (by decide)) (g := (mkF m 126 #[.val (.int p1), .val (.int p2), .val (.int p3), .val (.int p4), .val (.int st), .val (.int (p3 &&& (3 : Int32))), .unset, .val (.ref c1), .unset, .unset, .unset, .unset] [(.ref c1), (.ref s1), (.ref s1)])) rfl (by rw [hml]; rfl) (Steps.refl _) (a := s1) (argsL := [(.ref c1)]) (rest := [(.ref s1)]) (lenOf own_pd___C_V rfl) rfl (by show 2 * 0 + _ ≤ _; exact Nat.le_of_eq rfl) (Jvm.hb hby at_126) (fun _ _ => ⟨rfl, e140, (by decide : 2 + 1 ≤ _), (by decide : 6 + 2 ≤ _)⟩)
          dsimp only [Pt.U, Pt.locs, Pt.cells, Pt.slots] at X146 l146 y146 z146 st146 hQ146
          subst l146 y146 z146
          obtain ⟨rfl, Nq146, Kq146, sE146, sC146, sb146, sk146, sg146, sz146, sn146, sV146, sB146⟩ := hQ146
          have N146 := Fr.app N138 Nq146
          have K146 : Keep h0 T146.heap [] := K140.trans Kq146 (allS (Or.inr sz_s1) (all0))
          have pre148 := fun (τ : State) kt => pre141 τ (by
            show Steps p.tables e below (T140.setTop (mkF m 123 #[.val (.int p1), .val (.int p2), .val (.int p3), .val (.int p4), .val (.int st), .val (.int (p3 &&& (3 : Int32))), .unset, .val (.ref c1), .unset, .unset, .unset, .unset] [(.ref s1)])) τ
            refine XS.dup X140.here hx rfl (Jvm.hb hby at_123) rfl rfl ?_
            refine XS.aload X140.here hx rfl (Jvm.hb hby at_124) rfl rfl ?_
            exact (st146).trans kt)
          have CM149 := CM140.trans (CHr.keep Kq146 (fun y hy => by rw [List.mem_singleton.mp hy]; exact (own_safe_null hZ.alike A140 F_value_s1)) CM140.1)
          have pre150 := fun (τ : State) kt => pre148 τ (by
            show Steps p.tables e below (T146.setTop (mkF m 129 #[.val (.int p1), .val (.int p2), .val (.int p3), .val (.int p4), .val (.int st), .val (.int (p3 &&& (3 : Int32))), .unset, .val (.ref c1), .unset, .unset, .unset, .unset] [(.ref s1)])) τ
            refine XS.astore X146.here hx rfl (Jvm.hb hby at_129) rfl rfl (l' := #[.val (.int p1), .val (.int p2), .val (.int p3), .val (.int p4), .val (.int st), .val (.int (p3 &&& (3 : Int32))), .val (.ref s1), .val (.ref c1), .unset, .unset, .unset, .unset]) rfl ?_
            refine XS.goto X146.here hx rfl (pc0 := 131) (pc' := 137) rfl (Jvm.hb hby at_131) (by decide) (by decide) ?_
            exact kt)
          have old151 := old145.keep Kq146 (allS g_s1 (all0))
          exact ⟨_, _, _, _, _, (.ref s1), .val (.ref c1), X146.more (by decide) (by decide), rfl, N146, K146, hS0, (Nat.le_trans hk0 CM149.2.1), hZ, hown, CM149.1, old151, ⟨Or.inr ⟨_, rfl⟩, Or.inr ⟨_, rfl⟩⟩, pre150⟩
        · skip
          have pre152 := fun (τ : State) kt => pre129 τ (by
            show Steps p.tables e below (s₁.setTop (mkF m 89 #[.val (.int p1), .val (.int p2), .val (.int p3), .val (.int p4), .val (.int st), .val (.int (p3 &&& (3 : Int32))), .unset, .unset, .unset, .unset, .unset, .unset] [(.int (3 : Int32)), (.int (p3 &&& (3 : Int32)))])) τ
            refine XS.icmpYes X0.here hx rfl (pc0 := 89) (pc' := 134) rfl (Jvm.hb hby at_89) rfl (feq q3).2 (by decide) (by decide) ?_
            refine XS.aconstNull X0.here hx rfl (Jvm.hb hby at_134) ?_
            refine XS.astore X0.here hx rfl (Jvm.hb hby at_135) rfl rfl (l' := #[.val (.int p1), .val (.int p2), .val (.int p3), .val (.int p4), .val (.int st), .val (.int (p3 &&& (3 : Int32))), .val .null, .unset, .unset, .unset, .unset, .unset]) rfl ?_
            exact kt)
          exact ⟨_, _, _, _, _, .null, .unset, X0.more (by decide) (by decide), e0, N0, KK0, hS0, (Nat.le_trans hk0 CM0.2.1), hZ, hown, CM0.1, OLD0, ⟨Or.inl rfl, Or.inl rfl⟩, pre152⟩
  have CM97 := CHr.refl CV97
  have q_lo : lo = .null ∨ ∃ b, lo = .ref b := hj97.1
  have q_s7 : s7 = .unset ∨ ∃ b, s7 = .val (.ref b) := hj97.2
  have pre153 := fun (τ : State) kt => pre97 τ (by
    show Steps p.tables e below (T97.setTop (mkF m 137 #[.val (.int p1), .val (.int p2), .val (.int p3), .val (.int p4), .val (.int st), .val (.int (p3 &&& (3 : Int32))), .val lo, s7, .unset, .unset, .unset, .unset] [])) τ
    refine XS.iloadN X97.here hx rfl (Jvm.hb hby at_137) rfl ?_
    refine XS.iconst X97.here hx rfl (Jvm.hb hby at_138) ?_
    refine XS.iand X97.here hx rfl (Jvm.hb hby at_139) rfl ?_
    exact kt)
  obtain ⟨T154, h154, vm154, k154, Lj154, bo, X154, e154, N154, K154, hS154, hk154, hZ, hown, CV154, old154, hj154, pre154⟩ : ∃ (T154 : State) (h154 : Heap) (vm154 : Vm) (k154 : Nat) (Lj : List Loc) (bo : Value), Stand p l e room_1 (s.setVm vm154) m #[(.int p1), (.int p2), (.int p3), (.int p4)] below meth c T154 Lj (7) (13) ∧ T154.heap = h154 ∧ Fr n0 Lj ∧ Keep h0 h154 [] ∧ s.Since vm154 k154 ∧ k154 ≤ h154.size ∧ Z.Warmed39 (s.setVm vm154).vm ∧ (s.setVm vm154).vm.findClass "com/example/winder/winder/io/FetchedIsRedirectPinLaw" = some m.cls ∧ CHv Z EL vm154 h154 ∧ Old Z n0 h154 ∧ ((bo = .null ∨ ∃ b, bo = .ref b) ∧ (True)) ∧ ∀ τ, Steps p.tables e below (T154.setTop (mkF m 150 #[.val (.int p1), .val (.int p2), .val (.int p3), .val (.int p4), .val (.int st), .val (.int (p3 &&& (3 : Int32))), .val lo, s7, .unset, .unset, .unset, .unset] [bo])) τ → PS τ := by
    by_cases q4 : (p3 &&& (4 : Int32)) = (0 : Int32)
    · skip
      have pre155 := fun (τ : State) kt => pre153 τ (by
        show Steps p.tables e below (T97.setTop (mkF m 140 #[.val (.int p1), .val (.int p2), .val (.int p3), .val (.int p4), .val (.int st), .val (.int (p3 &&& (3 : Int32))), .val lo, s7, .unset, .unset, .unset, .unset] [(.int (p3 &&& (4 : Int32)))])) τ
        refine XS.ifYes X97.here hx rfl (pc0 := 140) (pc' := 149) rfl (Jvm.hb hby at_140) rfl ((if0 _ _).trans (teq q4).1) (by decide) (by decide) ?_
        refine XS.aconstNull X97.here hx rfl (Jvm.hb hby at_149) ?_
        exact kt)
      exact ⟨_, _, _, _, _, .null, X97.more (by decide) (by decide), e97, N97, K97, hS97, (Nat.le_trans hk97 CM97.2.1), hZ, hown, CM97.1, old97, ⟨Or.inl rfl, trivial⟩, pre155⟩
    · skip
      obtain ⟨T156, h156, k156, X156, e156, E156, A156, st156⟩ := newP (aty := .byte) X97 hx hZ (own_W20 hw) e97 (g := (mkF m 144 #[.val (.int p1), .val (.int p2), .val (.int p3), .val (.int p4), .val (.int st), .val (.int (p3 &&& (3 : Int32))), .val lo, s7, .unset, .unset, .unset, .unset] [(.int (1 : Int32))])) rfl (Jvm.hb hby at_144) rfl (by decide) (cap := 1) (by decide) (by decide) (by decide) (by decide)
      obtain ⟨by1, g156⟩ : ∃ z, z = h97.size := ⟨_, rfl⟩
      rw [← g156] at A156 st156
      have g_by1 : n0 ≤ by1 := Nat.le_trans (Nat.le_trans Z0 K97.1) (Nat.le_of_eq g156.symm)
      have sz_by1 : h0.size ≤ by1 := Nat.le_trans K97.1 (Nat.le_of_eq g156.symm)
      have K156 : Keep h0 h156 [] := K97.ext E156
      have V_by1 : Arv Z h156 by1 k156 .byte (1 : Int32) [(.int (0 : Int32))] (.int (0 : Int32)) := (Arv.new A156 (by decide)).pad (pad_rep [] (.int (0 : Int32)) 1)
      have pre157 := fun (τ : State) kt => pre153 τ (by
        show Steps p.tables e below (T97.setTop (mkF m 140 #[.val (.int p1), .val (.int p2), .val (.int p3), .val (.int p4), .val (.int st), .val (.int (p3 &&& (3 : Int32))), .val lo, s7, .unset, .unset, .unset, .unset] [(.int (p3 &&& (4 : Int32)))])) τ
        refine XS.ifNo X97.here hx rfl (Jvm.hb hby at_140) rfl ((if0 _ _).trans (feq q4).1) ?_
        refine XS.iconst X97.here hx rfl (Jvm.hb hby at_143) ?_
        exact st156 τ kt)
      have CM156 := CM97.trans (CHr.ext E156 CM97.1)
      have pre158 := fun (τ : State) kt => pre157 τ (by
        show Steps p.tables e below (T156.setTop (mkF m 146 #[.val (.int p1), .val (.int p2), .val (.int p3), .val (.int p4), .val (.int st), .val (.int (p3 &&& (3 : Int32))), .val lo, s7, .unset, .unset, .unset, .unset] [(.ref by1)])) τ
        refine XS.goto X156.here hx rfl (pc0 := 146) (pc' := 150) rfl (Jvm.hb hby at_146) (by decide) (by decide) ?_
        exact kt)
      have old159 := old97.ext E156
      exact ⟨_, _, _, _, _, (.ref by1), X156, e156, N97, K156, hS97, (Nat.le_trans hk97 CM156.2.1), hZ, hown, CM156.1, old159, ⟨Or.inr ⟨_, rfl⟩, trivial⟩, pre158⟩
  have CM154 := CHr.refl CV154
  have q_bo : bo = .null ∨ ∃ b, bo = .ref b := hj154.1
  have sl160 : storeLocals #[.val (.int p1), .val (.int p2), .val (.int p3), .val (.int p4), .val (.int st), .val (.int (p3 &&& (3 : Int32))), .val lo, s7, .unset, .unset, .unset, .unset] 7 bo = some #[.val (.int p1), .val (.int p2), .val (.int p3), .val (.int p4), .val (.int st), .val (.int (p3 &&& (3 : Int32))), .val lo, .val bo, .unset, .unset, .unset, .unset] := by rcases q_s7 with rfl | ⟨_, rfl⟩ <;> rcases q_bo with rfl | ⟨_, rfl⟩ <;> rfl
  have pre161 := fun (τ : State) kt => pre154 τ (by
    show Steps p.tables e below (T154.setTop (mkF m 150 #[.val (.int p1), .val (.int p2), .val (.int p3), .val (.int p4), .val (.int st), .val (.int (p3 &&& (3 : Int32))), .val lo, s7, .unset, .unset, .unset, .unset] [bo])) τ
    refine XS.astore X154.here hx rfl (Jvm.hb hby at_150) rfl (own_isref q_bo) (l' := #[.val (.int p1), .val (.int p2), .val (.int p3), .val (.int p4), .val (.int st), .val (.int (p3 &&& (3 : Int32))), .val lo, .val bo, .unset, .unset, .unset, .unset]) sl160 ?_
    refine XS.iloadN X154.here hx rfl (Jvm.hb hby at_152) rfl ?_
    refine XS.bipush X154.here hx rfl (Jvm.hb hby at_153) ?_
    refine XS.iand X154.here hx rfl (Jvm.hb hby at_155) rfl ?_
    exact kt)
  obtain ⟨ov, hj162, pre162⟩ : ∃ (ov : Int32), (True) ∧ ∀ τ, Steps p.tables e below (T154.setTop (mkF m 164 #[.val (.int p1), .val (.int p2), .val (.int p3), .val (.int p4), .val (.int st), .val (.int (p3 &&& (3 : Int32))), .val lo, .val bo, .unset, .unset, .unset, .unset] [(.int ov)])) τ → PS τ := by
    by_cases q5 : (p3 &&& (8 : Int32)) = (0 : Int32)
    · skip
      have pre163 := fun (τ : State) kt => pre161 τ (by
        show Steps p.tables e below (T154.setTop (mkF m 156 #[.val (.int p1), .val (.int p2), .val (.int p3), .val (.int p4), .val (.int st), .val (.int (p3 &&& (3 : Int32))), .val lo, .val bo, .unset, .unset, .unset, .unset] [(.int (p3 &&& (8 : Int32)))])) τ
        refine XS.ifYes X154.here hx rfl (pc0 := 156) (pc' := 163) rfl (Jvm.hb hby at_156) rfl ((if0 _ _).trans (teq q5).1) (by decide) (by decide) ?_
        refine XS.iconst X154.here hx rfl (Jvm.hb hby at_163) ?_
        exact kt)
      exact ⟨(0 : Int32), trivial, pre163⟩
    · skip
      have pre164 := fun (τ : State) kt => pre161 τ (by
        show Steps p.tables e below (T154.setTop (mkF m 156 #[.val (.int p1), .val (.int p2), .val (.int p3), .val (.int p4), .val (.int st), .val (.int (p3 &&& (3 : Int32))), .val lo, .val bo, .unset, .unset, .unset, .unset] [(.int (p3 &&& (8 : Int32)))])) τ
        refine XS.ifNo X154.here hx rfl (Jvm.hb hby at_156) rfl ((if0 _ _).trans (feq q5).1) ?_
        refine XS.iconst X154.here hx rfl (Jvm.hb hby at_159) ?_
        refine XS.goto X154.here hx rfl (pc0 := 160) (pc' := 164) rfl (Jvm.hb hby at_160) (by decide) (by decide) ?_
        exact kt)
      exact ⟨(1 : Int32), trivial, pre164⟩
  have pre165 := fun (τ : State) kt => pre162 τ (by
    show Steps p.tables e below (T154.setTop (mkF m 164 #[.val (.int p1), .val (.int p2), .val (.int p3), .val (.int p4), .val (.int st), .val (.int (p3 &&& (3 : Int32))), .val lo, .val bo, .unset, .unset, .unset, .unset] [(.int ov)])) τ
    refine XS.istore X154.here hx rfl (Jvm.hb hby at_164) rfl (l' := #[.val (.int p1), .val (.int p2), .val (.int p3), .val (.int p4), .val (.int st), .val (.int (p3 &&& (3 : Int32))), .val lo, .val bo, .val (.int ov), .unset, .unset, .unset]) rfl ?_
    refine XS.iloadN X154.here hx rfl (Jvm.hb hby at_166) rfl ?_
    refine XS.bipush X154.here hx rfl (Jvm.hb hby at_167) ?_
    refine XS.iand X154.here hx rfl (Jvm.hb hby at_169) rfl ?_
    exact kt)
  obtain ⟨T166, h166, vm166, k166, Lj166, cs, X166, e166, N166, K166, hS166, hk166, hZ, hown, CV166, old166, hj166, pre166⟩ : ∃ (T166 : State) (h166 : Heap) (vm166 : Vm) (k166 : Nat) (Lj : List Loc) (cs : Value), Stand p l e room_1 (s.setVm vm166) m #[(.int p1), (.int p2), (.int p3), (.int p4)] below meth c T166 Lj (13) (25) ∧ T166.heap = h166 ∧ Fr n0 Lj ∧ Keep h0 h166 [] ∧ s.Since vm166 k166 ∧ k166 ≤ h166.size ∧ Z.Warmed39 (s.setVm vm166).vm ∧ (s.setVm vm166).vm.findClass "com/example/winder/winder/io/FetchedIsRedirectPinLaw" = some m.cls ∧ CHv Z EL vm166 h166 ∧ Old Z n0 h166 ∧ ((cs = .null ∨ ∃ b, cs = .ref b) ∧ (True)) ∧ ∀ τ, Steps p.tables e below (T166.setTop (mkF m 187 #[.val (.int p1), .val (.int p2), .val (.int p3), .val (.int p4), .val (.int st), .val (.int (p3 &&& (3 : Int32))), .val lo, .val bo, .val (.int ov), .unset, .unset, .unset] [cs])) τ → PS τ := by
    by_cases q6 : (p3 &&& (16 : Int32)) = (0 : Int32)
    · skip
      have pre167 := fun (τ : State) kt => pre165 τ (by
        show Steps p.tables e below (T154.setTop (mkF m 170 #[.val (.int p1), .val (.int p2), .val (.int p3), .val (.int p4), .val (.int st), .val (.int (p3 &&& (3 : Int32))), .val lo, .val bo, .val (.int ov), .unset, .unset, .unset] [(.int (p3 &&& (16 : Int32)))])) τ
        refine XS.ifYes X154.here hx rfl (pc0 := 170) (pc' := 186) rfl (Jvm.hb hby at_170) rfl ((if0 _ _).trans (teq q6).1) (by decide) (by decide) ?_
        refine XS.aconstNull X154.here hx rfl (Jvm.hb hby at_186) ?_
        exact kt)
      exact ⟨_, _, _, _, _, .null, X154.more (by decide) (by decide), e154, N154, K154, hS154, (Nat.le_trans hk154 CM154.2.1), hZ, hown, CM154.1, old154, ⟨Or.inl rfl, trivial⟩, pre167⟩
    · skip
      obtain ⟨T168, h168, X168, e168, E168, A168, D168, -, st168⟩ := newO X154 hx hZ hown (own_W2 hw) (own_W3 hw) (own_W4 hw) e154 (g := (mkF m 173 #[.val (.int p1), .val (.int p2), .val (.int p3), .val (.int p4), .val (.int st), .val (.int (p3 &&& (3 : Int32))), .val lo, .val bo, .val (.int ov), .unset, .unset, .unset] [])) rfl (Jvm.hb hby at_173) (by decide) (by decide)
      obtain ⟨s2, g168⟩ : ∃ z, z = h154.size := ⟨_, rfl⟩
      rw [← g168] at A168 D168 st168
      have g_s2 : n0 ≤ s2 := Nat.le_trans (Nat.le_trans Z0 K154.1) (Nat.le_of_eq g168.symm)
      have sz_s2 : h0.size ≤ s2 := Nat.le_trans K154.1 (Nat.le_of_eq g168.symm)
      have K168 : Keep h0 h168 [] := K154.ext E168
      have F_coder_s2 : Fld Z h168 s2 "java/lang/String" "coder" "B" (.int (0 : Int32)) := D168 (Or.inr (own_W28 hw)) (ty := .byte) (by decide)
      have F_value_s2 : Fld Z h168 s2 "java/lang/String" "value" "[B" .null := D168 (Or.inr (own_W30 hw)) (ty := (.array .byte)) (by decide)
      have pre169 := fun (τ : State) kt => pre165 τ (by
        show Steps p.tables e below (T154.setTop (mkF m 170 #[.val (.int p1), .val (.int p2), .val (.int p3), .val (.int p4), .val (.int st), .val (.int (p3 &&& (3 : Int32))), .val lo, .val bo, .val (.int ov), .unset, .unset, .unset] [(.int (p3 &&& (16 : Int32)))])) τ
        refine XS.ifNo X154.here hx rfl (Jvm.hb hby at_170) rfl ((if0 _ _).trans (feq q6).1) ?_
        exact st168 τ kt)
      have CM168 := CM154.trans (CHr.ext E168 CM154.1)
      obtain ⟨T170, h170, k170, X170, e170, E170, A170, st170⟩ := newP (aty := .char) X168 hx hZ (own_W1 hw) e168 (g := (mkF m 178 #[.val (.int p1), .val (.int p2), .val (.int p3), .val (.int p4), .val (.int st), .val (.int (p3 &&& (3 : Int32))), .val lo, .val bo, .val (.int ov), .unset, .unset, .unset] [(.int (0 : Int32)), (.ref s2), (.ref s2)])) rfl (Jvm.hb hby at_178) rfl (by decide) (cap := 0) (by decide) (by decide) (by decide) (by decide)
      obtain ⟨c2, g170⟩ : ∃ z, z = h168.size := ⟨_, rfl⟩
      rw [← g170] at A170 st170
      have ne_s2_c2 : s2 ≠ c2 := Nat.ne_of_lt (Nat.lt_of_lt_of_le A168.lt (Nat.le_of_eq g170.symm))
      have g_c2 : n0 ≤ c2 := Nat.le_trans (Nat.le_trans Z0 K168.1) (Nat.le_of_eq g170.symm)
      have sz_c2 : h0.size ≤ c2 := Nat.le_trans K168.1 (Nat.le_of_eq g170.symm)
      have K170 : Keep h0 h170 [] := K168.ext E170
      have V_c2 : Arv Z h170 c2 k170 .char (0 : Int32) [] (.int (0 : Int32)) := (Arv.new A170 (by decide)).pad (pad_rep [] (.int (0 : Int32)) 0)
      have pre171 := fun (τ : State) kt => pre169 τ (by
        show Steps p.tables e below (T168.setTop (mkF m 176 #[.val (.int p1), .val (.int p2), .val (.int p3), .val (.int p4), .val (.int st), .val (.int (p3 &&& (3 : Int32))), .val lo, .val bo, .val (.int ov), .unset, .unset, .unset] [(.ref s2)])) τ
        refine XS.dup X168.here hx rfl (Jvm.hb hby at_176) rfl rfl ?_
        refine XS.iconst X168.here hx rfl (Jvm.hb hby at_177) ?_
        exact st170 τ kt)
      have CM170 := CM168.trans (CHr.ext E170 CM168.1)
      have f172 := A168.ext E170
      have f173 := F_value_s2.ext E170
      have f174 := F_coder_s2.ext E170
      obtain ⟨_, T175, L175, k175, X175, ⟨rfl, Nq175, Kq175⟩, hS175, hk175, hZ, hown, C175, st175⟩ := own_specH (y := own_mn2) (b := s2) X170 hx hZ rfl hown (own_W5 hw) (own_W6 hw) (by decide) (rmE1 l Z a0 hw [] s2 c2 k170 h170 n0 (Nat.le_trans Z0 K170.1) EL hEL hmem wS f172 f173 f174 g_s2 V_c2) (own_W7 hw) (own_W4 hw) 1 (by decide) (by decide) hS154 (Nat.le_trans hk154 CM170.2.1) hEL CM170.1 e170 (mkF m 180 #[.val (.int p1), .val (.int p2), .val (.int p3), .val (.int p4), .val (.int st), .val (.int (p3 &&& (3 : Int32))), .val lo, .val bo, .val (.int ov), .unset, .unset, .unset] [(.ref c2), (.ref s2), (.ref s2)]) rfl (by rw [hml]; rfl) [(.ref c2)] [(.ref s2)] rfl (lenOf own_pd___C_V rfl) rfl (Nat.le_refl _) (Jvm.hb hby at_180) (by decide) (by decide)
      have N175 := Fr.app N154 Nq175
      have K175 : Keep h0 T175.heap [] := K170.trans Kq175 (allS (Or.inr sz_s2) (all0))
      have pre176 := fun (τ : State) kt => pre171 τ (st175 τ kt)
      have CM175 := CHr.refl C175.1
      have pre177 := fun (τ : State) kt => pre176 τ (by
        show Steps p.tables e below (T175.setTop (mkF m 183 #[.val (.int p1), .val (.int p2), .val (.int p3), .val (.int p4), .val (.int st), .val (.int (p3 &&& (3 : Int32))), .val lo, .val bo, .val (.int ov), .unset, .unset, .unset] [(.ref s2)])) τ
        refine XS.goto X175.here hx rfl (pc0 := 183) (pc' := 187) rfl (Jvm.hb hby at_183) (by decide) (by decide) ?_
        exact kt)
      have old178 := old154.ext E168
      have old179 := old178.ext E170
      have old180 := old179.keep Kq175 (allS g_s2 (all0))
      exact ⟨_, _, _, _, _, (.ref s2), X175, rfl, N175, K175, hS175, (Nat.le_trans hk175 CM175.2.1), hZ, hown, CM175.1, old180, ⟨Or.inr ⟨_, rfl⟩, trivial⟩, pre177⟩
  have CM166 := CHr.refl CV166
  have q_cs : cs = .null ∨ ∃ b, cs = .ref b := hj166.1
  have sl181 : storeLocals #[.val (.int p1), .val (.int p2), .val (.int p3), .val (.int p4), .val (.int st), .val (.int (p3 &&& (3 : Int32))), .val lo, .val bo, .val (.int ov), .unset, .unset, .unset] 9 cs = some #[.val (.int p1), .val (.int p2), .val (.int p3), .val (.int p4), .val (.int st), .val (.int (p3 &&& (3 : Int32))), .val lo, .val bo, .val (.int ov), .val cs, .unset, .unset] := by rcases q_cs with rfl | ⟨_, rfl⟩ <;> rfl
  obtain ⟨T182, h182, X182, e182, E182, A182, D182, -, st182⟩ := newO X166 hx hZ hown (own_W31 hw) (own_W32 hw) (own_W33 hw) e166 (g := (mkF m 189 #[.val (.int p1), .val (.int p2), .val (.int p3), .val (.int p4), .val (.int st), .val (.int (p3 &&& (3 : Int32))), .val lo, .val bo, .val (.int ov), .val cs, .unset, .unset] [])) rfl (Jvm.hb hby at_189) (by decide) (by decide)
  obtain ⟨mo, g182⟩ : ∃ z, z = h166.size := ⟨_, rfl⟩
  rw [← g182] at A182 D182 st182
  have g_mo : n0 ≤ mo := Nat.le_trans (Nat.le_trans Z0 K166.1) (Nat.le_of_eq g182.symm)
  have sz_mo : h0.size ≤ mo := Nat.le_trans K166.1 (Nat.le_of_eq g182.symm)
  have K182 : Keep h0 h182 [] := K166.ext E182
  have F_status_mo : Fld Z h182 mo "com/example/winder/winder/io/Fetched" "status" "I" (.int (0 : Int32)) := D182 (Or.inr (own_W47 hw)) (ty := .int) (by decide)
  have F_mediaType_mo : Fld Z h182 mo "com/example/winder/winder/io/Fetched" "mediaType" "Ljava/lang/String;" .null := D182 (Or.inr (own_W49 hw)) (ty := (.object "java/lang/String")) (by decide)
  have F_charset_mo : Fld Z h182 mo "com/example/winder/winder/io/Fetched" "charset" "Ljava/lang/String;" .null := D182 (Or.inr (own_W51 hw)) (ty := (.object "java/lang/String")) (by decide)
  have F_location_mo : Fld Z h182 mo "com/example/winder/winder/io/Fetched" "location" "Ljava/lang/String;" .null := D182 (Or.inr (own_W53 hw)) (ty := (.object "java/lang/String")) (by decide)
  have F_body_mo : Fld Z h182 mo "com/example/winder/winder/io/Fetched" "body" "[B" .null := D182 (Or.inr (own_W55 hw)) (ty := (.array .byte)) (by decide)
  have F_oversized_mo : Fld Z h182 mo "com/example/winder/winder/io/Fetched" "oversized" "Z" (.int (0 : Int32)) := D182 (Or.inr (own_W57 hw)) (ty := .boolean) (by decide)
  have pre183 := fun (τ : State) kt => pre166 τ (by
    show Steps p.tables e below (T166.setTop (mkF m 187 #[.val (.int p1), .val (.int p2), .val (.int p3), .val (.int p4), .val (.int st), .val (.int (p3 &&& (3 : Int32))), .val lo, .val bo, .val (.int ov), .unset, .unset, .unset] [cs])) τ
    refine XS.astore X166.here hx rfl (Jvm.hb hby at_187) rfl (own_isref q_cs) (l' := #[.val (.int p1), .val (.int p2), .val (.int p3), .val (.int p4), .val (.int st), .val (.int (p3 &&& (3 : Int32))), .val lo, .val bo, .val (.int ov), .val cs, .unset, .unset]) sl181 ?_
    exact st182 τ kt)
  have CM182 := CM166.trans (CHr.ext E182 CM166.1)
  obtain ⟨T184, h184, X184, e184, E184, A184, D184, -, st184⟩ := newO X182 hx hZ hown (own_W2 hw) (own_W3 hw) (own_W4 hw) e182 (g := (mkF m 195 #[.val (.int p1), .val (.int p2), .val (.int p3), .val (.int p4), .val (.int st), .val (.int (p3 &&& (3 : Int32))), .val lo, .val bo, .val (.int ov), .val cs, .unset, .unset] [(.int st), (.ref mo), (.ref mo)])) rfl (Jvm.hb hby at_195) (by decide) (by decide)
  obtain ⟨s3, g184⟩ : ∃ z, z = h182.size := ⟨_, rfl⟩
  rw [← g184] at A184 D184 st184
  have ne_mo_s3 : mo ≠ s3 := Nat.ne_of_lt (Nat.lt_of_lt_of_le A182.lt (Nat.le_of_eq g184.symm))
  have g_s3 : n0 ≤ s3 := Nat.le_trans (Nat.le_trans Z0 K182.1) (Nat.le_of_eq g184.symm)
  have sz_s3 : h0.size ≤ s3 := Nat.le_trans K182.1 (Nat.le_of_eq g184.symm)
  have K184 : Keep h0 h184 [] := K182.ext E184
  have F_coder_s3 : Fld Z h184 s3 "java/lang/String" "coder" "B" (.int (0 : Int32)) := D184 (Or.inr (own_W28 hw)) (ty := .byte) (by decide)
  have F_value_s3 : Fld Z h184 s3 "java/lang/String" "value" "[B" .null := D184 (Or.inr (own_W30 hw)) (ty := (.array .byte)) (by decide)
  have pre185 := fun (τ : State) kt => pre183 τ (by
    show Steps p.tables e below (T182.setTop (mkF m 192 #[.val (.int p1), .val (.int p2), .val (.int p3), .val (.int p4), .val (.int st), .val (.int (p3 &&& (3 : Int32))), .val lo, .val bo, .val (.int ov), .val cs, .unset, .unset] [(.ref mo)])) τ
    refine XS.dup X182.here hx rfl (Jvm.hb hby at_192) rfl rfl ?_
    refine XS.iload X182.here hx rfl (Jvm.hb hby at_193) rfl ?_
    exact st184 τ kt)
  have CM184 := CM182.trans (CHr.ext E184 CM182.1)
  obtain ⟨T186, h186, k186, X186, e186, E186, A186, st186⟩ := newP (aty := .char) X184 hx hZ (own_W1 hw) e184 (g := (mkF m 200 #[.val (.int p1), .val (.int p2), .val (.int p3), .val (.int p4), .val (.int st), .val (.int (p3 &&& (3 : Int32))), .val lo, .val bo, .val (.int ov), .val cs, .unset, .unset] [(.int (0 : Int32)), (.ref s3), (.ref s3), (.int st), (.ref mo), (.ref mo)])) rfl (Jvm.hb hby at_200) rfl (by decide) (cap := 0) (by decide) (by decide) (by decide) (by decide)
  obtain ⟨c3, g186⟩ : ∃ z, z = h184.size := ⟨_, rfl⟩
  rw [← g186] at A186 st186
  have f187 := A182.ext E184
  have ne_mo_c3 : mo ≠ c3 := Nat.ne_of_lt (Nat.lt_of_lt_of_le f187.lt (Nat.le_of_eq g186.symm))
  have ne_s3_c3 : s3 ≠ c3 := Nat.ne_of_lt (Nat.lt_of_lt_of_le A184.lt (Nat.le_of_eq g186.symm))
  have g_c3 : n0 ≤ c3 := Nat.le_trans (Nat.le_trans Z0 K184.1) (Nat.le_of_eq g186.symm)
  have sz_c3 : h0.size ≤ c3 := Nat.le_trans K184.1 (Nat.le_of_eq g186.symm)
  have K186 : Keep h0 h186 [] := K184.ext E186
  have V_c3 : Arv Z h186 c3 k186 .char (0 : Int32) [] (.int (0 : Int32)) := (Arv.new A186 (by decide)).pad (pad_rep [] (.int (0 : Int32)) 0)
  have pre188 := fun (τ : State) kt => pre185 τ (by
    show Steps p.tables e below (T184.setTop (mkF m 198 #[.val (.int p1), .val (.int p2), .val (.int p3), .val (.int p4), .val (.int st), .val (.int (p3 &&& (3 : Int32))), .val lo, .val bo, .val (.int ov), .val cs, .unset, .unset] [(.ref s3), (.int st), (.ref mo), (.ref mo)])) τ
    refine XS.dup X184.here hx rfl (Jvm.hb hby at_198) rfl rfl ?_
    refine XS.iconst X184.here hx rfl (Jvm.hb hby at_199) ?_
    exact st186 τ kt)
  have CM186 := CM184.trans (CHr.ext E186 CM184.1)
  have f189 := A184.ext E186
  have f190 := F_value_s3.ext E186
  have f191 := F_coder_s3.ext E186
  obtain ⟨_, T192, L192, k192, X192, ⟨rfl, Nq192, Kq192⟩, hS192, hk192, hZ, hown, C192, st192⟩ := own_specH (y := own_mn2) (b := s3) X186 hx hZ rfl hown (own_W5 hw) (own_W6 hw) (by decide) (rmE1 l Z a0 hw [] s3 c3 k186 h186 n0 (Nat.le_trans Z0 K186.1) EL hEL hmem wS f189 f190 f191 g_s3 V_c3) (own_W7 hw) (own_W4 hw) 4 (by decide) (by decide) hS166 (Nat.le_trans hk166 CM186.2.1) hEL CM186.1 e186 (mkF m 202 #[.val (.int p1), .val (.int p2), .val (.int p3), .val (.int p4), .val (.int st), .val (.int (p3 &&& (3 : Int32))), .val lo, .val bo, .val (.int ov), .val cs, .unset, .unset] [(.ref c3), (.ref s3), (.ref s3), (.int st), (.ref mo), (.ref mo)]) rfl (by rw [hml]; rfl) [(.ref c3)] [(.ref s3), (.int st), (.ref mo), (.ref mo)] rfl (lenOf own_pd___C_V rfl) rfl (Nat.le_refl _) (Jvm.hb hby at_202) (by decide) (by decide)
  have N192 := Fr.app N166 Nq192
  have K192 : Keep h0 T192.heap [] := K186.trans Kq192 (allS (Or.inr sz_s3) (all0))
  have pre193 := fun (τ : State) kt => pre188 τ (st192 τ kt)
  have CM192 := CHr.refl C192.1
  have f194 := f187.ext E186
  have f195 := f194.keep Kq192
  have f196 := F_status_mo.ext E184
  have f197 := f196.ext E186
  have f198 := f197.keep Kq192 (ninS ne_mo_s3 (nin0))
  have f199 := F_mediaType_mo.ext E184
  have f200 := f199.ext E186
  have f201 := f200.keep Kq192 (ninS ne_mo_s3 (nin0))
  have f202 := F_charset_mo.ext E184
  have f203 := f202.ext E186
  have f204 := f203.keep Kq192 (ninS ne_mo_s3 (nin0))
  have f205 := F_location_mo.ext E184
  have f206 := f205.ext E186
  have f207 := f206.keep Kq192 (ninS ne_mo_s3 (nin0))
  have f208 := F_body_mo.ext E184
  have f209 := f208.ext E186
  have f210 := f209.keep Kq192 (ninS ne_mo_s3 (nin0))
  have f211 := F_oversized_mo.ext E184
  have f212 := f211.ext E186
  have f213 := f212.keep Kq192 (ninS ne_mo_s3 (nin0))
  obtain ⟨_, T214, L214, X214, ⟨rfl, Nq214, Kq214, fs214, fl214⟩, st214⟩ := own_spec (y := own_mn3) (b := mo) X192 hx hZ rfl hown (own_W37 hw) (own_W38 hw) (by decide) (rmF l Z a0 hw [] mo st s3 cs lo bo ov T192.heap n0 (Nat.le_trans Z0 K192.1) q_cs q_lo q_bo f195 f198 f201 f204 f207 f210 f213 g_mo) (own_W39 hw) (own_W33 hw) 1 (by decide) (by decide) rfl (mkF m 213 #[.val (.int p1), .val (.int p2), .val (.int p3), .val (.int p4), .val (.int st), .val (.int (p3 &&& (3 : Int32))), .val lo, .val bo, .val (.int ov), .val cs, .unset, .unset] [(.int ov), bo, lo, cs, (.ref s3), (.int st), (.ref mo), (.ref mo)]) rfl (by rw [hml]; rfl) [(.int st), (.ref s3), cs, lo, bo, (.int ov)] [(.ref mo)] rfl (lenOf own_pd__ILjava_lang_String_Ljava_lang_String_Ljava_lang_String__BZ_V rfl) rfl (Nat.le_refl _) (Jvm.hb hby at_213) (by decide) (by decide)
  have N214 := Fr.app N192 Nq214
  have K214 : Keep h0 T214.heap [] := K192.trans Kq214 (allS (Or.inr sz_mo) (all0))
  have pre215 := fun (τ : State) kt => pre193 τ (by
    show Steps p.tables e below (T192.setTop (mkF m 205 #[.val (.int p1), .val (.int p2), .val (.int p3), .val (.int p4), .val (.int st), .val (.int (p3 &&& (3 : Int32))), .val lo, .val bo, .val (.int ov), .val cs, .unset, .unset] [(.ref s3), (.int st), (.ref mo), (.ref mo)])) τ
    refine XS.aload X192.here hx rfl (Jvm.hb hby at_205) rfl (own_isref q_cs) ?_
    refine XS.aload X192.here hx rfl (Jvm.hb hby at_207) rfl (own_isref q_lo) ?_
    refine XS.aload X192.here hx rfl (Jvm.hb hby at_209) rfl (own_isref q_bo) ?_
    refine XS.iload X192.here hx rfl (Jvm.hb hby at_211) rfl ?_
    exact st214 τ kt)
  have CM216 := CM192.trans (CHr.keep Kq214 (fun y hy => by rw [List.mem_singleton.mp hy]; exact (Safe.exa hZ.alike f195 (by decide) (by decide))) CM192.1)
  have pre217 := fun (τ : State) kt => pre215 τ (by
    show Steps p.tables e below (T214.setTop (mkF m 216 #[.val (.int p1), .val (.int p2), .val (.int p3), .val (.int p4), .val (.int st), .val (.int (p3 &&& (3 : Int32))), .val lo, .val bo, .val (.int ov), .val cs, .unset, .unset] [(.ref mo)])) τ
    refine XS.astore X214.here hx rfl (Jvm.hb hby at_216) rfl rfl (l' := #[.val (.int p1), .val (.int p2), .val (.int p3), .val (.int p4), .val (.int st), .val (.int (p3 &&& (3 : Int32))), .val lo, .val bo, .val (.int ov), .val cs, .val (.ref mo), .unset]) rfl ?_
    exact kt)
  rcases q_lo with rfl | ⟨lb, rfl⟩
  · skip
    have pre218 := fun (τ : State) kt => pre217 τ (by
      show Steps p.tables e below (T214.setTop (mkF m 218 #[.val (.int p1), .val (.int p2), .val (.int p3), .val (.int p4), .val (.int st), .val (.int (p3 &&& (3 : Int32))), .val .null, .val bo, .val (.int ov), .val cs, .val (.ref mo), .unset] [])) τ
      refine XS.iload X214.here hx rfl (Jvm.hb hby at_218) rfl ?_
      refine XS.bipush X214.here hx rfl (Jvm.hb hby at_220) ?_
      refine XS.idiv X214.here hx rfl (Jvm.hb hby at_222) rfl (by decide) ?_
      refine XS.iconst X214.here hx rfl (Jvm.hb hby at_223) ?_
      exact kt)
    by_cases q7 : (st / (100 : Int32)) = (3 : Int32)
    · skip
      have f220 := f195.keep Kq214
      obtain ⟨_, T219, L219, X219, ⟨rfl, Nq219, eq219⟩, st219⟩ := own_virt (y := own_mn4) (b := mo) X214 hx hZ hown (own_W58 hw) (own_W59 hw) (own_W61 hw) (own_W60 hw) (by decide) (rmIN l Z a0 hw [] mo st T214.heap n0 (Nat.le_trans Z0 K214.1) fs214 fl214) (own_W62 hw) (own_W33 hw) 0 (by decide) (by decide) f220 rfl (mkF m 241 #[.val (.int p1), .val (.int p2), .val (.int p3), .val (.int p4), .val (.int st), .val (.int (p3 &&& (3 : Int32))), .val .null, .val bo, .val (.int ov), .val cs, .val (.ref mo), .val (.int (0 : Int32))] [(.ref mo)]) rfl (by rw [hml]; rfl) [] [] rfl (lenOf own_pd___Z rfl) rfl (Nat.le_refl _) (Jvm.hb hby at_241) (by decide) (by decide)
      have N219 := Fr.app N214 Nq219
      have pre221 := fun (τ : State) kt => pre218 τ (by
        show Steps p.tables e below (T214.setTop (mkF m 224 #[.val (.int p1), .val (.int p2), .val (.int p3), .val (.int p4), .val (.int st), .val (.int (p3 &&& (3 : Int32))), .val .null, .val bo, .val (.int ov), .val cs, .val (.ref mo), .unset] [(.int (3 : Int32)), (.int (st / (100 : Int32)))])) τ
        refine XS.icmpNo X214.here hx rfl (Jvm.hb hby at_224) rfl (teq q7).2 ?_
        refine XS.aload X214.here hx rfl (Jvm.hb hby at_227) rfl rfl ?_
        refine XS.ifnullYes X214.here hx rfl (pc0 := 229) (pc' := 236) rfl (Jvm.hb hby at_229) rfl (by decide) (by decide) ?_
        refine XS.iconst X214.here hx rfl (Jvm.hb hby at_236) ?_
        refine XS.istore X214.here hx rfl (Jvm.hb hby at_237) rfl (l' := #[.val (.int p1), .val (.int p2), .val (.int p3), .val (.int p4), .val (.int st), .val (.int (p3 &&& (3 : Int32))), .val .null, .val bo, .val (.int ov), .val cs, .val (.ref mo), .val (.int (0 : Int32))]) rfl ?_
        refine XS.aload X214.here hx rfl (Jvm.hb hby at_239) rfl rfl ?_
        exact st219 τ kt)
      have pre222 := fun (τ : State) kt => pre221 τ (by
        show Steps p.tables e below (T219.setTop (mkF m 244 #[.val (.int p1), .val (.int p2), .val (.int p3), .val (.int p4), .val (.int st), .val (.int (p3 &&& (3 : Int32))), .val .null, .val bo, .val (.int ov), .val cs, .val (.ref mo), .val (.int (0 : Int32))] [(.int (own_red st 0))])) τ
        refine XS.iload X219.here hx rfl (Jvm.hb hby at_244) rfl ?_
        refine XS.icmpNo X219.here hx rfl (Jvm.hb hby at_246) rfl (teq (own_red0 st)).2 ?_
        refine XS.iconst X219.here hx rfl (Jvm.hb hby at_249) ?_
        refine XS.goto X219.here hx rfl (pc0 := 250) (pc' := 254) rfl (Jvm.hb hby at_250) (by decide) (by decide) ?_
        exact kt)
      have eE : T219.heap = T214.heap := eq219
      obtain ⟨fs, hrL, hrun, hended, hRE⟩ := X219.leaveW hS192 (Nat.le_trans (Nat.le_trans hk192 CM216.2.1) (Nat.le_of_eq (congrArg Array.size eE.symm))) (v := some (.int (1 : Int32))) (fun h => by rw [Bd.returns] at h; cases h)
      refine ⟨_, _, cast (congrFun hPS _) (pre222 _ ?_), hrun, hended, _, _, rfl, ?_, hRE.1, hRE.2.1, hRE.2.2.1, hRE.2.2.2.mono (by decide) (by decide)⟩
      · show Steps p.tables e below (T219.setTop (mkF m 254 #[.val (.int p1), .val (.int p2), .val (.int p3), .val (.int p4), .val (.int st), .val (.int (p3 &&& (3 : Int32))), .val .null, .val bo, .val (.int ov), .val cs, .val (.ref mo), .val (.int (0 : Int32))] [(.int (1 : Int32))])) _
        exact retN X219 hx (t := .boolean) Bd.returns (by simp) (Jvm.hb hby at_254) hrL
      · show Q0 n0 _ T219.heap _
        exact ⟨rfl, N219⟩
    · skip
      have f224 := f195.keep Kq214
      obtain ⟨_, T223, L223, X223, ⟨rfl, Nq223, eq223⟩, st223⟩ := own_virt (y := own_mn4) (b := mo) X214 hx hZ hown (own_W58 hw) (own_W59 hw) (own_W61 hw) (own_W60 hw) (by decide) (rmIN l Z a0 hw [] mo st T214.heap n0 (Nat.le_trans Z0 K214.1) fs214 fl214) (own_W62 hw) (own_W33 hw) 0 (by decide) (by decide) f224 rfl (mkF m 241 #[.val (.int p1), .val (.int p2), .val (.int p3), .val (.int p4), .val (.int st), .val (.int (p3 &&& (3 : Int32))), .val .null, .val bo, .val (.int ov), .val cs, .val (.ref mo), .val (.int (0 : Int32))] [(.ref mo)]) rfl (by rw [hml]; rfl) [] [] rfl (lenOf own_pd___Z rfl) rfl (Nat.le_refl _) (Jvm.hb hby at_241) (by decide) (by decide)
      have N223 := Fr.app N214 Nq223
      have pre225 := fun (τ : State) kt => pre218 τ (by
        show Steps p.tables e below (T214.setTop (mkF m 224 #[.val (.int p1), .val (.int p2), .val (.int p3), .val (.int p4), .val (.int st), .val (.int (p3 &&& (3 : Int32))), .val .null, .val bo, .val (.int ov), .val cs, .val (.ref mo), .unset] [(.int (3 : Int32)), (.int (st / (100 : Int32)))])) τ
        refine XS.icmpYes X214.here hx rfl (pc0 := 224) (pc' := 236) rfl (Jvm.hb hby at_224) rfl (feq q7).2 (by decide) (by decide) ?_
        refine XS.iconst X214.here hx rfl (Jvm.hb hby at_236) ?_
        refine XS.istore X214.here hx rfl (Jvm.hb hby at_237) rfl (l' := #[.val (.int p1), .val (.int p2), .val (.int p3), .val (.int p4), .val (.int st), .val (.int (p3 &&& (3 : Int32))), .val .null, .val bo, .val (.int ov), .val cs, .val (.ref mo), .val (.int (0 : Int32))]) rfl ?_
        refine XS.aload X214.here hx rfl (Jvm.hb hby at_239) rfl rfl ?_
        exact st223 τ kt)
      have pre226 := fun (τ : State) kt => pre225 τ (by
        show Steps p.tables e below (T223.setTop (mkF m 244 #[.val (.int p1), .val (.int p2), .val (.int p3), .val (.int p4), .val (.int st), .val (.int (p3 &&& (3 : Int32))), .val .null, .val bo, .val (.int ov), .val cs, .val (.ref mo), .val (.int (0 : Int32))] [(.int (own_red st 0))])) τ
        refine XS.iload X223.here hx rfl (Jvm.hb hby at_244) rfl ?_
        refine XS.icmpNo X223.here hx rfl (Jvm.hb hby at_246) rfl (teq (own_red0 st)).2 ?_
        refine XS.iconst X223.here hx rfl (Jvm.hb hby at_249) ?_
        refine XS.goto X223.here hx rfl (pc0 := 250) (pc' := 254) rfl (Jvm.hb hby at_250) (by decide) (by decide) ?_
        exact kt)
      have eE : T223.heap = T214.heap := eq223
      obtain ⟨fs, hrL, hrun, hended, hRE⟩ := X223.leaveW hS192 (Nat.le_trans (Nat.le_trans hk192 CM216.2.1) (Nat.le_of_eq (congrArg Array.size eE.symm))) (v := some (.int (1 : Int32))) (fun h => by rw [Bd.returns] at h; cases h)
      refine ⟨_, _, cast (congrFun hPS _) (pre226 _ ?_), hrun, hended, _, _, rfl, ?_, hRE.1, hRE.2.1, hRE.2.2.1, hRE.2.2.2.mono (by decide) (by decide)⟩
      · show Steps p.tables e below (T223.setTop (mkF m 254 #[.val (.int p1), .val (.int p2), .val (.int p3), .val (.int p4), .val (.int st), .val (.int (p3 &&& (3 : Int32))), .val .null, .val bo, .val (.int ov), .val cs, .val (.ref mo), .val (.int (0 : Int32))] [(.int (1 : Int32))])) _
        exact retN X223 hx (t := .boolean) Bd.returns (by simp) (Jvm.hb hby at_254) hrL
      · show Q0 n0 _ T223.heap _
        exact ⟨rfl, N223⟩
  · skip
    have pre227 := fun (τ : State) kt => pre217 τ (by
      show Steps p.tables e below (T214.setTop (mkF m 218 #[.val (.int p1), .val (.int p2), .val (.int p3), .val (.int p4), .val (.int st), .val (.int (p3 &&& (3 : Int32))), .val (.ref lb), .val bo, .val (.int ov), .val cs, .val (.ref mo), .unset] [])) τ
      refine XS.iload X214.here hx rfl (Jvm.hb hby at_218) rfl ?_
      refine XS.bipush X214.here hx rfl (Jvm.hb hby at_220) ?_
      refine XS.idiv X214.here hx rfl (Jvm.hb hby at_222) rfl (by decide) ?_
      refine XS.iconst X214.here hx rfl (Jvm.hb hby at_223) ?_
      exact kt)
    by_cases q7 : (st / (100 : Int32)) = (3 : Int32)
    · skip
      have f229 := f195.keep Kq214
      obtain ⟨_, T228, L228, X228, ⟨rfl, Nq228, eq228⟩, st228⟩ := own_virt (y := own_mn4) (b := mo) X214 hx hZ hown (own_W58 hw) (own_W59 hw) (own_W61 hw) (own_W60 hw) (by decide) (rmIR l Z a0 hw [] mo st lb T214.heap n0 (Nat.le_trans Z0 K214.1) fs214 fl214) (own_W62 hw) (own_W33 hw) 0 (by decide) (by decide) f229 rfl (mkF m 241 #[.val (.int p1), .val (.int p2), .val (.int p3), .val (.int p4), .val (.int st), .val (.int (p3 &&& (3 : Int32))), .val (.ref lb), .val bo, .val (.int ov), .val cs, .val (.ref mo), .val (.int (1 : Int32))] [(.ref mo)]) rfl (by rw [hml]; rfl) [] [] rfl (lenOf own_pd___Z rfl) rfl (Nat.le_refl _) (Jvm.hb hby at_241) (by decide) (by decide)
      have N228 := Fr.app N214 Nq228
      have pre230 := fun (τ : State) kt => pre227 τ (by
        show Steps p.tables e below (T214.setTop (mkF m 224 #[.val (.int p1), .val (.int p2), .val (.int p3), .val (.int p4), .val (.int st), .val (.int (p3 &&& (3 : Int32))), .val (.ref lb), .val bo, .val (.int ov), .val cs, .val (.ref mo), .unset] [(.int (3 : Int32)), (.int (st / (100 : Int32)))])) τ
        refine XS.icmpNo X214.here hx rfl (Jvm.hb hby at_224) rfl (teq q7).2 ?_
        refine XS.aload X214.here hx rfl (Jvm.hb hby at_227) rfl rfl ?_
        refine XS.ifnullNo X214.here hx rfl (Jvm.hb hby at_229) rfl ?_
        refine XS.iconst X214.here hx rfl (Jvm.hb hby at_232) ?_
        refine XS.goto X214.here hx rfl (pc0 := 233) (pc' := 237) rfl (Jvm.hb hby at_233) (by decide) (by decide) ?_
        refine XS.istore X214.here hx rfl (Jvm.hb hby at_237) rfl (l' := #[.val (.int p1), .val (.int p2), .val (.int p3), .val (.int p4), .val (.int st), .val (.int (p3 &&& (3 : Int32))), .val (.ref lb), .val bo, .val (.int ov), .val cs, .val (.ref mo), .val (.int (1 : Int32))]) rfl ?_
        refine XS.aload X214.here hx rfl (Jvm.hb hby at_239) rfl rfl ?_
        exact st228 τ kt)
      have pre231 := fun (τ : State) kt => pre230 τ (by
        show Steps p.tables e below (T228.setTop (mkF m 244 #[.val (.int p1), .val (.int p2), .val (.int p3), .val (.int p4), .val (.int st), .val (.int (p3 &&& (3 : Int32))), .val (.ref lb), .val bo, .val (.int ov), .val cs, .val (.ref mo), .val (.int (1 : Int32))] [(.int (own_red st 1))])) τ
        refine XS.iload X228.here hx rfl (Jvm.hb hby at_244) rfl ?_
        refine XS.icmpNo X228.here hx rfl (Jvm.hb hby at_246) rfl (teq (own_redY q7)).2 ?_
        refine XS.iconst X228.here hx rfl (Jvm.hb hby at_249) ?_
        refine XS.goto X228.here hx rfl (pc0 := 250) (pc' := 254) rfl (Jvm.hb hby at_250) (by decide) (by decide) ?_
        exact kt)
      have eE : T228.heap = T214.heap := eq228
      obtain ⟨fs, hrL, hrun, hended, hRE⟩ := X228.leaveW hS192 (Nat.le_trans (Nat.le_trans hk192 CM216.2.1) (Nat.le_of_eq (congrArg Array.size eE.symm))) (v := some (.int (1 : Int32))) (fun h => by rw [Bd.returns] at h; cases h)
      refine ⟨_, _, cast (congrFun hPS _) (pre231 _ ?_), hrun, hended, _, _, rfl, ?_, hRE.1, hRE.2.1, hRE.2.2.1, hRE.2.2.2.mono (by decide) (by decide)⟩
      · show Steps p.tables e below (T228.setTop (mkF m 254 #[.val (.int p1), .val (.int p2), .val (.int p3), .val (.int p4), .val (.int st), .val (.int (p3 &&& (3 : Int32))), .val (.ref lb), .val bo, .val (.int ov), .val cs, .val (.ref mo), .val (.int (1 : Int32))] [(.int (1 : Int32))])) _
        exact retN X228 hx (t := .boolean) Bd.returns (by simp) (Jvm.hb hby at_254) hrL
      · show Q0 n0 _ T228.heap _
        exact ⟨rfl, N228⟩
    · skip
      have f233 := f195.keep Kq214
      obtain ⟨_, T232, L232, X232, ⟨rfl, Nq232, eq232⟩, st232⟩ := own_virt (y := own_mn4) (b := mo) X214 hx hZ hown (own_W58 hw) (own_W59 hw) (own_W61 hw) (own_W60 hw) (by decide) (rmIR l Z a0 hw [] mo st lb T214.heap n0 (Nat.le_trans Z0 K214.1) fs214 fl214) (own_W62 hw) (own_W33 hw) 0 (by decide) (by decide) f233 rfl (mkF m 241 #[.val (.int p1), .val (.int p2), .val (.int p3), .val (.int p4), .val (.int st), .val (.int (p3 &&& (3 : Int32))), .val (.ref lb), .val bo, .val (.int ov), .val cs, .val (.ref mo), .val (.int (0 : Int32))] [(.ref mo)]) rfl (by rw [hml]; rfl) [] [] rfl (lenOf own_pd___Z rfl) rfl (Nat.le_refl _) (Jvm.hb hby at_241) (by decide) (by decide)
      have N232 := Fr.app N214 Nq232
      have pre234 := fun (τ : State) kt => pre227 τ (by
        show Steps p.tables e below (T214.setTop (mkF m 224 #[.val (.int p1), .val (.int p2), .val (.int p3), .val (.int p4), .val (.int st), .val (.int (p3 &&& (3 : Int32))), .val (.ref lb), .val bo, .val (.int ov), .val cs, .val (.ref mo), .unset] [(.int (3 : Int32)), (.int (st / (100 : Int32)))])) τ
        refine XS.icmpYes X214.here hx rfl (pc0 := 224) (pc' := 236) rfl (Jvm.hb hby at_224) rfl (feq q7).2 (by decide) (by decide) ?_
        refine XS.iconst X214.here hx rfl (Jvm.hb hby at_236) ?_
        refine XS.istore X214.here hx rfl (Jvm.hb hby at_237) rfl (l' := #[.val (.int p1), .val (.int p2), .val (.int p3), .val (.int p4), .val (.int st), .val (.int (p3 &&& (3 : Int32))), .val (.ref lb), .val bo, .val (.int ov), .val cs, .val (.ref mo), .val (.int (0 : Int32))]) rfl ?_
        refine XS.aload X214.here hx rfl (Jvm.hb hby at_239) rfl rfl ?_
        exact st232 τ kt)
      have pre235 := fun (τ : State) kt => pre234 τ (by
        show Steps p.tables e below (T232.setTop (mkF m 244 #[.val (.int p1), .val (.int p2), .val (.int p3), .val (.int p4), .val (.int st), .val (.int (p3 &&& (3 : Int32))), .val (.ref lb), .val bo, .val (.int ov), .val cs, .val (.ref mo), .val (.int (0 : Int32))] [(.int (own_red st 1))])) τ
        refine XS.iload X232.here hx rfl (Jvm.hb hby at_244) rfl ?_
        refine XS.icmpNo X232.here hx rfl (Jvm.hb hby at_246) rfl (teq (own_redN q7)).2 ?_
        refine XS.iconst X232.here hx rfl (Jvm.hb hby at_249) ?_
        refine XS.goto X232.here hx rfl (pc0 := 250) (pc' := 254) rfl (Jvm.hb hby at_250) (by decide) (by decide) ?_
        exact kt)
      have eE : T232.heap = T214.heap := eq232
      obtain ⟨fs, hrL, hrun, hended, hRE⟩ := X232.leaveW hS192 (Nat.le_trans (Nat.le_trans hk192 CM216.2.1) (Nat.le_of_eq (congrArg Array.size eE.symm))) (v := some (.int (1 : Int32))) (fun h => by rw [Bd.returns] at h; cases h)
      refine ⟨_, _, cast (congrFun hPS _) (pre235 _ ?_), hrun, hended, _, _, rfl, ?_, hRE.1, hRE.2.1, hRE.2.2.1, hRE.2.2.2.mono (by decide) (by decide)⟩
      · show Steps p.tables e below (T232.setTop (mkF m 254 #[.val (.int p1), .val (.int p2), .val (.int p3), .val (.int p4), .val (.int st), .val (.int (p3 &&& (3 : Int32))), .val (.ref lb), .val bo, .val (.int ov), .val cs, .val (.ref mo), .val (.int (0 : Int32))] [(.int (1 : Int32))])) _
        exact retN X232 hx (t := .boolean) Bd.returns (by simp) (Jvm.hb hby at_254) hrL
      · show Q0 n0 _ T232.heap _
        exact ⟨rfl, N232⟩
set_option maxRecDepth 65536 in
set_option maxHeartbeats 40000000 in
theorem comes_1 {Post : Tables → Env → Array Value → State → Outcome → State → Prop} (hpost : ∀ tb e args s v u, (limb_1_1.after args s (.returned v) u = true ∧ limb_1_2.after args s (.returned v) u = true ∧ True) → FramedW s (.returned v) u (Jvm.fieldLocs frame_1_writes args s ++ Jvm.arrayLocs frame_1_arrays args s ++ Jvm.staticLocs frame_1_statics s) 32 1152 → Post tb e args s (.returned v) u) :
    ArmFor flags0 classFile x code maxLocals ret World_1 tables_1 room_1 Calls_1 rest_1 Pre_1 Post := by
  intro l hfl _ _ p e ha hc hk s m args below hf hA hF happ hP
  obtain ⟨hcalls, hrest, hpre⟩ := hP
  obtain ⟨-, -, -, hnamed, -, -, -, hat⟩ := (Spec.applies_iff hf).mp happ
  obtain ⟨hg, hn⟩ := and_e (Cond.before_iff.mp (show (Jvm.Cond.and given_1 narrow_1).before args s = true from hpre))
  obtain ⟨g1, g2⟩ := and_e hg
  obtain ⟨g3, g4⟩ := and_e g2
  obtain ⟨g5, g6⟩ := and_e g4
  obtain ⟨g7, g8⟩ := and_e g6
  obtain ⟨w0, w1, w2, w3, rfl⟩ : ∃ w0 w1 w2 w3 : Value, args = #[w0, w1, w2, w3] := by
    have hs : args.size = 4 := by simpa [Cond.value, given_1] using g1
    obtain ⟨L⟩ := args
    match L, hs with
    | [w0, w1, w2, w3], _ => exact ⟨w0, w1, w2, w3, rfl⟩
  have hw := fun d (hd : d ∈ tables_1) => atoms_spec (ws := Jvm.Cond.code x code maxLocals ret :: tables_1) hat d (List.mem_cons_of_mem _ hd)
  obtain ⟨hsets, hown0⟩ := atoms_of _ (rest_1_c_eq ▸ (show rest_1_c.before _ s = true from hrest))
  have hr0 := Cond.before_iff.mp hown0
  obtain ⟨i0, ei0⟩ := is_v g3
  obtain rfl : w0 = (.int i0) := Option.some.inj ei0
  obtain ⟨i1, ei1⟩ := is_v g5
  obtain rfl : w1 = (.int i1) := Option.some.inj ei1
  obtain ⟨i2, ei2⟩ := is_v g7
  obtain rfl : w2 = (.int i2) := Option.some.inj ei2
  obtain ⟨i3, ei3⟩ := is_v g8
  obtain rfl : w3 = (.int i3) := Option.some.inj ei3
  have n5 := not_v (Cond.before_iff.mp (hsets _ (List.mem_of_getElem? (i := 2) rfl)))
  obtain ⟨i11, e10⟩ := is_v (Cond.before_iff.mp (hsets _ (List.mem_of_getElem? (i := 1) rfl)))
  have S12 : Sta s s.heap "java/lang/String" "COMPACT_STRINGS" "Z" (.int i11) := Sta.start e10 (Or.inl (hsets _ (List.mem_of_getElem? (i := 0) rfl)))
  have c17 : ¬ (i11 = (0 : Int32)) := gotF (Cond.eq_ints e10 (Term.int_eval (0))) n5
  have hEL : EW s _ [("java/lang/String", 7)] := EW.cons (own_W34 hw) (by decide) EW.nil
  have wS : ∀ a ∈ Bundle.stringAtoms, a.before _ s = true := fun d hd => hw d ((by decide +kernel : ∀ d ∈ Bundle.stringAtoms, d ∈ tables_1) d hd)
  have CV : CHv s [("java/lang/String", 7)] s.vm s.heap := CHv.start hEL (fun p hp => hcalls.1 p hp) (hsets _ (List.mem_of_getElem? (i := 2) rfl)) (own_W20 hw) (own_W3 hw)
  obtain ⟨n, o, h1, h2, h3, _, L, rfl, ⟨rfl, N⟩, hq⟩ := rm0 l s _ hw tables_1 i0 i1 i2 i3 i11 s.heap s.heap.size (Nat.le_refl _) _ hEL (by decide) wS S12 c17 (Old.start s) p e ha hc hk s m _ below hf ((Spec.applies_iff_loose hf).mp happ).1 ⟨rfl, State.Warmed39.refl s, rfl, CV⟩ trivial
  refine ⟨n, _, h1, h2, h3, hpost _ _ _ _ _ _ ⟨Cond.after_iff.mpr rfl, Cond.after_iff.mpr (eq_i res_at (Term.int_eval (1)) rfl), trivial⟩ ⟨hq.1, hq.2.1, hq.2.2.1, (hq.2.2.2.sift fun y hy => Or.inr (N y hy)).mono (by decide) (by decide)⟩⟩
theorem main_1_1 : Claimed_1_1 := comes_1 fun _ _ _ _ _ _ h hF => ⟨h.1, hF⟩
theorem main_1_2 : Claimed_1_2 := comes_1 fun _ _ _ _ _ _ h hF => ⟨h.2.1, hF⟩
end Jvm.Pilot.@@N@@
namespace Jvm.Pilot.@@N@@
open Jvm Jvm.ClassFile Sem Op Lib Jvm.Free Jvm.Stand Jvm.Pilot.@@N@@.Jvm.D
/-! MADE BY PROGRAM (witnessworld.py) out of the Statement's table words and the real class files: 21 classes; the members and pool entries that the words name. The judged class is class 1, her method 1. -/
namespace start1
open Jvm.ClassFile
def u (s : String) : CpInfo := .utf8 (stringToUtf16 s)
/-- a pool by its gaps: so many unusable entries, then the entry; so many at the end -/
def gap : Nat → List CpInfo → List CpInfo
  | 0, r => r
  | n + 1, r => .unusable :: gap n r
def poolList (es : List (Nat × CpInfo)) (last : Nat) : List CpInfo := es.foldr (fun e r => gap e.1 (e.2 :: r)) (gap last [])
def pool (es : List (Nat × CpInfo)) (last : Nat) : Array CpInfo := ⟨poolList es last⟩
def fileOf (pool : Array CpInfo) (this : Nat) (attrs : Array Attribute := #[]) (ms : Array MethodInfo := #[]) (fl : Nat := 33) (sup : Nat := 0) (ifs : Array Nat := #[]) (fds : Array FieldInfo := #[]) : ClassFile where
  minorVersion := 0
  majorVersion := 65
  constantPool := pool
  accessFlags := fl
  thisClass := this
  superClass := sup
  interfaces := ifs
  fields := fds
  methods := ms
  attributes := attrs
def plain (name : String) (sup : Option ClassId) : Class where
  name := name
  kind := .ordinary
  loader := none
  accessFlags := 33
  super := sup
  interfaces := #[]
  cf := none
  fields := #[]
  methods := #[]
  instanceTypes := #[]
  staticTypes := #[]
  resolved := #[]
  callSites := []
  init := .initialized
  statics := none
  mirror := none

def pool0 : Array CpInfo := pool [(5, u "<init>"), (0, u "()V"), (1, .class_ 10), (1, u "java/lang/Object")] 113

def k0c0 : Code := { maxStack := 0, maxLocals := 1, code := object_method_1_code, exceptionTable := #[], attributes := #[] }
def k0m0 : Method := { name := "<init>", desc := "()V", sig := { parameters := [], returnType := none }, accessFlags := 1, code := some k0c0 }
/-- java/lang/Object -/
def k0 : Class := { plain "java/lang/Object" none with
  accessFlags := 33
  interfaces := #[]
  cf := some (fileOf pool0 8 #[] #[{ accessFlags := 1, nameIndex := 5, descriptorIndex := 6, attributes := #[] }] 33 0 #[] #[])
  fields := #[]
  methods := #[k0m0]
  instanceTypes := #[]
  staticTypes := #[]
  resolved := Array.replicate 124 none
  statics := none }

def pool1 : Array CpInfo := pool [(2, .class_ 4), (1, u "java/lang/Object"), (0, u "<init>"), (0, u "()V"), (0, .integer 2147483647), (0, .class_ 9), (0, u "java/lang/String"), (0, .methodref 8 11), (0, .nameAndType 5 12), (0, u "([C)V"), (0, .class_ 14), (0, u "com/example/winder/winder/io/Fetched"), (0, .methodref 13 16), (0, .nameAndType 5 17), (0, u "(ILjava/lang/String;Ljava/lang/String;Ljava/lang/String;[BZ)V"), (0, .methodref 13 19), (0, .nameAndType 20 21), (0, u "isRedirect"), (0, u "()Z"), (0, .class_ 23), (0, u "com/example/winder/winder/io/FetchedIsRedirectPinLaw"), (2, u "law"), (0, u "(IIII)Z")] 5

def k1m0 : Method := { name := "<init>", desc := "()V", sig := { parameters := [], returnType := none }, accessFlags := 1, code := none }
def k1c1 : Code := { maxStack := 8, maxLocals := 12, code := code, exceptionTable := #[], attributes := #[] }
def k1m1 : Method := { name := "law", desc := "(IIII)Z", sig := { parameters := [.int, .int, .int, .int], returnType := some .boolean }, accessFlags := 9, code := some k1c1 }
/-- com/example/winder/winder/io/FetchedIsRedirectPinLaw -/
def k1 : Class := { plain "com/example/winder/winder/io/FetchedIsRedirectPinLaw" (some 0) with
  accessFlags := 49
  interfaces := #[]
  cf := some (fileOf pool1 22 #[] #[{ accessFlags := 1, nameIndex := 5, descriptorIndex := 6, attributes := #[] }, { accessFlags := 9, nameIndex := 26, descriptorIndex := 27, attributes := #[] }] 49 2 #[] #[])
  fields := #[]
  methods := #[k1m0, k1m1]
  instanceTypes := #[]
  staticTypes := #[]
  resolved := Array.replicate 33 none
  statics := none }

def pool2 : Array CpInfo := pool [(1, .class_ 2), (0, u "java/io/Serializable"), (0, .class_ 4), (0, u "java/lang/Object")] 2

/-- java/io/Serializable -/
def k2 : Class := { plain "java/io/Serializable" (some 0) with
  accessFlags := 1537
  interfaces := #[]
  cf := some (fileOf pool2 1 #[] #[] 1537 3 #[] #[])
  fields := #[]
  methods := #[]
  instanceTypes := #[]
  staticTypes := #[]
  resolved := Array.replicate 7 none
  statics := none }

def pool3 : Array CpInfo := pool [(1, .class_ 2), (0, u "java/lang/Comparable"), (0, .class_ 4), (0, u "java/lang/Object")] 7

/-- java/lang/Comparable -/
def k3 : Class := { plain "java/lang/Comparable" (some 0) with
  accessFlags := 1537
  interfaces := #[]
  cf := some (fileOf pool3 1 #[] #[] 1537 3 #[] #[])
  fields := #[]
  methods := #[]
  instanceTypes := #[]
  staticTypes := #[]
  resolved := Array.replicate 12 none
  statics := none }

def pool4 : Array CpInfo := pool [(2, .class_ 4), (1, u "java/lang/CharSequence"), (42, .class_ 48), (0, u "java/lang/CharSequence$1CodePointIterator"), (10, .class_ 60), (0, u "java/lang/CharSequence$1CharIterator"), (5, .class_ 67), (0, u "java/lang/Object")] 63

/-- java/lang/CharSequence -/
def k4 : Class := { plain "java/lang/CharSequence" (some 0) with
  accessFlags := 1537
  interfaces := #[]
  cf := some (fileOf pool4 2 #[.nestMembers #[47, 59]] #[] 1537 66 #[] #[])
  fields := #[]
  methods := #[]
  instanceTypes := #[]
  staticTypes := #[]
  resolved := Array.replicate 131 none
  statics := none }

def pool5 : Array CpInfo := pool [(1, .class_ 2), (0, u "java/lang/constant/Constable"), (0, .class_ 4), (0, u "java/lang/Object")] 6

/-- java/lang/constant/Constable -/
def k5 : Class := { plain "java/lang/constant/Constable" (some 0) with
  accessFlags := 1537
  interfaces := #[]
  cf := some (fileOf pool5 1 #[] #[] 1537 3 #[] #[])
  fields := #[]
  methods := #[]
  instanceTypes := #[]
  staticTypes := #[]
  resolved := Array.replicate 11 none
  statics := none }

def pool6 : Array CpInfo := pool [(1, .class_ 2), (0, u "java/lang/constant/ConstantDesc"), (0, .class_ 4), (0, u "java/lang/Object")] 32

/-- java/lang/constant/ConstantDesc -/
def k6 : Class := { plain "java/lang/constant/ConstantDesc" (some 0) with
  accessFlags := 1537
  interfaces := #[]
  cf := some (fileOf pool6 1 #[] #[] 1537 3 #[] #[])
  fields := #[]
  methods := #[]
  instanceTypes := #[]
  staticTypes := #[]
  resolved := Array.replicate 37 none
  statics := none }

def pool7 : Array CpInfo := pool [(1, .methodref 2 3), (0, .class_ 4), (0, .nameAndType 5 6), (0, u "java/lang/Object"), (0, u "<init>"), (0, u "()V"), (0, .string 8), (0, u ""), (0, .fieldref 10 11), (0, .class_ 12), (0, .nameAndType 13 14), (0, u "java/lang/String"), (0, u "value"), (0, u "[B"), (0, .fieldref 10 16), (0, .nameAndType 17 18), (0, u "coder"), (0, u "B"), (2, u "hash"), (0, u "I"), (2, u "hashIsZero"), (0, u "Z"), (0, .methodref 10 28), (0, .nameAndType 5 29), (0, u "([CIILjava/lang/Void;)V"), (8, .fieldref 10 39), (0, .nameAndType 40 26), (0, u "COMPACT_STRINGS"), (1, .class_ 44), (1, u "java/lang/StringUTF16"), (0, u "compress"), (1, .methodref 42 48), (0, .nameAndType 49 50), (0, u "coderFromArrayLen"), (0, u "([BI)B"), (126, .methodref 42 178), (0, .nameAndType 45 179), (0, u "([CII)[B"), (395, .class_ 576), (0, u "java/lang/CharSequence"), (22, u "CASE_INSENSITIVE_ORDER"), (0, u "Ljava/util/Comparator;"), (409, u "([C)V"), (90, u "serialPersistentFields"), (0, u "[Ljava/io/ObjectStreamField;"), (0, .class_ 1104), (0, u "java/lang/String$CaseInsensitiveComparator"), (1, .class_ 1107), (0, u "java/io/Serializable"), (0, .class_ 1109), (0, u "java/lang/Comparable"), (0, .class_ 1111), (0, u "java/lang/constant/Constable"), (0, .class_ 1113), (0, u "java/lang/constant/ConstantDesc"), (2, u "serialVersionUID"), (0, u "J"), (3, u "REPL"), (0, u "C"), (2, u "LATIN1"), (1, u "UTF16")] 323

def k7m0 : Method := { name := "<init>", desc := "()V", sig := { parameters := [], returnType := none }, accessFlags := 1, code := none }
def k7c1 : Code := { maxStack := 5, maxLocals := 2, code := jdk_42_method_3_code, exceptionTable := #[], attributes := #[] }
def k7m1 : Method := { name := "<init>", desc := "([C)V", sig := { parameters := [(.array .char)], returnType := none }, accessFlags := 1, code := some k7c1 }
def k7c2 : Code := { maxStack := 4, maxLocals := 6, code := jdk_42_method_149_code, exceptionTable := #[], attributes := #[] }
def k7m2 : Method := { name := "<init>", desc := "([CIILjava/lang/Void;)V", sig := { parameters := [(.array .char), .int, .int, (.object "java/lang/Void")], returnType := none }, accessFlags := 2, code := some k7c2 }
/-- java/lang/String -/
def k7 : Class := { plain "java/lang/String" (some 0) with
  accessFlags := 49
  interfaces := #[2, 3, 4, 5, 6]
  cf := some (fileOf pool7 10 #[.nestMembers #[1103]] #[{ accessFlags := 1, nameIndex := 5, descriptorIndex := 6, attributes := #[] }, { accessFlags := 1, nameIndex := 5, descriptorIndex := 1010, attributes := #[] }, { accessFlags := 2, nameIndex := 5, descriptorIndex := 29, attributes := #[] }] 49 2 #[1106, 1108, 575, 1110, 1112] #[{ accessFlags := 18, nameIndex := 13, descriptorIndex := 14, attributes := #[] }, { accessFlags := 18, nameIndex := 17, descriptorIndex := 18, attributes := #[] }, { accessFlags := 2, nameIndex := 21, descriptorIndex := 22, attributes := #[] }, { accessFlags := 2, nameIndex := 25, descriptorIndex := 26, attributes := #[] }, { accessFlags := 26, nameIndex := 1116, descriptorIndex := 1117, attributes := #[] }, { accessFlags := 24, nameIndex := 40, descriptorIndex := 26, attributes := #[] }, { accessFlags := 26, nameIndex := 1101, descriptorIndex := 1102, attributes := #[] }, { accessFlags := 26, nameIndex := 1121, descriptorIndex := 1122, attributes := #[] }, { accessFlags := 25, nameIndex := 599, descriptorIndex := 600, attributes := #[] }, { accessFlags := 24, nameIndex := 1125, descriptorIndex := 18, attributes := #[] }, { accessFlags := 24, nameIndex := 1127, descriptorIndex := 18, attributes := #[] }])
  fields := #[{ name := "value", type := (.array .byte), accessFlags := 18, slot := 0, constantValue := 0 }, { name := "coder", type := .byte, accessFlags := 18, slot := 1, constantValue := 0 }, { name := "hash", type := .int, accessFlags := 2, slot := 2, constantValue := 0 }, { name := "hashIsZero", type := .boolean, accessFlags := 2, slot := 3, constantValue := 0 }, { name := "serialVersionUID", type := .long, accessFlags := 26, slot := 0, constantValue := 0 }, { name := "COMPACT_STRINGS", type := .boolean, accessFlags := 24, slot := 1, constantValue := 0 }, { name := "serialPersistentFields", type := (.array (.object "java/io/ObjectStreamField")), accessFlags := 26, slot := 2, constantValue := 0 }, { name := "REPL", type := .char, accessFlags := 26, slot := 3, constantValue := 0 }, { name := "CASE_INSENSITIVE_ORDER", type := (.object "java/util/Comparator"), accessFlags := 25, slot := 4, constantValue := 0 }, { name := "LATIN1", type := .byte, accessFlags := 24, slot := 5, constantValue := 0 }, { name := "UTF16", type := .byte, accessFlags := 24, slot := 6, constantValue := 0 }]
  methods := #[k7m0, k7m1, k7m2]
  instanceTypes := #[(.array .byte), .byte, .int, .boolean]
  staticTypes := #[.long, .boolean, (.array (.object "java/io/ObjectStreamField")), .char, (.object "java/util/Comparator"), .byte, .byte]
  resolved := Array.replicate 1451 none
  statics := some 0 }

def pool8 : Array CpInfo := pool [(6, .class_ 8), (1, u "java/lang/Object"), (0, u "<init>"), (0, u "()V"), (1, .class_ 14), (1, u "java/lang/StringUTF16"), (31, u "$assertionsDisabled"), (0, u "Z"), (13, u "HI_BYTE_SHIFT"), (0, u "I"), (2, u "LO_BYTE_SHIFT"), (49, .methodref 12 116), (0, .nameAndType 117 118), (0, u "compress"), (0, u "([CI[BII)I"), (3, u "([CII)[B"), (138, u "coderFromArrayLen"), (0, u "([BI)B"), (106, .class_ 371), (1, u "java/lang/StringUTF16$LinesSpliterator"), (58, u "MAX_LENGTH"), (196, .class_ 628), (0, u "java/lang/StringUTF16$CodePointsSpliterator"), (0, .class_ 630), (0, u "java/lang/StringUTF16$CharsSpliterator")] 4

def k8m0 : Method := { name := "<init>", desc := "()V", sig := { parameters := [], returnType := none }, accessFlags := 0, code := none }
def k8c1 : Code := { maxStack := 2, maxLocals := 2, code := jdk_52_method_15_code, exceptionTable := #[], attributes := #[] }
def k8m1 : Method := { name := "coderFromArrayLen", desc := "([BI)B", sig := { parameters := [(.array .byte), .int], returnType := some .byte }, accessFlags := 8, code := some k8c1 }
def k8c2 : Code := { maxStack := 5, maxLocals := 6, code := jdk_52_method_16_code, exceptionTable := #[], attributes := #[] }
def k8m2 : Method := { name := "compress", desc := "([CII)[B", sig := { parameters := [(.array .char), .int, .int], returnType := some (.array .byte) }, accessFlags := 9, code := some k8c2 }
def k8c3 : Code := { maxStack := 3, maxLocals := 7, code := jdk_52_method_21_code, exceptionTable := #[], attributes := #[] }
def k8m3 : Method := { name := "compress", desc := "([CI[BII)I", sig := { parameters := [(.array .char), .int, (.array .byte), .int, .int], returnType := some .int }, accessFlags := 9, code := some k8c3 }
/-- java/lang/StringUTF16 -/
def k8 : Class := { plain "java/lang/StringUTF16" (some 0) with
  accessFlags := 48
  interfaces := #[]
  cf := some (fileOf pool8 12 #[.nestMembers #[627, 629, 369]] #[{ accessFlags := 0, nameIndex := 9, descriptorIndex := 10, attributes := #[] }, { accessFlags := 8, nameIndex := 261, descriptorIndex := 262, attributes := #[] }, { accessFlags := 9, nameIndex := 117, descriptorIndex := 122, attributes := #[] }, { accessFlags := 9, nameIndex := 117, descriptorIndex := 118, attributes := #[] }] 48 6 #[] #[{ accessFlags := 26, nameIndex := 61, descriptorIndex := 62, attributes := #[] }, { accessFlags := 26, nameIndex := 65, descriptorIndex := 62, attributes := #[] }, { accessFlags := 24, nameIndex := 430, descriptorIndex := 62, attributes := #[] }, { accessFlags := 4120, nameIndex := 46, descriptorIndex := 47, attributes := #[] }])
  fields := #[{ name := "HI_BYTE_SHIFT", type := .int, accessFlags := 26, slot := 0, constantValue := 0 }, { name := "LO_BYTE_SHIFT", type := .int, accessFlags := 26, slot := 1, constantValue := 0 }, { name := "MAX_LENGTH", type := .int, accessFlags := 24, slot := 2, constantValue := 0 }, { name := "$assertionsDisabled", type := .boolean, accessFlags := 4120, slot := 3, constantValue := 0 }]
  methods := #[k8m0, k8m1, k8m2, k8m3]
  instanceTypes := #[]
  staticTypes := #[.int, .int, .int, .boolean]
  resolved := Array.replicate 635 none
  statics := none }

def pool9 : Array CpInfo := pool [(1, .methodref 2 3), (0, .class_ 4), (0, .nameAndType 5 6), (0, u "java/lang/Object"), (0, u "<init>"), (0, u "()V"), (0, .class_ 8), (0, u "java/lang/Record")] 13

def k9c0 : Code := { maxStack := 1, maxLocals := 1, code := jdk_30_method_1_code, exceptionTable := #[], attributes := #[] }
def k9m0 : Method := { name := "<init>", desc := "()V", sig := { parameters := [], returnType := none }, accessFlags := 4, code := some k9c0 }
/-- java/lang/Record -/
def k9 : Class := { plain "java/lang/Record" (some 0) with
  accessFlags := 1057
  interfaces := #[]
  cf := some (fileOf pool9 7 #[] #[{ accessFlags := 4, nameIndex := 5, descriptorIndex := 6, attributes := #[] }] 1057 2 #[] #[])
  fields := #[]
  methods := #[k9m0]
  instanceTypes := #[]
  staticTypes := #[]
  resolved := Array.replicate 22 none
  statics := none }

def pool10 : Array CpInfo := pool [(1, .methodref 2 3), (0, .class_ 4), (0, .nameAndType 5 6), (0, u "java/lang/Record"), (0, u "<init>"), (0, u "()V"), (0, .fieldref 8 9), (0, .class_ 10), (0, .nameAndType 11 12), (0, u "com/example/winder/winder/io/Fetched"), (0, u "status"), (0, u "I"), (0, .fieldref 8 14), (0, .nameAndType 15 16), (0, u "mediaType"), (0, u "Ljava/lang/String;"), (0, .fieldref 8 18), (0, .nameAndType 19 16), (0, u "charset"), (0, .fieldref 8 21), (0, .nameAndType 22 16), (0, u "location"), (0, .fieldref 8 24), (0, .nameAndType 25 26), (0, u "body"), (0, u "[B"), (0, .fieldref 8 28), (0, .nameAndType 29 30), (0, u "oversized"), (0, u "Z"), (12, u "(ILjava/lang/String;Ljava/lang/String;Ljava/lang/String;[BZ)V"), (4, u "()Z"), (1, u "isRedirect")] 29

def k10c0 : Code := { maxStack := 2, maxLocals := 7, code := prog_5_method_1_code, exceptionTable := #[], attributes := #[] }
def k10m0 : Method := { name := "<init>", desc := "(ILjava/lang/String;Ljava/lang/String;Ljava/lang/String;[BZ)V", sig := { parameters := [.int, (.object "java/lang/String"), (.object "java/lang/String"), (.object "java/lang/String"), (.array .byte), .boolean], returnType := none }, accessFlags := 1, code := some k10c0 }
def k10c1 : Code := { maxStack := 2, maxLocals := 1, code := prog_5_method_3_code, exceptionTable := #[], attributes := #[] }
def k10m1 : Method := { name := "isRedirect", desc := "()Z", sig := { parameters := [], returnType := some .boolean }, accessFlags := 1, code := some k10c1 }
/-- com/example/winder/winder/io/Fetched -/
def k10 : Class := { plain "com/example/winder/winder/io/Fetched" (some 9) with
  accessFlags := 49
  interfaces := #[]
  cf := some (fileOf pool10 8 #[] #[{ accessFlags := 1, nameIndex := 5, descriptorIndex := 43, attributes := #[] }, { accessFlags := 1, nameIndex := 50, descriptorIndex := 48, attributes := #[] }] 49 2 #[] #[{ accessFlags := 18, nameIndex := 11, descriptorIndex := 12, attributes := #[] }, { accessFlags := 18, nameIndex := 15, descriptorIndex := 16, attributes := #[] }, { accessFlags := 18, nameIndex := 19, descriptorIndex := 16, attributes := #[] }, { accessFlags := 18, nameIndex := 22, descriptorIndex := 16, attributes := #[] }, { accessFlags := 18, nameIndex := 25, descriptorIndex := 26, attributes := #[] }, { accessFlags := 18, nameIndex := 29, descriptorIndex := 30, attributes := #[] }])
  fields := #[{ name := "status", type := .int, accessFlags := 18, slot := 0, constantValue := 0 }, { name := "mediaType", type := (.object "java/lang/String"), accessFlags := 18, slot := 1, constantValue := 0 }, { name := "charset", type := (.object "java/lang/String"), accessFlags := 18, slot := 2, constantValue := 0 }, { name := "location", type := (.object "java/lang/String"), accessFlags := 18, slot := 3, constantValue := 0 }, { name := "body", type := (.array .byte), accessFlags := 18, slot := 4, constantValue := 0 }, { name := "oversized", type := .boolean, accessFlags := 18, slot := 5, constantValue := 0 }]
  methods := #[k10m0, k10m1]
  instanceTypes := #[.int, (.object "java/lang/String"), (.object "java/lang/String"), (.object "java/lang/String"), (.array .byte), .boolean]
  staticTypes := #[]
  resolved := Array.replicate 80 none
  statics := none }

def pool11 : Array CpInfo := pool [(4, .class_ 6), (1, u "java/lang/Object"), (0, u "<init>"), (0, u "()V"), (5, .class_ 16), (1, u "java/lang/StringLatin1"), (104, u "$assertionsDisabled"), (0, u "Z"), (98, .class_ 223), (1, u "java/lang/StringLatin1$LinesSpliterator"), (166, .class_ 391), (0, u "java/lang/StringLatin1$CharsSpliterator")] 3

def k11m0 : Method := { name := "<init>", desc := "()V", sig := { parameters := [], returnType := none }, accessFlags := 0, code := none }
/-- java/lang/StringLatin1 -/
def k11 : Class := { plain "java/lang/StringLatin1" (some 0) with
  accessFlags := 48
  interfaces := #[]
  cf := some (fileOf pool11 14 #[.nestMembers #[390, 221]] #[{ accessFlags := 0, nameIndex := 7, descriptorIndex := 8, attributes := #[] }] 48 4 #[] #[{ accessFlags := 4120, nameIndex := 121, descriptorIndex := 122, attributes := #[] }])
  fields := #[{ name := "$assertionsDisabled", type := .boolean, accessFlags := 4120, slot := 0, constantValue := 0 }]
  methods := #[k11m0]
  instanceTypes := #[]
  staticTypes := #[.boolean]
  resolved := Array.replicate 395 none
  statics := none }

def pool12 : Array CpInfo := pool [(2, .class_ 4), (1, u "java/lang/Object"), (0, u "<init>"), (0, u "()V"), (17, .class_ 26), (1, u "jdk/internal/util/Preconditions"), (28, .class_ 56), (0, u "jdk/internal/util/Preconditions$4"), (57, .class_ 115), (0, u "jdk/internal/util/Preconditions$1"), (7, u "SIOOBE_FORMATTER"), (0, u "Ljava/util/function/BiFunction;"), (0, .class_ 126), (0, u "jdk/internal/util/Preconditions$2"), (3, u "AIOOBE_FORMATTER"), (0, .class_ 132), (0, u "jdk/internal/util/Preconditions$3"), (3, u "IOOBE_FORMATTER")] 57

def k12m0 : Method := { name := "<init>", desc := "()V", sig := { parameters := [], returnType := none }, accessFlags := 1, code := none }
/-- jdk/internal/util/Preconditions -/
def k12 : Class := { plain "jdk/internal/util/Preconditions" (some 0) with
  accessFlags := 33
  interfaces := #[]
  cf := some (fileOf pool12 24 #[.nestMembers #[55, 131, 125, 114]] #[{ accessFlags := 1, nameIndex := 5, descriptorIndex := 6, attributes := #[] }] 33 2 #[] #[{ accessFlags := 25, nameIndex := 123, descriptorIndex := 124, attributes := #[] }, { accessFlags := 25, nameIndex := 130, descriptorIndex := 124, attributes := #[] }, { accessFlags := 25, nameIndex := 136, descriptorIndex := 124, attributes := #[] }])
  fields := #[{ name := "SIOOBE_FORMATTER", type := (.object "java/util/function/BiFunction"), accessFlags := 25, slot := 0, constantValue := 0 }, { name := "AIOOBE_FORMATTER", type := (.object "java/util/function/BiFunction"), accessFlags := 25, slot := 1, constantValue := 0 }, { name := "IOOBE_FORMATTER", type := (.object "java/util/function/BiFunction"), accessFlags := 25, slot := 2, constantValue := 0 }]
  methods := #[k12m0]
  instanceTypes := #[]
  staticTypes := #[(.object "java/util/function/BiFunction"), (.object "java/util/function/BiFunction"), (.object "java/util/function/BiFunction")]
  resolved := Array.replicate 194 none
  statics := some 1 }

def pool13 : Array CpInfo := pool [(9, u "<init>"), (6, .class_ 18), (1, u "java/lang/Object"), (0, u "()V"), (1, .class_ 23), (1, u "jdk/internal/util/ArraysSupport"), (0, u "LOG2_ARRAY_LONG_INDEX_SCALE"), (0, u "I"), (2, u "U"), (0, u "Ljdk/internal/misc/Unsafe;"), (8, u "BIG_ENDIAN"), (0, u "Z"), (8, u "LOG2_BYTE_BIT_SIZE"), (4, u "LOG2_ARRAY_INT_INDEX_SCALE"), (54, u "JLA"), (0, u "Ljdk/internal/access/JavaLangAccess;"), (11, u "LOG2_ARRAY_BOOLEAN_INDEX_SCALE"), (9, u "LOG2_ARRAY_BYTE_INDEX_SCALE"), (5, u "LOG2_ARRAY_CHAR_INDEX_SCALE"), (5, u "LOG2_ARRAY_SHORT_INDEX_SCALE"), (18, u "LOG2_ARRAY_FLOAT_INDEX_SCALE"), (24, u "LOG2_ARRAY_DOUBLE_INDEX_SCALE"), (89, u "T_BOOLEAN"), (2, u "T_CHAR"), (1, u "T_FLOAT"), (1, u "T_DOUBLE"), (1, u "T_BYTE"), (1, u "T_SHORT"), (1, u "T_INT"), (1, u "T_LONG"), (1, u "SOFT_MAX_ARRAY_LENGTH")] 83

def k13m0 : Method := { name := "<init>", desc := "()V", sig := { parameters := [], returnType := none }, accessFlags := 2, code := none }
/-- jdk/internal/util/ArraysSupport -/
def k13 : Class := { plain "jdk/internal/util/ArraysSupport" (some 0) with
  accessFlags := 33
  interfaces := #[]
  cf := some (fileOf pool13 21 #[] #[{ accessFlags := 2, nameIndex := 9, descriptorIndex := 19, attributes := #[] }] 33 16 #[] #[{ accessFlags := 24, nameIndex := 28, descriptorIndex := 29, attributes := #[] }, { accessFlags := 26, nameIndex := 38, descriptorIndex := 39, attributes := #[] }, { accessFlags := 25, nameIndex := 121, descriptorIndex := 25, attributes := #[] }, { accessFlags := 25, nameIndex := 131, descriptorIndex := 25, attributes := #[] }, { accessFlags := 25, nameIndex := 137, descriptorIndex := 25, attributes := #[] }, { accessFlags := 25, nameIndex := 143, descriptorIndex := 25, attributes := #[] }, { accessFlags := 25, nameIndex := 53, descriptorIndex := 25, attributes := #[] }, { accessFlags := 25, nameIndex := 24, descriptorIndex := 25, attributes := #[] }, { accessFlags := 25, nameIndex := 162, descriptorIndex := 25, attributes := #[] }, { accessFlags := 25, nameIndex := 187, descriptorIndex := 25, attributes := #[] }, { accessFlags := 26, nameIndex := 48, descriptorIndex := 25, attributes := #[] }, { accessFlags := 25, nameIndex := 277, descriptorIndex := 25, attributes := #[] }, { accessFlags := 25, nameIndex := 280, descriptorIndex := 25, attributes := #[] }, { accessFlags := 25, nameIndex := 282, descriptorIndex := 25, attributes := #[] }, { accessFlags := 25, nameIndex := 284, descriptorIndex := 25, attributes := #[] }, { accessFlags := 25, nameIndex := 286, descriptorIndex := 25, attributes := #[] }, { accessFlags := 25, nameIndex := 288, descriptorIndex := 25, attributes := #[] }, { accessFlags := 25, nameIndex := 290, descriptorIndex := 25, attributes := #[] }, { accessFlags := 25, nameIndex := 292, descriptorIndex := 25, attributes := #[] }, { accessFlags := 26, nameIndex := 108, descriptorIndex := 109, attributes := #[] }, { accessFlags := 25, nameIndex := 294, descriptorIndex := 25, attributes := #[] }])
  fields := #[{ name := "U", type := (.object "jdk/internal/misc/Unsafe"), accessFlags := 24, slot := 0, constantValue := 0 }, { name := "BIG_ENDIAN", type := .boolean, accessFlags := 26, slot := 1, constantValue := 0 }, { name := "LOG2_ARRAY_BOOLEAN_INDEX_SCALE", type := .int, accessFlags := 25, slot := 2, constantValue := 0 }, { name := "LOG2_ARRAY_BYTE_INDEX_SCALE", type := .int, accessFlags := 25, slot := 3, constantValue := 0 }, { name := "LOG2_ARRAY_CHAR_INDEX_SCALE", type := .int, accessFlags := 25, slot := 4, constantValue := 0 }, { name := "LOG2_ARRAY_SHORT_INDEX_SCALE", type := .int, accessFlags := 25, slot := 5, constantValue := 0 }, { name := "LOG2_ARRAY_INT_INDEX_SCALE", type := .int, accessFlags := 25, slot := 6, constantValue := 0 }, { name := "LOG2_ARRAY_LONG_INDEX_SCALE", type := .int, accessFlags := 25, slot := 7, constantValue := 0 }, { name := "LOG2_ARRAY_FLOAT_INDEX_SCALE", type := .int, accessFlags := 25, slot := 8, constantValue := 0 }, { name := "LOG2_ARRAY_DOUBLE_INDEX_SCALE", type := .int, accessFlags := 25, slot := 9, constantValue := 0 }, { name := "LOG2_BYTE_BIT_SIZE", type := .int, accessFlags := 26, slot := 10, constantValue := 0 }, { name := "T_BOOLEAN", type := .int, accessFlags := 25, slot := 11, constantValue := 0 }, { name := "T_CHAR", type := .int, accessFlags := 25, slot := 12, constantValue := 0 }, { name := "T_FLOAT", type := .int, accessFlags := 25, slot := 13, constantValue := 0 }, { name := "T_DOUBLE", type := .int, accessFlags := 25, slot := 14, constantValue := 0 }, { name := "T_BYTE", type := .int, accessFlags := 25, slot := 15, constantValue := 0 }, { name := "T_SHORT", type := .int, accessFlags := 25, slot := 16, constantValue := 0 }, { name := "T_INT", type := .int, accessFlags := 25, slot := 17, constantValue := 0 }, { name := "T_LONG", type := .int, accessFlags := 25, slot := 18, constantValue := 0 }, { name := "JLA", type := (.object "jdk/internal/access/JavaLangAccess"), accessFlags := 26, slot := 19, constantValue := 0 }, { name := "SOFT_MAX_ARRAY_LENGTH", type := .int, accessFlags := 25, slot := 20, constantValue := 0 }]
  methods := #[k13m0]
  instanceTypes := #[]
  staticTypes := #[(.object "jdk/internal/misc/Unsafe"), .boolean, .int, .int, .int, .int, .int, .int, .int, .int, .int, .int, .int, .int, .int, .int, .int, .int, .int, (.object "jdk/internal/access/JavaLangAccess"), .int]
  resolved := Array.replicate 378 none
  statics := none }

def pool14 : Array CpInfo := pool [(1, u "java/lang/Cloneable"), (0, .class_ 1), (0, u "java/lang/Object"), (0, .class_ 3)] 3

/-- java/lang/Cloneable -/
def k14 : Class := { plain "java/lang/Cloneable" (some 0) with
  accessFlags := 1537
  interfaces := #[]
  cf := some (fileOf pool14 2 #[] #[] 1537 4 #[] #[])
  fields := #[]
  methods := #[]
  instanceTypes := #[]
  staticTypes := #[]
  resolved := Array.replicate 8 none
  statics := none }

/-- the primitive byte -/
def k15 : Class := { plain "byte" none with kind := .primitive 'B', accessFlags := 0x411 }
/-- [B -/
def k16 : Class := { plain "[B" (some 0) with kind := .array 15 .byte, interfaces := #[14, 2], accessFlags := 1041 }

/-- the primitive char -/
def k17 : Class := { plain "char" none with kind := .primitive 'C', accessFlags := 0x411 }
/-- [C -/
def k18 : Class := { plain "[C" (some 0) with kind := .array 17 .char, interfaces := #[14, 2], accessFlags := 1041 }

/-- the primitive int -/
def k19 : Class := { plain "int" none with kind := .primitive 'I', accessFlags := 0x411 }
/-- [I -/
def k20 : Class := { plain "[I" (some 0) with kind := .array 19 .int, interfaces := #[14, 2], accessFlags := 1041 }

def heap : Heap := #[{ cls := 7, slots := #[.long 0, .int 1, .null, .int 0, .null, .int 0, .int 0], vm := .statics 7 },
  { cls := 12, slots := #[.null, .null, .null], vm := .statics 12 }]
def classes : Array Class := #[k0, k1, k2, k3, k4, k5, k6, k7, k8, k9, k10, k11, k12, k13, k14, k15, k16, k17, k18, k19, k20]
def interned : List (Array UInt16 × Addr) := []
def slotsUsed : Nat := 10
def theMethod : MethodId := ⟨1, 1⟩
def args0 : Array Value := #[.int 300, .int 0, .int 21, .int 65]
def aboutOver (below : List Frame) : State where
  vm := { classes := classes, interned := interned.toArray }
  heap := heap
  slotsUsed := slotsUsed
  threads := #[{ frames := .invoking theMethod args0 :: below }]
def below0 : List Frame := [.native { method := ⟨0, 0⟩, args := #[] }]
def about1 : State := aboutOver below0
def p0 : Program := .bare "" "" ""
def e0 : Env := launch0.env 0 0 0
theorem w_frames : about1.frames = Frame.invoking theMethod args0 :: below0 := rfl
set_option maxRecDepth 65536 in
theorem w_args : argsFit about1.vm theMethod args0 = true := by decide +kernel
set_option maxRecDepth 65536 in
theorem w_heap : heapFits about1 = true := by decide +kernel
set_option maxRecDepth 65536 in
theorem w_runnable : about1.curStatus? = some .runnable := by decide +kernel
set_option maxRecDepth 65536 in
theorem w_alone : about1.alone = true := by decide +kernel
set_option maxRecDepth 65536 in
theorem w_named : about1.methodNamed? x = some theMethod := by decide +kernel
set_option maxRecDepth 65536 in
theorem w_hears : about1.hears theMethod below0 = true := by decide +kernel
set_option maxRecDepth 65536 in
theorem w_ripe : about1.ripe theMethod args0 below0 = true := by decide +kernel
theorem w_running : about1.status = .running := rfl
set_option maxRecDepth 65536 in
theorem w_room : about1.hasRoom e0.platform room_1 = true :=
  launch0.hasRoom_least _ room_1 (by decide +kernel) (by decide +kernel) (by decide +kernel) (by decide +kernel) (by decide +kernel) (by decide +kernel)
theorem allAtoms_all (ts : List Jvm.Cond) (a : Array Jvm.Value) (st : Jvm.State) : (allAtoms ts).before a st = ts.all (fun c => c.before a st) := by
  induction ts with
  | nil => rfl
  | cons c t ih =>
    show (Jvm.Cond.and c (allAtoms t)).before a st = _
    rw [Jvm.Cond.before_and, ih, List.all_cons]
def words1 : List Jvm.Cond := Jvm.Cond.code x code maxLocals ret :: tables_1
/-- a 'code' word, met by the world's own term for the bytes: nothing is compared byte by byte -/
theorem code_word {y : MethodName} {bytes : ByteArray} {mx : Nat} {rt : Option FieldType} {a : Array Value} {s : State} {m : MethodId} {meth : Method} {c : Code} (h1 : s.methodNamed? y = some m) (h2 : s.vm.method? m = some meth) (h3 : meth.code = some c) (h4 : c.code = bytes)
    (h5 : (c.maxLocals == mx && c.exceptionTable.isEmpty && decide (c.maxStack ≤ mostOperands) && decide (meth.sig.returnType = rt) && !meth.locks && decide (parseMethodDescriptor y.desc = some meth.sig)) = true) : (Jvm.Cond.code y bytes mx rt).before a s = true := by
  simp only [Bool.and_eq_true, beq_iff_eq, Bool.not_eq_true', decide_eq_true_eq] at h5
  obtain ⟨⟨⟨⟨⟨g1, g2⟩, g3⟩, g4⟩, g5⟩, g6⟩ := h5
  simp [Cond.before, Cond.holds, Cond.value, h1, h2, h3, h4, g1, g2, g3, g4, g5, g6]
def isCode : Jvm.Cond → Bool
  | .code _ _ _ _ => true
  | _ => false
theorem all_split {L : List Jvm.Cond} {P : Jvm.Cond → Bool} (h1 : L.all (fun c => isCode c || P c) = true) (h2 : ∀ c ∈ L.filter isCode, P c = true) : L.all P = true := by
  refine List.all_eq_true.mpr fun c hc => ?_
  have h := List.all_eq_true.mp h1 c hc
  rcases Bool.eq_false_or_eq_true (isCode c) with hi | hi
  · exact h2 c (List.mem_filter.mpr ⟨hc, hi⟩)
  · simpa [hi] using h
set_option maxRecDepth 65536 in
theorem w_c0 : (Jvm.Cond.code x code maxLocals ret).before args0 about1 = true := code_word (m := ⟨1, 1⟩) (meth := k1m1) (c := k1c1) (by decide +kernel) rfl rfl rfl (by decide +kernel)
set_option maxRecDepth 65536 in
theorem w_c1 : (Jvm.Cond.code ({ cls := "java/lang/String", name := "<init>", desc := "([C)V" } : Jvm.MethodName) jdk_42_method_3_code (2 : Nat) (Option.none : Option Jvm.ClassFile.FieldType)).before args0 about1 = true := code_word (m := ⟨7, 1⟩) (meth := k7m1) (c := k7c1) (by decide +kernel) rfl rfl rfl (by decide +kernel)
set_option maxRecDepth 65536 in
theorem w_c2 : (Jvm.Cond.code ({ cls := "java/lang/String", name := "<init>", desc := "([CIILjava/lang/Void;)V" } : Jvm.MethodName) jdk_42_method_149_code (6 : Nat) (Option.none : Option Jvm.ClassFile.FieldType)).before args0 about1 = true := code_word (m := ⟨7, 2⟩) (meth := k7m2) (c := k7c2) (by decide +kernel) rfl rfl rfl (by decide +kernel)
set_option maxRecDepth 65536 in
theorem w_c3 : (Jvm.Cond.code ({ cls := "java/lang/Object", name := "<init>", desc := "()V" } : Jvm.MethodName) object_method_1_code (1 : Nat) (Option.none : Option Jvm.ClassFile.FieldType)).before args0 about1 = true := code_word (m := ⟨0, 0⟩) (meth := k0m0) (c := k0c0) (by decide +kernel) rfl rfl rfl (by decide +kernel)
set_option maxRecDepth 65536 in
theorem w_c4 : (Jvm.Cond.code ({ cls := "java/lang/StringUTF16", name := "compress", desc := "([CII)[B" } : Jvm.MethodName) jdk_52_method_16_code (6 : Nat) (Option.some (Jvm.ClassFile.FieldType.array Jvm.ClassFile.FieldType.byte))).before args0 about1 = true := code_word (m := ⟨8, 2⟩) (meth := k8m2) (c := k8c2) (by decide +kernel) rfl rfl rfl (by decide +kernel)
set_option maxRecDepth 65536 in
theorem w_c5 : (Jvm.Cond.code ({ cls := "java/lang/StringUTF16", name := "compress", desc := "([CI[BII)I" } : Jvm.MethodName) jdk_52_method_21_code (7 : Nat) (Option.some Jvm.ClassFile.FieldType.int)).before args0 about1 = true := code_word (m := ⟨8, 3⟩) (meth := k8m3) (c := k8c3) (by decide +kernel) rfl rfl rfl (by decide +kernel)
set_option maxRecDepth 65536 in
theorem w_c6 : (Jvm.Cond.code ({ cls := "java/lang/StringUTF16", name := "coderFromArrayLen", desc := "([BI)B" } : Jvm.MethodName) jdk_52_method_15_code (2 : Nat) (Option.some Jvm.ClassFile.FieldType.byte)).before args0 about1 = true := code_word (m := ⟨8, 1⟩) (meth := k8m1) (c := k8c1) (by decide +kernel) rfl rfl rfl (by decide +kernel)
set_option maxRecDepth 65536 in
theorem w_c7 : (Jvm.Cond.code ({ cls := "com/example/winder/winder/io/Fetched", name := "<init>", desc := "(ILjava/lang/String;Ljava/lang/String;Ljava/lang/String;[BZ)V" } : Jvm.MethodName) prog_5_method_1_code (7 : Nat) (Option.none : Option Jvm.ClassFile.FieldType)).before args0 about1 = true := code_word (m := ⟨10, 0⟩) (meth := k10m0) (c := k10c0) (by decide +kernel) rfl rfl rfl (by decide +kernel)
set_option maxRecDepth 65536 in
theorem w_c8 : (Jvm.Cond.code ({ cls := "java/lang/Record", name := "<init>", desc := "()V" } : Jvm.MethodName) jdk_30_method_1_code (1 : Nat) (Option.none : Option Jvm.ClassFile.FieldType)).before args0 about1 = true := code_word (m := ⟨9, 0⟩) (meth := k9m0) (c := k9c0) (by decide +kernel) rfl rfl rfl (by decide +kernel)
set_option maxRecDepth 65536 in
theorem w_c9 : (Jvm.Cond.code ({ cls := "com/example/winder/winder/io/Fetched", name := "isRedirect", desc := "()Z" } : Jvm.MethodName) prog_5_method_3_code (1 : Nat) (Option.some Jvm.ClassFile.FieldType.boolean)).before args0 about1 = true := code_word (m := ⟨10, 1⟩) (meth := k10m1) (c := k10c1) (by decide +kernel) rfl rfl rfl (by decide +kernel)
def codes1 : List Jvm.Cond := [Jvm.Cond.code x code maxLocals ret, Jvm.Cond.code ({ cls := "java/lang/String", name := "<init>", desc := "([C)V" } : Jvm.MethodName) jdk_42_method_3_code (2 : Nat) (Option.none : Option Jvm.ClassFile.FieldType), Jvm.Cond.code ({ cls := "java/lang/String", name := "<init>", desc := "([CIILjava/lang/Void;)V" } : Jvm.MethodName) jdk_42_method_149_code (6 : Nat) (Option.none : Option Jvm.ClassFile.FieldType), Jvm.Cond.code ({ cls := "java/lang/Object", name := "<init>", desc := "()V" } : Jvm.MethodName) object_method_1_code (1 : Nat) (Option.none : Option Jvm.ClassFile.FieldType), Jvm.Cond.code ({ cls := "java/lang/StringUTF16", name := "compress", desc := "([CII)[B" } : Jvm.MethodName) jdk_52_method_16_code (6 : Nat) (Option.some (Jvm.ClassFile.FieldType.array Jvm.ClassFile.FieldType.byte)), Jvm.Cond.code ({ cls := "java/lang/StringUTF16", name := "compress", desc := "([CI[BII)I" } : Jvm.MethodName) jdk_52_method_21_code (7 : Nat) (Option.some Jvm.ClassFile.FieldType.int), Jvm.Cond.code ({ cls := "java/lang/StringUTF16", name := "coderFromArrayLen", desc := "([BI)B" } : Jvm.MethodName) jdk_52_method_15_code (2 : Nat) (Option.some Jvm.ClassFile.FieldType.byte), Jvm.Cond.code ({ cls := "com/example/winder/winder/io/Fetched", name := "<init>", desc := "(ILjava/lang/String;Ljava/lang/String;Ljava/lang/String;[BZ)V" } : Jvm.MethodName) prog_5_method_1_code (7 : Nat) (Option.none : Option Jvm.ClassFile.FieldType), Jvm.Cond.code ({ cls := "java/lang/Record", name := "<init>", desc := "()V" } : Jvm.MethodName) jdk_30_method_1_code (1 : Nat) (Option.none : Option Jvm.ClassFile.FieldType), Jvm.Cond.code ({ cls := "com/example/winder/winder/io/Fetched", name := "isRedirect", desc := "()Z" } : Jvm.MethodName) prog_5_method_3_code (1 : Nat) (Option.some Jvm.ClassFile.FieldType.boolean)]
set_option maxRecDepth 65536 in
theorem codes_eq : words1.filter isCode = codes1 := rfl
theorem w_codes : ∀ c ∈ words1.filter isCode, c.before args0 about1 = true := by
  rw [codes_eq]
  intro c hc
  simp only [codes1, List.mem_cons, List.not_mem_nil, or_false] at hc
  rcases hc with rfl | rfl | rfl | rfl | rfl | rfl | rfl | rfl | rfl | rfl
  · exact w_c0
  · exact w_c1
  · exact w_c2
  · exact w_c3
  · exact w_c4
  · exact w_c5
  · exact w_c6
  · exact w_c7
  · exact w_c8
  · exact w_c9
set_option maxRecDepth 65536 in
theorem w_t1 : (words1.take 24).all (fun c => isCode c || c.before args0 about1) = true := by decide +kernel
set_option maxRecDepth 65536 in
theorem w_t2 : ((words1.drop 24).take 24).all (fun c => isCode c || c.before args0 about1) = true := by decide +kernel
set_option maxRecDepth 65536 in
theorem w_t3 : ((words1.drop 24).drop 24).all (fun c => isCode c || c.before args0 about1) = true := by decide +kernel
theorem w_tables : (allAtoms (Jvm.Cond.code x code maxLocals ret :: tables_1)).before args0 about1 = true := by
  rw [allAtoms_all]
  show words1.all (fun c => c.before args0 about1) = true
  refine all_split ?_ w_codes
  rw [← List.take_append_drop 24 words1, List.all_append, w_t1, ← List.take_append_drop 24 (words1.drop 24), List.all_append, w_t2, w_t3]
  rfl
set_option maxRecDepth 65536 in
theorem w_rest : rest_1_c.before args0 about1 = true := by decide +kernel
set_option maxRecDepth 65536 in
theorem w_case : (Jvm.Cond.and given_1 narrow_1).before args0 about1 = true := by decide +kernel
set_option maxRecDepth 65536 in
theorem w_consts : constsHeld consts_1 about1 := Jvm.Lit.constsHeldB_iff.mp (by decide +kernel)
theorem w_applies : (headSpec (Jvm.Cond.code x code maxLocals ret :: tables_1) room_1).applies x e0.platform about1 = true :=
  (Spec.applies_iff w_frames).mpr ⟨w_running, w_runnable, w_alone, w_named, w_hears, w_ripe, w_room, w_tables⟩
theorem atStart : AtStart classFile x code maxLocals ret World_1 tables_1 room_1 Calls_1 rest_1 Pre_1 launch0 p0 e0 about1 theMethod args0 below0 :=
  ⟨lists_1, trivial, launch0.admits_env _ _ _, launch0.least_env, fairChoices_fair.cas, fairChoices_fair.clock, w_frames, w_args, w_heap, w_applies, ⟨w_consts, trivial⟩, w_rest, w_case⟩
end start1
theorem witness_1 : WitnessClaimed_1 := ⟨start1.p0, start1.e0, start1.about1, start1.theMethod, start1.args0, start1.below0, start1.atStart⟩
end Jvm.Pilot.@@N@@
