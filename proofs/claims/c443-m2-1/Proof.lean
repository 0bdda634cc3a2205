import JvmDerived
import JvmDerived.Pilot.@@N@@Statement
import JvmDerived.Pilot.@@N@@Code
set_option linter.unusedVariables false
set_option linter.unusedSimpArgs false
namespace Jvm.RoadKit
open Sem ClassFile Op Lib Jvm.Stand Jvm.Free Jvm.LawKit
section New
variable {p : Program} {l : Launch} {e : Env} {R : Room} {s : State} {m : MethodId} {args : Array Value} {below : List Frame} {meth : Method} {c : Code} {T : State} {locs : List Loc} {cells slots : Nat}
theorem retI (X : Stand p l e R s m args below meth c T locs cells slots) (hx : p.tables.exec = Jvm.exec) {pc : Nat} {Ls : Array Slot} {z : Int32} {rest : List Value} (hret : meth.sig.returnType = some .int) (hd : decode c.code pc = .ok (.ireturn, 1)) {fs : List Frame}
    (hl : ∀ (f : JFrame) (acts : List Action), f.method = m → f.locked = none → f.entered = [] → (doReturn e (T.setTop f) acts (some (.int z))).1 = T.setFrames fs) : Steps p.tables e below (T.setTop (mkF m pc Ls (.int z :: rest))) (T.setFrames fs) :=
  retOut X hx hret rfl (Or.inl ⟨rfl, Or.inl rfl, z, rfl⟩) hd hl
end New
end Jvm.RoadKit
/- laws to paste: Road.backV (cut by pick.py; bodies as the Statement names them) -/
namespace Jvm.Pilot.@@N@@
namespace StrChars
open Jvm Sem ClassFile Op Lib Jvm.Stand Jvm.Free.XT Jvm.Free.ALB Jvm.Free.JM Jvm.Free
open Jvm.Lib.Cold (StaticIs)
/-- a char array whose places are chars -/
def Ch (a : Addr) (A : Cell) (U : State) : Prop := Arr .char a A U ∧ Typed .char A
theorem Ch.mv {a : Addr} {A : Cell} {U U' : State} (h : Ch a A U) (hal : U.vm.Alike U'.vm) (hh : U'.heap = U.heap) : Ch a A U' := ⟨h.1.mv hal hh, h.2⟩
theorem Ch.keep {a : Addr} {A : Cell} {U U' : State} (h : Ch a A U) (hal : U.vm.Alike U'.vm) (hk : U'.heap[a]? = some A) : Ch a A U' := ⟨h.1.keep hal hk, h.2⟩
/-- what place i of a char[]'s cell holds -/
def cv (A : Cell) (i : Nat) : Int32 := match A.slots[i]? with | some (.int x) => x | _ => 0
theorem Ch.get {a : Addr} {A : Cell} {U : State} (h : Ch a A U) {i : Nat} (hi : i < A.slots.size) : A.slots[i]? = some (.int (cv A i)) := by
  have e := Array.getElem?_eq_getElem hi
  have f := h.2 i _ e
  unfold cv; rw [e]
  generalize A.slots[i] = v at f
  cases v <;> simp [fits] at f ⊢
/-- the byte that i2b leaves of a char -/
def lo8 (x : Int32) : Int32 := x.toInt8.toInt32
theorem fits_lo8 (y : Int32) : fits .byte (.int (lo8 y)) = true := by
  have h1 := y.toInt8.le_toInt
  have h2 := y.toInt8.toInt_lt
  simp only [lo8, fits, Bool.and_eq_true, decide_eq_true_eq, Int32.le_iff_toInt_le, Int8.toInt_toInt32, show (-128 : Int32).toInt = -128 from by decide, show (127 : Int32).toInt = 127 from by decide]
  omega
/-- A' is A but that each place j of lo .. hi - 1 holds f j -/
def Laid (A A' : Cell) (lo hi : Nat) (f : Nat → Value) : Prop := A'.cls = A.cls ∧ A'.vm = A.vm ∧ A'.slots.size = A.slots.size ∧ ∀ i, A'.slots[i]? = if lo ≤ i ∧ i < hi then some (f i) else A.slots[i]?
theorem Laid.zero (A : Cell) (lo : Nat) (f : Nat → Value) : Laid A A lo (lo + 0) f := ⟨rfl, rfl, rfl, fun i => by rw [if_neg (by omega)]⟩
theorem Laid.step {A Ak : Cell} {lo k : Nat} {f : Nat → Value} {v : Value} (h : Laid A Ak lo k f) (hlo : lo ≤ k) (hk : k < Ak.slots.size) (hv : v = f k) : Laid A (Ak.setSlot k v) lo (k + 1) f := by
  refine ⟨h.1, h.2.1, by simpa [Cell.setSlot] using h.2.2.1, fun i => ?_⟩
  by_cases e : k = i
  · subst e; rw [Cell.slots_setSlot_self v hk, if_pos (by omega), hv]
  · rw [Cell.slots_setSlot_ne v e, h.2.2.2 i]
    by_cases q : lo ≤ i ∧ i < k
    · rw [if_pos q, if_pos (by omega)]
    · rw [if_neg q, if_neg (by omega)]
def U16 : String := "java/lang/StringUTF16"
namespace Cmp5
def yN : MethodName := ⟨"java/lang/StringUTF16", "compress", "([CI[BII)I"⟩
abbrev yB : ByteArray := jdk_52_method_21_code
theorem d0 : decode yB 0 = .ok (.iconst 0, 1) := by decide +kernel
theorem d1 : decode yB 1 = .ok (.istore 5, 2) := by decide +kernel
theorem d3 : decode yB 3 = .ok (.iload 5, 2) := by decide +kernel
theorem d5 : decode yB 5 = .ok (.iload 4, 2) := by decide +kernel
theorem d7 : decode yB 7 = .ok (.if_icmp (.ge) 37, 3) := by decide +kernel
theorem d10 : decode yB 10 = .ok (.aload_n 0, 1) := by decide +kernel
theorem d11 : decode yB 11 = .ok (.iload_n 1, 1) := by decide +kernel
theorem d12 : decode yB 12 = .ok (.caload, 1) := by decide +kernel
theorem d13 : decode yB 13 = .ok (.istore 6, 2) := by decide +kernel
theorem d15 : decode yB 15 = .ok (.iload 6, 2) := by decide +kernel
theorem d17 : decode yB 17 = .ok (.sipush 255, 3) := by decide +kernel
theorem d20 : decode yB 20 = .ok (.if_icmp (.le) 6, 3) := by decide +kernel
theorem d26 : decode yB 26 = .ok (.aload_n 2, 1) := by decide +kernel
theorem d27 : decode yB 27 = .ok (.iload_n 3, 1) := by decide +kernel
theorem d28 : decode yB 28 = .ok (.iload 6, 2) := by decide +kernel
theorem d30 : decode yB 30 = .ok (.i2b, 1) := by decide +kernel
theorem d31 : decode yB 31 = .ok (.bastore, 1) := by decide +kernel
theorem d32 : decode yB 32 = .ok (.iinc 1 1, 3) := by decide +kernel
theorem d35 : decode yB 35 = .ok (.iinc 3 1, 3) := by decide +kernel
theorem d38 : decode yB 38 = .ok (.iinc 5 1, 3) := by decide +kernel
theorem d41 : decode yB 41 = .ok (.goto (-38), 3) := by decide +kernel
theorem d44 : decode yB 44 = .ok (.iload 4, 2) := by decide +kernel
theorem d46 : decode yB 46 = .ok (.ireturn, 1) := by decide +kernel
def site : List Cond := []
def tab : Cond := tabOf yN yB 7 (some .int) site
def P (b : Addr) (A : Cell) (d : Addr) (B : Cell) (o q len : Nat) (args : Array Value) (s : State) : Prop := args = #[.ref b, .int (Int32.ofNat o), .ref d, .int (Int32.ofNat q), .int (Int32.ofNat len)] ∧ Ch b A s ∧ Arr .byte d B s ∧ b ≠ d ∧ o + len ≤ A.slots.size ∧ q + len ≤ B.slots.size ∧ ∀ i, i < len → ¬ 255 < cv A (o + i)
def E (b : Addr) (A : Cell) (d : Addr) (B : Cell) (o q len : Nat) (r : Option Value) (s u : State) : Prop := r = some (.int (Int32.ofNat len)) ∧ ∃ B', Put d B' s u ∧ Laid B B' q (q + len) (fun j => Value.int (lo8 (cv A (o + (j - q)))))
/-- no char of the range above 255: len; the places written hold each char's low byte -/
theorem law (l : Launch) (b : Addr) (A : Cell) (d : Addr) (B : Cell) (o q len : Nat) : Law l yN 5 5 0 0 yB 7 (some .int) site (P b A d B o q len) (E b A d B o q len) (copyLocs d q len) 0 0 := by
  refine Law.of_walk (plainFor_of_name (by decide +kernel)) (by decide +kernel) (by decide +kernel) (by decide) (fun _ _ h => by rw [h.1]; rfl) (fun _ U U' hal hh h => ⟨h.1, h.2.1.mv hal hh, h.2.2.1.mv hal hh, h.2.2.2⟩) (fun r U U' V V' h1 hal h2 h => ⟨h.1, h.2.elim fun B' q => ⟨B', q.1.mv h1 h2, q.2⟩⟩) ?_
  intro p e s m args below meth c s₁ X0 hexec hbytes hml hret hlk hnm hown hh0 W hP
  obtain ⟨rfl, hA, hB, hne, l1, l2, hp⟩ := hP
  have c1 : Steps p.tables e below (s₁.setTop (entryFrame m #[.ref b, .int (Int32.ofNat o), .ref d, .int (Int32.ofNat q), .int (Int32.ofNat len)] 7)) (s₁.setTop (mkF m 0 #[.val (.ref b), .val (.int (Int32.ofNat o)), .val (.ref d), .val (.int (Int32.ofNat q)), .val (.int (Int32.ofNat len)), .unset, .unset] [])) := entry rfl
  have hA0 := hA.1.mv X0.warmed.alike hh0
  have hB0 := hB.mv X0.warmed.alike hh0
  have a31 := hA.1.2.2.2
  have c2 : Steps p.tables e below (s₁.setTop (entryFrame m #[.ref b, .int (Int32.ofNat o), .ref d, .int (Int32.ofNat q), .int (Int32.ofNat len)] 7)) (s₁.setTop (mkF m 3 #[.val (.ref b), .val (.int (Int32.ofNat o)), .val (.ref d), .val (.int (Int32.ofNat q)), .val (.int (Int32.ofNat len)), .val (.int 0), .unset] [])) := c1.trans (by
    refine iconstV X0.here hexec rfl 0 (hb hbytes d0) (by decide) ?_
    refine XS.istore X0.here hexec rfl (hb hbytes d1) rfl rfl ?_
    exact Steps.refl _)
  have loop : ∀ (r i : Nat), i + r = len → ∀ (z : Slot), (z = .unset ∨ ∃ w, z = .val w ∧ w.category = 1) → ∀ (Tl : State) (Bk : Cell), Stand p l e { frames := 0, locals := 0, cells := 0, slots := 0 } s m #[.ref b, .int (Int32.ofNat o), .ref d, .int (Int32.ofNat q), .int (Int32.ofNat len)] below meth c Tl ([] ++ copyLocs d q i) 0 0 → Put d Bk s₁ Tl → Laid B Bk q (q + i) (fun j => Value.int (lo8 (cv A (o + (j - q))))) →
      Steps p.tables e below (s₁.setTop (entryFrame m #[.ref b, .int (Int32.ofNat o), .ref d, .int (Int32.ofNat q), .int (Int32.ofNat len)] 7)) (Tl.setTop (mkF m 3 #[.val (.ref b), .val (.int (Int32.ofNat (o + i))), .val (.ref d), .val (.int (Int32.ofNat (q + i))), .val (.int (Int32.ofNat len)), .val (.int (Int32.ofNat i)), z] [])) → ∃ (T' : State) (B' : Cell) (z' : Slot), Stand p l e { frames := 0, locals := 0, cells := 0, slots := 0 } s m #[.ref b, .int (Int32.ofNat o), .ref d, .int (Int32.ofNat q), .int (Int32.ofNat len)] below meth c T' ([] ++ copyLocs d q len) 0 0 ∧ Put d B' s₁ T' ∧ Laid B B' q (q + len) (fun j => Value.int (lo8 (cv A (o + (j - q))))) ∧
      Steps p.tables e below (s₁.setTop (entryFrame m #[.ref b, .int (Int32.ofNat o), .ref d, .int (Int32.ofNat q), .int (Int32.ofNat len)] 7)) (T'.setTop (mkF m 3 #[.val (.ref b), .val (.int (Int32.ofNat (o + len))), .val (.ref d), .val (.int (Int32.ofNat (q + len))), .val (.int (Int32.ofNat len)), .val (.int (Int32.ofNat len)), z'] [])) := by
    intro r
    induction r with
    | zero =>
      intro i hi z hz Tl Bk Xl pl fl cl
      have hil : i = len := by omega
      rw [hil] at Xl fl cl
      exact ⟨Tl, Bk, z, Xl, pl, fl, cl⟩
    | succ r ih =>
      intro i hi z hz Tl Bk Xl pl fl cl
      have all := X0.warmed.alike.symm.trans Xl.warmed.alike
      have hAl := hA0.keep all (pl.other hne hA0.1)
      have hBk := hB0.like all pl.1 fl.1 fl.2.1 fl.2.2.1
      have hlt : q + i < Bk.slots.size := by rw [fl.2.2.1]; omega
      have c3 : Steps p.tables e below (s₁.setTop (entryFrame m #[.ref b, .int (Int32.ofNat o), .ref d, .int (Int32.ofNat q), .int (Int32.ofNat len)] 7)) (Tl.setTop (mkF m 12 #[.val (.ref b), .val (.int (Int32.ofNat (o + i))), .val (.ref d), .val (.int (Int32.ofNat (q + i))), .val (.int (Int32.ofNat len)), .val (.int (Int32.ofNat i)), z] [.int (Int32.ofNat (o + i)), .ref b])) := cl.trans (by
        refine XS.iload Xl.here hexec rfl (hb hbytes d3) rfl ?_
        refine XS.iload Xl.here hexec rfl (hb hbytes d5) rfl ?_
        refine XS.icmpNo Xl.here hexec rfl (hb hbytes d7) rfl (ii_ge_f (lt32 (by omega) (by omega))) ?_
        refine XS.aloadN Xl.here hexec rfl (hb hbytes d10) rfl rfl ?_
        refine XS.iloadN Xl.here hexec rfl (hb hbytes d11) rfl ?_
        exact Steps.refl _)
      have c4 : Steps p.tables e below (s₁.setTop (entryFrame m #[.ref b, .int (Int32.ofNat o), .ref d, .int (Int32.ofNat q), .int (Int32.ofNat len)] 7)) (Tl.setTop (mkF m 13 #[.val (.ref b), .val (.int (Int32.ofNat (o + i))), .val (.ref d), .val (.int (Int32.ofNat (q + i))), .val (.int (Int32.ofNat len)), .val (.int (Int32.ofNat i)), z] [.int (cv A (o + i))])) := c3.trans (by
        refine Xl.aget hexec hAl rfl (hA.get (i := o + i) (by omega)) rfl rfl (hb hbytes d12) ?_
        exact Steps.refl _)
      have c5 : Steps p.tables e below (s₁.setTop (entryFrame m #[.ref b, .int (Int32.ofNat o), .ref d, .int (Int32.ofNat q), .int (Int32.ofNat len)] 7)) (Tl.setTop (mkF m 15 #[.val (.ref b), .val (.int (Int32.ofNat (o + i))), .val (.ref d), .val (.int (Int32.ofNat (q + i))), .val (.int (Int32.ofNat len)), .val (.int (Int32.ofNat i)), .val (.int (cv A (o + i)))] [])) := c4.trans (by
        refine XS.istoreS Xl.here hexec rfl (hb hbytes d13) rfl rfl hz ?_
        exact Steps.refl _)
      have c6 : Steps p.tables e below (s₁.setTop (entryFrame m #[.ref b, .int (Int32.ofNat o), .ref d, .int (Int32.ofNat q), .int (Int32.ofNat len)] 7)) (Tl.setTop (mkF m 31 #[.val (.ref b), .val (.int (Int32.ofNat (o + i))), .val (.ref d), .val (.int (Int32.ofNat (q + i))), .val (.int (Int32.ofNat len)), .val (.int (Int32.ofNat i)), .val (.int (cv A (o + i)))] [.int (lo8 (cv A (o + i))), .int (Int32.ofNat (q + i)), .ref d])) := c5.trans (by
        refine XS.iload Xl.here hexec rfl (hb hbytes d15) rfl ?_
        refine sipushV Xl.here hexec rfl 255 (hb hbytes d17) (by decide) ?_
        refine XS.icmpYes Xl.here hexec rfl (pc0 := 20) rfl (hb hbytes d20) rfl (ii_le_t (hp i (by omega))) (by decide) rfl ?_
        refine XS.aloadN Xl.here hexec rfl (hb hbytes d26) rfl rfl ?_
        refine XS.iloadN Xl.here hexec rfl (hb hbytes d27) rfl ?_
        refine XS.iload Xl.here hexec rfl (hb hbytes d28) rfl ?_
        refine i2b Xl.here hexec rfl (hb hbytes d30) rfl ?_
        exact Steps.refl _)
      obtain ⟨T7, X7, p7, st7⟩ := Xl.aput hexec hBk rfl hlt rfl (fits_lo8 (cv A (o + i))) (g := (mkF m 31 #[.val (.ref b), .val (.int (Int32.ofNat (o + i))), .val (.ref d), .val (.int (Int32.ofNat (q + i))), .val (.int (Int32.ofNat len)), .val (.int (Int32.ofNat i)), .val (.int (cv A (o + i)))] [.int (lo8 (cv A (o + i))), .int (Int32.ofNat (q + i)), .ref d])) rfl (rest := []) rfl (hb hbytes d31)
      have c8 : Steps p.tables e below (s₁.setTop (entryFrame m #[.ref b, .int (Int32.ofNat o), .ref d, .int (Int32.ofNat q), .int (Int32.ofNat len)] 7)) (T7.setTop (mkF m 32 #[.val (.ref b), .val (.int (Int32.ofNat (o + i))), .val (.ref d), .val (.int (Int32.ofNat (q + i))), .val (.int (Int32.ofNat len)), .val (.int (Int32.ofNat i)), .val (.int (cv A (o + i)))] [])) := c6.trans (st7 _ (Steps.refl _))
      have c9 : Steps p.tables e below (s₁.setTop (entryFrame m #[.ref b, .int (Int32.ofNat o), .ref d, .int (Int32.ofNat q), .int (Int32.ofNat len)] 7)) (T7.setTop (mkF m 3 #[.val (.ref b), .val (.int (Int32.ofNat (o + i) + 1)), .val (.ref d), .val (.int (Int32.ofNat (q + i) + 1)), .val (.int (Int32.ofNat len)), .val (.int (Int32.ofNat i + 1)), .val (.int (cv A (o + i)))] [])) := c8.trans (by
        refine iincV X7.here hexec rfl 1 (hb hbytes d32) (by decide) rfl rfl ?_
        refine iincV X7.here hexec rfl 1 (hb hbytes d35) (by decide) rfl rfl ?_
        refine iincV X7.here hexec rfl 1 (hb hbytes d38) (by decide) rfl rfl ?_
        refine XS.goto X7.here hexec rfl (pc0 := 41) rfl (hb hbytes d41) (by decide) rfl ?_
        exact Steps.refl _)
      have c10 : Steps p.tables e below (s₁.setTop (entryFrame m #[.ref b, .int (Int32.ofNat o), .ref d, .int (Int32.ofNat q), .int (Int32.ofNat len)] 7)) (T7.setTop (mkF m 3 #[.val (.ref b), .val (.int (Int32.ofNat (o + (i + 1)))), .val (.ref d), .val (.int (Int32.ofNat (q + (i + 1)))), .val (.int (Int32.ofNat len)), .val (.int (Int32.ofNat (i + 1))), .val (.int (cv A (o + i)))] [])) := by
        have := c9
        rw [succ32, succ32, succ32] at this
        exact this
      exact ih (i + 1) (by omega) _ (Or.inr ⟨_, rfl, rfl⟩) T7 _ (by rw [copyLocs_step, ← List.append_assoc]; exact X7) (pl.trans p7) (fl.step (by omega) hlt (by simp)) c10
  obtain ⟨T9, B9, z9, X9, p9, f9, g9⟩ := loop len 0 (by omega) .unset (Or.inl rfl) s₁ B (by simpa [copyLocs] using X0) ⟨hB0.1, fun _ _ => rfl, rfl⟩ (Laid.zero _ _ _) c2
  have c11 : Steps p.tables e below (s₁.setTop (entryFrame m #[.ref b, .int (Int32.ofNat o), .ref d, .int (Int32.ofNat q), .int (Int32.ofNat len)] 7)) (T9.setTop (mkF m 46 #[.val (.ref b), .val (.int (Int32.ofNat (o + len))), .val (.ref d), .val (.int (Int32.ofNat (q + len))), .val (.int (Int32.ofNat len)), .val (.int (Int32.ofNat len)), z9] [.int (Int32.ofNat len)])) := g9.trans (by
    refine XS.iload X9.here hexec rfl (hb hbytes d3) rfl ?_
    refine XS.iload X9.here hexec rfl (hb hbytes d5) rfl ?_
    refine XS.icmpYes X9.here hexec rfl (pc0 := 7) rfl (hb hbytes d7) rfl (ii_ge_t (nlt32 (by omega) (Nat.le_refl _))) (by decide) rfl ?_
    refine XS.iload X9.here hexec rfl (hb hbytes d44) rfl ?_
    exact Steps.refl _)
  exact ⟨T9, some (.int (Int32.ofNat len)), _, _, _, X9, by simp, rfl, rfl, (fun h => by cases h), ⟨rfl, B9, p9.from hh0, f9⟩, fun fs hl => c11.trans (X9.ireturnOut hexec hret rfl (Or.inl rfl) (hb hbytes d46) hl)⟩
end Cmp5
namespace Cmp3
def yN : MethodName := ⟨"java/lang/StringUTF16", "compress", "([CII)[B"⟩
abbrev yB : ByteArray := jdk_52_method_16_code
theorem d0 : decode yB 0 = .ok (.iload_n 2, 1) := by decide +kernel
theorem d1 : decode yB 1 = .ok (.newarray .byte, 2) := by decide +kernel
theorem d3 : decode yB 3 = .ok (.astore_n 3, 1) := by decide +kernel
theorem d4 : decode yB 4 = .ok (.aload_n 0, 1) := by decide +kernel
theorem d5 : decode yB 5 = .ok (.iload_n 1, 1) := by decide +kernel
theorem d6 : decode yB 6 = .ok (.aload_n 3, 1) := by decide +kernel
theorem d7 : decode yB 7 = .ok (.iconst 0, 1) := by decide +kernel
theorem d8 : decode yB 8 = .ok (.iload_n 2, 1) := by decide +kernel
theorem d9 : decode yB 9 = .ok (.invokestatic 115, 3) := by decide +kernel
theorem d12 : decode yB 12 = .ok (.istore 4, 2) := by decide +kernel
theorem d14 : decode yB 14 = .ok (.iload 4, 2) := by decide +kernel
theorem d16 : decode yB 16 = .ok (.iload_n 2, 1) := by decide +kernel
theorem d17 : decode yB 17 = .ok (.if_icmp (.eq) 40, 3) := by decide +kernel
theorem d57 : decode yB 57 = .ok (.aload_n 3, 1) := by decide +kernel
theorem d58 : decode yB 58 = .ok (.areturn, 1) := by decide +kernel
def site : List Cond := [.arrayClass .byte, Cmp5.tab] ++ staticW U16 115 Cmp5.yN
def tab : Cond := tabOf yN yB 6 (some (.array .byte)) site
def P (b : Addr) (A : Cell) (o len : Nat) (args : Array Value) (s : State) : Prop := args = #[.ref b, .int (Int32.ofNat o), .int (Int32.ofNat len)] ∧ Ch b A s ∧ o + len ≤ A.slots.size ∧ len ≤ 536870912 ∧ ∀ i, i < len → ¬ 255 < cv A (o + i)
def E (b : Addr) (A : Cell) (o len : Nat) (r : Option Value) (s u : State) : Prop := NewArr .byte "[B" len (fun j => .int (lo8 (cv A (o + j)))) r s u ∧ u.heap.size = s.heap.size + 1
/-- no char of the range above 255: a new byte[] of their low bytes -/
theorem law (l : Launch) (b : Addr) (A : Cell) (o len : Nat) : Law l yN 3 3 1 18 yB 6 (some (.array .byte)) site (P b A o len) (E b A o len) [] 1 len := by
  refine Law.of_walk (plainFor_of_name (by decide +kernel)) (by decide +kernel) (by decide +kernel) (by decide) (fun _ _ h => by rw [h.1]; rfl) (fun _ U U' hal hh h => ⟨h.1, h.2.1.mv hal hh, h.2.2⟩) (fun r U U' V V' h1 hal h2 h => ⟨NewArr.mv r U U' V V' h1 hal h2 h.1, by rw [h1, h2]; exact h.2⟩) ?_
  intro p e s m args below meth c s₁ X0 hexec hbytes hml hret hlk hnm hown hh0 W hP
  obtain ⟨rfl, hA, l1, l2, hp⟩ := hP
  have a31 := hA.1.2.2.2
  have c1 : Steps p.tables e below (s₁.setTop (entryFrame m #[.ref b, .int (Int32.ofNat o), .int (Int32.ofNat len)] 6)) (s₁.setTop (mkF m 0 #[.val (.ref b), .val (.int (Int32.ofNat o)), .val (.int (Int32.ofNat len)), .unset, .unset, .unset] [])) := entry rfl
  have c2 : Steps p.tables e below (s₁.setTop (entryFrame m #[.ref b, .int (Int32.ofNat o), .int (Int32.ofNat len)] 6)) (s₁.setTop (mkF m 1 #[.val (.ref b), .val (.int (Int32.ofNat o)), .val (.int (Int32.ofNat len)), .unset, .unset, .unset] [.int (Int32.ofNat len)])) := c1.trans (by
    refine XS.iloadN X0.here hexec rfl (hb hbytes d0) rfl ?_
    exact Steps.refl _)
  obtain ⟨T3, B3, X3, ba3, bs3, bv3, bh3, bf3, st3⟩ := X0.anew hexec (atype := .byte) (wk W (.arrayClass .byte)) rfl (by show len * 1 ≤ _; omega) (by omega) (g := (mkF m 1 #[.val (.ref b), .val (.int (Int32.ofNat o)), .val (.int (Int32.ofNat len)), .unset, .unset, .unset] [.int (Int32.ofNat len)])) rfl (hb hbytes d1) (rest := []) rfl (Nat.le_refl _) (by show 0 + len ≤ len; omega)
  rw [hh0] at ba3 st3
  have kp3 : XT.Kept s T3 := (XT.Kept.of_eq hh0).push bh3
  have hA3 := hA.keep X3.warmed.alike (kp3 _ _ hA.1.1)
  have hne : b ≠ s.heap.size := hA.1.ne
  have c4 : Steps p.tables e below (s₁.setTop (entryFrame m #[.ref b, .int (Int32.ofNat o), .int (Int32.ofNat len)] 6)) (T3.setTop (mkF m 3 #[.val (.ref b), .val (.int (Int32.ofNat o)), .val (.int (Int32.ofNat len)), .unset, .unset, .unset] [.ref s.heap.size])) := c2.trans (st3 _ (Steps.refl _))
  have c5 : Steps p.tables e below (s₁.setTop (entryFrame m #[.ref b, .int (Int32.ofNat o), .int (Int32.ofNat len)] 6)) (T3.setTop (mkF m 9 #[.val (.ref b), .val (.int (Int32.ofNat o)), .val (.int (Int32.ofNat len)), .val (.ref s.heap.size), .unset, .unset] [.int (Int32.ofNat len), .int 0, .ref s.heap.size, .int (Int32.ofNat o), .ref b])) := c4.trans (by
    refine XS.astoreN X3.here hexec rfl (hb hbytes d3) rfl rfl rfl ?_
    refine XS.aloadN X3.here hexec rfl (hb hbytes d4) rfl rfl ?_
    refine XS.iloadN X3.here hexec rfl (hb hbytes d5) rfl ?_
    refine XS.aloadN X3.here hexec rfl (hb hbytes d6) rfl rfl ?_
    refine iconstV X3.here hexec rfl 0 (hb hbytes d7) (by decide) ?_
    refine XS.iloadN X3.here hexec rfl (hb hbytes d8) rfl ?_
    exact Steps.refl _)
  obtain ⟨v6, T6, X6, E6, g6⟩ := X3.callS hexec (Cmp5.law l b A s.heap.size B3 o 0 len) hown (wks W (staticW U16 115 Cmp5.yN)) (wk W Cmp5.tab) (W := 0) (Nat.le_of_ble_eq_true rfl) (Nat.le_of_ble_eq_true rfl) (Nat.le_refl _) (by show 0 + len + 0 ≤ len; omega) (g := (mkF m 9 #[.val (.ref b), .val (.int (Int32.ofNat o)), .val (.int (Int32.ofNat len)), .val (.ref s.heap.size), .unset, .unset] [.int (Int32.ofNat len), .int (Int32.ofNat 0), .ref s.heap.size, .int (Int32.ofNat o), .ref b])) rfl (by rw [hml]; rfl) c5 (argsL := [.ref b, .int (Int32.ofNat o), .ref s.heap.size, .int (Int32.ofNat 0), .int (Int32.ofNat len)]) (rest := []) rfl rfl (by show 2 * 0 + 0 ≤ _; decide) (hb hbytes d9) (⟨rfl, hA3, ba3, hne, l1, by rw [bs3]; simp, hp⟩)
  obtain ⟨rfl, B6, p6, f6⟩ := E6
  have c7 : Steps p.tables e below (s₁.setTop (entryFrame m #[.ref b, .int (Int32.ofNat o), .int (Int32.ofNat len)] 6)) (T6.setTop (mkF m 12 #[.val (.ref b), .val (.int (Int32.ofNat o)), .val (.int (Int32.ofNat len)), .val (.ref s.heap.size), .unset, .unset] [.int (Int32.ofNat len)])) := g6
  have c8 : Steps p.tables e below (s₁.setTop (entryFrame m #[.ref b, .int (Int32.ofNat o), .int (Int32.ofNat len)] 6)) (T6.setTop (mkF m 58 #[.val (.ref b), .val (.int (Int32.ofNat o)), .val (.int (Int32.ofNat len)), .val (.ref s.heap.size), .val (.int (Int32.ofNat len)), .unset] [.ref s.heap.size])) := c7.trans (by
    refine XS.istore X6.here hexec rfl (hb hbytes d12) rfl rfl ?_
    refine XS.iload X6.here hexec rfl (hb hbytes d14) rfl ?_
    refine XS.iloadN X6.here hexec rfl (hb hbytes d16) rfl ?_
    refine XS.icmpYes X6.here hexec rfl (pc0 := 17) rfl (hb hbytes d17) rfl (ii_eq_t rfl) (by decide) rfl ?_
    refine XS.aloadN X6.here hexec rfl (hb hbytes d57) rfl rfl ?_
    exact Steps.refl _)
  have X8 := X6.wide (L' := []) (cells' := 1) (slots' := len) (fun x hx hlt => by
    simp only [List.nil_append, copyLocs, List.mem_map, List.mem_range] at hx
    obtain ⟨i, -, rfl⟩ := hx
    exact absurd hlt (Nat.lt_irrefl _)) (Nat.le_refl _) (by omega)
  exact ⟨T6, some (.ref s.heap.size), _, _, _, X8, rfl, rfl, rfl, (fun h => by cases h), ⟨⟨rfl, B6, ba3.like (X3.warmed.alike.symm.trans X6.warmed.alike) p6.1 f6.1 f6.2.1 f6.2.2.1, f6.2.1.trans bv3, by rw [X6.warmed.alike.findClass, f6.1]; exact bf3, by rw [f6.2.2.1, bs3]; simp, fun j hj => by rw [f6.2.2.2 j, if_pos (by omega)]; rfl, kp3.put p6 (Nat.le_refl _)⟩, by rw [p6.2.2, bh3, hh0]; simp⟩, fun fs hl => c8.trans (X8.areturnOut hexec rfl hret rfl (hb hbytes d58) hl)⟩
end Cmp3
namespace CodL
def yN : MethodName := ⟨"java/lang/StringUTF16", "coderFromArrayLen", "([BI)B"⟩
abbrev yB : ByteArray := jdk_52_method_15_code
theorem d0 : decode yB 0 = .ok (.iload_n 1, 1) := by decide +kernel
theorem d1 : decode yB 1 = .ok (.aload_n 0, 1) := by decide +kernel
theorem d2 : decode yB 2 = .ok (.arraylength, 1) := by decide +kernel
theorem d3 : decode yB 3 = .ok (.isub, 1) := by decide +kernel
theorem d4 : decode yB 4 = .ok (.bipush 31, 2) := by decide +kernel
theorem d6 : decode yB 6 = .ok (.iushr, 1) := by decide +kernel
theorem d7 : decode yB 7 = .ok (.i2b, 1) := by decide +kernel
theorem d8 : decode yB 8 = .ok (.ireturn, 1) := by decide +kernel
def site : List Cond := []
def tab : Cond := tabOf yN yB 2 (some .byte) site
def P (d : Addr) (B : Cell) (args : Array Value) (s : State) : Prop := args = #[.ref d, .int (Int32.ofNat B.slots.size)] ∧ Arr .byte d B s
def E (r : Option Value) (s u : State) : Prop := XT.PureE (some (.int 0)) r s u
/-- an array as long as the number of chars: LATIN1 -/
theorem law (l : Launch) (d : Addr) (B : Cell) : Law l yN 2 2 0 0 yB 2 (some .byte) site (P d B) E [] 0 0 := by
  refine Law.of_walk (plainFor_of_name (by decide +kernel)) (by decide +kernel) (by decide +kernel) (by decide) (fun _ _ h => by rw [h.1]; rfl) (fun _ U U' hal hh h => ⟨h.1, h.2.mv hal hh⟩) (fun r U U' V V' h1 hal h2 h => XT.PureE.mv r U U' V V' h1 hal h2 h) ?_
  intro p e s m args below meth c s₁ X0 hexec hbytes hml hret hlk hnm hown hh0 W hP
  obtain ⟨rfl, hB⟩ := hP
  have hB0 := hB.mv X0.warmed.alike hh0
  have c1 : Steps p.tables e below (s₁.setTop (entryFrame m #[.ref d, .int (Int32.ofNat B.slots.size)] 2)) (s₁.setTop (mkF m 0 #[.val (.ref d), .val (.int (Int32.ofNat B.slots.size))] [])) := entry rfl
  have c2 : Steps p.tables e below (s₁.setTop (entryFrame m #[.ref d, .int (Int32.ofNat B.slots.size)] 2)) (s₁.setTop (mkF m 2 #[.val (.ref d), .val (.int (Int32.ofNat B.slots.size))] [.ref d, .int (Int32.ofNat B.slots.size)])) := c1.trans (by
    refine XS.iloadN X0.here hexec rfl (hb hbytes d0) rfl ?_
    refine XS.aloadN X0.here hexec rfl (hb hbytes d1) rfl rfl ?_
    exact Steps.refl _)
  have c3 : Steps p.tables e below (s₁.setTop (entryFrame m #[.ref d, .int (Int32.ofNat B.slots.size)] 2)) (s₁.setTop (mkF m 8 #[.val (.ref d), .val (.int (Int32.ofNat B.slots.size))] [.int (lo8 (ushr (Int32.ofNat B.slots.size - Int32.ofNat B.slots.size) 31))])) := c2.trans (by
    refine X0.alen hexec hB0 rfl rfl (hb hbytes d2) ?_
    refine XS.isub X0.here hexec rfl (hb hbytes d3) rfl ?_
    refine bipushV X0.here hexec rfl 31 (hb hbytes d4) (by decide) ?_
    refine iushr X0.here hexec rfl (hb hbytes d6) rfl ?_
    refine i2b X0.here hexec rfl (hb hbytes d7) rfl ?_
    exact Steps.refl _)
  have e0 : lo8 (ushr (Int32.ofNat B.slots.size - Int32.ofNat B.slots.size) 31) = 0 := by rw [Int32.sub_self]; decide
  rw [e0] at c3
  exact ⟨s₁, some (.int 0), _, _, _, X0, rfl, rfl, rfl, (fun h => by cases h), ⟨rfl, hh0⟩, fun fs hl => c3.trans (X0.ireturnOut hexec hret rfl (Or.inr (Or.inr (Or.inl rfl))) (hb hbytes d8) hl)⟩
end CodL
/-- the String at a is Latin-1 over a new byte[] (the heap's one new cell): the low bytes of the len chars of A from o on; every cell but a is kept -/
def Got (a : Addr) (D : Cell) (fV fC : Field) (A : Cell) (o len : Nat) (r : Option Value) (s u : State) : Prop := r = none ∧ ∃ D' V : Cell, Blank "java/lang/String" a D' u ∧ Same D D' [fV.slot, fC.slot] ∧ D'.slots[fV.slot]? = some (.ref s.heap.size) ∧ D'.slots[fC.slot]? = some (.int 0) ∧ Arr .byte s.heap.size V u ∧ V.vm = .none ∧ u.vm.findClass "[B" = some V.cls ∧ V.slots.size = len ∧ (∀ j, j < len → V.slots[j]? = some (.int (lo8 (cv A (o + j))))) ∧ (∀ (y : Addr) (c : Cell), y ≠ a → s.heap[y]? = some c → u.heap[y]? = some c) ∧ u.heap.size = s.heap.size + 1
theorem Got.mv {a : Addr} {D A : Cell} {fV fC : Field} {o len : Nat} : ∀ r (U U' V V' : State), U'.heap = U.heap → V.vm.Alike V'.vm → V'.heap = V.heap → Got a D fV fC A o len r U V → Got a D fV fC A o len r U' V' :=
  fun r U U' V V' h1 hal h2 ⟨e0, D', X, a1, a2, a3, a4, a5, a6, a7, a8, a9, a10, a11⟩ => ⟨e0, D', X, a1.mv hal h2, a2, by rw [h1]; exact a3, a4, by rw [h1]; exact a5.mv hal h2, a6, by rw [hal.findClass]; exact a7, a8, a9, by rw [h1, h2]; exact a10, by rw [h1, h2]; exact a11⟩
namespace New4
def yN : MethodName := ⟨"java/lang/String", "<init>", "([CIILjava/lang/Void;)V"⟩
abbrev yB : ByteArray := jdk_42_method_149_code
theorem d0 : decode yB 0 = .ok (.aload_n 0, 1) := by decide +kernel
theorem d1 : decode yB 1 = .ok (.invokespecial 1, 3) := by decide +kernel
theorem d4 : decode yB 4 = .ok (.iload_n 3, 1) := by decide +kernel
theorem d5 : decode yB 5 = .ok (.ifCond (.ne) 22, 3) := by decide +kernel
theorem d27 : decode yB 27 = .ok (.getstatic 38, 3) := by decide +kernel
theorem d30 : decode yB 30 = .ok (.ifCond (.eq) 28, 3) := by decide +kernel
theorem d33 : decode yB 33 = .ok (.aload_n 1, 1) := by decide +kernel
theorem d34 : decode yB 34 = .ok (.iload_n 2, 1) := by decide +kernel
theorem d35 : decode yB 35 = .ok (.iload_n 3, 1) := by decide +kernel
theorem d36 : decode yB 36 = .ok (.invokestatic 177, 3) := by decide +kernel
theorem d39 : decode yB 39 = .ok (.astore 5, 2) := by decide +kernel
theorem d41 : decode yB 41 = .ok (.aload_n 0, 1) := by decide +kernel
theorem d42 : decode yB 42 = .ok (.aload 5, 2) := by decide +kernel
theorem d44 : decode yB 44 = .ok (.iload_n 3, 1) := by decide +kernel
theorem d45 : decode yB 45 = .ok (.invokestatic 47, 3) := by decide +kernel
theorem d48 : decode yB 48 = .ok (.putfield 15, 3) := by decide +kernel
theorem d51 : decode yB 51 = .ok (.aload_n 0, 1) := by decide +kernel
theorem d52 : decode yB 52 = .ok (.aload 5, 2) := by decide +kernel
theorem d54 : decode yB 54 = .ok (.putfield 9, 3) := by decide +kernel
theorem d57 : decode yB 57 = .ok (.return_, 1) := by decide +kernel
def site : List Cond := [.fieldLink "java/lang/String" 38 "java/lang/String" "COMPACT_STRINGS" "Z", Cmp3.tab, CodL.tab, .laysFinal "java/lang/String" "java/lang/String" "value" "[B", .fieldLink "java/lang/String" 9 "java/lang/String" "value" "[B", .laysFinal "java/lang/String" "java/lang/String" "coder" "B", .fieldLink "java/lang/String" 15 "java/lang/String" "coder" "B"] ++ objW "java/lang/String" 1 ++ staticW "java/lang/String" 177 Cmp3.yN ++ staticW "java/lang/String" 47 CodL.yN
def tab : Cond := tabOf yN yB 6 none site
def P (a : Addr) (D : Cell) (fV fC : Field) (b : Addr) (A : Cell) (z : Int32) (o len : Nat) (args : Array Value) (s : State) : Prop := args = #[.ref a, .ref b, .int (Int32.ofNat o), .int (Int32.ofNat len), .null] ∧ Blank "java/lang/String" a D s ∧ Found "java/lang/String" "value" "[B" fV s ∧ Found "java/lang/String" "coder" "B" fC s ∧ Ch b A s ∧ StaticIs s "java/lang/String" "COMPACT_STRINGS" "Z" (.int z) ∧ ¬ z = 0 ∧ 0 < len ∧ o + len ≤ A.slots.size ∧ len ≤ 536870912 ∧ ∀ i, i < len → ¬ 255 < cv A (o + i)
def E (a : Addr) (D : Cell) (fV fC : Field) (A : Cell) (o len : Nat) (r : Option Value) (s u : State) : Prop := Got a D fV fC A o len r s u
/-- len > 0, no char of the range above 255: a Latin-1 String of their low bytes -/
theorem law (l : Launch) (a : Addr) (D : Cell) (fV fC : Field) (b : Addr) (A : Cell) (z : Int32) (o len : Nat) : Law l yN 5 4 2 35 yB 6 none site (P a D fV fC b A z o len) (E a D fV fC A o len) [⟨a, fC.slot⟩, ⟨a, fV.slot⟩] 1 len := by
  refine Law.of_walk (plainFor_of_name (by decide +kernel)) (by decide +kernel) (by decide +kernel) (by decide) (fun _ _ h => by rw [h.1]; rfl) (fun _ U U' hal hh h => ⟨h.1, h.2.1.mv hal hh, h.2.2.1.al hal, h.2.2.2.1.al hal, h.2.2.2.2.1.mv hal hh, h.2.2.2.2.2.1.there hal hh, h.2.2.2.2.2.2⟩) (fun r U U' V V' h1 hal h2 h => Got.mv r U U' V V' h1 hal h2 h) ?_
  intro p e s m args below meth c s₁ X0 hexec hbytes hml hret hlk hnm hown hh0 W hP
  obtain ⟨rfl, hB, f1, f2, hA, s1, hz, l0, l1, l2, hp⟩ := hP
  have a31 := hA.1.2.2.2
  have c1 : Steps p.tables e below (s₁.setTop (entryFrame m #[.ref a, .ref b, .int (Int32.ofNat o), .int (Int32.ofNat len), .null] 6)) (s₁.setTop (mkF m 0 #[.val (.ref a), .val (.ref b), .val (.int (Int32.ofNat o)), .val (.int (Int32.ofNat len)), .val .null, .unset] [])) := entry rfl
  have c2 : Steps p.tables e below (s₁.setTop (entryFrame m #[.ref a, .ref b, .int (Int32.ofNat o), .int (Int32.ofNat len), .null] 6)) (s₁.setTop (mkF m 1 #[.val (.ref a), .val (.ref b), .val (.int (Int32.ofNat o)), .val (.int (Int32.ofNat len)), .val .null, .unset] [.ref a])) := c1.trans (by
    refine XS.aloadN X0.here hexec rfl (hb hbytes d0) rfl rfl ?_
    exact Steps.refl _)
  obtain ⟨T3, X3, q3, st3⟩ := X0.oinit hexec hown (wks W (objW "java/lang/String" 1)) (g := (mkF m 1 #[.val (.ref a), .val (.ref b), .val (.int (Int32.ofNat o)), .val (.int (Int32.ofNat len)), .val .null, .unset] [.ref a])) rfl (by rw [hml]; rfl) (rest := []) rfl (hb hbytes d1) (W := 0) (by show 2 * 0 + 0 ≤ _; decide) (Nat.le_of_ble_eq_true rfl) (Nat.le_of_ble_eq_true rfl)
  have hh3 := q3.trans hh0
  have c4 : Steps p.tables e below (s₁.setTop (entryFrame m #[.ref a, .ref b, .int (Int32.ofNat o), .int (Int32.ofNat len), .null] 6)) (T3.setTop (mkF m 27 #[.val (.ref a), .val (.ref b), .val (.int (Int32.ofNat o)), .val (.int (Int32.ofNat len)), .val .null, .unset] [])) := (c2.trans (st3 _ (Steps.refl _))).trans (by
    refine XS.iloadN X3.here hexec rfl (hb hbytes d4) rfl ?_
    refine XS.ifYes X3.here hexec rfl (pc0 := 5) rfl (hb hbytes d5) rfl (i0_ne_t (nz32 (by omega) l0)) (by decide) rfl ?_
    exact Steps.refl _)
  obtain ⟨T5, X5, q5, st5⟩ := X3.sget hexec hown (wk W (.fieldLink "java/lang/String" 38 "java/lang/String" "COMPACT_STRINGS" "Z")) s1 (fun _ _ h => by rw [hh3]; exact h) (g := (mkF m 27 #[.val (.ref a), .val (.ref b), .val (.int (Int32.ofNat o)), .val (.int (Int32.ofNat len)), .val .null, .unset] [])) rfl (hb hbytes d27)
  have hh5 := q5.trans hh3
  have c6 : Steps p.tables e below (s₁.setTop (entryFrame m #[.ref a, .ref b, .int (Int32.ofNat o), .int (Int32.ofNat len), .null] 6)) (T5.setTop (mkF m 30 #[.val (.ref a), .val (.ref b), .val (.int (Int32.ofNat o)), .val (.int (Int32.ofNat len)), .val .null, .unset] [.int z])) := c4.trans (st5 _ (Steps.refl _))
  have c7 : Steps p.tables e below (s₁.setTop (entryFrame m #[.ref a, .ref b, .int (Int32.ofNat o), .int (Int32.ofNat len), .null] 6)) (T5.setTop (mkF m 36 #[.val (.ref a), .val (.ref b), .val (.int (Int32.ofNat o)), .val (.int (Int32.ofNat len)), .val .null, .unset] [.int (Int32.ofNat len), .int (Int32.ofNat o), .ref b])) := c6.trans (by
    refine XS.ifNo X5.here hexec rfl (hb hbytes d30) rfl (i0_eq_f hz) ?_
    refine XS.aloadN X5.here hexec rfl (hb hbytes d33) rfl rfl ?_
    refine XS.iloadN X5.here hexec rfl (hb hbytes d34) rfl ?_
    refine XS.iloadN X5.here hexec rfl (hb hbytes d35) rfl ?_
    exact Steps.refl _)
  obtain ⟨v8, T8, X8, E8, g8⟩ := X5.callS hexec (Cmp3.law l b A o len) hown (wks W (staticW "java/lang/String" 177 Cmp3.yN)) (wk W Cmp3.tab) (W := 0) (Nat.le_of_ble_eq_true rfl) (Nat.le_of_ble_eq_true rfl) (Nat.le_refl _) (by show 0 + len ≤ len; omega) (g := (mkF m 36 #[.val (.ref a), .val (.ref b), .val (.int (Int32.ofNat o)), .val (.int (Int32.ofNat len)), .val .null, .unset] [.int (Int32.ofNat len), .int (Int32.ofNat o), .ref b])) rfl (by rw [hml]; rfl) c7 (argsL := [.ref b, .int (Int32.ofNat o), .int (Int32.ofNat len)]) (rest := []) rfl rfl (by show 2 * 0 + 0 ≤ _; decide) (hb hbytes d36) (⟨rfl, hA.mv X5.warmed.alike hh5, l1, l2, hp⟩)
  obtain ⟨e8, z8⟩ := E8
  obtain ⟨rfl, N, n1, n2, n3, n4, n5, n6⟩ := NewArr.mv _ T5 s _ _ hh5.symm (Vm.Alike.refl _) rfl e8
  rw [hh5] at z8
  have hB1 := hB.keep X8.warmed.alike (n6 _ _ hB.1)
  have hne : s.heap.size ≠ a := (Nat.ne_of_lt (Array.getElem?_eq_some_iff.mp hB.1).1).symm
  have c9 : Steps p.tables e below (s₁.setTop (entryFrame m #[.ref a, .ref b, .int (Int32.ofNat o), .int (Int32.ofNat len), .null] 6)) (T8.setTop (mkF m 39 #[.val (.ref a), .val (.ref b), .val (.int (Int32.ofNat o)), .val (.int (Int32.ofNat len)), .val .null, .unset] [.ref s.heap.size])) := g8
  have c10 : Steps p.tables e below (s₁.setTop (entryFrame m #[.ref a, .ref b, .int (Int32.ofNat o), .int (Int32.ofNat len), .null] 6)) (T8.setTop (mkF m 45 #[.val (.ref a), .val (.ref b), .val (.int (Int32.ofNat o)), .val (.int (Int32.ofNat len)), .val .null, .val (.ref s.heap.size)] [.int (Int32.ofNat N.slots.size), .ref s.heap.size, .ref a])) := by
    have hc : Steps p.tables e below (s₁.setTop (entryFrame m #[.ref a, .ref b, .int (Int32.ofNat o), .int (Int32.ofNat len), .null] 6)) (T8.setTop (mkF m 45 #[.val (.ref a), .val (.ref b), .val (.int (Int32.ofNat o)), .val (.int (Int32.ofNat len)), .val .null, .val (.ref s.heap.size)] [.int (Int32.ofNat len), .ref s.heap.size, .ref a])) := c9.trans (by
      refine XS.astore X8.here hexec rfl (hb hbytes d39) rfl rfl rfl ?_
      refine XS.aloadN X8.here hexec rfl (hb hbytes d41) rfl rfl ?_
      refine XS.aload X8.here hexec rfl (hb hbytes d42) rfl rfl ?_
      refine XS.iloadN X8.here hexec rfl (hb hbytes d44) rfl ?_
      exact Steps.refl _)
    rw [n4]; exact hc
  obtain ⟨v11, T11, X11, E11, g11⟩ := X8.callS hexec (CodL.law l s.heap.size N) hown (wks W (staticW "java/lang/String" 47 CodL.yN)) (wk W CodL.tab) (W := 1) (Nat.le_of_ble_eq_true rfl) (Nat.le_of_ble_eq_true rfl) (Nat.le_refl _) (by show 0 + len + 0 ≤ len; omega) (g := (mkF m 45 #[.val (.ref a), .val (.ref b), .val (.int (Int32.ofNat o)), .val (.int (Int32.ofNat len)), .val .null, .val (.ref s.heap.size)] [.int (Int32.ofNat N.slots.size), .ref s.heap.size, .ref a])) rfl (by rw [hml]; rfl) c10 (argsL := [.ref s.heap.size, .int (Int32.ofNat N.slots.size)]) (rest := [.ref a]) rfl rfl (by show 2 * 0 + (1 + 0) ≤ _; decide) (hb hbytes d45) (⟨rfl, n1⟩)
  obtain ⟨rfl, q11⟩ := E11
  have hB11 := hB1.mv (X8.warmed.alike.symm.trans X11.warmed.alike) q11
  have c12 : Steps p.tables e below (s₁.setTop (entryFrame m #[.ref a, .ref b, .int (Int32.ofNat o), .int (Int32.ofNat len), .null] 6)) (T11.setTop (mkF m 48 #[.val (.ref a), .val (.ref b), .val (.int (Int32.ofNat o)), .val (.int (Int32.ofNat len)), .val .null, .val (.ref s.heap.size)] [.int 0, .ref a])) := g11
  obtain ⟨T13, X13, p13, bl13, sl13, st13⟩ := X11.finit hexec hown (wk W (.fieldLink "java/lang/String" 15 "java/lang/String" "coder" "B")) (Or.inr ⟨_, (wk W (.laysFinal "java/lang/String" "java/lang/String" "coder" "B"))⟩) (Or.inl ⟨rfl, hnm⟩) f2 (Or.inl rfl) hB11 (t := .byte) (by decide +kernel) rfl (g := (mkF m 48 #[.val (.ref a), .val (.ref b), .val (.int (Int32.ofNat o)), .val (.int (Int32.ofNat len)), .val .null, .val (.ref s.heap.size)] [.int 0, .ref a])) rfl (rest := []) rfl (hb hbytes d48)
  have c14 : Steps p.tables e below (s₁.setTop (entryFrame m #[.ref a, .ref b, .int (Int32.ofNat o), .int (Int32.ofNat len), .null] 6)) (T13.setTop (mkF m 54 #[.val (.ref a), .val (.ref b), .val (.int (Int32.ofNat o)), .val (.int (Int32.ofNat len)), .val .null, .val (.ref s.heap.size)] [.ref s.heap.size, .ref a])) := (c12.trans (st13 _ (Steps.refl _))).trans (by
    refine XS.aloadN X13.here hexec rfl (hb hbytes d51) rfl rfl ?_
    refine XS.aload X13.here hexec rfl (hb hbytes d52) rfl rfl ?_
    exact Steps.refl _)
  obtain ⟨T15, X15, p15, bl15, sl15, st15⟩ := X13.finit hexec hown (wk W (.fieldLink "java/lang/String" 9 "java/lang/String" "value" "[B")) (Or.inr ⟨_, (wk W (.laysFinal "java/lang/String" "java/lang/String" "value" "[B"))⟩) (Or.inl ⟨rfl, hnm⟩) f1 (Or.inl rfl) bl13 (t := (.array .byte)) (by decide +kernel) rfl (g := (mkF m 54 #[.val (.ref a), .val (.ref b), .val (.int (Int32.ofNat o)), .val (.int (Int32.ofNat len)), .val .null, .val (.ref s.heap.size)] [.ref s.heap.size, .ref a])) rfl (rest := []) rfl (hb hbytes d54)
  have c16 : Steps p.tables e below (s₁.setTop (entryFrame m #[.ref a, .ref b, .int (Int32.ofNat o), .int (Int32.ofNat len), .null] 6)) (T15.setTop (mkF m 57 #[.val (.ref a), .val (.ref b), .val (.int (Int32.ofNat o)), .val (.int (Int32.ofNat len)), .val .null, .val (.ref s.heap.size)] [])) := c14.trans (st15 _ (Steps.refl _))
  have ap := apart (Or.inr ⟨_, (wk W (.laysFinal "java/lang/String" "java/lang/String" "value" "[B"))⟩) (Or.inr ⟨_, (wk W (.laysFinal "java/lang/String" "java/lang/String" "coder" "B"))⟩) f1 f2 (t₁ := .array .byte) (t₂ := .byte) (by decide +kernel) (by decide +kernel) (by decide)
  have al := X8.warmed.alike.symm.trans X15.warmed.alike
  have n7 : T11.heap[s.heap.size]? = some N := by rw [q11]; exact n1.1
  exact ⟨T15, none, _, _, _, X15, by simp, rfl, by omega, (fun _ => rfl), ⟨rfl, _, N, bl15, ((Same.refl D _).set _ (by simp)).set _ (by simp), sl15, (Cell.slots_setSlot_ne _ ap).trans sl13, n1.keep al (p15.other hne (p13.other hne n7)), n2, by rw [al.findClass]; exact n3, n4, n5, fun y c h1 h2 => p15.other h1 (p13.other h1 (by rw [q11]; exact n6 y c h2)), by rw [p15.2.2, p13.2.2, q11]; exact z8⟩, fun fs hl => c16.trans (X15.returnOut hexec hret (hb hbytes d57) hl)⟩
end New4
namespace New1
def yN : MethodName := ⟨"java/lang/String", "<init>", "([C)V"⟩
abbrev yB : ByteArray := jdk_42_method_3_code
theorem d0 : decode yB 0 = .ok (.aload_n 0, 1) := by decide +kernel
theorem d1 : decode yB 1 = .ok (.aload_n 1, 1) := by decide +kernel
theorem d2 : decode yB 2 = .ok (.iconst 0, 1) := by decide +kernel
theorem d3 : decode yB 3 = .ok (.aload_n 1, 1) := by decide +kernel
theorem d4 : decode yB 4 = .ok (.arraylength, 1) := by decide +kernel
theorem d5 : decode yB 5 = .ok (.aconst_null, 1) := by decide +kernel
theorem d6 : decode yB 6 = .ok (.invokespecial 27, 3) := by decide +kernel
theorem d9 : decode yB 9 = .ok (.return_, 1) := by decide +kernel
def site : List Cond := [New4.tab] ++ initW "java/lang/String" 27 New4.yN
def tab : Cond := tabOf yN yB 2 none site
def P (a : Addr) (D : Cell) (fV fC : Field) (b : Addr) (A : Cell) (z : Int32) (args : Array Value) (s : State) : Prop := args = #[.ref a, .ref b] ∧ Blank "java/lang/String" a D s ∧ Found "java/lang/String" "value" "[B" fV s ∧ Found "java/lang/String" "coder" "B" fC s ∧ Ch b A s ∧ StaticIs s "java/lang/String" "COMPACT_STRINGS" "Z" (.int z) ∧ ¬ z = 0 ∧ 0 < A.slots.size ∧ A.slots.size ≤ 536870912 ∧ ∀ i, i < A.slots.size → ¬ 255 < cv A i
def E (a : Addr) (D : Cell) (fV fC : Field) (A : Cell) (r : Option Value) (s u : State) : Prop := Got a D fV fC A 0 A.slots.size r s u
/-- new String(chars), not empty, no char above 255: a Latin-1 String of their low bytes -/
theorem law (l : Launch) (a : Addr) (D : Cell) (fV fC : Field) (b : Addr) (A : Cell) (z : Int32) : Law l yN 2 1 3 52 yB 2 none site (P a D fV fC b A z) (E a D fV fC A) [⟨a, fC.slot⟩, ⟨a, fV.slot⟩] 1 A.slots.size := by
  refine Law.of_walk (plainFor_of_name (by decide +kernel)) (by decide +kernel) (by decide +kernel) (by decide) (fun _ _ h => by rw [h.1]; rfl) (fun _ U U' hal hh h => ⟨h.1, h.2.1.mv hal hh, h.2.2.1.al hal, h.2.2.2.1.al hal, h.2.2.2.2.1.mv hal hh, h.2.2.2.2.2.1.there hal hh, h.2.2.2.2.2.2⟩) (fun r U U' V V' h1 hal h2 h => Got.mv r U U' V V' h1 hal h2 h) ?_
  intro p e s m args below meth c s₁ X0 hexec hbytes hml hret hlk hnm hown hh0 W hP
  obtain ⟨rfl, hB, f1, f2, hA, s1, hz, l0, l2, hp⟩ := hP
  have c1 : Steps p.tables e below (s₁.setTop (entryFrame m #[.ref a, .ref b] 2)) (s₁.setTop (mkF m 0 #[.val (.ref a), .val (.ref b)] [])) := entry rfl
  have c2 : Steps p.tables e below (s₁.setTop (entryFrame m #[.ref a, .ref b] 2)) (s₁.setTop (mkF m 6 #[.val (.ref a), .val (.ref b)] [.null, .int (Int32.ofNat A.slots.size), .int 0, .ref b, .ref a])) := c1.trans (by
    refine XS.aloadN X0.here hexec rfl (hb hbytes d0) rfl rfl ?_
    refine XS.aloadN X0.here hexec rfl (hb hbytes d1) rfl rfl ?_
    refine iconstV X0.here hexec rfl 0 (hb hbytes d2) (by decide) ?_
    refine XS.aloadN X0.here hexec rfl (hb hbytes d3) rfl rfl ?_
    refine X0.alen hexec (hA.1.mv X0.warmed.alike hh0) rfl rfl (hb hbytes d4) ?_
    refine XS.aconstNull X0.here hexec rfl (hb hbytes d5) ?_
    exact Steps.refl _)
  obtain ⟨v3, T3, X3, E3, g3⟩ := X0.callN hexec (New4.law l a D fV fC b A z 0 A.slots.size) rfl hown (wks W (initW "java/lang/String" 27 New4.yN)) (W New4.tab (by simp only [site, List.mem_cons, List.mem_append, true_or, or_true])) (W := 0) (Nat.le_of_ble_eq_true rfl) (Nat.le_of_ble_eq_true rfl) (Nat.le_refl _) (by show 0 + A.slots.size ≤ A.slots.size; omega) (g := (mkF m 6 #[.val (.ref a), .val (.ref b)] [.null, .int (Int32.ofNat A.slots.size), .int (Int32.ofNat 0), .ref b, .ref a])) rfl (by rw [hml]; rfl) c2 (argsL := [.ref b, .int (Int32.ofNat 0), .int (Int32.ofNat A.slots.size), .null]) (rest := []) rfl rfl (by show 2 * 0 + 0 ≤ _; decide) (hb hbytes d6) (⟨rfl, hB.mv X0.warmed.alike hh0, f1.al X0.warmed.alike, f2.al X0.warmed.alike, hA.mv X0.warmed.alike hh0, s1.there X0.warmed.alike hh0, hz, l0, by omega, l2, fun i hi => by rw [Nat.zero_add]; exact hp i hi⟩)
  have e0 := Got.mv _ s₁ s _ _ hh0.symm (Vm.Alike.refl _) rfl E3
  obtain rfl := e0.1
  have c4 : Steps p.tables e below (s₁.setTop (entryFrame m #[.ref a, .ref b] 2)) (T3.setTop (mkF m 9 #[.val (.ref a), .val (.ref b)] [])) := g3
  exact ⟨T3, none, _, _, _, X3, by simp, rfl, by omega, (fun _ => rfl), e0, fun fs hl => c4.trans (X3.returnOut hexec hret (hb hbytes d9) hl)⟩
theorem pays {l : Launch} {R : Room} {p : Program} {e : Env} {below : List Frame} {s : State} {sargs : Array Value} {len W : Nat} (a : Addr) (D : Cell) (fV fC : Field) (b : Addr) (A : Cell) (z : Int32) (htab : tab.before sargs s = true) (hfr : 4 ≤ R.frames) (hlo : W + 65 ≤ R.locals) :
    Back l R p e below s sargs yN len W (fun A₁ a₁ => A₁.cells + 1 ≤ R.cells ∧ A₁.slots + A.slots.size ≤ R.slots ∧ P a D fV fC b A z a₁ A₁.U) (fun A₁ _ v₁ B₁ => E a D fV fC A v₁ A₁.U B₁.U ∧ B₁.locs = A₁.locs ++ [⟨a, fC.slot⟩, ⟨a, fV.slot⟩] ∧ B₁.cells = A₁.cells + 1 ∧ B₁.slots = A₁.slots + A.slots.size) :=
  (law l a D fV fC b A z).pays htab hfr (by omega)
end New1
end StrChars
namespace StrChars.Road
open Jvm Sem ClassFile Op Lib Jvm.Stand Jvm.Free Jvm.Free.XT
open Jvm.Lib.Cold (StaticIs)
abbrev ST : String := "java/lang/String"
/-- every table word that New1's law asks, flat -/
abbrev words : List Jvm.Cond := [.code New1.yN New1.yB 2 none, .initialized ST, .methodLink ST 27 New4.yN, .instanceMethod New4.yN,
  .code New4.yN New4.yB 6 none, .fieldLink ST 38 ST "COMPACT_STRINGS" "Z", .laysFinal ST ST "value" "[B", .fieldLink ST 9 ST "value" "[B", .laysFinal ST ST "coder" "B", .fieldLink ST 15 ST "coder" "B",
  .methodLink ST 1 Lib.objectInit, .instanceMethod Lib.objectInit, .code Lib.objectInit ⟨#[0xb1]⟩ 1 none, .methodLink ST 177 Cmp3.yN, .static Cmp3.yN, .methodLink ST 47 CodL.yN, .static CodL.yN,
  .code Cmp3.yN Cmp3.yB 6 (some (.array .byte)), .initialized U16, .arrayClass .byte, .methodLink U16 115 Cmp5.yN, .static Cmp5.yN, .code Cmp5.yN Cmp5.yB 7 (some .int), .code CodL.yN CodL.yB 2 (some .byte)]
theorem tab_of {a : Array Value} {s : State} (h : ∀ w ∈ words, w.before a s = true) : New1.tab.before a s = true := by
  have h5 : Cmp5.tab.before a s = true := unparts (wk h (.code Cmp5.yN Cmp5.yB 7 (some .int))) (wks h (.initialized Cmp5.yN.cls :: Cmp5.site))
  have hc : CodL.tab.before a s = true := unparts (wk h (.code CodL.yN CodL.yB 2 (some .byte))) (wks h (.initialized CodL.yN.cls :: CodL.site))
  have q5 : ∀ w ∈ Cmp5.tab :: words, w.before a s = true := fun w hw => (List.mem_cons.mp hw).elim (fun e => e ▸ h5) (h w)
  have h3 : Cmp3.tab.before a s = true := unparts (wk q5 (.code Cmp3.yN Cmp3.yB 6 (some (.array .byte)))) (wks q5 (.initialized Cmp3.yN.cls :: Cmp3.site))
  have q3 : ∀ w ∈ Cmp3.tab :: CodL.tab :: words, w.before a s = true := fun w hw => (List.mem_cons.mp hw).elim (fun e => e ▸ h3) fun hw => (List.mem_cons.mp hw).elim (fun e => e ▸ hc) (h w)
  have h4 : New4.tab.before a s = true := unparts (wk q3 (.code New4.yN New4.yB 6 none)) (wks q3 (.initialized New4.yN.cls :: New4.site))
  have q4 : ∀ w ∈ New4.tab :: words, w.before a s = true := fun w hw => (List.mem_cons.mp hw).elim (fun e => e ▸ h4) (h w)
  exact unparts (wk q4 (.code New1.yN New1.yB 2 none)) (wks q4 (.initialized New1.yN.cls :: New1.site))
/-- the words ride from the start Z to the walk's own state -/
theorem moved {Z s : State} {a0 args : Array Value} (hZ : Z.Warmed39 s.vm) (hw : ∀ d ∈ words, d.before a0 Z = true) : ∀ d ∈ words, d.before args s = true := fun d hd => by
  have q := hw d hd
  have t : ∀ d ∈ words, d = .arrayClass .byte ∨ (d.onTables && d.keepsFace) = true := by decide +kernel
  rcases t d hd with rfl | t
  · exact RoadKit.mvA hZ q
  · exact RoadKit.mv hZ q t
/-- WHAT COMES BACK, over the tables of the start Z: h the heap at the call, h' behind it -/
def Q (Z : State) (x : Addr) (A : Cell) (h : Heap) (v : Option Value) (h' : Heap) (L : List Loc) : Prop := v = none ∧ (∀ y ∈ L, y.base = x) ∧ RoadKit.Keep h h' [x] ∧ h'.size = h.size + 1 ∧ RoadKit.Exa Z h' x ST ∧ RoadKit.Fld Z h' x ST "value" "[B" (.ref h.size) ∧ RoadKit.Fld Z h' x ST "coder" "B" (.int 0) ∧
  (∃ V : Cell, RoadKit.Arr Z h' h.size V .byte ∧ V.vm = .none ∧ Z.vm.findClass "[B" = some V.cls ∧ V.slots.size = A.slots.size ∧ ∀ j, j < A.slots.size → V.slots[j]? = some (.int (lo8 (cv A j)))) ∧
  ∀ (O n d : String) (w : Value), RoadKit.Fld Z h x O n d w → RoadKit.slotOf Z O n d ≠ RoadKit.slotOf Z ST "value" "[B" → RoadKit.slotOf Z O n d ≠ RoadKit.slotOf Z ST "coder" "B" → RoadKit.Fld Z h' x O n d w
/-- **new String(chars) AT A CALL, IN THE ROAD'S FORM**: for specialBack behind newO: x the fresh String, b the char[] with the cell A -/
theorem back {p : Program} {l : Launch} {e : Env} {R : Room} {s : State} {args : Array Value} {below : List Frame} {len W : Nat} {Z : State} {a0 : Array Value} {h : Heap} (hZ : Z.Warmed39 s.vm) (hw : ∀ d ∈ words, d.before a0 Z = true) {kI : Nat} (wi : (Jvm.Cond.instantiable ST kI).before a0 Z = true)
    {x b : Addr} {A : Cell} {z : Int32} {v0 c0 : Value} (E : RoadKit.Exa Z h x ST) (V : RoadKit.Fld Z h x ST "value" "[B" v0) (C : RoadKit.Fld Z h x ST "coder" "B" c0) (K : RoadKit.Arr Z h b A .char) (hty : Typed .char A) (S : RoadKit.Sta Z h ST "COMPACT_STRINGS" "Z" (.int z)) (hz : ¬ z = 0)
    (l0 : 0 < A.slots.size) (l2 : A.slots.size ≤ 536870912) (hp : ∀ i, i < A.slots.size → ¬ 255 < cv A i) (hfr : 4 ≤ R.frames) (hlo : W + 65 ≤ R.locals) :
    Back l R p e below s args New1.yN len W (fun P a => a = #[.ref x, .ref b] ∧ P.U.heap = h ∧ P.cells + 1 ≤ R.cells ∧ P.slots + A.slots.size ≤ R.slots)
      (fun P _ v B => ∃ L, Q Z x A h v B.U.heap L ∧ B.locs = P.locs ++ L ∧ B.cells = P.cells + 1 ∧ B.slots = P.slots + A.slots.size) := by
  intro m meth c P g ig mk a X hg hsize hdg hW hn hp'
  obtain ⟨rfl, rfl, r1, r2⟩ := hp'
  have al : Z.vm.Alike P.U.vm := hZ.alike.trans X.warmed.alike
  obtain ⟨D, cfV, kV, iV, fV, hD, gV, stV, knV, obV, asV, slV⟩ := id V
  obtain ⟨D', cfC, kC, iC, fC, hD', gC, stC, -, -, asC, slC⟩ := id C
  cases hD.symm.trans hD'
  obtain ⟨D2, kD, e1, e2, e3, e4, e5⟩ := id E
  cases hD.symm.trans e1
  obtain ⟨c2, k2, i1, i2, i3, -⟩ := Cond.instantiable_spec wi
  cases e2.symm.trans i1
  cases e3.symm.trans i2
  obtain ⟨kU, u1, u2⟩ := al.2.2 _ _ e3
  have hB : Blank ST x D P.U := ⟨hD, ⟨knV, fun q hq => by rw [hq] at obV; cases obV⟩, by rw [al.findClass]; exact e2, kU, u1, by rw [u2]; exact i3, by rw [u2]; exact e5 i3⟩
  have F1 : Found ST "value" "[B" fV P.U := ⟨SBG.found_only al ⟨cfV, kV, iV, gV⟩, stV⟩
  have F2 : Found ST "coder" "B" fC P.U := ⟨SBG.found_only al ⟨cfC, kC, iC, gC⟩, stC⟩
  have hA : Ch b A P.U := ⟨⟨K.1, State.isArrayOf_alike al K.2.1, K.2.2, by omega⟩, hty⟩
  have hS : StaticIs P.U ST "COMPACT_STRINGS" "Z" (.int z) := by
    obtain ⟨cfS, iS, kS, fS, st, cS, t1, t2, t3, t4, t5, t6, t7⟩ := S
    exact StaticIs.there (s := { Z with heap := P.U.heap }) ⟨cfS, iS, kS, fS, st, cS, t1, t2, t3, t4, t5, (fun q => by rw [q] at t6; cases t6), t7⟩ al rfl
  obtain ⟨v, B, X', ⟨⟨hv, E', V', q1, q2, q3, q4, q5, q6, q7, q8, q9, q10, q11⟩, hl, hc, hs⟩, st⟩ := New1.pays x D fV fC b A z (tab_of (moved hZ hw)) hfr hlo m meth c P g ig mk _ X hg hsize hdg hW hn ⟨r1, r2, rfl, hB, F1, F2, hA, hS, hz, l0, l2, hp⟩
  have al' : Z.vm.Alike B.U.vm := hZ.alike.trans X'.warmed.alike
  have hsz : E'.slots.size = D.slots.size := by
    obtain ⟨-, -, -, kB, w1, w2, w3⟩ := q1
    obtain ⟨kB', y1, y2⟩ := al'.2.2 _ _ e3
    rw [q2.2.1] at w1
    cases w1.symm.trans y1
    rw [w3, e5 i3, y2]
  refine ⟨v, B, X', ⟨_, ⟨hv, ?_, ⟨by omega, fun y cy hy hn' => q10 y cy (by simpa using hn') hy, fun y cy hy => ?_⟩, q11, ⟨E', _, q1.1, by rw [q2.2.1]; exact e2, by rw [q2.2.1]; exact e3, by rw [q2.1]; exact obV, fun _ => by rw [hsz]; exact e5 i3⟩,
    ⟨E', cfV, kV, iV, fV, q1.1, gV, stV, by rw [q2.1]; exact knV, by rw [q2.1]; exact obV, by rw [q2.2.1]; exact asV, q3⟩, ⟨E', cfC, kC, iC, fC, q1.1, gC, stC, by rw [q2.1]; exact knV, by rw [q2.1]; exact obV, by rw [q2.2.1]; exact asC, q4⟩,
    ⟨V', ⟨q5.1, State.isArrayOf_alike al'.symm q5.2.1, q5.2.2.1⟩, q6, by rw [← al'.findClass]; exact q7, q8, fun j hj => by have := q9 j hj; rwa [Nat.zero_add] at this⟩, fun O n d w F n1 n2 => ?_⟩, hl, hc, hs⟩, st⟩
  · intro y hy
    simp only [List.mem_cons, List.not_mem_nil, or_false] at hy
    rcases hy with rfl | rfl <;> rfl
  · by_cases q : y = x
    · subst q
      cases hD.symm.trans hy
      exact ⟨E', q1.1, q2.2.1, q2.1, hsz⟩
    · exact ⟨cy, q10 y cy q hy, rfl, rfl, rfl⟩
  · obtain ⟨D3, cf, k, i, f, g1, g2, g3, g4, g5, g6, g7⟩ := F
    cases hD.symm.trans g1
    simp only [RoadKit.slotOf, g2, gV, gC, Option.map_some, Option.getD_some] at n1 n2
    exact ⟨E', cf, k, i, f, q1.1, g2, g3, by rw [q2.1]; exact g4, by rw [q2.1]; exact g5, by rw [q2.2.1]; exact g6, by rw [q2.2.2 f.slot (by simp [n1, n2])]; exact g7⟩
end StrChars.Road
namespace StrChars.Road
open Jvm Sem ClassFile Op Lib Jvm.Stand Jvm.Free Jvm.Free.XT
/-- WHAT COMES BACK, the byte[] as a list of values -/
def QA (Z : State) (x : Addr) (zn : Int32) (cs : List Int32) (h : Heap) (v : Option Value) (h' : Heap) (L : List Loc) : Prop := v = none ∧ (∀ y ∈ L, y.base = x) ∧ RoadKit.Keep h h' [x] ∧ h'.size = h.size + 1 ∧ RoadKit.Exa Z h' x ST ∧ RoadKit.Fld Z h' x ST "value" "[B" (.ref h.size) ∧ RoadKit.Fld Z h' x ST "coder" "B" (.int 0) ∧
  (∃ kb, Z.vm.findClass "[B" = some kb ∧ RoadKit.Arv Z h' h.size kb .byte zn (cs.map fun c => .int (lo8 c)) (.int 0)) ∧
  ∀ (O n d : String) (w : Value), RoadKit.Fld Z h x O n d w → RoadKit.slotOf Z O n d ≠ RoadKit.slotOf Z ST "value" "[B" → RoadKit.slotOf Z O n d ≠ RoadKit.slotOf Z ST "coder" "B" → RoadKit.Fld Z h' x O n d w
/-- **new String(chars) AT A CALL, THE ARRAYS AS LISTS**: the char[] at b holds cs, not empty, no char above 255 -/
theorem backArv {p : Program} {l : Launch} {e : Env} {R : Room} {s : State} {args : Array Value} {below : List Frame} {len W : Nat} {Z : State} {a0 : Array Value} {h : Heap} (hZ : Z.Warmed39 s.vm) (hw : ∀ d ∈ words, d.before a0 Z = true) {kI : Nat} (wi : (Jvm.Cond.instantiable ST kI).before a0 Z = true)
    {x b : Addr} {k : ClassId} {zn z : Int32} {cs : List Int32} {dv v0 c0 : Value} (E : RoadKit.Exa Z h x ST) (V : RoadKit.Fld Z h x ST "value" "[B" v0) (C : RoadKit.Fld Z h x ST "coder" "B" c0) (K : RoadKit.Arv Z h b k .char zn (cs.map Value.int) dv) (S : RoadKit.Sta Z h ST "COMPACT_STRINGS" "Z" (.int z)) (hz : ¬ z = 0)
    (hlen : zn.toNatClampNeg = cs.length) (h0 : 0 < cs.length) (hbig : cs.length ≤ 536870912) (hall : ∀ c ∈ cs, ¬ 255 < c) (hfr : 4 ≤ R.frames) (hlo : W + 65 ≤ R.locals) :
    Back l R p e below s args New1.yN len W (fun P a => a = #[.ref x, .ref b] ∧ P.U.heap = h ∧ P.cells + 1 ≤ R.cells ∧ P.slots + cs.length ≤ R.slots)
      (fun P _ v B => ∃ L, QA Z x zn cs h v B.U.heap L ∧ B.locs = P.locs ++ L ∧ B.cells = P.cells + 1 ∧ B.slots = P.slots + cs.length) := by
  obtain ⟨A, K1, K2, K3, K4, K5, K6⟩ := K
  have e : A.slots.size = cs.length := K3.trans hlen
  have hat : ∀ (i : Nat) (hi : i < cs.length), A.slots[i]? = some (.int cs[i]) := fun i hi => by rw [K5 i (by omega)]; simp [List.getD_eq_getElem?_getD, hi]
  have hcv : ∀ (i : Nat) (hi : i < cs.length), cv A i = cs[i] := fun i hi => by unfold cv; rw [hat i hi]
  have hty : Typed .char A := fun i v hv => by
    have hi : i < A.slots.size := (Array.getElem?_eq_some_iff.mp hv).1
    have q := K5 i hi
    rw [hv] at q
    rw [Option.some.inj q]
    exact K6 i hi
  refine Back.mono (back hZ hw wi E V C K1 hty S hz (by omega) (by omega) (fun i hi => by rw [hcv i (by omega)]; exact hall _ (List.getElem_mem _)) hfr hlo) (fun P a hp => ⟨hp.1, hp.2.1, hp.2.2.1, by rw [e]; exact hp.2.2.2⟩) (fun P a v B hp hq => ?_)
  obtain ⟨L, ⟨q1, q2, q3, q4, q5, q6, q7, ⟨V', v1, v2, v3, v4, v5⟩, q9⟩, hl, hc, hs⟩ := hq
  refine ⟨L, ⟨q1, q2, q3, q4, q5, q6, q7, ⟨V'.cls, v3, V', v1, rfl, by rw [v4, e, hlen], K4, fun i hi => ?_, fun i hi => ?_⟩, q9⟩, hl, hc, by rw [hs, e]⟩
  · have hi' : i < cs.length := by omega
    rw [v5 i (by omega), hcv i hi']; simp [List.getD_eq_getElem?_getD, hi']
  · have hi' : i < cs.length := by omega
    simp only [List.getD_eq_getElem?_getD, List.getElem?_map, List.getElem?_eq_getElem hi', Option.map_some, Option.getD_some]
    exact fits_lo8 _
end StrChars.Road
namespace StrChars.Road
open Jvm Sem ClassFile Op Lib Jvm.Stand Jvm.Free Jvm.Free.XT
/-- WHAT COMES BACK, in the writer's own shape -/
def QV (Z : State) (x : Addr) (N : Int32) (bs : List Int32) (h : Heap) (n0 : Nat) (v : Option Value) (h' : Heap) (L : List Loc) : Prop := v = none ∧ RoadKit.Fr n0 L ∧ RoadKit.Keep h h' [x] ∧ RoadKit.Exa Z h' x ST ∧ RoadKit.Fld Z h' x ST "coder" "B" (.int 0) ∧
  ∃ (t : Addr) (kb : ClassId), n0 ≤ t ∧ h.size ≤ t ∧ ¬ t = x ∧ RoadKit.Fld Z h' x ST "value" "[B" (.ref t) ∧ RoadKit.Arv Z h' t kb .byte N (bs.map Value.int) (.int 0)
/-- **new String(chars) AT A CALL, FOR THE WRITER**: a char[] of n known ints, each 0 to 255 -/
theorem backV {p : Program} {l : Launch} {e : Env} {R : Room} {s : State} {args : Array Value} {below : List Frame} {len W : Nat} {Z : State} {a0 : Array Value} {h : Heap} (hZ : Z.Warmed39 s.vm) (hw : ∀ d ∈ words, d.before a0 Z = true) {kI : Nat} (wi : (Jvm.Cond.instantiable ST kI).before a0 Z = true)
    {x b : Addr} {kC : ClassId} {cs bs : List Int32} {d v0 c0 : Value} {z N : Int32} {n n0 : Nat} (hx0 : n0 ≤ x) (hh0 : n0 ≤ h.size) (E : RoadKit.Exa Z h x ST) (V : RoadKit.Fld Z h x ST "value" "[B" v0) (C : RoadKit.Fld Z h x ST "coder" "B" c0) (K : RoadKit.Arv Z h b kC .char N (cs.map Value.int) d) (S : RoadKit.Sta Z h ST "COMPACT_STRINGS" "Z" (.int z)) (hz : ¬ z = 0)
    (hn : cs.length = n) (hN : N = Int32.ofNat n) (l0 : 0 < n) (l2 : n ≤ 4000) (hp : ∀ c ∈ cs, ¬ c < 0 ∧ ¬ (255 : Int32) < c) (hb : bs = cs.map (fun c => c.toInt8.toInt32)) (hfr : 4 ≤ R.frames) (hlo : W + 65 ≤ R.locals) :
    Back l R p e below s args (⟨"java/lang/String", "<init>", "([C)V"⟩ : MethodName) len W (fun P a => a = #[.ref x, .ref b] ∧ P.U.heap = h ∧ P.cells + 1 ≤ R.cells ∧ P.slots + n ≤ R.slots)
      (fun P _ v B => ∃ L, QV Z x N bs h n0 v B.U.heap L ∧ B.locs = P.locs ++ L ∧ B.cells = P.cells + 1 ∧ B.slots = P.slots + n) := by
  subst hn hN hb
  refine Back.mono (backArv hZ hw wi E V C K S hz (n32 (by omega)) l0 (by omega) (fun c hc => (hp c hc).2) hfr hlo) (fun P a hp => hp) (fun P a v B hp hq => ?_)
  obtain ⟨L, ⟨q1, q2, q3, q4, q5, q6, q7, ⟨kb, v1, v2⟩, q9⟩, hl, hc, hs⟩ := hq
  exact ⟨L, ⟨q1, fun y hy => by rw [q2 y hy]; exact hx0, q3, q5, q7, h.size, kb, hh0, Nat.le_refl _, Nat.ne_of_gt E.lt, q6, by rw [List.map_map]; exact v2⟩, hl, hc, hs⟩
end StrChars.Road
end Jvm.Pilot.@@N@@
namespace Jvm.Pilot.@@N@@
open Jvm Jvm.ClassFile Sem Op Lib Jvm.Free Jvm.Stand Jvm.LawKit Jvm.RoadKit Bundle Jvm.Pilot.@@N@@.Jvm.D
theorem own_dloadN {tb : Tables} [Ours tb] {e : Env} {below : List Frame} {T target : State} {m : MethodId} {c : Code} {g : JFrame} (h : At T m c below) (hx : tb.exec = Jvm.exec) (hg : g.method = m) {k : Fin 4} {v : UInt64} (hd : decode c.code g.pc = .ok (.dload_n k, 1)) (hl : g.locals[k.val]? = some (.val (.double v)))
    (hr : Steps tb e below (T.setTop { g with pc := g.pc + 1, stack := .double v :: g.stack }) target) : Steps tb e below (T.setTop g) target := by
  subst hg
  jvm_step h [h.top, hx, hd, hl]
  exact hr
theorem own_dload {tb : Tables} [Ours tb] {e : Env} {below : List Frame} {T target : State} {m : MethodId} {c : Code} {g : JFrame} (h : At T m c below) (hx : tb.exec = Jvm.exec) (hg : g.method = m) {k : Nat} {v : UInt64} (hd : decode c.code g.pc = .ok (.dload k, 2)) (hl : g.locals[k]? = some (.val (.double v)))
    (hr : Steps tb e below (T.setTop { g with pc := g.pc + 2, stack := .double v :: g.stack }) target) : Steps tb e below (T.setTop g) target := by
  subst hg
  jvm_step h [h.top, hx, hd, hl]
  exact hr
theorem own_dstoreN {tb : Tables} [Ours tb] {e : Env} {below : List Frame} {T target : State} {m : MethodId} {c : Code} {g : JFrame} (h : At T m c below) (hx : tb.exec = Jvm.exec) (hg : g.method = m) {k : Fin 4} {x : UInt64} {rest : List Value} {l' : Array Slot} (hd : decode c.code g.pc = .ok (.dstore_n k, 1)) (hs : g.stack = .double x :: rest) (hl : storeLocals g.locals k.val (.double x) = some l')
    (hr : Steps tb e below (T.setTop { g with pc := g.pc + 1, stack := rest, locals := l' }) target) : Steps tb e below (T.setTop g) target := by
  subst hg
  jvm_step h [h.top, hx, hd, hs, hl]
  exact hr
theorem own_dstore {tb : Tables} [Ours tb] {e : Env} {below : List Frame} {T target : State} {m : MethodId} {c : Code} {g : JFrame} (h : At T m c below) (hx : tb.exec = Jvm.exec) (hg : g.method = m) {k : Nat} {x : UInt64} {rest : List Value} {l' : Array Slot} (hd : decode c.code g.pc = .ok (.dstore k, 2)) (hs : g.stack = .double x :: rest) (hl : storeLocals g.locals k (.double x) = some l')
    (hr : Steps tb e below (T.setTop { g with pc := g.pc + 2, stack := rest, locals := l' }) target) : Steps tb e below (T.setTop g) target := by
  subst hg
  jvm_step h [h.top, hx, hd, hs, hl]
  exact hr
theorem own_dconst0 {tb : Tables} [Ours tb] {e : Env} {below : List Frame} {T target : State} {m : MethodId} {c : Code} {g : JFrame} (h : At T m c below) (hx : tb.exec = Jvm.exec) (hg : g.method = m) (hd : decode c.code g.pc = .ok (.dconst 0, 1))
    (hr : Steps tb e below (T.setTop { g with pc := g.pc + 1, stack := .double FP.dconst0 :: g.stack }) target) : Steps tb e below (T.setTop g) target := by
  subst hg
  jvm_step h [h.top, hx, hd]
  exact hr
theorem own_dconst1 {tb : Tables} [Ours tb] {e : Env} {below : List Frame} {T target : State} {m : MethodId} {c : Code} {g : JFrame} (h : At T m c below) (hx : tb.exec = Jvm.exec) (hg : g.method = m) (hd : decode c.code g.pc = .ok (.dconst 1, 1))
    (hr : Steps tb e below (T.setTop { g with pc := g.pc + 1, stack := .double FP.dconst1 :: g.stack }) target) : Steps tb e below (T.setTop g) target := by
  subst hg
  jvm_step h [h.top, hx, hd]
  exact hr
theorem own_i2d {tb : Tables} [Ours tb] {e : Env} {below : List Frame} {T target : State} {m : MethodId} {c : Code} {g : JFrame} (h : At T m c below) (hx : tb.exec = Jvm.exec) (hg : g.method = m) {x : Int32} {rest : List Value} (hd : decode c.code g.pc = .ok (.i2d, 1)) (hs : g.stack = .int x :: rest)
    (hr : Steps tb e below (T.setTop { g with pc := g.pc + 1, stack := .double (FP.i2d x) :: rest }) target) : Steps tb e below (T.setTop g) target := by
  subst hg
  jvm_step h [h.top, hx, hd, hs]
  exact hr
theorem own_l2d {tb : Tables} [Ours tb] {e : Env} {below : List Frame} {T target : State} {m : MethodId} {c : Code} {g : JFrame} (h : At T m c below) (hx : tb.exec = Jvm.exec) (hg : g.method = m) {x : Int64} {rest : List Value} (hd : decode c.code g.pc = .ok (.l2d, 1)) (hs : g.stack = .long x :: rest)
    (hr : Steps tb e below (T.setTop { g with pc := g.pc + 1, stack := .double (FP.l2d x) :: rest }) target) : Steps tb e below (T.setTop g) target := by
  subst hg
  jvm_step h [h.top, hx, hd, hs]
  exact hr
theorem own_d2l {tb : Tables} [Ours tb] {e : Env} {below : List Frame} {T target : State} {m : MethodId} {c : Code} {g : JFrame} (h : At T m c below) (hx : tb.exec = Jvm.exec) (hg : g.method = m) {x : UInt64} {rest : List Value} (hd : decode c.code g.pc = .ok (.d2l, 1)) (hs : g.stack = .double x :: rest)
    (hr : Steps tb e below (T.setTop { g with pc := g.pc + 1, stack := .long (FP.d2l x) :: rest }) target) : Steps tb e below (T.setTop g) target := by
  subst hg
  jvm_step h [h.top, hx, hd, hs]
  exact hr
theorem own_d2i {tb : Tables} [Ours tb] {e : Env} {below : List Frame} {T target : State} {m : MethodId} {c : Code} {g : JFrame} (h : At T m c below) (hx : tb.exec = Jvm.exec) (hg : g.method = m) {x : UInt64} {rest : List Value} (hd : decode c.code g.pc = .ok (.d2i, 1)) (hs : g.stack = .double x :: rest)
    (hr : Steps tb e below (T.setTop { g with pc := g.pc + 1, stack := .int (FP.d2i x) :: rest }) target) : Steps tb e below (T.setTop g) target := by
  subst hg
  jvm_step h [h.top, hx, hd, hs]
  exact hr
theorem own_dneg {tb : Tables} [Ours tb] {e : Env} {below : List Frame} {T target : State} {m : MethodId} {c : Code} {g : JFrame} (h : At T m c below) (hx : tb.exec = Jvm.exec) (hg : g.method = m) {x : UInt64} {rest : List Value} (hd : decode c.code g.pc = .ok (.dneg, 1)) (hs : g.stack = .double x :: rest)
    (hr : Steps tb e below (T.setTop { g with pc := g.pc + 1, stack := .double (FP.dneg x) :: rest }) target) : Steps tb e below (T.setTop g) target := by
  subst hg
  jvm_step h [h.top, hx, hd, hs]
  exact hr
theorem own_dcmp {tb : Tables} [Ours tb] {e : Env} {below : List Frame} {T target : State} {m : MethodId} {c : Code} {g : JFrame} (h : At T m c below) (hx : tb.exec = Jvm.exec) (hg : g.method = m) {op : CmpOp} {x y : UInt64} {rest : List Value} (hd : decode c.code g.pc = .ok (.dcmp op, 1)) (hs : g.stack = .double y :: .double x :: rest)
    (hr : Steps tb e below (T.setTop { g with pc := g.pc + 1, stack := .int (cmpValue (FP.dcmp x y) op) :: rest }) target) : Steps tb e below (T.setTop g) target := by
  subst hg
  jvm_step h [h.top, hx, hd, hs]
  exact hr
theorem own_dadd {tb : Tables} [Ours tb] {e : Env} {below : List Frame} {T target : State} {m : MethodId} {c : Code} {g : JFrame} (h : At T m c below) (hx : tb.exec = Jvm.exec) (hg : g.method = m) {x y : UInt64} {rest : List Value} (hd : decode c.code g.pc = .ok (.dadd, 1)) (hs : g.stack = .double y :: .double x :: rest) (hn : Jvm.Free.Fl.NoNaN64 (FP.dadd x y))
    (hr : Steps tb e below (T.setTop { g with pc := g.pc + 1, stack := .double (FP.dadd x y) :: rest }) target) : Steps tb e below (T.setTop g) target := by
  obtain ⟨gm, gpc, gl, gs, glk, gen, gmr⟩ := g
  subst hg
  dsimp only at hs
  subst hs
  jvm_step h [hx, hd, Op.dadd.at_number h.top hn]
  exact hr
theorem own_dsub {tb : Tables} [Ours tb] {e : Env} {below : List Frame} {T target : State} {m : MethodId} {c : Code} {g : JFrame} (h : At T m c below) (hx : tb.exec = Jvm.exec) (hg : g.method = m) {x y : UInt64} {rest : List Value} (hd : decode c.code g.pc = .ok (.dsub, 1)) (hs : g.stack = .double y :: .double x :: rest) (hn : Jvm.Free.Fl.NoNaN64 (FP.dsub x y))
    (hr : Steps tb e below (T.setTop { g with pc := g.pc + 1, stack := .double (FP.dsub x y) :: rest }) target) : Steps tb e below (T.setTop g) target := by
  obtain ⟨gm, gpc, gl, gs, glk, gen, gmr⟩ := g
  subst hg
  dsimp only at hs
  subst hs
  jvm_step h [hx, hd, Op.dsub.at_number h.top hn]
  exact hr
theorem own_dmul {tb : Tables} [Ours tb] {e : Env} {below : List Frame} {T target : State} {m : MethodId} {c : Code} {g : JFrame} (h : At T m c below) (hx : tb.exec = Jvm.exec) (hg : g.method = m) {x y : UInt64} {rest : List Value} (hd : decode c.code g.pc = .ok (.dmul, 1)) (hs : g.stack = .double y :: .double x :: rest) (hn : Jvm.Free.Fl.NoNaN64 (FP.dmul x y))
    (hr : Steps tb e below (T.setTop { g with pc := g.pc + 1, stack := .double (FP.dmul x y) :: rest }) target) : Steps tb e below (T.setTop g) target := by
  obtain ⟨gm, gpc, gl, gs, glk, gen, gmr⟩ := g
  subst hg
  dsimp only at hs
  subst hs
  jvm_step h [hx, hd, Op.dmul.at_number h.top hn]
  exact hr
theorem own_ddiv {tb : Tables} [Ours tb] {e : Env} {below : List Frame} {T target : State} {m : MethodId} {c : Code} {g : JFrame} (h : At T m c below) (hx : tb.exec = Jvm.exec) (hg : g.method = m) {x y : UInt64} {rest : List Value} (hd : decode c.code g.pc = .ok (.ddiv, 1)) (hs : g.stack = .double y :: .double x :: rest) (hn : Jvm.Free.Fl.NoNaN64 (FP.ddiv x y))
    (hr : Steps tb e below (T.setTop { g with pc := g.pc + 1, stack := .double (FP.ddiv x y) :: rest }) target) : Steps tb e below (T.setTop g) target := by
  obtain ⟨gm, gpc, gl, gs, glk, gen, gmr⟩ := g
  subst hg
  dsimp only at hs
  subst hs
  jvm_step h [hx, hd, Op.ddiv.at_number h.top hn]
  exact hr
theorem own_dup2D {tb : Tables} [Ours tb] {e : Env} {below : List Frame} {T target : State} {m : MethodId} {c : Code} {g : JFrame} (h : At T m c below) (hx : tb.exec = Jvm.exec) (hg : g.method = m) {x : UInt64} {rest : List Value} (hd : decode c.code g.pc = .ok (.dup2, 1)) (hs : g.stack = .double x :: rest)
    (hr : Steps tb e below (T.setTop { g with pc := g.pc + 1, stack := .double x :: .double x :: rest }) target) : Steps tb e below (T.setTop g) target := by
  subst hg
  jvm_step h [h.top, hx, hd, hs, Value.category]
  exact hr
theorem own_retD {p : Program} {l : Launch} {e : Env} {R : Room} {s : State} {m : MethodId} {args : Array Value} {below : List Frame} {meth : Method} {c : Code} {T : State} {locs : List Loc} {cells slots : Nat} (Y : Stand p l e R s m args below meth c T locs cells slots) (hexec : p.tables.exec = Jvm.exec) {pc : Nat} {Ls : Array Slot} {w : UInt64} {rest : List Value} (hret : meth.sig.returnType = some .double)
    (hdg : decode c.code pc = .ok (.dreturn, 1)) {fs : List Frame} (hleave : ∀ (f : JFrame) (acts : List Action), f.method = m → f.locked = none → f.entered = [] → (doReturn e (T.setTop f) acts (some (.double w))).1 = T.setFrames fs) :
    Steps p.tables e below (T.setTop (mkF m pc Ls (.double w :: rest))) (T.setFrames fs) :=
  retOut Y hexec hret rfl (Or.inr (Or.inr (Or.inl ⟨rfl, rfl, w, rfl⟩))) hdg hleave
theorem own_stD {p : Program} {l : Launch} {e : Env} {R : Room} {s : State} {m : MethodId} {args : Array Value} {below : List Frame} {meth : Method} {c : Code} {T : State} {locs : List Loc} {cells slots : Nat} {Z : State} {h : Heap}
    (X : Stand p l e R s m args below meth c T locs cells slots) (hx : p.tables.exec = Jvm.exec) (hZ : Z.Warmed39 s.vm) (eT : T.heap = h) {a : Addr} {cl : Cell} (A : Arr Z h a cl .double) {j : Int32} {x : UInt64} (hj : ¬ (j < 0 ∨ cl.slots.size ≤ j.toNatClampNeg)) {g : JFrame} (hg : g.method = m) {rest : List Value} (hs : g.stack = .double x :: .int j :: .ref a :: rest) (hd : decode c.code g.pc = .ok (.dastore, 1)) :
    ∃ T' h', Stand p l e R s m args below meth c T' (locs ++ [⟨a, j.toNatClampNeg⟩]) cells slots ∧ T'.heap = h' ∧ Wr h h' a j.toNatClampNeg (.double x) ∧ ∀ target, Steps p.tables e below (T'.setTop { g with pc := g.pc + 1, stack := rest }) target → Steps p.tables e below (T.setTop g) target := by
  obtain ⟨X', st⟩ := X.dastore hx (by rw [eT]; exact A.1) (State.isArrayOf_alike hZ.alike A.2.1) A.2.2 hj hg hs hd
  exact ⟨_, _, X', rfl, ⟨cl, A.1, A.plain, Nat.lt_of_not_le fun q => hj (Or.inr q), by rw [← eT]; rfl⟩, st⟩
section OwnCalls
variable {p : Program} {l : Launch} {e : Env} {R : Room} {s : State} {m : MethodId} {args : Array Value} {below : List Frame} {meth : Method} {c : Code} {T : State} {locs : List Loc} {cells slots : Nat} {Z : State} {a0 : Array Value} {h : Heap}
theorem own_virt (X : Stand p l e R s m args below meth c T locs cells slots) (hx : p.tables.exec = Jvm.exec) (hZ : Z.Warmed39 s.vm) {own C : String} {index : Nat} {y : MethodName} (hown : s.vm.findClass own = some m.cls)
    (w1 : (Jvm.Cond.methodLink own index y).before a0 Z = true) (w2 : (Jvm.Cond.declares y).before a0 Z = true) (w3 : (Jvm.Cond.selects C y y).before a0 Z = true) (w4 : (Jvm.Cond.instanceMethod y).before a0 Z = true)
    (hy : y.cls ≠ "java/lang/invoke/MethodHandle" ∧ y.cls ≠ "java/lang/invoke/VarHandle") {bytes : ByteArray} {maxL : Nat} {ret : Option FieldType} {rm : Room} {as' : Array Value} {Q : Option Value → Heap → List Loc → Prop}
    (hM : MetFree l y (head1 [Jvm.Cond.code y bytes maxL ret] rm) (fun α U => α = as' ∧ Z.Warmed39 U.vm ∧ U.heap = h) (fun _ _ _ _ _ => True) (fun _ U o U' => ∃ v L, o = .returned v ∧ Q v U'.heap L ∧ FrameEnd U o U' L rm.cells rm.slots))
    (wc : (Jvm.Cond.code y bytes maxL ret).before a0 Z = true) (wz : (Jvm.Cond.initialized y.cls).before a0 Z = true) (W : Nat) (hf : rm.frames + 1 ≤ R.frames) (hl : W + (maxL + 11) + rm.locals ≤ R.locals)
    {b : Addr} (E : Exa Z h b C) (eT : T.heap = h) (g : JFrame) (hg : g.method = m) (hsize : g.locals.size = c.maxLocals) (argsL rest : List Value) (has : (.ref b :: argsL).toArray = as')
    (hlen : ∀ sig, parseMethodDescriptor y.desc = some sig → argsL.length = sig.parameters.length) (hstack : g.stack = argsL.reverse ++ .ref b :: rest) (hW : 2 * g.monitorRoom + (rest.map fun v => v.category).sum ≤ W)
    (hdg : decode c.code g.pc = .ok (.invokevirtual index, 3)) (hc : cells + rm.cells ≤ R.cells) (hs : slots + rm.slots ≤ R.slots) :
    ∃ (v : Option Value) (T' : State) (L : List Loc), Stand p l e R s m args below meth c T' (locs ++ L) (cells + rm.cells) (slots + rm.slots) ∧ Q v T'.heap L ∧
      ∀ τ, Steps p.tables e below (T'.setTop { g with pc := g.pc + 3, stack := v.toList ++ rest }) τ → Steps p.tables e below (T.setTop g) τ := by
  obtain ⟨cq, kq, qa, qb, qc⟩ := isOf hZ eT E
  obtain ⟨v, _, ⟨T1, L1, k1, n1⟩, -, X1, ⟨Lc, hQ, l1, y1, z1⟩, st⟩ := X.virtualBack hx (y := y) (z := y) hown (mvT hZ w1) (mvT hZ w2) (notFace_of_selects (args := #[]) (mvT hZ w3)) (mvT hZ w3) (mvT hZ w4) hy (backOf (W := W) hM hZ wc wz hf hl) qa qc (g := g) hg hsize (Steps.refl _) (argsL := argsL) (rest := rest) hlen hstack hW hdg (fun _ _ => ⟨has, eT, hc, hs⟩)
  dsimp only [Pt.U, Pt.locs, Pt.cells, Pt.slots] at X1 l1 y1 z1 st hQ
  subst l1 y1 z1
  exact ⟨v, T1, Lc, X1, hQ, fun τ kt => st.trans kt⟩
theorem own_spec (X : Stand p l e R s m args below meth c T locs cells slots) (hx : p.tables.exec = Jvm.exec) (hZ : Z.Warmed39 s.vm) {own : String} {index : Nat} {y : MethodName} (hy1 : y.name = "<init>") (hown : s.vm.findClass own = some m.cls)
    (w1 : (Jvm.Cond.methodLink own index y).before a0 Z = true) (w4 : (Jvm.Cond.instanceMethod y).before a0 Z = true)
    (hy : y.cls ≠ "java/lang/invoke/MethodHandle" ∧ y.cls ≠ "java/lang/invoke/VarHandle") {bytes : ByteArray} {maxL : Nat} {rm : Room} {as' : Array Value} {Q : Option Value → Heap → List Loc → Prop}
    (hM : MetFree l y (head1 [Jvm.Cond.code y bytes maxL none] rm) (fun α U => α = as' ∧ Z.Warmed39 U.vm ∧ U.heap = h) (fun _ _ _ _ _ => True) (fun _ U o U' => ∃ v L, o = .returned v ∧ Q v U'.heap L ∧ FrameEnd U o U' L rm.cells rm.slots))
    (wc : (Jvm.Cond.code y bytes maxL none).before a0 Z = true) (wz : (Jvm.Cond.initialized y.cls).before a0 Z = true) (W : Nat) (hf : rm.frames + 1 ≤ R.frames) (hl : W + (maxL + 11) + rm.locals ≤ R.locals)
    {b : Addr} (eT : T.heap = h) (g : JFrame) (hg : g.method = m) (hsize : g.locals.size = c.maxLocals) (argsL rest : List Value) (has : (.ref b :: argsL).toArray = as')
    (hlen : ∀ sig, parseMethodDescriptor y.desc = some sig → argsL.length = sig.parameters.length) (hstack : g.stack = argsL.reverse ++ .ref b :: rest) (hW : 2 * g.monitorRoom + (rest.map fun v => v.category).sum ≤ W)
    (hdg : decode c.code g.pc = .ok (.invokespecial index, 3)) (hc : cells + rm.cells ≤ R.cells) (hs : slots + rm.slots ≤ R.slots) :
    ∃ (v : Option Value) (T' : State) (L : List Loc), Stand p l e R s m args below meth c T' (locs ++ L) (cells + rm.cells) (slots + rm.slots) ∧ Q v T'.heap L ∧
      ∀ τ, Steps p.tables e below (T'.setTop { g with pc := g.pc + 3, stack := v.toList ++ rest }) τ → Steps p.tables e below (T.setTop g) τ := by
  obtain ⟨v, _, ⟨T1, L1, k1, n1⟩, -, X1, ⟨Lc, hQ, l1, y1, z1⟩, st⟩ := X.specialBack hx (y := y) hy1 hown (mvT hZ w1) (mvT hZ w4) (mvT hZ wc) hy (backOf (W := W) hM hZ wc wz hf hl) (g := g) hg hsize (Steps.refl _) (a := b) (argsL := argsL) (rest := rest) hlen hstack hW hdg (fun _ _ => ⟨has, eT, hc, hs⟩)
  dsimp only [Pt.U, Pt.locs, Pt.cells, Pt.slots] at X1 l1 y1 z1 st hQ
  subst l1 y1 z1
  exact ⟨v, T1, Lc, X1, hQ, fun τ kt => st.trans kt⟩
theorem own_stat (X : Stand p l e R s m args below meth c T locs cells slots) (hx : p.tables.exec = Jvm.exec) (hZ : Z.Warmed39 s.vm) {own : String} {index : Nat} {y : MethodName} (hown : s.vm.findClass own = some m.cls)
    (w1 : (Jvm.Cond.methodLink own index y).before a0 Z = true) (w2 : (Jvm.Cond.static y).before a0 Z = true)
    (hy : y.cls ≠ "java/lang/invoke/MethodHandle" ∧ y.cls ≠ "java/lang/invoke/VarHandle") {bytes : ByteArray} {maxL : Nat} {ret : Option FieldType} {rm : Room} {as' : Array Value} {Q : Option Value → Heap → List Loc → Prop}
    (hM : MetFree l y (head1 [Jvm.Cond.code y bytes maxL ret] rm) (fun α U => α = as' ∧ Z.Warmed39 U.vm ∧ U.heap = h) (fun _ _ _ _ _ => True) (fun _ U o U' => ∃ v L, o = .returned v ∧ Q v U'.heap L ∧ FrameEnd U o U' L rm.cells rm.slots))
    (wc : (Jvm.Cond.code y bytes maxL ret).before a0 Z = true) (wz : (Jvm.Cond.initialized y.cls).before a0 Z = true) (W : Nat) (hf : rm.frames + 1 ≤ R.frames) (hl : W + (maxL + 11) + rm.locals ≤ R.locals)
    (eT : T.heap = h) (g : JFrame) (hg : g.method = m) (hsize : g.locals.size = c.maxLocals) (argsL rest : List Value) (has : argsL.toArray = as')
    (hlen : ∀ sig, parseMethodDescriptor y.desc = some sig → argsL.length = sig.parameters.length) (hstack : g.stack = argsL.reverse ++ rest) (hW : 2 * g.monitorRoom + (rest.map fun v => v.category).sum ≤ W)
    (hdg : decode c.code g.pc = .ok (.invokestatic index, 3)) (hc : cells + rm.cells ≤ R.cells) (hs : slots + rm.slots ≤ R.slots) :
    ∃ (v : Option Value) (T' : State) (L : List Loc), Stand p l e R s m args below meth c T' (locs ++ L) (cells + rm.cells) (slots + rm.slots) ∧ Q v T'.heap L ∧
      ∀ τ, Steps p.tables e below (T'.setTop { g with pc := g.pc + 3, stack := v.toList ++ rest }) τ → Steps p.tables e below (T.setTop g) τ := by
  obtain ⟨v, _, ⟨T1, L1, k1, n1⟩, -, X1, ⟨Lc, hQ, l1, y1, z1⟩, st⟩ := Jvm.LawKit.callS X hx (y := y) hown (mvT hZ w1) (mvT hZ w2) (mvT hZ wz) (mvT hZ wc) hy (backOf (W := W) hM hZ wc wz hf hl) (g := g) hg hsize (argsL := argsL) (rest := rest) hlen hstack hW hdg (fun _ _ => ⟨has, eT, hc, hs⟩)
  dsimp only [Pt.U, Pt.locs, Pt.cells, Pt.slots] at X1 l1 y1 z1 st hQ
  subst l1 y1 z1
  exact ⟨v, T1, Lc, X1, hQ, st⟩
end OwnCalls
theorem own_pd___C_V : parseMethodDescriptor "([C)V" = some ⟨[(.array .char)], none⟩ := by decide +kernel
theorem own_pd__C_Ljava_lang_String_ : parseMethodDescriptor "(C)Ljava/lang/String;" = some ⟨[.char], some (.object "java/lang/String")⟩ := by decide +kernel
theorem own_pd__C_Z : parseMethodDescriptor "(C)Z" = some ⟨[.char], some .boolean⟩ := by decide +kernel
theorem own_pd__C__B : parseMethodDescriptor "(C)[B" = some ⟨[.char], some (.array .byte)⟩ := by decide +kernel
theorem own_pd___BB_V : parseMethodDescriptor "([BB)V" = some ⟨[(.array .byte), .byte], none⟩ := by decide +kernel
theorem own_pd__Ljava_lang_String_Lcom_example_paidthrough_paidthrough_engine_Message_Severity_Ljava_lang_String_Ljava_lang_String__V : parseMethodDescriptor "(Ljava/lang/String;Lcom/example/paidthrough/paidthrough/engine/Message$Severity;Ljava/lang/String;Ljava/lang/String;)V" = some ⟨[(.object "java/lang/String"), (.object "com/example/paidthrough/paidthrough/engine/Message$Severity"), (.object "java/lang/String"), (.object "java/lang/String")], none⟩ := by decide +kernel
theorem own_pd___V : parseMethodDescriptor "()V" = some ⟨[], none⟩ := by decide +kernel
theorem own_pd___Z : parseMethodDescriptor "()Z" = some ⟨[], some .boolean⟩ := by decide +kernel
theorem own_pd___Lcom_example_paidthrough_paidthrough_engine_Message_Severity_ : parseMethodDescriptor "()Lcom/example/paidthrough/paidthrough/engine/Message$Severity;" = some ⟨[], some (.object "com/example/paidthrough/paidthrough/engine/Message$Severity")⟩ := by decide +kernel
theorem own_strw {a0 : Array Value} {Z : State} (hw : ∀ d ∈ tables_1, d.before a0 Z = true) : ∀ d ∈ StrChars.Road.words, d.before a0 Z = true := fun d hd => hw d ((by decide +kernel : ∀ d ∈ StrChars.Road.words, d ∈ tables_1) d hd)
theorem own_chars (x : Int32) : ¬ nar .char ((x &&& (255 : Int32)).toUInt32.toUInt16.toUInt32.toInt32) < 0 ∧ ¬ (255 : Int32) < nar .char ((x &&& (255 : Int32)).toUInt32.toUInt16.toUInt32.toInt32) := by
  have t : ∀ k : Fin 256, ¬ nar .char ((Int32.ofNat k.val).toUInt32.toUInt16.toUInt32.toInt32) < 0 ∧ ¬ (255 : Int32) < nar .char ((Int32.ofNat k.val).toUInt32.toUInt16.toUInt32.toInt32) := by decide +kernel
  have h : (x &&& 255).toBitVec.toNat < 256 := by
    simp only [Int32.toBitVec_and, BitVec.toNat_and]
    exact Nat.lt_succ_of_le Nat.and_le_right
  have e : (x &&& 255) = Int32.ofNat (x &&& 255).toBitVec.toNat := by
    apply Int32.toBitVec_inj.mp
    show _ = BitVec.ofNat 32 _
    rw [BitVec.ofNat_toNat]; simp
  rw [e]
  exact t ⟨_, h⟩
theorem own_char1 (x : Int32) : ¬ (255 : Int32) < ((x &&& (255 : Int32)).toUInt32.toUInt16.toUInt32.toInt32) := by
  have t : ∀ k : Fin 256, ¬ (255 : Int32) < ((Int32.ofNat k.val).toUInt32.toUInt16.toUInt32.toInt32) := by decide +kernel
  have h : (x &&& 255).toBitVec.toNat < 256 := by
    simp only [Int32.toBitVec_and, BitVec.toNat_and]
    exact Nat.lt_succ_of_le Nat.and_le_right
  have e : (x &&& 255) = Int32.ofNat (x &&& 255).toBitVec.toNat := by
    apply Int32.toBitVec_inj.mp
    show _ = BitVec.ofNat 32 _
    rw [BitVec.ofNat_toNat]; simp
  rw [e]
  exact t ⟨_, h⟩
theorem own_exact {args : Array Value} {s : State} {t : Term} {K : String} (h : (Jvm.Cond.exactly t K).value args s none s [] = some true) : ∃ a : Addr, t.eval args s none [] s = some (.ref a) ∧ True := by
  obtain ⟨a', c', cell, k, e1, -⟩ := Cond.exactly_spec (Cond.before_iff.mpr h)
  exact ⟨a', e1, trivial⟩
theorem own_ord_val {args : Array Value} {s : State} {t : Term} {a : Addr} {K n d : String} {z : Int32} (e : t.eval args s none [] s = some (.ref a)) (h : (Jvm.Cond.eq (Jvm.Term.field t K n d) (Jvm.Term.int z)).value args s none s [] = some true) : s.fieldOf? a K n d = some (.int z) := by
  have hf : (Jvm.Term.field t K n d).eval args s none [] s = s.fieldOf? a K n d := by
    show ((Term.eval args s none [] s t).bind _) = _
    rw [e]; rfl
  have hz : (Jvm.Term.int z).eval args s none [] s = some (.int z) := rfl
  unfold Cond.value at h
  rw [hf, hz] at h
  cases hv : s.fieldOf? a K n d with
  | none => rw [hv] at h; exact absurd h (by simp)
  | some v =>
    rw [hv] at h
    cases v <;> simp_all
abbrev own_mn0 : MethodName := ⟨"java/lang/StringLatin1", "canEncode", "(C)Z"⟩
abbrev own_mn1 : MethodName := ⟨"java/lang/StringLatin1", "toBytes", "(C)[B"⟩
abbrev own_mn2 : MethodName := ⟨"java/lang/String", "<init>", "([BB)V"⟩
abbrev own_mn3 : MethodName := ⟨"java/lang/Record", "<init>", "()V"⟩
abbrev own_mn4 : MethodName := ⟨"java/lang/String", "<init>", "([C)V"⟩
abbrev own_mn5 : MethodName := ⟨"java/lang/String", "valueOf", "(C)Ljava/lang/String;"⟩
abbrev own_mn6 : MethodName := ⟨"com/example/paidthrough/paidthrough/engine/Message", "<init>", "(Ljava/lang/String;Lcom/example/paidthrough/paidthrough/engine/Message$Severity;Ljava/lang/String;Ljava/lang/String;)V"⟩
abbrev own_mn7 : MethodName := ⟨"com/example/paidthrough/paidthrough/engine/Message", "isFatal", "()Z"⟩
abbrev own_mn8 : MethodName := ⟨"com/example/paidthrough/paidthrough/engine/Message", "severity", "()Lcom/example/paidthrough/paidthrough/engine/Message$Severity;"⟩
theorem own_W0 {a0 : Array Value} {Z : State} (hw : ∀ d ∈ tables_1, d.before a0 Z = true) : Jvm.Cond.before (Jvm.Cond.constant "com/example/paidthrough/paidthrough/engine/MessageIsFatalPinLaw" (7 : Nat) (2147483647 : Int32)) a0 Z = true := hw _ (List.mem_of_getElem? (i := 0) rfl)
theorem own_W1 {a0 : Array Value} {Z : State} (hw : ∀ d ∈ tables_1, d.before a0 Z = true) : Jvm.Cond.before (Jvm.Cond.fieldLink "com/example/paidthrough/paidthrough/engine/MessageIsFatalPinLaw" (8 : Nat) "com/example/paidthrough/paidthrough/engine/Message$Severity" "FATAL" "Lcom/example/paidthrough/paidthrough/engine/Message$Severity;") a0 Z = true := hw _ (List.mem_of_getElem? (i := 1) rfl)
theorem own_W2 {a0 : Array Value} {Z : State} (hw : ∀ d ∈ tables_1, d.before a0 Z = true) : Jvm.Cond.before (Jvm.Cond.initialized "com/example/paidthrough/paidthrough/engine/Message$Severity") a0 Z = true := hw _ (List.mem_of_getElem? (i := 2) rfl)
theorem own_W3 {a0 : Array Value} {Z : State} (hw : ∀ d ∈ tables_1, d.before a0 Z = true) : Jvm.Cond.before (Jvm.Cond.laysStatic "com/example/paidthrough/paidthrough/engine/Message$Severity" "FATAL" "Lcom/example/paidthrough/paidthrough/engine/Message$Severity;") a0 Z = true := hw _ (List.mem_of_getElem? (i := 3) rfl)
theorem own_W4 {a0 : Array Value} {Z : State} (hw : ∀ d ∈ tables_1, d.before a0 Z = true) : Jvm.Cond.before (Jvm.Cond.classLink "com/example/paidthrough/paidthrough/engine/MessageIsFatalPinLaw" (17 : Nat) "java/lang/String") a0 Z = true := hw _ (List.mem_of_getElem? (i := 4) rfl)
theorem own_W5 {a0 : Array Value} {Z : State} (hw : ∀ d ∈ tables_1, d.before a0 Z = true) : Jvm.Cond.before (Jvm.Cond.instantiable "java/lang/String" (4 : Nat)) a0 Z = true := hw _ (List.mem_of_getElem? (i := 5) rfl)
theorem own_W6 {a0 : Array Value} {Z : State} (hw : ∀ d ∈ tables_1, d.before a0 Z = true) : Jvm.Cond.before (Jvm.Cond.initialized "java/lang/String") a0 Z = true := hw _ (List.mem_of_getElem? (i := 6) rfl)
theorem own_W7 {a0 : Array Value} {Z : State} (hw : ∀ d ∈ tables_1, d.before a0 Z = true) : Jvm.Cond.before (Jvm.Cond.arrayClass Jvm.ClassFile.FieldType.char) a0 Z = true := hw _ (List.mem_of_getElem? (i := 7) rfl)
theorem own_W8 {a0 : Array Value} {Z : State} (hw : ∀ d ∈ tables_1, d.before a0 Z = true) : Jvm.Cond.before (Jvm.Cond.methodLink "com/example/paidthrough/paidthrough/engine/MessageIsFatalPinLaw" (19 : Nat) ({ cls := "java/lang/String", name := "<init>", desc := "([C)V" } : Jvm.MethodName)) a0 Z = true := hw _ (List.mem_of_getElem? (i := 8) rfl)
theorem own_W9 {a0 : Array Value} {Z : State} (hw : ∀ d ∈ tables_1, d.before a0 Z = true) : Jvm.Cond.before (Jvm.Cond.instanceMethod ({ cls := "java/lang/String", name := "<init>", desc := "([C)V" } : Jvm.MethodName)) a0 Z = true := hw _ (List.mem_of_getElem? (i := 9) rfl)
theorem own_W10 {a0 : Array Value} {Z : State} (hw : ∀ d ∈ tables_1, d.before a0 Z = true) : Jvm.Cond.before (Jvm.Cond.code ({ cls := "java/lang/String", name := "<init>", desc := "([C)V" } : Jvm.MethodName) jdk_42_method_3_code (2 : Nat) (Option.none : Option Jvm.ClassFile.FieldType)) a0 Z = true := hw _ (List.mem_of_getElem? (i := 10) rfl)
theorem own_W15 {a0 : Array Value} {Z : State} (hw : ∀ d ∈ tables_1, d.before a0 Z = true) : Jvm.Cond.before (Jvm.Cond.methodLink "java/lang/String" (1 : Nat) ({ cls := "java/lang/Object", name := "<init>", desc := "()V" } : Jvm.MethodName)) a0 Z = true := hw _ (List.mem_of_getElem? (i := 15) rfl)
theorem own_W16 {a0 : Array Value} {Z : State} (hw : ∀ d ∈ tables_1, d.before a0 Z = true) : Jvm.Cond.before (Jvm.Cond.instanceMethod ({ cls := "java/lang/Object", name := "<init>", desc := "()V" } : Jvm.MethodName)) a0 Z = true := hw _ (List.mem_of_getElem? (i := 16) rfl)
theorem own_W17 {a0 : Array Value} {Z : State} (hw : ∀ d ∈ tables_1, d.before a0 Z = true) : Jvm.Cond.before (Jvm.Cond.code ({ cls := "java/lang/Object", name := "<init>", desc := "()V" } : Jvm.MethodName) object_method_1_code (1 : Nat) (Option.none : Option Jvm.ClassFile.FieldType)) a0 Z = true := hw _ (List.mem_of_getElem? (i := 17) rfl)
theorem own_W18 {a0 : Array Value} {Z : State} (hw : ∀ d ∈ tables_1, d.before a0 Z = true) : Jvm.Cond.before (Jvm.Cond.fieldLink "java/lang/String" (38 : Nat) "java/lang/String" "COMPACT_STRINGS" "Z") a0 Z = true := hw _ (List.mem_of_getElem? (i := 18) rfl)
theorem own_W23 {a0 : Array Value} {Z : State} (hw : ∀ d ∈ tables_1, d.before a0 Z = true) : Jvm.Cond.before (Jvm.Cond.arrayClass Jvm.ClassFile.FieldType.byte) a0 Z = true := hw _ (List.mem_of_getElem? (i := 23) rfl)
theorem own_W30 {a0 : Array Value} {Z : State} (hw : ∀ d ∈ tables_1, d.before a0 Z = true) : Jvm.Cond.before (Jvm.Cond.fieldLink "java/lang/String" (15 : Nat) "java/lang/String" "coder" "B") a0 Z = true := hw _ (List.mem_of_getElem? (i := 30) rfl)
theorem own_W31 {a0 : Array Value} {Z : State} (hw : ∀ d ∈ tables_1, d.before a0 Z = true) : Jvm.Cond.before (Jvm.Cond.laysFinal "java/lang/String" "java/lang/String" "coder" "B") a0 Z = true := hw _ (List.mem_of_getElem? (i := 31) rfl)
theorem own_W32 {a0 : Array Value} {Z : State} (hw : ∀ d ∈ tables_1, d.before a0 Z = true) : Jvm.Cond.before (Jvm.Cond.fieldLink "java/lang/String" (9 : Nat) "java/lang/String" "value" "[B") a0 Z = true := hw _ (List.mem_of_getElem? (i := 32) rfl)
theorem own_W33 {a0 : Array Value} {Z : State} (hw : ∀ d ∈ tables_1, d.before a0 Z = true) : Jvm.Cond.before (Jvm.Cond.laysFinal "java/lang/String" "java/lang/String" "value" "[B") a0 Z = true := hw _ (List.mem_of_getElem? (i := 33) rfl)
theorem own_W34 {a0 : Array Value} {Z : State} (hw : ∀ d ∈ tables_1, d.before a0 Z = true) : Jvm.Cond.before (Jvm.Cond.methodLink "com/example/paidthrough/paidthrough/engine/MessageIsFatalPinLaw" (22 : Nat) ({ cls := "java/lang/String", name := "valueOf", desc := "(C)Ljava/lang/String;" } : Jvm.MethodName)) a0 Z = true := hw _ (List.mem_of_getElem? (i := 34) rfl)
theorem own_W35 {a0 : Array Value} {Z : State} (hw : ∀ d ∈ tables_1, d.before a0 Z = true) : Jvm.Cond.before (Jvm.Cond.static ({ cls := "java/lang/String", name := "valueOf", desc := "(C)Ljava/lang/String;" } : Jvm.MethodName)) a0 Z = true := hw _ (List.mem_of_getElem? (i := 35) rfl)
theorem own_W36 {a0 : Array Value} {Z : State} (hw : ∀ d ∈ tables_1, d.before a0 Z = true) : Jvm.Cond.before (Jvm.Cond.code ({ cls := "java/lang/String", name := "valueOf", desc := "(C)Ljava/lang/String;" } : Jvm.MethodName) jdk_42_method_139_code (1 : Nat) (Option.some (Jvm.ClassFile.FieldType.object "java/lang/String"))) a0 Z = true := hw _ (List.mem_of_getElem? (i := 36) rfl)
theorem own_W37 {a0 : Array Value} {Z : State} (hw : ∀ d ∈ tables_1, d.before a0 Z = true) : Jvm.Cond.before (Jvm.Cond.methodLink "java/lang/String" (1015 : Nat) ({ cls := "java/lang/StringLatin1", name := "canEncode", desc := "(C)Z" } : Jvm.MethodName)) a0 Z = true := hw _ (List.mem_of_getElem? (i := 37) rfl)
theorem own_W38 {a0 : Array Value} {Z : State} (hw : ∀ d ∈ tables_1, d.before a0 Z = true) : Jvm.Cond.before (Jvm.Cond.static ({ cls := "java/lang/StringLatin1", name := "canEncode", desc := "(C)Z" } : Jvm.MethodName)) a0 Z = true := hw _ (List.mem_of_getElem? (i := 38) rfl)
theorem own_W39 {a0 : Array Value} {Z : State} (hw : ∀ d ∈ tables_1, d.before a0 Z = true) : Jvm.Cond.before (Jvm.Cond.initialized "java/lang/StringLatin1") a0 Z = true := hw _ (List.mem_of_getElem? (i := 39) rfl)
theorem own_W40 {a0 : Array Value} {Z : State} (hw : ∀ d ∈ tables_1, d.before a0 Z = true) : Jvm.Cond.before (Jvm.Cond.code ({ cls := "java/lang/StringLatin1", name := "canEncode", desc := "(C)Z" } : Jvm.MethodName) jdk_43_method_3_code (1 : Nat) (Option.some Jvm.ClassFile.FieldType.boolean)) a0 Z = true := hw _ (List.mem_of_getElem? (i := 40) rfl)
theorem own_W41 {a0 : Array Value} {Z : State} (hw : ∀ d ∈ tables_1, d.before a0 Z = true) : Jvm.Cond.before (Jvm.Cond.classLink "java/lang/String" (10 : Nat) "java/lang/String") a0 Z = true := hw _ (List.mem_of_getElem? (i := 41) rfl)
theorem own_W42 {a0 : Array Value} {Z : State} (hw : ∀ d ∈ tables_1, d.before a0 Z = true) : Jvm.Cond.before (Jvm.Cond.methodLink "java/lang/String" (1018 : Nat) ({ cls := "java/lang/StringLatin1", name := "toBytes", desc := "(C)[B" } : Jvm.MethodName)) a0 Z = true := hw _ (List.mem_of_getElem? (i := 42) rfl)
theorem own_W43 {a0 : Array Value} {Z : State} (hw : ∀ d ∈ tables_1, d.before a0 Z = true) : Jvm.Cond.before (Jvm.Cond.static ({ cls := "java/lang/StringLatin1", name := "toBytes", desc := "(C)[B" } : Jvm.MethodName)) a0 Z = true := hw _ (List.mem_of_getElem? (i := 43) rfl)
theorem own_W44 {a0 : Array Value} {Z : State} (hw : ∀ d ∈ tables_1, d.before a0 Z = true) : Jvm.Cond.before (Jvm.Cond.code ({ cls := "java/lang/StringLatin1", name := "toBytes", desc := "(C)[B" } : Jvm.MethodName) jdk_43_method_46_code (1 : Nat) (Option.some (Jvm.ClassFile.FieldType.array Jvm.ClassFile.FieldType.byte))) a0 Z = true := hw _ (List.mem_of_getElem? (i := 44) rfl)
theorem own_W45 {a0 : Array Value} {Z : State} (hw : ∀ d ∈ tables_1, d.before a0 Z = true) : Jvm.Cond.before (Jvm.Cond.methodLink "java/lang/String" (209 : Nat) ({ cls := "java/lang/String", name := "<init>", desc := "([BB)V" } : Jvm.MethodName)) a0 Z = true := hw _ (List.mem_of_getElem? (i := 45) rfl)
theorem own_W46 {a0 : Array Value} {Z : State} (hw : ∀ d ∈ tables_1, d.before a0 Z = true) : Jvm.Cond.before (Jvm.Cond.instanceMethod ({ cls := "java/lang/String", name := "<init>", desc := "([BB)V" } : Jvm.MethodName)) a0 Z = true := hw _ (List.mem_of_getElem? (i := 46) rfl)
theorem own_W47 {a0 : Array Value} {Z : State} (hw : ∀ d ∈ tables_1, d.before a0 Z = true) : Jvm.Cond.before (Jvm.Cond.code ({ cls := "java/lang/String", name := "<init>", desc := "([BB)V" } : Jvm.MethodName) jdk_42_method_151_code (3 : Nat) (Option.none : Option Jvm.ClassFile.FieldType)) a0 Z = true := hw _ (List.mem_of_getElem? (i := 47) rfl)
theorem own_W48 {a0 : Array Value} {Z : State} (hw : ∀ d ∈ tables_1, d.before a0 Z = true) : Jvm.Cond.before (Jvm.Cond.classLink "com/example/paidthrough/paidthrough/engine/MessageIsFatalPinLaw" (26 : Nat) "com/example/paidthrough/paidthrough/engine/Message") a0 Z = true := hw _ (List.mem_of_getElem? (i := 48) rfl)
theorem own_W49 {a0 : Array Value} {Z : State} (hw : ∀ d ∈ tables_1, d.before a0 Z = true) : Jvm.Cond.before (Jvm.Cond.instantiable "com/example/paidthrough/paidthrough/engine/Message" (4 : Nat)) a0 Z = true := hw _ (List.mem_of_getElem? (i := 49) rfl)
theorem own_W50 {a0 : Array Value} {Z : State} (hw : ∀ d ∈ tables_1, d.before a0 Z = true) : Jvm.Cond.before (Jvm.Cond.initialized "com/example/paidthrough/paidthrough/engine/Message") a0 Z = true := hw _ (List.mem_of_getElem? (i := 50) rfl)
theorem own_W51 {a0 : Array Value} {Z : State} (hw : ∀ d ∈ tables_1, d.before a0 Z = true) : Jvm.Cond.before (Jvm.Cond.methodLink "com/example/paidthrough/paidthrough/engine/MessageIsFatalPinLaw" (28 : Nat) ({ cls := "com/example/paidthrough/paidthrough/engine/Message", name := "<init>", desc := "(Ljava/lang/String;Lcom/example/paidthrough/paidthrough/engine/Message$Severity;Ljava/lang/String;Ljava/lang/String;)V" } : Jvm.MethodName)) a0 Z = true := hw _ (List.mem_of_getElem? (i := 51) rfl)
theorem own_W52 {a0 : Array Value} {Z : State} (hw : ∀ d ∈ tables_1, d.before a0 Z = true) : Jvm.Cond.before (Jvm.Cond.instanceMethod ({ cls := "com/example/paidthrough/paidthrough/engine/Message", name := "<init>", desc := "(Ljava/lang/String;Lcom/example/paidthrough/paidthrough/engine/Message$Severity;Ljava/lang/String;Ljava/lang/String;)V" } : Jvm.MethodName)) a0 Z = true := hw _ (List.mem_of_getElem? (i := 52) rfl)
theorem own_W53 {a0 : Array Value} {Z : State} (hw : ∀ d ∈ tables_1, d.before a0 Z = true) : Jvm.Cond.before (Jvm.Cond.code ({ cls := "com/example/paidthrough/paidthrough/engine/Message", name := "<init>", desc := "(Ljava/lang/String;Lcom/example/paidthrough/paidthrough/engine/Message$Severity;Ljava/lang/String;Ljava/lang/String;)V" } : Jvm.MethodName) prog_110_method_1_code (5 : Nat) (Option.none : Option Jvm.ClassFile.FieldType)) a0 Z = true := hw _ (List.mem_of_getElem? (i := 53) rfl)
theorem own_W54 {a0 : Array Value} {Z : State} (hw : ∀ d ∈ tables_1, d.before a0 Z = true) : Jvm.Cond.before (Jvm.Cond.methodLink "com/example/paidthrough/paidthrough/engine/Message" (1 : Nat) ({ cls := "java/lang/Record", name := "<init>", desc := "()V" } : Jvm.MethodName)) a0 Z = true := hw _ (List.mem_of_getElem? (i := 54) rfl)
theorem own_W55 {a0 : Array Value} {Z : State} (hw : ∀ d ∈ tables_1, d.before a0 Z = true) : Jvm.Cond.before (Jvm.Cond.instanceMethod ({ cls := "java/lang/Record", name := "<init>", desc := "()V" } : Jvm.MethodName)) a0 Z = true := hw _ (List.mem_of_getElem? (i := 55) rfl)
theorem own_W57 {a0 : Array Value} {Z : State} (hw : ∀ d ∈ tables_1, d.before a0 Z = true) : Jvm.Cond.before (Jvm.Cond.initialized "java/lang/Record") a0 Z = true := hw _ (List.mem_of_getElem? (i := 57) rfl)
theorem own_W58 {a0 : Array Value} {Z : State} (hw : ∀ d ∈ tables_1, d.before a0 Z = true) : Jvm.Cond.before (Jvm.Cond.code ({ cls := "java/lang/Record", name := "<init>", desc := "()V" } : Jvm.MethodName) jdk_30_method_1_code (1 : Nat) (Option.none : Option Jvm.ClassFile.FieldType)) a0 Z = true := hw _ (List.mem_of_getElem? (i := 58) rfl)
theorem own_W59 {a0 : Array Value} {Z : State} (hw : ∀ d ∈ tables_1, d.before a0 Z = true) : Jvm.Cond.before (Jvm.Cond.methodLink "java/lang/Record" (1 : Nat) ({ cls := "java/lang/Object", name := "<init>", desc := "()V" } : Jvm.MethodName)) a0 Z = true := hw _ (List.mem_of_getElem? (i := 59) rfl)
theorem own_W60 {a0 : Array Value} {Z : State} (hw : ∀ d ∈ tables_1, d.before a0 Z = true) : Jvm.Cond.before (Jvm.Cond.fieldLink "com/example/paidthrough/paidthrough/engine/Message" (7 : Nat) "com/example/paidthrough/paidthrough/engine/Message" "code" "Ljava/lang/String;") a0 Z = true := hw _ (List.mem_of_getElem? (i := 60) rfl)
theorem own_W61 {a0 : Array Value} {Z : State} (hw : ∀ d ∈ tables_1, d.before a0 Z = true) : Jvm.Cond.before (Jvm.Cond.laysFinal "com/example/paidthrough/paidthrough/engine/Message" "com/example/paidthrough/paidthrough/engine/Message" "code" "Ljava/lang/String;") a0 Z = true := hw _ (List.mem_of_getElem? (i := 61) rfl)
theorem own_W62 {a0 : Array Value} {Z : State} (hw : ∀ d ∈ tables_1, d.before a0 Z = true) : Jvm.Cond.before (Jvm.Cond.fieldLink "com/example/paidthrough/paidthrough/engine/Message" (13 : Nat) "com/example/paidthrough/paidthrough/engine/Message" "severity" "Lcom/example/paidthrough/paidthrough/engine/Message$Severity;") a0 Z = true := hw _ (List.mem_of_getElem? (i := 62) rfl)
theorem own_W63 {a0 : Array Value} {Z : State} (hw : ∀ d ∈ tables_1, d.before a0 Z = true) : Jvm.Cond.before (Jvm.Cond.laysFinal "com/example/paidthrough/paidthrough/engine/Message" "com/example/paidthrough/paidthrough/engine/Message" "severity" "Lcom/example/paidthrough/paidthrough/engine/Message$Severity;") a0 Z = true := hw _ (List.mem_of_getElem? (i := 63) rfl)
theorem own_W64 {a0 : Array Value} {Z : State} (hw : ∀ d ∈ tables_1, d.before a0 Z = true) : Jvm.Cond.before (Jvm.Cond.fieldLink "com/example/paidthrough/paidthrough/engine/Message" (17 : Nat) "com/example/paidthrough/paidthrough/engine/Message" "policy" "Ljava/lang/String;") a0 Z = true := hw _ (List.mem_of_getElem? (i := 64) rfl)
theorem own_W65 {a0 : Array Value} {Z : State} (hw : ∀ d ∈ tables_1, d.before a0 Z = true) : Jvm.Cond.before (Jvm.Cond.laysFinal "com/example/paidthrough/paidthrough/engine/Message" "com/example/paidthrough/paidthrough/engine/Message" "policy" "Ljava/lang/String;") a0 Z = true := hw _ (List.mem_of_getElem? (i := 65) rfl)
theorem own_W66 {a0 : Array Value} {Z : State} (hw : ∀ d ∈ tables_1, d.before a0 Z = true) : Jvm.Cond.before (Jvm.Cond.fieldLink "com/example/paidthrough/paidthrough/engine/Message" (20 : Nat) "com/example/paidthrough/paidthrough/engine/Message" "text" "Ljava/lang/String;") a0 Z = true := hw _ (List.mem_of_getElem? (i := 66) rfl)
theorem own_W67 {a0 : Array Value} {Z : State} (hw : ∀ d ∈ tables_1, d.before a0 Z = true) : Jvm.Cond.before (Jvm.Cond.laysFinal "com/example/paidthrough/paidthrough/engine/Message" "com/example/paidthrough/paidthrough/engine/Message" "text" "Ljava/lang/String;") a0 Z = true := hw _ (List.mem_of_getElem? (i := 67) rfl)
theorem own_W68 {a0 : Array Value} {Z : State} (hw : ∀ d ∈ tables_1, d.before a0 Z = true) : Jvm.Cond.before (Jvm.Cond.methodLink "com/example/paidthrough/paidthrough/engine/MessageIsFatalPinLaw" (31 : Nat) ({ cls := "com/example/paidthrough/paidthrough/engine/Message", name := "isFatal", desc := "()Z" } : Jvm.MethodName)) a0 Z = true := hw _ (List.mem_of_getElem? (i := 68) rfl)
theorem own_W69 {a0 : Array Value} {Z : State} (hw : ∀ d ∈ tables_1, d.before a0 Z = true) : Jvm.Cond.before (Jvm.Cond.declares ({ cls := "com/example/paidthrough/paidthrough/engine/Message", name := "isFatal", desc := "()Z" } : Jvm.MethodName)) a0 Z = true := hw _ (List.mem_of_getElem? (i := 69) rfl)
theorem own_W70 {a0 : Array Value} {Z : State} (hw : ∀ d ∈ tables_1, d.before a0 Z = true) : Jvm.Cond.before (Jvm.Cond.instanceMethod ({ cls := "com/example/paidthrough/paidthrough/engine/Message", name := "isFatal", desc := "()Z" } : Jvm.MethodName)) a0 Z = true := hw _ (List.mem_of_getElem? (i := 70) rfl)
theorem own_W71 {a0 : Array Value} {Z : State} (hw : ∀ d ∈ tables_1, d.before a0 Z = true) : Jvm.Cond.before (Jvm.Cond.selects "com/example/paidthrough/paidthrough/engine/Message" ({ cls := "com/example/paidthrough/paidthrough/engine/Message", name := "isFatal", desc := "()Z" } : Jvm.MethodName) ({ cls := "com/example/paidthrough/paidthrough/engine/Message", name := "isFatal", desc := "()Z" } : Jvm.MethodName)) a0 Z = true := hw _ (List.mem_of_getElem? (i := 71) rfl)
theorem own_W72 {a0 : Array Value} {Z : State} (hw : ∀ d ∈ tables_1, d.before a0 Z = true) : Jvm.Cond.before (Jvm.Cond.code ({ cls := "com/example/paidthrough/paidthrough/engine/Message", name := "isFatal", desc := "()Z" } : Jvm.MethodName) prog_110_method_2_code (1 : Nat) (Option.some Jvm.ClassFile.FieldType.boolean)) a0 Z = true := hw _ (List.mem_of_getElem? (i := 72) rfl)
theorem own_W73 {a0 : Array Value} {Z : State} (hw : ∀ d ∈ tables_1, d.before a0 Z = true) : Jvm.Cond.before (Jvm.Cond.fieldLink "com/example/paidthrough/paidthrough/engine/Message" (23 : Nat) "com/example/paidthrough/paidthrough/engine/Message$Severity" "FATAL" "Lcom/example/paidthrough/paidthrough/engine/Message$Severity;") a0 Z = true := hw _ (List.mem_of_getElem? (i := 73) rfl)
theorem own_W74 {a0 : Array Value} {Z : State} (hw : ∀ d ∈ tables_1, d.before a0 Z = true) : Jvm.Cond.before (Jvm.Cond.methodLink "com/example/paidthrough/paidthrough/engine/MessageIsFatalPinLaw" (35 : Nat) ({ cls := "com/example/paidthrough/paidthrough/engine/Message", name := "severity", desc := "()Lcom/example/paidthrough/paidthrough/engine/Message$Severity;" } : Jvm.MethodName)) a0 Z = true := hw _ (List.mem_of_getElem? (i := 74) rfl)
theorem own_W75 {a0 : Array Value} {Z : State} (hw : ∀ d ∈ tables_1, d.before a0 Z = true) : Jvm.Cond.before (Jvm.Cond.declares ({ cls := "com/example/paidthrough/paidthrough/engine/Message", name := "severity", desc := "()Lcom/example/paidthrough/paidthrough/engine/Message$Severity;" } : Jvm.MethodName)) a0 Z = true := hw _ (List.mem_of_getElem? (i := 75) rfl)
theorem own_W76 {a0 : Array Value} {Z : State} (hw : ∀ d ∈ tables_1, d.before a0 Z = true) : Jvm.Cond.before (Jvm.Cond.instanceMethod ({ cls := "com/example/paidthrough/paidthrough/engine/Message", name := "severity", desc := "()Lcom/example/paidthrough/paidthrough/engine/Message$Severity;" } : Jvm.MethodName)) a0 Z = true := hw _ (List.mem_of_getElem? (i := 76) rfl)
theorem own_W77 {a0 : Array Value} {Z : State} (hw : ∀ d ∈ tables_1, d.before a0 Z = true) : Jvm.Cond.before (Jvm.Cond.selects "com/example/paidthrough/paidthrough/engine/Message" ({ cls := "com/example/paidthrough/paidthrough/engine/Message", name := "severity", desc := "()Lcom/example/paidthrough/paidthrough/engine/Message$Severity;" } : Jvm.MethodName) ({ cls := "com/example/paidthrough/paidthrough/engine/Message", name := "severity", desc := "()Lcom/example/paidthrough/paidthrough/engine/Message$Severity;" } : Jvm.MethodName)) a0 Z = true := hw _ (List.mem_of_getElem? (i := 77) rfl)
theorem own_W78 {a0 : Array Value} {Z : State} (hw : ∀ d ∈ tables_1, d.before a0 Z = true) : Jvm.Cond.before (Jvm.Cond.code ({ cls := "com/example/paidthrough/paidthrough/engine/Message", name := "severity", desc := "()Lcom/example/paidthrough/paidthrough/engine/Message$Severity;" } : Jvm.MethodName) prog_110_method_7_code (1 : Nat) (Option.some (Jvm.ClassFile.FieldType.object "com/example/paidthrough/paidthrough/engine/Message$Severity"))) a0 Z = true := hw _ (List.mem_of_getElem? (i := 78) rfl)
theorem own_W79 {a0 : Array Value} {Z : State} (hw : ∀ d ∈ tables_1, d.before a0 Z = true) : Jvm.Cond.before (Jvm.Cond.fieldLink "com/example/paidthrough/paidthrough/engine/MessageIsFatalPinLaw" (14 : Nat) "com/example/paidthrough/paidthrough/engine/Message$Severity" "INFORMATIVE" "Lcom/example/paidthrough/paidthrough/engine/Message$Severity;") a0 Z = true := hw _ (List.mem_of_getElem? (i := 79) rfl)
theorem own_W80 {a0 : Array Value} {Z : State} (hw : ∀ d ∈ tables_1, d.before a0 Z = true) : Jvm.Cond.before (Jvm.Cond.laysStatic "com/example/paidthrough/paidthrough/engine/Message$Severity" "INFORMATIVE" "Lcom/example/paidthrough/paidthrough/engine/Message$Severity;") a0 Z = true := hw _ (List.mem_of_getElem? (i := 80) rfl)
def QU (h0 : Heap) (n0 : Nat) (v : Option Value) (h : Heap) (L : List Loc) : Prop := v = none ∧ Fr n0 L ∧ h = h0
def QZ (z : Value) (h0 : Heap) (n0 : Nat) (v : Option Value) (h : Heap) (L : List Loc) : Prop := v = some z ∧ Fr n0 L ∧ h = h0
theorem d12_0 : decode jdk_30_method_1_code 0 = .ok (.aload_n 0, 1) := by decide +kernel
theorem d12_1 : decode jdk_30_method_1_code 1 = .ok (.invokespecial 1, 3) := by decide +kernel
theorem d12_4 : decode jdk_30_method_1_code 4 = .ok (.return_, 1) := by decide +kernel
theorem own_pn_java_lang_Record : plainName "java/lang/Record" = true := by first | (simp [plainName, overriddenIn]; done) | decide +kernel
theorem own_ef12 (m : MethodId) (x0 : Addr) : entryFrame m #[(.ref x0)] 1 = mkF m 0 #[.val (.ref x0)] [] := by first | (simp [entryFrame, mkF, argsToLocals, Value.category]; done) | rfl
set_option maxRecDepth 65536 in
set_option maxHeartbeats 40000000 in
theorem rmR (l : Launch) (Z : State) (a0 : Array Value) (hw : ∀ d ∈ tables_1, d.before a0 Z = true) (ws : List Jvm.Cond) (a : Addr)  (h0 : Heap) (n0 : Nat) (Z0 : n0 ≤ h0.size)  :
    MetFree l (⟨"java/lang/Record", "<init>", "()V"⟩ : MethodName) (head1 (Jvm.Cond.code (⟨"java/lang/Record", "<init>", "()V"⟩ : MethodName) jdk_30_method_1_code 1 none :: ws) ({ frames := 1, cells := 0, slots := 0, locals := 12 } : Room)) (fun α U => α = #[(.ref a)] ∧ Z.Warmed39 U.vm ∧ U.heap = h0) (fun _ _ _ _ _ => True) (fun _ U ω U' => ∃ ν Λ, ω = .returned ν ∧ QU h0 n0 ν U'.heap Λ ∧ FrameEnd U ω U' Λ ({ frames := 1, cells := 0, slots := 0, locals := 12 } : Room).cells ({ frames := 1, cells := 0, slots := 0, locals := 12 } : Room).slots) := by
  refine MetFree.of_bodySF (plainFor_of_name own_pn_java_lang_Record) hisR ?_
  intro p e s m args below meth c s₁ Bd hml0 hP hK
  obtain ⟨rfl, hZ, hh⟩ := hP
  have hx := Bd.exec
  have hby := Bd.bytes
  have hml : c.maxLocals = 1 := hml0
  have hown : s.vm.findClass "java/lang/Record" = some m.cls := findClass_of_methodNamed Bd.named
  have hnm := (name_of_methodNamed Bd.named Bd.method).1
  have X0 : Stand p l e ({ frames := 1, cells := 0, slots := 0, locals := 12 } : Room) s m #[(.ref a)] below meth c s₁ [] 0 0 := Stand.of_body Bd
  have e0 : s₁.heap = h0 := by rw [← hh, Bd.state]; rfl
  have N0 := Fr.nil n0
  have KK0 : Keep h0 h0 [] := Keep.refl h0 []
  obtain ⟨PS, hPS⟩ : ∃ P : State → Prop, P = fun τ => Steps p.tables e below (s₁.setTop (entryFrame m #[(.ref a)] 1)) τ := ⟨_, rfl⟩
  have pre0 : ∀ τ, Steps p.tables e below (s₁.setTop (mkF m 0 #[.val (.ref a)] [])) τ → PS τ := by rw [hPS]; exact fun τ κ => castTop (own_ef12 m a) κ
  obtain ⟨T1, X1, e1, st1⟩ := initO X0 hx hZ hown (own_W59 hw) (own_W16 hw) (own_W17 hw) e0 (g := (mkF m 1 #[.val (.ref a)] [(.ref a)])) rfl (by rw [hml]; rfl) rfl (Jvm.hb hby d12_1) (by decide) (W := 0) (by show 2 * 0 + _ ≤ _; exact Nat.le_of_eq rfl) (by decide)
  have pre2 := fun (τ : State) kt => pre0 τ (by
    show Steps p.tables e below (s₁.setTop (mkF m 0 #[.val (.ref a)] [])) τ
    refine XS.aloadN X0.here hx rfl (Jvm.hb hby d12_0) rfl rfl ?_
    exact st1 τ kt)
  obtain ⟨fs, hrL, hrun, hended, hW, hsame⟩ := X1.leave (v := none) (fun _ => rfl)
  refine ⟨_, _, cast (congrFun hPS _) (pre2 _ ?_), hrun, hended, _, _, rfl, ?_, ⟨_, rfl⟩, hW, hsame.mono (by decide) (by decide)⟩
  · show Steps p.tables e below (T1.setTop (mkF m 4 #[.val (.ref a)] [])) _
    exact X1.returnOut hx Bd.returns (Jvm.hb hby d12_4) hrL
  · show QU h0 n0 _ T1.heap _
    rw [e1]
    exact ⟨rfl, N0, rfl⟩
theorem d8_0 : decode jdk_43_method_3_code 0 = .ok (.iload_n 0, 1) := by decide +kernel
theorem d8_1 : decode jdk_43_method_3_code 1 = .ok (.sipush 255, 3) := by decide +kernel
theorem d8_4 : decode jdk_43_method_3_code 4 = .ok (.if_icmp .gt 7, 3) := by decide +kernel
theorem d8_7 : decode jdk_43_method_3_code 7 = .ok (.iconst 1, 1) := by decide +kernel
theorem d8_8 : decode jdk_43_method_3_code 8 = .ok (.goto 4, 3) := by decide +kernel
theorem d8_11 : decode jdk_43_method_3_code 11 = .ok (.iconst 0, 1) := by decide +kernel
theorem d8_12 : decode jdk_43_method_3_code 12 = .ok (.ireturn, 1) := by decide +kernel
theorem own_pn_java_lang_StringLatin1 : plainName "java/lang/StringLatin1" = true := by first | (simp [plainName, overriddenIn]; done) | decide +kernel
theorem own_ef8 (m : MethodId) (x0 : Int32) : entryFrame m #[(.int x0)] 1 = mkF m 0 #[.val (.int x0)] [] := by first | (simp [entryFrame, mkF, argsToLocals, Value.category]; done) | rfl
set_option maxRecDepth 65536 in
set_option maxHeartbeats 40000000 in
theorem rmC (l : Launch) (Z : State) (a0 : Array Value) (hw : ∀ d ∈ tables_1, d.before a0 Z = true) (ws : List Jvm.Cond) (ch : Int32)  (h0 : Heap) (n0 : Nat) (Z0 : n0 ≤ h0.size) (hc : ¬ (255 : Int32) < ch) :
    MetFree l (⟨"java/lang/StringLatin1", "canEncode", "(C)Z"⟩ : MethodName) (head1 (Jvm.Cond.code (⟨"java/lang/StringLatin1", "canEncode", "(C)Z"⟩ : MethodName) jdk_43_method_3_code 1 (some .boolean) :: ws) ({ frames := 0, cells := 0, slots := 0, locals := 0 } : Room)) (fun α U => α = #[(.int ch)] ∧ Z.Warmed39 U.vm ∧ U.heap = h0) (fun _ _ _ _ _ => True) (fun _ U ω U' => ∃ ν Λ, ω = .returned ν ∧ QZ (.int 1) h0 n0 ν U'.heap Λ ∧ FrameEnd U ω U' Λ ({ frames := 0, cells := 0, slots := 0, locals := 0 } : Room).cells ({ frames := 0, cells := 0, slots := 0, locals := 0 } : Room).slots) := by
  refine MetFree.of_bodySF (plainFor_of_name own_pn_java_lang_StringLatin1) hisR ?_
  intro p e s m args below meth c s₁ Bd hml0 hP hK
  obtain ⟨rfl, hZ, hh⟩ := hP
  have hx := Bd.exec
  have hby := Bd.bytes
  have hml : c.maxLocals = 1 := hml0
  have hown : s.vm.findClass "java/lang/StringLatin1" = some m.cls := findClass_of_methodNamed Bd.named
  have hnm := (name_of_methodNamed Bd.named Bd.method).1
  have X0 : Stand p l e ({ frames := 0, cells := 0, slots := 0, locals := 0 } : Room) s m #[(.int ch)] below meth c s₁ [] 0 0 := Stand.of_body Bd
  have e0 : s₁.heap = h0 := by rw [← hh, Bd.state]; rfl
  have N0 := Fr.nil n0
  have KK0 : Keep h0 h0 [] := Keep.refl h0 []
  obtain ⟨PS, hPS⟩ : ∃ P : State → Prop, P = fun τ => Steps p.tables e below (s₁.setTop (entryFrame m #[(.int ch)] 1)) τ := ⟨_, rfl⟩
  have pre0 : ∀ τ, Steps p.tables e below (s₁.setTop (mkF m 0 #[.val (.int ch)] [])) τ → PS τ := by rw [hPS]; exact fun τ κ => castTop (own_ef8 m ch) κ
  have pre3 := fun (τ : State) kt => pre0 τ (by
    show Steps p.tables e below (s₁.setTop (mkF m 0 #[.val (.int ch)] [])) τ
    refine XS.iloadN X0.here hx rfl (Jvm.hb hby d8_0) rfl ?_
    refine XS.sipush X0.here hx rfl (Jvm.hb hby d8_1) ?_
    refine XS.icmpNo X0.here hx rfl (Jvm.hb hby d8_4) rfl (flt hc).2.2.1 ?_
    refine XS.iconst X0.here hx rfl (Jvm.hb hby d8_7) ?_
    refine XS.goto X0.here hx rfl (pc0 := 8) (pc' := 12) rfl (Jvm.hb hby d8_8) (by decide) (by decide) ?_
    exact kt)
  obtain ⟨fs, hrL, hrun, hended, hW, hsame⟩ := X0.leave (v := some (.int (1 : Int32))) (fun h => by rw [Bd.returns] at h; cases h)
  refine ⟨_, _, cast (congrFun hPS _) (pre3 _ ?_), hrun, hended, _, _, rfl, ?_, ⟨_, rfl⟩, hW, hsame.mono (by decide) (by decide)⟩
  · show Steps p.tables e below (s₁.setTop (mkF m 12 #[.val (.int ch)] [(.int (1 : Int32))])) _
    exact retN X0 hx (t := .boolean) Bd.returns (by simp) (Jvm.hb hby d8_12) hrL
  · show QZ (.int 1) h0 n0 _ s₁.heap _
    rw [e0]
    exact ⟨rfl, N0, rfl⟩
def QB (Z : State) (h0 : Heap) (n0 : Nat) (v : Option Value) (h : Heap) (L : List Loc) : Prop := ∃ (b : Addr) (kb : ClassId) (z : Value), v = some (.ref b) ∧ Fr n0 L ∧ Keep h0 h [] ∧ n0 ≤ b ∧ h0.size ≤ b ∧ Arv Z h b kb .byte (1 : Int32) [z] (.int (0 : Int32))
theorem d9_0 : decode jdk_43_method_46_code 0 = .ok (.iconst 1, 1) := by decide +kernel
theorem d9_1 : decode jdk_43_method_46_code 1 = .ok (.newarray .byte, 2) := by decide +kernel
theorem d9_3 : decode jdk_43_method_46_code 3 = .ok (.dup, 1) := by decide +kernel
theorem d9_4 : decode jdk_43_method_46_code 4 = .ok (.iconst 0, 1) := by decide +kernel
theorem d9_5 : decode jdk_43_method_46_code 5 = .ok (.iload_n 0, 1) := by decide +kernel
theorem d9_6 : decode jdk_43_method_46_code 6 = .ok (.i2b, 1) := by decide +kernel
theorem d9_7 : decode jdk_43_method_46_code 7 = .ok (.bastore, 1) := by decide +kernel
theorem d9_8 : decode jdk_43_method_46_code 8 = .ok (.areturn, 1) := by decide +kernel
theorem own_ef9 (m : MethodId) (x0 : Int32) : entryFrame m #[(.int x0)] 1 = mkF m 0 #[.val (.int x0)] [] := by first | (simp [entryFrame, mkF, argsToLocals, Value.category]; done) | rfl
set_option maxRecDepth 65536 in
set_option maxHeartbeats 40000000 in
theorem rmT (l : Launch) (Z : State) (a0 : Array Value) (hw : ∀ d ∈ tables_1, d.before a0 Z = true) (ws : List Jvm.Cond) (ch : Int32)  (h0 : Heap) (n0 : Nat) (Z0 : n0 ≤ h0.size)  :
    MetFree l (⟨"java/lang/StringLatin1", "toBytes", "(C)[B"⟩ : MethodName) (head1 (Jvm.Cond.code (⟨"java/lang/StringLatin1", "toBytes", "(C)[B"⟩ : MethodName) jdk_43_method_46_code 1 (some (.array .byte)) :: ws) ({ frames := 0, cells := 1, slots := 1, locals := 0 } : Room)) (fun α U => α = #[(.int ch)] ∧ Z.Warmed39 U.vm ∧ U.heap = h0) (fun _ _ _ _ _ => True) (fun _ U ω U' => ∃ ν Λ, ω = .returned ν ∧ QB Z h0 n0 ν U'.heap Λ ∧ FrameEnd U ω U' Λ ({ frames := 0, cells := 1, slots := 1, locals := 0 } : Room).cells ({ frames := 0, cells := 1, slots := 1, locals := 0 } : Room).slots) := by
  refine MetFree.of_bodySF (plainFor_of_name own_pn_java_lang_StringLatin1) hisR ?_
  intro p e s m args below meth c s₁ Bd hml0 hP hK
  obtain ⟨rfl, hZ, hh⟩ := hP
  have hx := Bd.exec
  have hby := Bd.bytes
  have hml : c.maxLocals = 1 := hml0
  have hown : s.vm.findClass "java/lang/StringLatin1" = some m.cls := findClass_of_methodNamed Bd.named
  have hnm := (name_of_methodNamed Bd.named Bd.method).1
  have X0 : Stand p l e ({ frames := 0, cells := 1, slots := 1, locals := 0 } : Room) s m #[(.int ch)] below meth c s₁ [] 0 0 := Stand.of_body Bd
  have e0 : s₁.heap = h0 := by rw [← hh, Bd.state]; rfl
  have N0 := Fr.nil n0
  have KK0 : Keep h0 h0 [] := Keep.refl h0 []
  obtain ⟨PS, hPS⟩ : ∃ P : State → Prop, P = fun τ => Steps p.tables e below (s₁.setTop (entryFrame m #[(.int ch)] 1)) τ := ⟨_, rfl⟩
  have pre0 : ∀ τ, Steps p.tables e below (s₁.setTop (mkF m 0 #[.val (.int ch)] [])) τ → PS τ := by rw [hPS]; exact fun τ κ => castTop (own_ef9 m ch) κ
  obtain ⟨T4, h4, k4, X4, e4, E4, A4, st4⟩ := newP (aty := .byte) X0 hx hZ (own_W23 hw) e0 (g := (mkF m 1 #[.val (.int ch)] [(.int (1 : Int32))])) rfl (Jvm.hb hby d9_1) rfl (by decide) (cap := 1) (by decide) (by decide) (by decide) (by decide)
  obtain ⟨b1, g4⟩ : ∃ z, z = h0.size := ⟨_, rfl⟩
  rw [← g4] at A4 st4
  have g_b1 : n0 ≤ b1 := Nat.le_trans (Nat.le_trans Z0 KK0.1) (Nat.le_of_eq g4.symm)
  have sz_b1 : h0.size ≤ b1 := Nat.le_trans KK0.1 (Nat.le_of_eq g4.symm)
  have K4 : Keep h0 h4 [] := KK0.ext E4
  have V_b1 : Arv Z h4 b1 k4 .byte (1 : Int32) [(.int (0 : Int32))] (.int (0 : Int32)) := (Arv.new A4 (by decide)).pad (pad_rep [] (.int (0 : Int32)) 1)
  have pre5 := fun (τ : State) kt => pre0 τ (by
    show Steps p.tables e below (s₁.setTop (mkF m 0 #[.val (.int ch)] [])) τ
    refine XS.iconst X0.here hx rfl (Jvm.hb hby d9_0) ?_
    exact st4 τ kt)
  obtain ⟨cl6, Ar6, q6, S6, M6, H6, U6⟩ := id V_b1
  obtain ⟨T7, h7, X7, e7, W7, st7⟩ := stB X4 hx hZ e4 Ar6 (j := (0 : Int32)) (inb_of S6 ⟨by decide, by decide⟩) (g := (mkF m 7 #[.val (.int ch)] [(.int (ch).toInt8.toInt32), (.int (0 : Int32)), (.ref b1), (.ref b1)])) rfl rfl (Jvm.hb hby d9_7)
  have V7 : Arv Z h7 b1 k4 .byte (1 : Int32) [(.int (nar .byte (ch).toInt8.toInt32))] (.int (0 : Int32)) := Arv.set Ar6 q6 S6 M6 H6 U6 (fits_nar_byte _) W7 0 rfl (Nat.le_of_ble_eq_true rfl)
  have N7 := Fr.snoc X7 N0 g_b1
  have K7 : Keep h0 h7 [] := K4.wr W7 (Or.inr sz_b1)
  have pre8 := fun (τ : State) kt => pre5 τ (by
    show Steps p.tables e below (T4.setTop (mkF m 3 #[.val (.int ch)] [(.ref b1)])) τ
    refine XS.dup X4.here hx rfl (Jvm.hb hby d9_3) rfl rfl ?_
    refine XS.iconst X4.here hx rfl (Jvm.hb hby d9_4) ?_
    refine XS.iloadN X4.here hx rfl (Jvm.hb hby d9_5) rfl ?_
    refine XT.i2b X4.here hx rfl (Jvm.hb hby d9_6) rfl ?_
    exact st7 τ kt)
  obtain ⟨fs, hrL, hrun, hended, hW, hsame⟩ := X7.leave (v := some (.ref b1)) (fun h => by rw [Bd.returns] at h; cases h)
  refine ⟨_, _, cast (congrFun hPS _) (pre8 _ ?_), hrun, hended, _, _, rfl, ?_, ⟨_, rfl⟩, hW, hsame.mono (by decide) (by decide)⟩
  · show Steps p.tables e below (T7.setTop (mkF m 8 #[.val (.int ch)] [(.ref b1)])) _
    exact retOut X7 hx Bd.returns rfl (Or.inr (Or.inr (Or.inr (Or.inr ⟨rfl, rfl, rfl⟩)))) (Jvm.hb hby d9_8) hrL
  · show QB Z h0 n0 _ T7.heap _
    rw [e7]
    exact ⟨b1, _, _, rfl, N7, K7, g_b1, sz_b1, V7⟩
def QK (a : Addr) (h0 : Heap) (n0 : Nat) (v : Option Value) (h : Heap) (L : List Loc) : Prop := v = none ∧ Fr n0 L ∧ Keep h0 h [a]
theorem d10_0 : decode jdk_42_method_151_code 0 = .ok (.aload_n 0, 1) := by decide +kernel
theorem d10_1 : decode jdk_42_method_151_code 1 = .ok (.invokespecial 1, 3) := by decide +kernel
theorem d10_4 : decode jdk_42_method_151_code 4 = .ok (.aload_n 0, 1) := by decide +kernel
theorem d10_5 : decode jdk_42_method_151_code 5 = .ok (.aload_n 1, 1) := by decide +kernel
theorem d10_6 : decode jdk_42_method_151_code 6 = .ok (.putfield 9, 3) := by decide +kernel
theorem d10_9 : decode jdk_42_method_151_code 9 = .ok (.aload_n 0, 1) := by decide +kernel
theorem d10_10 : decode jdk_42_method_151_code 10 = .ok (.iload_n 2, 1) := by decide +kernel
theorem d10_11 : decode jdk_42_method_151_code 11 = .ok (.putfield 15, 3) := by decide +kernel
theorem d10_14 : decode jdk_42_method_151_code 14 = .ok (.return_, 1) := by decide +kernel
theorem own_pn_java_lang_String : plainName "java/lang/String" = true := by first | (simp [plainName, overriddenIn]; done) | decide +kernel
theorem own_ef10 (m : MethodId) (x0 : Addr) (x1 : Addr) (x2 : Int32) : entryFrame m #[(.ref x0), (.ref x1), (.int x2)] 3 = mkF m 0 #[.val (.ref x0), .val (.ref x1), .val (.int x2)] [] := by first | (simp [entryFrame, mkF, argsToLocals, Value.category]; done) | rfl
set_option maxRecDepth 65536 in
set_option maxHeartbeats 40000000 in
theorem rmS (l : Launch) (Z : State) (a0 : Array Value) (hw : ∀ d ∈ tables_1, d.before a0 Z = true) (ws : List Jvm.Cond) (a : Addr) (by_ : Addr) (cd : Int32)  (h0 : Heap) (n0 : Nat) (Z0 : n0 ≤ h0.size) (E7 : Exa Z h0 a "java/lang/String") (F1 : Fld Z h0 a "java/lang/String" "value" "[B" .null) (F2 : Fld Z h0 a "java/lang/String" "coder" "B" (.int (0 : Int32))) (ga : n0 ≤ a) :
    MetFree l (⟨"java/lang/String", "<init>", "([BB)V"⟩ : MethodName) (head1 (Jvm.Cond.code (⟨"java/lang/String", "<init>", "([BB)V"⟩ : MethodName) jdk_42_method_151_code 3 none :: ws) ({ frames := 1, cells := 0, slots := 0, locals := 12 } : Room)) (fun α U => α = #[(.ref a), (.ref by_), (.int cd)] ∧ Z.Warmed39 U.vm ∧ U.heap = h0) (fun _ _ _ _ _ => True) (fun _ U ω U' => ∃ ν Λ, ω = .returned ν ∧ QK a h0 n0 ν U'.heap Λ ∧ FrameEnd U ω U' Λ ({ frames := 1, cells := 0, slots := 0, locals := 12 } : Room).cells ({ frames := 1, cells := 0, slots := 0, locals := 12 } : Room).slots) := by
  refine MetFree.of_bodySF (plainFor_of_name own_pn_java_lang_String) hisR ?_
  intro p e s m args below meth c s₁ Bd hml0 hP hK
  obtain ⟨rfl, hZ, hh⟩ := hP
  have hx := Bd.exec
  have hby := Bd.bytes
  have hml : c.maxLocals = 3 := hml0
  have hown : s.vm.findClass "java/lang/String" = some m.cls := findClass_of_methodNamed Bd.named
  have hnm := (name_of_methodNamed Bd.named Bd.method).1
  have X0 : Stand p l e ({ frames := 1, cells := 0, slots := 0, locals := 12 } : Room) s m #[(.ref a), (.ref by_), (.int cd)] below meth c s₁ [] 0 0 := Stand.of_body Bd
  have e0 : s₁.heap = h0 := by rw [← hh, Bd.state]; rfl
  have N0 := Fr.nil n0
  have KK0 : Keep h0 h0 [a] := Keep.refl h0 [a]
  obtain ⟨PS, hPS⟩ : ∃ P : State → Prop, P = fun τ => Steps p.tables e below (s₁.setTop (entryFrame m #[(.ref a), (.ref by_), (.int cd)] 3)) τ := ⟨_, rfl⟩
  have pre0 : ∀ τ, Steps p.tables e below (s₁.setTop (mkF m 0 #[.val (.ref a), .val (.ref by_), .val (.int cd)] [])) τ → PS τ := by rw [hPS]; exact fun τ κ => castTop (own_ef10 m a by_ cd) κ
  obtain ⟨T9, X9, e9, st9⟩ := initO X0 hx hZ hown (own_W15 hw) (own_W16 hw) (own_W17 hw) e0 (g := (mkF m 1 #[.val (.ref a), .val (.ref by_), .val (.int cd)] [(.ref a)])) rfl (by rw [hml]; rfl) rfl (Jvm.hb hby d10_1) (by decide) (W := 0) (by show 2 * 0 + _ ≤ _; exact Nat.le_of_eq rfl) (by decide)
  have pre10 := fun (τ : State) kt => pre0 τ (by
    show Steps p.tables e below (s₁.setTop (mkF m 0 #[.val (.ref a), .val (.ref by_), .val (.int cd)] [])) τ
    refine XS.aloadN X0.here hx rfl (Jvm.hb hby d10_0) rfl rfl ?_
    exact st9 τ kt)
  obtain ⟨T11, h11, X11, e11, W11, st11⟩ := putF X9 hx hZ hown (host := "") (Or.inl (own_W32 hw)) Via.refl e9 F1 E7 (Or.inr ⟨(own_W33 hw), rfl, hnm⟩) (own_W5 hw) (ty := (.array .byte)) (by decide) rfl rfl (g := (mkF m 6 #[.val (.ref a), .val (.ref by_), .val (.int cd)] [(.ref by_), (.ref a)])) rfl rfl (Jvm.hb hby d10_6)
  have fw11 := Fld.same W11 F1
  have N11 := Fr.snoc X11 N0 ga
  have K11 : Keep h0 h11 [a] := KK0.wr W11 (Or.inl (by simp))
  have pre12 := fun (τ : State) kt => pre10 τ (by
    show Steps p.tables e below (T9.setTop (mkF m 4 #[.val (.ref a), .val (.ref by_), .val (.int cd)] [])) τ
    refine XS.aloadN X9.here hx rfl (Jvm.hb hby d10_4) rfl rfl ?_
    refine XS.aloadN X9.here hx rfl (Jvm.hb hby d10_5) rfl rfl ?_
    exact st11 τ kt)
  have f14 := (F2.other W11 (Or.inr (slot_ne (Or.inr (own_W31 hw)) (Or.inr (own_W33 hw)) (by decide) (t := .byte) (t' := (.array .byte)) (by decide) (by decide))))
  have f15 := E7.wr W11
  obtain ⟨T13, h13, X13, e13, W13, st13⟩ := putFN X11 hx hZ hown (own_W30 hw) Via.refl e11 f14 f15 (Or.inr ⟨(own_W31 hw), rfl, hnm⟩) (own_W5 hw) (ty := .byte) (v' := (.int (nar .byte cd))) (by decide) rfl (fits_nar_byte _) (g := (mkF m 11 #[.val (.ref a), .val (.ref by_), .val (.int cd)] [(.int cd), (.ref a)])) rfl rfl (Jvm.hb hby d10_11)
  have fw13 := Fld.same W13 f14
  have N13 := Fr.snoc X13 N11 ga
  have K13 : Keep h0 h13 [a] := K11.wr W13 (Or.inl (by simp))
  have pre16 := fun (τ : State) kt => pre12 τ (by
    show Steps p.tables e below (T11.setTop (mkF m 9 #[.val (.ref a), .val (.ref by_), .val (.int cd)] [])) τ
    refine XS.aloadN X11.here hx rfl (Jvm.hb hby d10_9) rfl rfl ?_
    refine XS.iloadN X11.here hx rfl (Jvm.hb hby d10_10) rfl ?_
    exact st13 τ kt)
  obtain ⟨fs, hrL, hrun, hended, hW, hsame⟩ := X13.leave (v := none) (fun _ => rfl)
  refine ⟨_, _, cast (congrFun hPS _) (pre16 _ ?_), hrun, hended, _, _, rfl, ?_, ⟨_, rfl⟩, hW, hsame.mono (by decide) (by decide)⟩
  · show Steps p.tables e below (T13.setTop (mkF m 14 #[.val (.ref a), .val (.ref by_), .val (.int cd)] [])) _
    exact X13.returnOut hx Bd.returns (Jvm.hb hby d10_14) hrL
  · show QK a h0 n0 _ T13.heap _
    rw [e13]
    exact ⟨rfl, N13, K13⟩
def QO (h0 : Heap) (n0 : Nat) (v : Option Value) (h : Heap) (L : List Loc) : Prop := ∃ b : Addr, v = some (.ref b) ∧ Fr n0 L ∧ Keep h0 h []
theorem d7_0 : decode jdk_42_method_139_code 0 = .ok (.getstatic 38, 3) := by decide +kernel
theorem d7_3 : decode jdk_42_method_139_code 3 = .ok (.ifCond .eq 23, 3) := by decide +kernel
theorem d7_6 : decode jdk_42_method_139_code 6 = .ok (.iload_n 0, 1) := by decide +kernel
theorem d7_7 : decode jdk_42_method_139_code 7 = .ok (.invokestatic 1015, 3) := by decide +kernel
theorem d7_10 : decode jdk_42_method_139_code 10 = .ok (.ifCond .eq 16, 3) := by decide +kernel
theorem d7_13 : decode jdk_42_method_139_code 13 = .ok (.new 10, 3) := by decide +kernel
theorem d7_16 : decode jdk_42_method_139_code 16 = .ok (.dup, 1) := by decide +kernel
theorem d7_17 : decode jdk_42_method_139_code 17 = .ok (.iload_n 0, 1) := by decide +kernel
theorem d7_18 : decode jdk_42_method_139_code 18 = .ok (.invokestatic 1018, 3) := by decide +kernel
theorem d7_21 : decode jdk_42_method_139_code 21 = .ok (.iconst 0, 1) := by decide +kernel
theorem d7_22 : decode jdk_42_method_139_code 22 = .ok (.invokespecial 209, 3) := by decide +kernel
theorem d7_25 : decode jdk_42_method_139_code 25 = .ok (.areturn, 1) := by decide +kernel
theorem d7_26 : decode jdk_42_method_139_code 26 = .ok (.new 10, 3) := by decide +kernel
theorem d7_29 : decode jdk_42_method_139_code 29 = .ok (.dup, 1) := by decide +kernel
theorem d7_30 : decode jdk_42_method_139_code 30 = .ok (.iload_n 0, 1) := by decide +kernel
theorem d7_31 : decode jdk_42_method_139_code 31 = .ok (.invokestatic 1021, 3) := by decide +kernel
theorem d7_34 : decode jdk_42_method_139_code 34 = .ok (.iconst 1, 1) := by decide +kernel
theorem d7_35 : decode jdk_42_method_139_code 35 = .ok (.invokespecial 209, 3) := by decide +kernel
theorem d7_38 : decode jdk_42_method_139_code 38 = .ok (.areturn, 1) := by decide +kernel
theorem own_ef7 (m : MethodId) (x0 : Int32) : entryFrame m #[(.int x0)] 1 = mkF m 0 #[.val (.int x0)] [] := by first | (simp [entryFrame, mkF, argsToLocals, Value.category]; done) | rfl
set_option maxRecDepth 65536 in
set_option maxHeartbeats 40000000 in
theorem rmV (l : Launch) (Z : State) (a0 : Array Value) (hw : ∀ d ∈ tables_1, d.before a0 Z = true) (ws : List Jvm.Cond) (ch : Int32) (cz : Int32) (h0 : Heap) (n0 : Nat) (Z0 : n0 ≤ h0.size) (O2 : Sta Z h0 "java/lang/String" "COMPACT_STRINGS" "Z" (.int cz)) (P5 : ¬ cz = 0) (hc : ¬ (255 : Int32) < ch) :
    MetFree l (⟨"java/lang/String", "valueOf", "(C)Ljava/lang/String;"⟩ : MethodName) (head1 (Jvm.Cond.code (⟨"java/lang/String", "valueOf", "(C)Ljava/lang/String;"⟩ : MethodName) jdk_42_method_139_code 1 (some (.object "java/lang/String")) :: ws) ({ frames := 2, cells := 2, slots := 5, locals := 27 } : Room)) (fun α U => α = #[(.int ch)] ∧ Z.Warmed39 U.vm ∧ U.heap = h0) (fun _ _ _ _ _ => True) (fun _ U ω U' => ∃ ν Λ, ω = .returned ν ∧ QO h0 n0 ν U'.heap Λ ∧ FrameEnd U ω U' Λ ({ frames := 2, cells := 2, slots := 5, locals := 27 } : Room).cells ({ frames := 2, cells := 2, slots := 5, locals := 27 } : Room).slots) := by
  refine MetFree.of_bodySF (plainFor_of_name own_pn_java_lang_String) hisR ?_
  intro p e s m args below meth c s₁ Bd hml0 hP hK
  obtain ⟨rfl, hZ, hh⟩ := hP
  have hx := Bd.exec
  have hby := Bd.bytes
  have hml : c.maxLocals = 1 := hml0
  have hown : s.vm.findClass "java/lang/String" = some m.cls := findClass_of_methodNamed Bd.named
  have hnm := (name_of_methodNamed Bd.named Bd.method).1
  have X0 : Stand p l e ({ frames := 2, cells := 2, slots := 5, locals := 27 } : Room) s m #[(.int ch)] below meth c s₁ [] 0 0 := Stand.of_body Bd
  have e0 : s₁.heap = h0 := by rw [← hh, Bd.state]; rfl
  have N0 := Fr.nil n0
  have KK0 : Keep h0 h0 [] := Keep.refl h0 []
  obtain ⟨PS, hPS⟩ : ∃ P : State → Prop, P = fun τ => Steps p.tables e below (s₁.setTop (entryFrame m #[(.int ch)] 1)) τ := ⟨_, rfl⟩
  have pre0 : ∀ τ, Steps p.tables e below (s₁.setTop (mkF m 0 #[.val (.int ch)] [])) τ → PS τ := by rw [hPS]; exact fun τ κ => castTop (own_ef7 m ch) κ
  obtain ⟨T17, X17, e17, st17⟩ := getS2 X0 hx hZ hown (host := "") (Or.inl (own_W18 hw)) Via.refl e0 O2 (g := (mkF m 0 #[.val (.int ch)] [])) rfl (Jvm.hb hby d7_0)
  have pre18 := fun (τ : State) kt => pre0 τ (st17 τ kt)
  obtain ⟨_, T19, L19, X19, ⟨rfl, Nq19, eq19⟩, st19⟩ := own_stat (y := own_mn0) X17 hx hZ hown (own_W37 hw) (own_W38 hw) (by decide) (rmC l Z a0 hw [] ch h0 n0 (Nat.le_trans Z0 KK0.1) hc) (own_W40 hw) (own_W39 hw) 0 (by decide) (by decide) e17 (mkF m 7 #[.val (.int ch)] [(.int ch)]) rfl (by rw [hml]; rfl) [(.int ch)] [] rfl (lenOf own_pd__C_Z rfl) rfl (Nat.le_refl _) (Jvm.hb hby d7_7) (by decide) (by decide)
  have N19 := Fr.app N0 Nq19
  have pre20 := fun (τ : State) kt => pre18 τ (by
    show Steps p.tables e below (T17.setTop (mkF m 3 #[.val (.int ch)] [(.int cz)])) τ
    refine XS.ifNo X17.here hx rfl (Jvm.hb hby d7_3) rfl ((if0 _ _).trans (feq P5).1) ?_
    refine XS.iloadN X17.here hx rfl (Jvm.hb hby d7_6) rfl ?_
    exact st19 τ kt)
  obtain ⟨T21, h21, X21, e21, E21, A21, D21, -, st21⟩ := newO X19 hx hZ hown (own_W41 hw) (own_W5 hw) (own_W6 hw) eq19 (g := (mkF m 13 #[.val (.int ch)] [])) rfl (Jvm.hb hby d7_13) (by decide) (by decide)
  obtain ⟨so, g21⟩ : ∃ z, z = h0.size := ⟨_, rfl⟩
  rw [← g21] at A21 D21 st21
  have g_so : n0 ≤ so := Nat.le_trans (Nat.le_trans Z0 KK0.1) (Nat.le_of_eq g21.symm)
  have sz_so : h0.size ≤ so := Nat.le_trans KK0.1 (Nat.le_of_eq g21.symm)
  have K21 : Keep h0 h21 [] := KK0.ext E21
  have F_coder_so : Fld Z h21 so "java/lang/String" "coder" "B" (.int (0 : Int32)) := D21 (Or.inr (own_W31 hw)) (ty := .byte) (by decide)
  have F_value_so : Fld Z h21 so "java/lang/String" "value" "[B" .null := D21 (Or.inr (own_W33 hw)) (ty := (.array .byte)) (by decide)
  have pre22 := fun (τ : State) kt => pre20 τ (by
    show Steps p.tables e below (T19.setTop (mkF m 10 #[.val (.int ch)] [(.int (1 : Int32))])) τ
    refine XS.ifNo X19.here hx rfl (Jvm.hb hby d7_10) rfl ((if0 _ _).trans (feq (by decide)).1) ?_
    exact st21 τ kt)
  obtain ⟨_, T23, L23, X23, ⟨tb, tk, tz, rfl, Nq23, Kq23, tg, ts, tv23⟩, st23⟩ := own_stat (y := own_mn1) X21 hx hZ hown (own_W42 hw) (own_W43 hw) (by decide) (rmT l Z a0 hw [] ch h21 n0 (Nat.le_trans Z0 K21.1)) (own_W44 hw) (own_W39 hw) 2 (by decide) (by decide) e21 (mkF m 18 #[.val (.int ch)] [(.int ch), (.ref so), (.ref so)]) rfl (by rw [hml]; rfl) [(.int ch)] [(.ref so), (.ref so)] rfl (lenOf own_pd__C__B rfl) rfl (Nat.le_refl _) (Jvm.hb hby d7_18) (by decide) (by decide)
  have N23 := Fr.app N19 Nq23
  have K23 : Keep h0 T23.heap [] := K21.trans Kq23 (all0)
  have pre24 := fun (τ : State) kt => pre22 τ (by
    show Steps p.tables e below (T21.setTop (mkF m 16 #[.val (.int ch)] [(.ref so)])) τ
    refine XS.dup X21.here hx rfl (Jvm.hb hby d7_16) rfl rfl ?_
    refine XS.iloadN X21.here hx rfl (Jvm.hb hby d7_17) rfl ?_
    exact st23 τ kt)
  have f25 := A21.keep Kq23
  have f26 := F_value_so.keep Kq23 (nin0)
  have f27 := F_coder_so.keep Kq23 (nin0)
  obtain ⟨_, T28, L28, X28, ⟨rfl, Nq28, Kq28⟩, st28⟩ := own_spec (y := own_mn2) (b := so) X23 hx hZ rfl hown (own_W45 hw) (own_W46 hw) (by decide) (rmS l Z a0 hw [] so tb (0 : Int32) T23.heap n0 (Nat.le_trans Z0 K23.1) f25 f26 f27 g_so) (own_W47 hw) (own_W6 hw) 1 (by decide) (by decide) rfl (mkF m 22 #[.val (.int ch)] [(.int (0 : Int32)), (.ref tb), (.ref so), (.ref so)]) rfl (by rw [hml]; rfl) [(.ref tb), (.int (0 : Int32))] [(.ref so)] rfl (lenOf own_pd___BB_V rfl) rfl (Nat.le_refl _) (Jvm.hb hby d7_22) (by decide) (by decide)
  have N28 := Fr.app N23 Nq28
  have K28 : Keep h0 T28.heap [] := K23.trans Kq28 (allS (Or.inr sz_so) (all0))
  have pre29 := fun (τ : State) kt => pre24 τ (by
    show Steps p.tables e below (T23.setTop (mkF m 21 #[.val (.int ch)] [(.ref tb), (.ref so), (.ref so)])) τ
    refine XS.iconst X23.here hx rfl (Jvm.hb hby d7_21) ?_
    exact st28 τ kt)
  obtain ⟨fs, hrL, hrun, hended, hW, hsame⟩ := X28.leave (v := some (.ref so)) (fun h => by rw [Bd.returns] at h; cases h)
  refine ⟨_, _, cast (congrFun hPS _) (pre29 _ ?_), hrun, hended, _, _, rfl, ?_, ⟨_, rfl⟩, hW, hsame.mono (by decide) (by decide)⟩
  · show Steps p.tables e below (T28.setTop (mkF m 25 #[.val (.int ch)] [(.ref so)])) _
    exact retOut X28 hx Bd.returns rfl (Or.inr (Or.inr (Or.inr (Or.inr ⟨rfl, rfl, rfl⟩)))) (Jvm.hb hby d7_25) hrL
  · show QO h0 n0 _ T28.heap _
    exact ⟨so, rfl, N28, K28⟩
def QM (Z : State) (a : Addr) (sv : Value) (h0 : Heap) (n0 : Nat) (v : Option Value) (h : Heap) (L : List Loc) : Prop := v = none ∧ Fr n0 L ∧ Keep h0 h [a] ∧ Fld Z h a "com/example/paidthrough/paidthrough/engine/Message" "severity" "Lcom/example/paidthrough/paidthrough/engine/Message$Severity;" sv
theorem d11_0 : decode prog_110_method_1_code 0 = .ok (.aload_n 0, 1) := by decide +kernel
theorem d11_1 : decode prog_110_method_1_code 1 = .ok (.invokespecial 1, 3) := by decide +kernel
theorem d11_4 : decode prog_110_method_1_code 4 = .ok (.aload_n 0, 1) := by decide +kernel
theorem d11_5 : decode prog_110_method_1_code 5 = .ok (.aload_n 1, 1) := by decide +kernel
theorem d11_6 : decode prog_110_method_1_code 6 = .ok (.putfield 7, 3) := by decide +kernel
theorem d11_9 : decode prog_110_method_1_code 9 = .ok (.aload_n 0, 1) := by decide +kernel
theorem d11_10 : decode prog_110_method_1_code 10 = .ok (.aload_n 2, 1) := by decide +kernel
theorem d11_11 : decode prog_110_method_1_code 11 = .ok (.putfield 13, 3) := by decide +kernel
theorem d11_14 : decode prog_110_method_1_code 14 = .ok (.aload_n 0, 1) := by decide +kernel
theorem d11_15 : decode prog_110_method_1_code 15 = .ok (.aload_n 3, 1) := by decide +kernel
theorem d11_16 : decode prog_110_method_1_code 16 = .ok (.putfield 17, 3) := by decide +kernel
theorem d11_19 : decode prog_110_method_1_code 19 = .ok (.aload_n 0, 1) := by decide +kernel
theorem d11_20 : decode prog_110_method_1_code 20 = .ok (.aload 4, 2) := by decide +kernel
theorem d11_22 : decode prog_110_method_1_code 22 = .ok (.putfield 20, 3) := by decide +kernel
theorem d11_25 : decode prog_110_method_1_code 25 = .ok (.return_, 1) := by decide +kernel
theorem own_pn_com_example_paidthrough_paidthrough_engine_Message : plainName "com/example/paidthrough/paidthrough/engine/Message" = true := by first | (simp [plainName, overriddenIn]; done) | decide +kernel
theorem own_ef11 (m : MethodId) (x0 : Addr) (x1 : Addr) (x2 : Addr) (x3 : Addr) (x4 : Addr) : entryFrame m #[(.ref x0), (.ref x1), (.ref x2), (.ref x3), (.ref x4)] 5 = mkF m 0 #[.val (.ref x0), .val (.ref x1), .val (.ref x2), .val (.ref x3), .val (.ref x4)] [] := by first | (simp [entryFrame, mkF, argsToLocals, Value.category]; done) | rfl
set_option maxRecDepth 65536 in
set_option maxHeartbeats 40000000 in
theorem rmM (l : Launch) (Z : State) (a0 : Array Value) (hw : ∀ d ∈ tables_1, d.before a0 Z = true) (ws : List Jvm.Cond) (a : Addr) (co : Addr) (sv : Addr) (po : Addr) (te : Addr)  (h0 : Heap) (n0 : Nat) (Z0 : n0 ≤ h0.size) (E7 : Exa Z h0 a "com/example/paidthrough/paidthrough/engine/Message") (F0 : Fld Z h0 a "com/example/paidthrough/paidthrough/engine/Message" "code" "Ljava/lang/String;" .null) (F1 : Fld Z h0 a "com/example/paidthrough/paidthrough/engine/Message" "severity" "Lcom/example/paidthrough/paidthrough/engine/Message$Severity;" .null) (F2 : Fld Z h0 a "com/example/paidthrough/paidthrough/engine/Message" "policy" "Ljava/lang/String;" .null) (F3 : Fld Z h0 a "com/example/paidthrough/paidthrough/engine/Message" "text" "Ljava/lang/String;" .null) (ga : n0 ≤ a) :
    MetFree l (⟨"com/example/paidthrough/paidthrough/engine/Message", "<init>", "(Ljava/lang/String;Lcom/example/paidthrough/paidthrough/engine/Message$Severity;Ljava/lang/String;Ljava/lang/String;)V"⟩ : MethodName) (head1 (Jvm.Cond.code (⟨"com/example/paidthrough/paidthrough/engine/Message", "<init>", "(Ljava/lang/String;Lcom/example/paidthrough/paidthrough/engine/Message$Severity;Ljava/lang/String;Ljava/lang/String;)V"⟩ : MethodName) prog_110_method_1_code 5 none :: ws) ({ frames := 2, cells := 0, slots := 0, locals := 24 } : Room)) (fun α U => α = #[(.ref a), (.ref co), (.ref sv), (.ref po), (.ref te)] ∧ Z.Warmed39 U.vm ∧ U.heap = h0) (fun _ _ _ _ _ => True) (fun _ U ω U' => ∃ ν Λ, ω = .returned ν ∧ QM Z a (.ref sv) h0 n0 ν U'.heap Λ ∧ FrameEnd U ω U' Λ ({ frames := 2, cells := 0, slots := 0, locals := 24 } : Room).cells ({ frames := 2, cells := 0, slots := 0, locals := 24 } : Room).slots) := by
  refine MetFree.of_bodySF (plainFor_of_name own_pn_com_example_paidthrough_paidthrough_engine_Message) hisR ?_
  intro p e s m args below meth c s₁ Bd hml0 hP hK
  obtain ⟨rfl, hZ, hh⟩ := hP
  have hx := Bd.exec
  have hby := Bd.bytes
  have hml : c.maxLocals = 5 := hml0
  have hown : s.vm.findClass "com/example/paidthrough/paidthrough/engine/Message" = some m.cls := findClass_of_methodNamed Bd.named
  have hnm := (name_of_methodNamed Bd.named Bd.method).1
  have X0 : Stand p l e ({ frames := 2, cells := 0, slots := 0, locals := 24 } : Room) s m #[(.ref a), (.ref co), (.ref sv), (.ref po), (.ref te)] below meth c s₁ [] 0 0 := Stand.of_body Bd
  have e0 : s₁.heap = h0 := by rw [← hh, Bd.state]; rfl
  have N0 := Fr.nil n0
  have KK0 : Keep h0 h0 [a] := Keep.refl h0 [a]
  obtain ⟨PS, hPS⟩ : ∃ P : State → Prop, P = fun τ => Steps p.tables e below (s₁.setTop (entryFrame m #[(.ref a), (.ref co), (.ref sv), (.ref po), (.ref te)] 5)) τ := ⟨_, rfl⟩
  have pre0 : ∀ τ, Steps p.tables e below (s₁.setTop (mkF m 0 #[.val (.ref a), .val (.ref co), .val (.ref sv), .val (.ref po), .val (.ref te)] [])) τ → PS τ := by rw [hPS]; exact fun τ κ => castTop (own_ef11 m a co sv po te) κ
  obtain ⟨_, T30, L30, X30, ⟨rfl, Nq30, eq30⟩, st30⟩ := own_spec (y := own_mn3) (b := a) X0 hx hZ rfl hown (own_W54 hw) (own_W55 hw) (by decide) (rmR l Z a0 hw [] a h0 n0 Z0) (own_W58 hw) (own_W57 hw) 0 (by decide) (by decide) e0 (mkF m 1 #[.val (.ref a), .val (.ref co), .val (.ref sv), .val (.ref po), .val (.ref te)] [(.ref a)]) rfl (by rw [hml]; rfl) [] [] rfl (lenOf own_pd___V rfl) rfl (Nat.le_refl _) (Jvm.hb hby d11_1) (by decide) (by decide)
  have N30 := Fr.app N0 Nq30
  have pre31 := fun (τ : State) kt => pre0 τ (by
    show Steps p.tables e below (s₁.setTop (mkF m 0 #[.val (.ref a), .val (.ref co), .val (.ref sv), .val (.ref po), .val (.ref te)] [])) τ
    refine XS.aloadN X0.here hx rfl (Jvm.hb hby d11_0) rfl rfl ?_
    exact st30 τ kt)
  obtain ⟨T32, h32, X32, e32, W32, st32⟩ := putF X30 hx hZ hown (host := "") (Or.inl (own_W60 hw)) Via.refl eq30 F0 E7 (Or.inr ⟨(own_W61 hw), rfl, hnm⟩) (own_W49 hw) (ty := (.object "java/lang/String")) (by decide) rfl rfl (g := (mkF m 6 #[.val (.ref a), .val (.ref co), .val (.ref sv), .val (.ref po), .val (.ref te)] [(.ref co), (.ref a)])) rfl rfl (Jvm.hb hby d11_6)
  have fw32 := Fld.same W32 F0
  have N32 := Fr.snoc X32 N30 ga
  have K32 : Keep h0 h32 [a] := KK0.wr W32 (Or.inl (by simp))
  have pre33 := fun (τ : State) kt => pre31 τ (by
    show Steps p.tables e below (T30.setTop (mkF m 4 #[.val (.ref a), .val (.ref co), .val (.ref sv), .val (.ref po), .val (.ref te)] [])) τ
    refine XS.aloadN X30.here hx rfl (Jvm.hb hby d11_4) rfl rfl ?_
    refine XS.aloadN X30.here hx rfl (Jvm.hb hby d11_5) rfl rfl ?_
    exact st32 τ kt)
  have f35 := (F1.other W32 (Or.inr (slot_ne (Or.inr (own_W63 hw)) (Or.inr (own_W61 hw)) (by decide) (t := (.object "com/example/paidthrough/paidthrough/engine/Message$Severity")) (t' := (.object "java/lang/String")) (by decide) (by decide))))
  have f36 := E7.wr W32
  obtain ⟨T34, h34, X34, e34, W34, st34⟩ := putF X32 hx hZ hown (host := "") (Or.inl (own_W62 hw)) Via.refl e32 f35 f36 (Or.inr ⟨(own_W63 hw), rfl, hnm⟩) (own_W49 hw) (ty := (.object "com/example/paidthrough/paidthrough/engine/Message$Severity")) (by decide) rfl rfl (g := (mkF m 11 #[.val (.ref a), .val (.ref co), .val (.ref sv), .val (.ref po), .val (.ref te)] [(.ref sv), (.ref a)])) rfl rfl (Jvm.hb hby d11_11)
  have fw34 := Fld.same W34 f35
  have N34 := Fr.snoc X34 N32 ga
  have K34 : Keep h0 h34 [a] := K32.wr W34 (Or.inl (by simp))
  have pre37 := fun (τ : State) kt => pre33 τ (by
    show Steps p.tables e below (T32.setTop (mkF m 9 #[.val (.ref a), .val (.ref co), .val (.ref sv), .val (.ref po), .val (.ref te)] [])) τ
    refine XS.aloadN X32.here hx rfl (Jvm.hb hby d11_9) rfl rfl ?_
    refine XS.aloadN X32.here hx rfl (Jvm.hb hby d11_10) rfl rfl ?_
    exact st34 τ kt)
  have f39 := (F2.other W32 (Or.inr (slot_ne (Or.inr (own_W65 hw)) (Or.inr (own_W61 hw)) (by decide) (t := (.object "java/lang/String")) (t' := (.object "java/lang/String")) (by decide) (by decide))))
  have f40 := (f39.other W34 (Or.inr (slot_ne (Or.inr (own_W65 hw)) (Or.inr (own_W63 hw)) (by decide) (t := (.object "java/lang/String")) (t' := (.object "com/example/paidthrough/paidthrough/engine/Message$Severity")) (by decide) (by decide))))
  have f41 := f36.wr W34
  obtain ⟨T38, h38, X38, e38, W38, st38⟩ := putF X34 hx hZ hown (host := "") (Or.inl (own_W64 hw)) Via.refl e34 f40 f41 (Or.inr ⟨(own_W65 hw), rfl, hnm⟩) (own_W49 hw) (ty := (.object "java/lang/String")) (by decide) rfl rfl (g := (mkF m 16 #[.val (.ref a), .val (.ref co), .val (.ref sv), .val (.ref po), .val (.ref te)] [(.ref po), (.ref a)])) rfl rfl (Jvm.hb hby d11_16)
  have fw38 := Fld.same W38 f40
  have N38 := Fr.snoc X38 N34 ga
  have K38 : Keep h0 h38 [a] := K34.wr W38 (Or.inl (by simp))
  have pre42 := fun (τ : State) kt => pre37 τ (by
    show Steps p.tables e below (T34.setTop (mkF m 14 #[.val (.ref a), .val (.ref co), .val (.ref sv), .val (.ref po), .val (.ref te)] [])) τ
    refine XS.aloadN X34.here hx rfl (Jvm.hb hby d11_14) rfl rfl ?_
    refine XS.aloadN X34.here hx rfl (Jvm.hb hby d11_15) rfl rfl ?_
    exact st38 τ kt)
  have f44 := (F3.other W32 (Or.inr (slot_ne (Or.inr (own_W67 hw)) (Or.inr (own_W61 hw)) (by decide) (t := (.object "java/lang/String")) (t' := (.object "java/lang/String")) (by decide) (by decide))))
  have f45 := (f44.other W34 (Or.inr (slot_ne (Or.inr (own_W67 hw)) (Or.inr (own_W63 hw)) (by decide) (t := (.object "java/lang/String")) (t' := (.object "com/example/paidthrough/paidthrough/engine/Message$Severity")) (by decide) (by decide))))
  have f46 := (f45.other W38 (Or.inr (slot_ne (Or.inr (own_W67 hw)) (Or.inr (own_W65 hw)) (by decide) (t := (.object "java/lang/String")) (t' := (.object "java/lang/String")) (by decide) (by decide))))
  have f47 := f41.wr W38
  obtain ⟨T43, h43, X43, e43, W43, st43⟩ := putF X38 hx hZ hown (host := "") (Or.inl (own_W66 hw)) Via.refl e38 f46 f47 (Or.inr ⟨(own_W67 hw), rfl, hnm⟩) (own_W49 hw) (ty := (.object "java/lang/String")) (by decide) rfl rfl (g := (mkF m 22 #[.val (.ref a), .val (.ref co), .val (.ref sv), .val (.ref po), .val (.ref te)] [(.ref te), (.ref a)])) rfl rfl (Jvm.hb hby d11_22)
  have fw43 := Fld.same W43 f46
  have N43 := Fr.snoc X43 N38 ga
  have K43 : Keep h0 h43 [a] := K38.wr W43 (Or.inl (by simp))
  have pre48 := fun (τ : State) kt => pre42 τ (by
    show Steps p.tables e below (T38.setTop (mkF m 19 #[.val (.ref a), .val (.ref co), .val (.ref sv), .val (.ref po), .val (.ref te)] [])) τ
    refine XS.aloadN X38.here hx rfl (Jvm.hb hby d11_19) rfl rfl ?_
    refine XS.aload X38.here hx rfl (Jvm.hb hby d11_20) rfl rfl ?_
    exact st43 τ kt)
  have f49 := (fw34.other W38 (Or.inr (slot_ne (Or.inr (own_W63 hw)) (Or.inr (own_W65 hw)) (by decide) (t := (.object "com/example/paidthrough/paidthrough/engine/Message$Severity")) (t' := (.object "java/lang/String")) (by decide) (by decide))))
  have f50 := (f49.other W43 (Or.inr (slot_ne (Or.inr (own_W63 hw)) (Or.inr (own_W67 hw)) (by decide) (t := (.object "com/example/paidthrough/paidthrough/engine/Message$Severity")) (t' := (.object "java/lang/String")) (by decide) (by decide))))
  obtain ⟨fs, hrL, hrun, hended, hW, hsame⟩ := X43.leave (v := none) (fun _ => rfl)
  refine ⟨_, _, cast (congrFun hPS _) (pre48 _ ?_), hrun, hended, _, _, rfl, ?_, ⟨_, rfl⟩, hW, hsame.mono (by decide) (by decide)⟩
  · show Steps p.tables e below (T43.setTop (mkF m 25 #[.val (.ref a), .val (.ref co), .val (.ref sv), .val (.ref po), .val (.ref te)] [])) _
    exact X43.returnOut hx Bd.returns (Jvm.hb hby d11_25) hrL
  · show QM Z a (.ref sv) h0 n0 _ T43.heap _
    rw [e43]
    exact ⟨rfl, N43, K43, f50⟩
theorem d14_0 : decode prog_110_method_7_code 0 = .ok (.aload_n 0, 1) := by decide +kernel
theorem d14_1 : decode prog_110_method_7_code 1 = .ok (.getfield 13, 3) := by decide +kernel
theorem d14_4 : decode prog_110_method_7_code 4 = .ok (.areturn, 1) := by decide +kernel
theorem own_ef14 (m : MethodId) (x0 : Addr) : entryFrame m #[(.ref x0)] 1 = mkF m 0 #[.val (.ref x0)] [] := by first | (simp [entryFrame, mkF, argsToLocals, Value.category]; done) | rfl
set_option maxRecDepth 65536 in
set_option maxHeartbeats 40000000 in
theorem rmG (l : Launch) (Z : State) (a0 : Array Value) (hw : ∀ d ∈ tables_1, d.before a0 Z = true) (ws : List Jvm.Cond) (a : Addr) (sv : Addr) (h0 : Heap) (n0 : Nat) (Z0 : n0 ≤ h0.size) (F1 : Fld Z h0 a "com/example/paidthrough/paidthrough/engine/Message" "severity" "Lcom/example/paidthrough/paidthrough/engine/Message$Severity;" (.ref sv)) :
    MetFree l (⟨"com/example/paidthrough/paidthrough/engine/Message", "severity", "()Lcom/example/paidthrough/paidthrough/engine/Message$Severity;"⟩ : MethodName) (head1 (Jvm.Cond.code (⟨"com/example/paidthrough/paidthrough/engine/Message", "severity", "()Lcom/example/paidthrough/paidthrough/engine/Message$Severity;"⟩ : MethodName) prog_110_method_7_code 1 (some (.object "com/example/paidthrough/paidthrough/engine/Message$Severity")) :: ws) ({ frames := 0, cells := 0, slots := 0, locals := 0 } : Room)) (fun α U => α = #[(.ref a)] ∧ Z.Warmed39 U.vm ∧ U.heap = h0) (fun _ _ _ _ _ => True) (fun _ U ω U' => ∃ ν Λ, ω = .returned ν ∧ QZ (.ref sv) h0 n0 ν U'.heap Λ ∧ FrameEnd U ω U' Λ ({ frames := 0, cells := 0, slots := 0, locals := 0 } : Room).cells ({ frames := 0, cells := 0, slots := 0, locals := 0 } : Room).slots) := by
  refine MetFree.of_bodySF (plainFor_of_name own_pn_com_example_paidthrough_paidthrough_engine_Message) hisR ?_
  intro p e s m args below meth c s₁ Bd hml0 hP hK
  obtain ⟨rfl, hZ, hh⟩ := hP
  have hx := Bd.exec
  have hby := Bd.bytes
  have hml : c.maxLocals = 1 := hml0
  have hown : s.vm.findClass "com/example/paidthrough/paidthrough/engine/Message" = some m.cls := findClass_of_methodNamed Bd.named
  have hnm := (name_of_methodNamed Bd.named Bd.method).1
  have X0 : Stand p l e ({ frames := 0, cells := 0, slots := 0, locals := 0 } : Room) s m #[(.ref a)] below meth c s₁ [] 0 0 := Stand.of_body Bd
  have e0 : s₁.heap = h0 := by rw [← hh, Bd.state]; rfl
  have N0 := Fr.nil n0
  have KK0 : Keep h0 h0 [] := Keep.refl h0 []
  obtain ⟨PS, hPS⟩ : ∃ P : State → Prop, P = fun τ => Steps p.tables e below (s₁.setTop (entryFrame m #[(.ref a)] 1)) τ := ⟨_, rfl⟩
  have pre0 : ∀ τ, Steps p.tables e below (s₁.setTop (mkF m 0 #[.val (.ref a)] [])) τ → PS τ := by rw [hPS]; exact fun τ κ => castTop (own_ef14 m a) κ
  obtain ⟨T51, X51, e51, st51⟩ := getF X0 hx hZ hown (host := "") (Or.inl (own_W62 hw)) Via.refl e0 F1 (g := (mkF m 1 #[.val (.ref a)] [(.ref a)])) rfl rfl (Jvm.hb hby d14_1)
  have pre52 := fun (τ : State) kt => pre0 τ (by
    show Steps p.tables e below (s₁.setTop (mkF m 0 #[.val (.ref a)] [])) τ
    refine XS.aloadN X0.here hx rfl (Jvm.hb hby d14_0) rfl rfl ?_
    exact st51 τ kt)
  obtain ⟨fs, hrL, hrun, hended, hW, hsame⟩ := X51.leave (v := some (.ref sv)) (fun h => by rw [Bd.returns] at h; cases h)
  refine ⟨_, _, cast (congrFun hPS _) (pre52 _ ?_), hrun, hended, _, _, rfl, ?_, ⟨_, rfl⟩, hW, hsame.mono (by decide) (by decide)⟩
  · show Steps p.tables e below (T51.setTop (mkF m 4 #[.val (.ref a)] [(.ref sv)])) _
    exact retOut X51 hx Bd.returns rfl (Or.inr (Or.inr (Or.inr (Or.inr ⟨rfl, rfl, rfl⟩)))) (Jvm.hb hby d14_4) hrL
  · show QZ (.ref sv) h0 n0 _ T51.heap _
    rw [e51]
    exact ⟨rfl, N0, rfl⟩
theorem own_ef11_xxnxx (m : MethodId) (x0 : Addr) (x1 : Addr) (x3 : Addr) (x4 : Addr) : entryFrame m #[(.ref x0), (.ref x1), .null, (.ref x3), (.ref x4)] 5 = mkF m 0 #[.val (.ref x0), .val (.ref x1), .val .null, .val (.ref x3), .val (.ref x4)] [] := by first | (simp [entryFrame, mkF, argsToLocals, Value.category]; done) | rfl
set_option maxRecDepth 65536 in
set_option maxHeartbeats 40000000 in
theorem rmMN (l : Launch) (Z : State) (a0 : Array Value) (hw : ∀ d ∈ tables_1, d.before a0 Z = true) (ws : List Jvm.Cond) (a : Addr) (co : Addr) (po : Addr) (te : Addr)  (h0 : Heap) (n0 : Nat) (Z0 : n0 ≤ h0.size) (E7 : Exa Z h0 a "com/example/paidthrough/paidthrough/engine/Message") (F0 : Fld Z h0 a "com/example/paidthrough/paidthrough/engine/Message" "code" "Ljava/lang/String;" .null) (F1 : Fld Z h0 a "com/example/paidthrough/paidthrough/engine/Message" "severity" "Lcom/example/paidthrough/paidthrough/engine/Message$Severity;" .null) (F2 : Fld Z h0 a "com/example/paidthrough/paidthrough/engine/Message" "policy" "Ljava/lang/String;" .null) (F3 : Fld Z h0 a "com/example/paidthrough/paidthrough/engine/Message" "text" "Ljava/lang/String;" .null) (ga : n0 ≤ a) :
    MetFree l (⟨"com/example/paidthrough/paidthrough/engine/Message", "<init>", "(Ljava/lang/String;Lcom/example/paidthrough/paidthrough/engine/Message$Severity;Ljava/lang/String;Ljava/lang/String;)V"⟩ : MethodName) (head1 (Jvm.Cond.code (⟨"com/example/paidthrough/paidthrough/engine/Message", "<init>", "(Ljava/lang/String;Lcom/example/paidthrough/paidthrough/engine/Message$Severity;Ljava/lang/String;Ljava/lang/String;)V"⟩ : MethodName) prog_110_method_1_code 5 none :: ws) ({ frames := 2, cells := 0, slots := 0, locals := 24 } : Room)) (fun α U => α = #[(.ref a), (.ref co), .null, (.ref po), (.ref te)] ∧ Z.Warmed39 U.vm ∧ U.heap = h0) (fun _ _ _ _ _ => True) (fun _ U ω U' => ∃ ν Λ, ω = .returned ν ∧ QM Z a .null h0 n0 ν U'.heap Λ ∧ FrameEnd U ω U' Λ ({ frames := 2, cells := 0, slots := 0, locals := 24 } : Room).cells ({ frames := 2, cells := 0, slots := 0, locals := 24 } : Room).slots) := by
  refine MetFree.of_bodySF (plainFor_of_name own_pn_com_example_paidthrough_paidthrough_engine_Message) hisR ?_
  intro p e s m args below meth c s₁ Bd hml0 hP hK
  obtain ⟨rfl, hZ, hh⟩ := hP
  have hx := Bd.exec
  have hby := Bd.bytes
  have hml : c.maxLocals = 5 := hml0
  have hown : s.vm.findClass "com/example/paidthrough/paidthrough/engine/Message" = some m.cls := findClass_of_methodNamed Bd.named
  have hnm := (name_of_methodNamed Bd.named Bd.method).1
  have X0 : Stand p l e ({ frames := 2, cells := 0, slots := 0, locals := 24 } : Room) s m #[(.ref a), (.ref co), .null, (.ref po), (.ref te)] below meth c s₁ [] 0 0 := Stand.of_body Bd
  have e0 : s₁.heap = h0 := by rw [← hh, Bd.state]; rfl
  have N0 := Fr.nil n0
  have KK0 : Keep h0 h0 [a] := Keep.refl h0 [a]
  obtain ⟨PS, hPS⟩ : ∃ P : State → Prop, P = fun τ => Steps p.tables e below (s₁.setTop (entryFrame m #[(.ref a), (.ref co), .null, (.ref po), (.ref te)] 5)) τ := ⟨_, rfl⟩
  have pre0 : ∀ τ, Steps p.tables e below (s₁.setTop (mkF m 0 #[.val (.ref a), .val (.ref co), .val .null, .val (.ref po), .val (.ref te)] [])) τ → PS τ := by rw [hPS]; exact fun τ κ => castTop (own_ef11_xxnxx m a co po te) κ
  obtain ⟨_, T53, L53, X53, ⟨rfl, Nq53, eq53⟩, st53⟩ := own_spec (y := own_mn3) (b := a) X0 hx hZ rfl hown (own_W54 hw) (own_W55 hw) (by decide) (rmR l Z a0 hw [] a h0 n0 Z0) (own_W58 hw) (own_W57 hw) 0 (by decide) (by decide) e0 (mkF m 1 #[.val (.ref a), .val (.ref co), .val .null, .val (.ref po), .val (.ref te)] [(.ref a)]) rfl (by rw [hml]; rfl) [] [] rfl (lenOf own_pd___V rfl) rfl (Nat.le_refl _) (Jvm.hb hby d11_1) (by decide) (by decide)
  have N53 := Fr.app N0 Nq53
  have pre54 := fun (τ : State) kt => pre0 τ (by
    show Steps p.tables e below (s₁.setTop (mkF m 0 #[.val (.ref a), .val (.ref co), .val .null, .val (.ref po), .val (.ref te)] [])) τ
    refine XS.aloadN X0.here hx rfl (Jvm.hb hby d11_0) rfl rfl ?_
    exact st53 τ kt)
  obtain ⟨T55, h55, X55, e55, W55, st55⟩ := putF X53 hx hZ hown (host := "") (Or.inl (own_W60 hw)) Via.refl eq53 F0 E7 (Or.inr ⟨(own_W61 hw), rfl, hnm⟩) (own_W49 hw) (ty := (.object "java/lang/String")) (by decide) rfl rfl (g := (mkF m 6 #[.val (.ref a), .val (.ref co), .val .null, .val (.ref po), .val (.ref te)] [(.ref co), (.ref a)])) rfl rfl (Jvm.hb hby d11_6)
  have fw55 := Fld.same W55 F0
  have N55 := Fr.snoc X55 N53 ga
  have K55 : Keep h0 h55 [a] := KK0.wr W55 (Or.inl (by simp))
  have pre56 := fun (τ : State) kt => pre54 τ (by
    show Steps p.tables e below (T53.setTop (mkF m 4 #[.val (.ref a), .val (.ref co), .val .null, .val (.ref po), .val (.ref te)] [])) τ
    refine XS.aloadN X53.here hx rfl (Jvm.hb hby d11_4) rfl rfl ?_
    refine XS.aloadN X53.here hx rfl (Jvm.hb hby d11_5) rfl rfl ?_
    exact st55 τ kt)
  have f58 := (F1.other W55 (Or.inr (slot_ne (Or.inr (own_W63 hw)) (Or.inr (own_W61 hw)) (by decide) (t := (.object "com/example/paidthrough/paidthrough/engine/Message$Severity")) (t' := (.object "java/lang/String")) (by decide) (by decide))))
  have f59 := E7.wr W55
  obtain ⟨T57, h57, X57, e57, W57, st57⟩ := putF X55 hx hZ hown (host := "") (Or.inl (own_W62 hw)) Via.refl e55 f58 f59 (Or.inr ⟨(own_W63 hw), rfl, hnm⟩) (own_W49 hw) (ty := (.object "com/example/paidthrough/paidthrough/engine/Message$Severity")) (by decide) rfl rfl (g := (mkF m 11 #[.val (.ref a), .val (.ref co), .val .null, .val (.ref po), .val (.ref te)] [.null, (.ref a)])) rfl rfl (Jvm.hb hby d11_11)
  have fw57 := Fld.same W57 f58
  have N57 := Fr.snoc X57 N55 ga
  have K57 : Keep h0 h57 [a] := K55.wr W57 (Or.inl (by simp))
  have pre60 := fun (τ : State) kt => pre56 τ (by
    show Steps p.tables e below (T55.setTop (mkF m 9 #[.val (.ref a), .val (.ref co), .val .null, .val (.ref po), .val (.ref te)] [])) τ
    refine XS.aloadN X55.here hx rfl (Jvm.hb hby d11_9) rfl rfl ?_
    refine XS.aloadN X55.here hx rfl (Jvm.hb hby d11_10) rfl rfl ?_
    exact st57 τ kt)
  have f62 := (F2.other W55 (Or.inr (slot_ne (Or.inr (own_W65 hw)) (Or.inr (own_W61 hw)) (by decide) (t := (.object "java/lang/String")) (t' := (.object "java/lang/String")) (by decide) (by decide))))
  have f63 := (f62.other W57 (Or.inr (slot_ne (Or.inr (own_W65 hw)) (Or.inr (own_W63 hw)) (by decide) (t := (.object "java/lang/String")) (t' := (.object "com/example/paidthrough/paidthrough/engine/Message$Severity")) (by decide) (by decide))))
  have f64 := f59.wr W57
  obtain ⟨T61, h61, X61, e61, W61, st61⟩ := putF X57 hx hZ hown (host := "") (Or.inl (own_W64 hw)) Via.refl e57 f63 f64 (Or.inr ⟨(own_W65 hw), rfl, hnm⟩) (own_W49 hw) (ty := (.object "java/lang/String")) (by decide) rfl rfl (g := (mkF m 16 #[.val (.ref a), .val (.ref co), .val .null, .val (.ref po), .val (.ref te)] [(.ref po), (.ref a)])) rfl rfl (Jvm.hb hby d11_16)
  have fw61 := Fld.same W61 f63
  have N61 := Fr.snoc X61 N57 ga
  have K61 : Keep h0 h61 [a] := K57.wr W61 (Or.inl (by simp))
  have pre65 := fun (τ : State) kt => pre60 τ (by
    show Steps p.tables e below (T57.setTop (mkF m 14 #[.val (.ref a), .val (.ref co), .val .null, .val (.ref po), .val (.ref te)] [])) τ
    refine XS.aloadN X57.here hx rfl (Jvm.hb hby d11_14) rfl rfl ?_
    refine XS.aloadN X57.here hx rfl (Jvm.hb hby d11_15) rfl rfl ?_
    exact st61 τ kt)
  have f67 := (F3.other W55 (Or.inr (slot_ne (Or.inr (own_W67 hw)) (Or.inr (own_W61 hw)) (by decide) (t := (.object "java/lang/String")) (t' := (.object "java/lang/String")) (by decide) (by decide))))
  have f68 := (f67.other W57 (Or.inr (slot_ne (Or.inr (own_W67 hw)) (Or.inr (own_W63 hw)) (by decide) (t := (.object "java/lang/String")) (t' := (.object "com/example/paidthrough/paidthrough/engine/Message$Severity")) (by decide) (by decide))))
  have f69 := (f68.other W61 (Or.inr (slot_ne (Or.inr (own_W67 hw)) (Or.inr (own_W65 hw)) (by decide) (t := (.object "java/lang/String")) (t' := (.object "java/lang/String")) (by decide) (by decide))))
  have f70 := f64.wr W61
  obtain ⟨T66, h66, X66, e66, W66, st66⟩ := putF X61 hx hZ hown (host := "") (Or.inl (own_W66 hw)) Via.refl e61 f69 f70 (Or.inr ⟨(own_W67 hw), rfl, hnm⟩) (own_W49 hw) (ty := (.object "java/lang/String")) (by decide) rfl rfl (g := (mkF m 22 #[.val (.ref a), .val (.ref co), .val .null, .val (.ref po), .val (.ref te)] [(.ref te), (.ref a)])) rfl rfl (Jvm.hb hby d11_22)
  have fw66 := Fld.same W66 f69
  have N66 := Fr.snoc X66 N61 ga
  have K66 : Keep h0 h66 [a] := K61.wr W66 (Or.inl (by simp))
  have pre71 := fun (τ : State) kt => pre65 τ (by
    show Steps p.tables e below (T61.setTop (mkF m 19 #[.val (.ref a), .val (.ref co), .val .null, .val (.ref po), .val (.ref te)] [])) τ
    refine XS.aloadN X61.here hx rfl (Jvm.hb hby d11_19) rfl rfl ?_
    refine XS.aload X61.here hx rfl (Jvm.hb hby d11_20) rfl rfl ?_
    exact st66 τ kt)
  have f72 := (fw57.other W61 (Or.inr (slot_ne (Or.inr (own_W63 hw)) (Or.inr (own_W65 hw)) (by decide) (t := (.object "com/example/paidthrough/paidthrough/engine/Message$Severity")) (t' := (.object "java/lang/String")) (by decide) (by decide))))
  have f73 := (f72.other W66 (Or.inr (slot_ne (Or.inr (own_W63 hw)) (Or.inr (own_W67 hw)) (by decide) (t := (.object "com/example/paidthrough/paidthrough/engine/Message$Severity")) (t' := (.object "java/lang/String")) (by decide) (by decide))))
  obtain ⟨fs, hrL, hrun, hended, hW, hsame⟩ := X66.leave (v := none) (fun _ => rfl)
  refine ⟨_, _, cast (congrFun hPS _) (pre71 _ ?_), hrun, hended, _, _, rfl, ?_, ⟨_, rfl⟩, hW, hsame.mono (by decide) (by decide)⟩
  · show Steps p.tables e below (T66.setTop (mkF m 25 #[.val (.ref a), .val (.ref co), .val .null, .val (.ref po), .val (.ref te)] [])) _
    exact X66.returnOut hx Bd.returns (Jvm.hb hby d11_25) hrL
  · show QM Z a .null h0 n0 _ T66.heap _
    rw [e66]
    exact ⟨rfl, N66, K66, f73⟩
set_option maxRecDepth 65536 in
set_option maxHeartbeats 40000000 in
theorem rmGN (l : Launch) (Z : State) (a0 : Array Value) (hw : ∀ d ∈ tables_1, d.before a0 Z = true) (ws : List Jvm.Cond) (a : Addr)  (h0 : Heap) (n0 : Nat) (Z0 : n0 ≤ h0.size) (F1 : Fld Z h0 a "com/example/paidthrough/paidthrough/engine/Message" "severity" "Lcom/example/paidthrough/paidthrough/engine/Message$Severity;" .null) :
    MetFree l (⟨"com/example/paidthrough/paidthrough/engine/Message", "severity", "()Lcom/example/paidthrough/paidthrough/engine/Message$Severity;"⟩ : MethodName) (head1 (Jvm.Cond.code (⟨"com/example/paidthrough/paidthrough/engine/Message", "severity", "()Lcom/example/paidthrough/paidthrough/engine/Message$Severity;"⟩ : MethodName) prog_110_method_7_code 1 (some (.object "com/example/paidthrough/paidthrough/engine/Message$Severity")) :: ws) ({ frames := 0, cells := 0, slots := 0, locals := 0 } : Room)) (fun α U => α = #[(.ref a)] ∧ Z.Warmed39 U.vm ∧ U.heap = h0) (fun _ _ _ _ _ => True) (fun _ U ω U' => ∃ ν Λ, ω = .returned ν ∧ QZ .null h0 n0 ν U'.heap Λ ∧ FrameEnd U ω U' Λ ({ frames := 0, cells := 0, slots := 0, locals := 0 } : Room).cells ({ frames := 0, cells := 0, slots := 0, locals := 0 } : Room).slots) := by
  refine MetFree.of_bodySF (plainFor_of_name own_pn_com_example_paidthrough_paidthrough_engine_Message) hisR ?_
  intro p e s m args below meth c s₁ Bd hml0 hP hK
  obtain ⟨rfl, hZ, hh⟩ := hP
  have hx := Bd.exec
  have hby := Bd.bytes
  have hml : c.maxLocals = 1 := hml0
  have hown : s.vm.findClass "com/example/paidthrough/paidthrough/engine/Message" = some m.cls := findClass_of_methodNamed Bd.named
  have hnm := (name_of_methodNamed Bd.named Bd.method).1
  have X0 : Stand p l e ({ frames := 0, cells := 0, slots := 0, locals := 0 } : Room) s m #[(.ref a)] below meth c s₁ [] 0 0 := Stand.of_body Bd
  have e0 : s₁.heap = h0 := by rw [← hh, Bd.state]; rfl
  have N0 := Fr.nil n0
  have KK0 : Keep h0 h0 [] := Keep.refl h0 []
  obtain ⟨PS, hPS⟩ : ∃ P : State → Prop, P = fun τ => Steps p.tables e below (s₁.setTop (entryFrame m #[(.ref a)] 1)) τ := ⟨_, rfl⟩
  have pre0 : ∀ τ, Steps p.tables e below (s₁.setTop (mkF m 0 #[.val (.ref a)] [])) τ → PS τ := by rw [hPS]; exact fun τ κ => castTop (own_ef14 m a) κ
  obtain ⟨T74, X74, e74, st74⟩ := getF X0 hx hZ hown (host := "") (Or.inl (own_W62 hw)) Via.refl e0 F1 (g := (mkF m 1 #[.val (.ref a)] [(.ref a)])) rfl rfl (Jvm.hb hby d14_1)
  have pre75 := fun (τ : State) kt => pre0 τ (by
    show Steps p.tables e below (s₁.setTop (mkF m 0 #[.val (.ref a)] [])) τ
    refine XS.aloadN X0.here hx rfl (Jvm.hb hby d14_0) rfl rfl ?_
    exact st74 τ kt)
  obtain ⟨fs, hrL, hrun, hended, hW, hsame⟩ := X74.leave (v := some .null) (fun h => by rw [Bd.returns] at h; cases h)
  refine ⟨_, _, cast (congrFun hPS _) (pre75 _ ?_), hrun, hended, _, _, rfl, ?_, ⟨_, rfl⟩, hW, hsame.mono (by decide) (by decide)⟩
  · show Steps p.tables e below (T74.setTop (mkF m 4 #[.val (.ref a)] [.null])) _
    exact retOut X74 hx Bd.returns rfl (Or.inr (Or.inr (Or.inr (Or.inr ⟨rfl, rfl, rfl⟩)))) (Jvm.hb hby d14_4) hrL
  · show QZ .null h0 n0 _ T74.heap _
    rw [e74]
    exact ⟨rfl, N0, rfl⟩
theorem d13_0 : decode prog_110_method_2_code 0 = .ok (.aload_n 0, 1) := by decide +kernel
theorem d13_1 : decode prog_110_method_2_code 1 = .ok (.getfield 13, 3) := by decide +kernel
theorem d13_4 : decode prog_110_method_2_code 4 = .ok (.getstatic 23, 3) := by decide +kernel
theorem d13_7 : decode prog_110_method_2_code 7 = .ok (.if_acmp .ne 7, 3) := by decide +kernel
theorem d13_10 : decode prog_110_method_2_code 10 = .ok (.iconst 1, 1) := by decide +kernel
theorem d13_11 : decode prog_110_method_2_code 11 = .ok (.goto 4, 3) := by decide +kernel
theorem d13_14 : decode prog_110_method_2_code 14 = .ok (.iconst 0, 1) := by decide +kernel
theorem d13_15 : decode prog_110_method_2_code 15 = .ok (.ireturn, 1) := by decide +kernel
theorem own_ef13 (m : MethodId) (x0 : Addr) : entryFrame m #[(.ref x0)] 1 = mkF m 0 #[.val (.ref x0)] [] := by first | (simp [entryFrame, mkF, argsToLocals, Value.category]; done) | rfl
set_option maxRecDepth 65536 in
set_option maxHeartbeats 40000000 in
theorem rmFA (l : Launch) (Z : State) (a0 : Array Value) (hw : ∀ d ∈ tables_1, d.before a0 Z = true) (ws : List Jvm.Cond) (a : Addr) (fa : Addr) (h0 : Heap) (n0 : Nat) (Z0 : n0 ≤ h0.size) (F1 : Fld Z h0 a "com/example/paidthrough/paidthrough/engine/Message" "severity" "Lcom/example/paidthrough/paidthrough/engine/Message$Severity;" (.ref fa)) (S1 : Sta Z h0 "com/example/paidthrough/paidthrough/engine/Message$Severity" "FATAL" "Lcom/example/paidthrough/paidthrough/engine/Message$Severity;" (.ref fa)) :
    MetFree l (⟨"com/example/paidthrough/paidthrough/engine/Message", "isFatal", "()Z"⟩ : MethodName) (head1 (Jvm.Cond.code (⟨"com/example/paidthrough/paidthrough/engine/Message", "isFatal", "()Z"⟩ : MethodName) prog_110_method_2_code 1 (some .boolean) :: ws) ({ frames := 0, cells := 0, slots := 0, locals := 0 } : Room)) (fun α U => α = #[(.ref a)] ∧ Z.Warmed39 U.vm ∧ U.heap = h0) (fun _ _ _ _ _ => True) (fun _ U ω U' => ∃ ν Λ, ω = .returned ν ∧ QZ (.int 1) h0 n0 ν U'.heap Λ ∧ FrameEnd U ω U' Λ ({ frames := 0, cells := 0, slots := 0, locals := 0 } : Room).cells ({ frames := 0, cells := 0, slots := 0, locals := 0 } : Room).slots) := by
  refine MetFree.of_bodySF (plainFor_of_name own_pn_com_example_paidthrough_paidthrough_engine_Message) hisR ?_
  intro p e s m args below meth c s₁ Bd hml0 hP hK
  obtain ⟨rfl, hZ, hh⟩ := hP
  have hx := Bd.exec
  have hby := Bd.bytes
  have hml : c.maxLocals = 1 := hml0
  have hown : s.vm.findClass "com/example/paidthrough/paidthrough/engine/Message" = some m.cls := findClass_of_methodNamed Bd.named
  have hnm := (name_of_methodNamed Bd.named Bd.method).1
  have X0 : Stand p l e ({ frames := 0, cells := 0, slots := 0, locals := 0 } : Room) s m #[(.ref a)] below meth c s₁ [] 0 0 := Stand.of_body Bd
  have e0 : s₁.heap = h0 := by rw [← hh, Bd.state]; rfl
  have N0 := Fr.nil n0
  have KK0 : Keep h0 h0 [] := Keep.refl h0 []
  obtain ⟨PS, hPS⟩ : ∃ P : State → Prop, P = fun τ => Steps p.tables e below (s₁.setTop (entryFrame m #[(.ref a)] 1)) τ := ⟨_, rfl⟩
  have pre0 : ∀ τ, Steps p.tables e below (s₁.setTop (mkF m 0 #[.val (.ref a)] [])) τ → PS τ := by rw [hPS]; exact fun τ κ => castTop (own_ef13 m a) κ
  obtain ⟨T76, X76, e76, st76⟩ := getF X0 hx hZ hown (host := "") (Or.inl (own_W62 hw)) Via.refl e0 F1 (g := (mkF m 1 #[.val (.ref a)] [(.ref a)])) rfl rfl (Jvm.hb hby d13_1)
  have pre77 := fun (τ : State) kt => pre0 τ (by
    show Steps p.tables e below (s₁.setTop (mkF m 0 #[.val (.ref a)] [])) τ
    refine XS.aloadN X0.here hx rfl (Jvm.hb hby d13_0) rfl rfl ?_
    exact st76 τ kt)
  obtain ⟨T78, X78, e78, st78⟩ := getS2 X76 hx hZ hown (host := "") (Or.inl (own_W73 hw)) Via.refl e76 S1 (g := (mkF m 4 #[.val (.ref a)] [(.ref fa)])) rfl (Jvm.hb hby d13_4)
  have pre79 := fun (τ : State) kt => pre77 τ (st78 τ kt)
  have pre80 := fun (τ : State) kt => pre79 τ (by
    show Steps p.tables e below (T78.setTop (mkF m 7 #[.val (.ref a)] [(.ref fa), (.ref fa)])) τ
    refine Jvm.RoadKit.acmp (g := (mkF m 7 #[.val (.ref a)] [(.ref fa), (.ref fa)])) X78 hx rfl rfl rfl (pc0 := 7) (pc' := 10) (same := true) rfl (Jvm.hb hby d13_7) rfl (decide_eq_true rfl) (by decide) (by decide) ?_
    refine XS.iconst X78.here hx rfl (Jvm.hb hby d13_10) ?_
    refine XS.goto X78.here hx rfl (pc0 := 11) (pc' := 15) rfl (Jvm.hb hby d13_11) (by decide) (by decide) ?_
    exact kt)
  obtain ⟨fs, hrL, hrun, hended, hW, hsame⟩ := X78.leave (v := some (.int (1 : Int32))) (fun h => by rw [Bd.returns] at h; cases h)
  refine ⟨_, _, cast (congrFun hPS _) (pre80 _ ?_), hrun, hended, _, _, rfl, ?_, ⟨_, rfl⟩, hW, hsame.mono (by decide) (by decide)⟩
  · show Steps p.tables e below (T78.setTop (mkF m 15 #[.val (.ref a)] [(.int (1 : Int32))])) _
    exact retN X78 hx (t := .boolean) Bd.returns (by simp) (Jvm.hb hby d13_15) hrL
  · show QZ (.int 1) h0 n0 _ T78.heap _
    rw [e78]
    exact ⟨rfl, N0, rfl⟩
set_option maxRecDepth 65536 in
set_option maxHeartbeats 40000000 in
theorem rmFB (l : Launch) (Z : State) (a0 : Array Value) (hw : ∀ d ∈ tables_1, d.before a0 Z = true) (ws : List Jvm.Cond) (a : Addr) (fa : Addr) (sv : Addr) (h0 : Heap) (n0 : Nat) (Z0 : n0 ≤ h0.size) (F1 : Fld Z h0 a "com/example/paidthrough/paidthrough/engine/Message" "severity" "Lcom/example/paidthrough/paidthrough/engine/Message$Severity;" (.ref sv)) (S1 : Sta Z h0 "com/example/paidthrough/paidthrough/engine/Message$Severity" "FATAL" "Lcom/example/paidthrough/paidthrough/engine/Message$Severity;" (.ref fa)) (hne : ¬ sv = fa) :
    MetFree l (⟨"com/example/paidthrough/paidthrough/engine/Message", "isFatal", "()Z"⟩ : MethodName) (head1 (Jvm.Cond.code (⟨"com/example/paidthrough/paidthrough/engine/Message", "isFatal", "()Z"⟩ : MethodName) prog_110_method_2_code 1 (some .boolean) :: ws) ({ frames := 0, cells := 0, slots := 0, locals := 0 } : Room)) (fun α U => α = #[(.ref a)] ∧ Z.Warmed39 U.vm ∧ U.heap = h0) (fun _ _ _ _ _ => True) (fun _ U ω U' => ∃ ν Λ, ω = .returned ν ∧ QZ (.int 0) h0 n0 ν U'.heap Λ ∧ FrameEnd U ω U' Λ ({ frames := 0, cells := 0, slots := 0, locals := 0 } : Room).cells ({ frames := 0, cells := 0, slots := 0, locals := 0 } : Room).slots) := by
  refine MetFree.of_bodySF (plainFor_of_name own_pn_com_example_paidthrough_paidthrough_engine_Message) hisR ?_
  intro p e s m args below meth c s₁ Bd hml0 hP hK
  obtain ⟨rfl, hZ, hh⟩ := hP
  have hx := Bd.exec
  have hby := Bd.bytes
  have hml : c.maxLocals = 1 := hml0
  have hown : s.vm.findClass "com/example/paidthrough/paidthrough/engine/Message" = some m.cls := findClass_of_methodNamed Bd.named
  have hnm := (name_of_methodNamed Bd.named Bd.method).1
  have X0 : Stand p l e ({ frames := 0, cells := 0, slots := 0, locals := 0 } : Room) s m #[(.ref a)] below meth c s₁ [] 0 0 := Stand.of_body Bd
  have e0 : s₁.heap = h0 := by rw [← hh, Bd.state]; rfl
  have N0 := Fr.nil n0
  have KK0 : Keep h0 h0 [] := Keep.refl h0 []
  obtain ⟨PS, hPS⟩ : ∃ P : State → Prop, P = fun τ => Steps p.tables e below (s₁.setTop (entryFrame m #[(.ref a)] 1)) τ := ⟨_, rfl⟩
  have pre0 : ∀ τ, Steps p.tables e below (s₁.setTop (mkF m 0 #[.val (.ref a)] [])) τ → PS τ := by rw [hPS]; exact fun τ κ => castTop (own_ef13 m a) κ
  obtain ⟨T81, X81, e81, st81⟩ := getF X0 hx hZ hown (host := "") (Or.inl (own_W62 hw)) Via.refl e0 F1 (g := (mkF m 1 #[.val (.ref a)] [(.ref a)])) rfl rfl (Jvm.hb hby d13_1)
  have pre82 := fun (τ : State) kt => pre0 τ (by
    show Steps p.tables e below (s₁.setTop (mkF m 0 #[.val (.ref a)] [])) τ
    refine XS.aloadN X0.here hx rfl (Jvm.hb hby d13_0) rfl rfl ?_
    exact st81 τ kt)
  obtain ⟨T83, X83, e83, st83⟩ := getS2 X81 hx hZ hown (host := "") (Or.inl (own_W73 hw)) Via.refl e81 S1 (g := (mkF m 4 #[.val (.ref a)] [(.ref sv)])) rfl (Jvm.hb hby d13_4)
  have pre84 := fun (τ : State) kt => pre82 τ (st83 τ kt)
  have pre85 := fun (τ : State) kt => pre84 τ (by
    show Steps p.tables e below (T83.setTop (mkF m 7 #[.val (.ref a)] [(.ref fa), (.ref sv)])) τ
    refine Jvm.RoadKit.acmp (g := (mkF m 7 #[.val (.ref a)] [(.ref fa), (.ref sv)])) X83 hx rfl rfl rfl (pc0 := 7) (pc' := 14) (same := false) rfl (Jvm.hb hby d13_7) rfl (decide_eq_false fun q => hne (Value.ref.inj q)) (by decide) (by decide) ?_
    refine XS.iconst X83.here hx rfl (Jvm.hb hby d13_14) ?_
    exact kt)
  obtain ⟨fs, hrL, hrun, hended, hW, hsame⟩ := X83.leave (v := some (.int (0 : Int32))) (fun h => by rw [Bd.returns] at h; cases h)
  refine ⟨_, _, cast (congrFun hPS _) (pre85 _ ?_), hrun, hended, _, _, rfl, ?_, ⟨_, rfl⟩, hW, hsame.mono (by decide) (by decide)⟩
  · show Steps p.tables e below (T83.setTop (mkF m 15 #[.val (.ref a)] [(.int (0 : Int32))])) _
    exact retN X83 hx (t := .boolean) Bd.returns (by simp) (Jvm.hb hby d13_15) hrL
  · show QZ (.int 0) h0 n0 _ T83.heap _
    rw [e83]
    exact ⟨rfl, N0, rfl⟩
set_option maxRecDepth 65536 in
set_option maxHeartbeats 40000000 in
theorem rmFC (l : Launch) (Z : State) (a0 : Array Value) (hw : ∀ d ∈ tables_1, d.before a0 Z = true) (ws : List Jvm.Cond) (a : Addr) (fa : Addr) (h0 : Heap) (n0 : Nat) (Z0 : n0 ≤ h0.size) (F1 : Fld Z h0 a "com/example/paidthrough/paidthrough/engine/Message" "severity" "Lcom/example/paidthrough/paidthrough/engine/Message$Severity;" .null) (S1 : Sta Z h0 "com/example/paidthrough/paidthrough/engine/Message$Severity" "FATAL" "Lcom/example/paidthrough/paidthrough/engine/Message$Severity;" (.ref fa)) :
    MetFree l (⟨"com/example/paidthrough/paidthrough/engine/Message", "isFatal", "()Z"⟩ : MethodName) (head1 (Jvm.Cond.code (⟨"com/example/paidthrough/paidthrough/engine/Message", "isFatal", "()Z"⟩ : MethodName) prog_110_method_2_code 1 (some .boolean) :: ws) ({ frames := 0, cells := 0, slots := 0, locals := 0 } : Room)) (fun α U => α = #[(.ref a)] ∧ Z.Warmed39 U.vm ∧ U.heap = h0) (fun _ _ _ _ _ => True) (fun _ U ω U' => ∃ ν Λ, ω = .returned ν ∧ QZ (.int 0) h0 n0 ν U'.heap Λ ∧ FrameEnd U ω U' Λ ({ frames := 0, cells := 0, slots := 0, locals := 0 } : Room).cells ({ frames := 0, cells := 0, slots := 0, locals := 0 } : Room).slots) := by
  refine MetFree.of_bodySF (plainFor_of_name own_pn_com_example_paidthrough_paidthrough_engine_Message) hisR ?_
  intro p e s m args below meth c s₁ Bd hml0 hP hK
  obtain ⟨rfl, hZ, hh⟩ := hP
  have hx := Bd.exec
  have hby := Bd.bytes
  have hml : c.maxLocals = 1 := hml0
  have hown : s.vm.findClass "com/example/paidthrough/paidthrough/engine/Message" = some m.cls := findClass_of_methodNamed Bd.named
  have hnm := (name_of_methodNamed Bd.named Bd.method).1
  have X0 : Stand p l e ({ frames := 0, cells := 0, slots := 0, locals := 0 } : Room) s m #[(.ref a)] below meth c s₁ [] 0 0 := Stand.of_body Bd
  have e0 : s₁.heap = h0 := by rw [← hh, Bd.state]; rfl
  have N0 := Fr.nil n0
  have KK0 : Keep h0 h0 [] := Keep.refl h0 []
  obtain ⟨PS, hPS⟩ : ∃ P : State → Prop, P = fun τ => Steps p.tables e below (s₁.setTop (entryFrame m #[(.ref a)] 1)) τ := ⟨_, rfl⟩
  have pre0 : ∀ τ, Steps p.tables e below (s₁.setTop (mkF m 0 #[.val (.ref a)] [])) τ → PS τ := by rw [hPS]; exact fun τ κ => castTop (own_ef13 m a) κ
  obtain ⟨T86, X86, e86, st86⟩ := getF X0 hx hZ hown (host := "") (Or.inl (own_W62 hw)) Via.refl e0 F1 (g := (mkF m 1 #[.val (.ref a)] [(.ref a)])) rfl rfl (Jvm.hb hby d13_1)
  have pre87 := fun (τ : State) kt => pre0 τ (by
    show Steps p.tables e below (s₁.setTop (mkF m 0 #[.val (.ref a)] [])) τ
    refine XS.aloadN X0.here hx rfl (Jvm.hb hby d13_0) rfl rfl ?_
    exact st86 τ kt)
  obtain ⟨T88, X88, e88, st88⟩ := getS2 X86 hx hZ hown (host := "") (Or.inl (own_W73 hw)) Via.refl e86 S1 (g := (mkF m 4 #[.val (.ref a)] [.null])) rfl (Jvm.hb hby d13_4)
  have pre89 := fun (τ : State) kt => pre87 τ (st88 τ kt)
  have pre90 := fun (τ : State) kt => pre89 τ (by
    show Steps p.tables e below (T88.setTop (mkF m 7 #[.val (.ref a)] [(.ref fa), .null])) τ
    refine Jvm.RoadKit.acmp (g := (mkF m 7 #[.val (.ref a)] [(.ref fa), .null])) X88 hx rfl rfl rfl (pc0 := 7) (pc' := 14) (same := false) rfl (Jvm.hb hby d13_7) rfl (decide_eq_false nofun) (by decide) (by decide) ?_
    refine XS.iconst X88.here hx rfl (Jvm.hb hby d13_14) ?_
    exact kt)
  obtain ⟨fs, hrL, hrun, hended, hW, hsame⟩ := X88.leave (v := some (.int (0 : Int32))) (fun h => by rw [Bd.returns] at h; cases h)
  refine ⟨_, _, cast (congrFun hPS _) (pre90 _ ?_), hrun, hended, _, _, rfl, ?_, ⟨_, rfl⟩, hW, hsame.mono (by decide) (by decide)⟩
  · show Steps p.tables e below (T88.setTop (mkF m 15 #[.val (.ref a)] [(.int (0 : Int32))])) _
    exact retN X88 hx (t := .boolean) Bd.returns (by simp) (Jvm.hb hby d13_15) hrL
  · show QZ (.int 0) h0 n0 _ T88.heap _
    rw [e88]
    exact ⟨rfl, N0, rfl⟩
theorem own_pn_com_example_paidthrough_paidthrough_engine_MessageIsFatalPinLaw : plainName "com/example/paidthrough/paidthrough/engine/MessageIsFatalPinLaw" = true := by first | (simp [plainName, overriddenIn]; done) | decide +kernel
theorem own_ef0 (m : MethodId) (x0 : Int32) (x1 : Int32) (x2 : Int32) (x3 : Int32) : entryFrame m #[(.int x0), (.int x1), (.int x2), (.int x3)] maxLocals = mkF m 0 #[.val (.int x0), .val (.int x1), .val (.int x2), .val (.int x3), .unset, .unset, .unset, .unset, .unset, .unset, .unset] [] := by first | (simp [entryFrame, mkF, argsToLocals, Value.category, maxLocals]; done) | rfl
def Q0 (n0 : Nat) (v : Option Value) (h : Heap) (L : List Loc) : Prop := v = some (.int 1) ∧ Fr n0 L
set_option maxRecDepth 65536 in
set_option maxHeartbeats 40000000 in
theorem rm0 (l : Launch) (Z : State) (a0 : Array Value) (hw : ∀ d ∈ tables_1, d.before a0 Z = true) (ws : List Jvm.Cond) (p1 : Int32) (p2 : Int32) (p3 : Int32) (p4 : Int32) (cz : Int32) (fa ia : Addr) (h0 : Heap) (n0 : Nat) (Z0 : n0 ≤ h0.size) (O2 : Sta Z Z.heap "java/lang/String" "COMPACT_STRINGS" "Z" (.int cz)) (P5 : ¬ cz = 0) (S1 : Sta Z Z.heap "com/example/paidthrough/paidthrough/engine/Message$Severity" "FATAL" "Lcom/example/paidthrough/paidthrough/engine/Message$Severity;" (.ref fa)) (S2 : Sta Z Z.heap "com/example/paidthrough/paidthrough/engine/Message$Severity" "INFORMATIVE" "Lcom/example/paidthrough/paidthrough/engine/Message$Severity;" (.ref ia)) (hne : ¬ ia = fa) (OLD0 : Old Z n0 h0) :
    MetFree l x (head1 (Jvm.Cond.code x code maxLocals ret :: ws) room_1) (fun α U => α = #[(.int p1), (.int p2), (.int p3), (.int p4)] ∧ Z.Warmed39 U.vm ∧ U.heap = h0) (fun _ _ _ _ _ => True) (fun _ U ω U' => ∃ ν Λ, ω = .returned ν ∧ Q0 n0 ν U'.heap Λ ∧ FrameEnd U ω U' Λ room_1.cells room_1.slots) := by
  refine MetFree.of_bodySF (plainFor_of_name own_pn_com_example_paidthrough_paidthrough_engine_MessageIsFatalPinLaw) hisR ?_
  intro p e s m args below meth c s₁ Bd hml0 hP hK
  obtain ⟨rfl, hZ, hh⟩ := hP
  have hx := Bd.exec
  have hby := Bd.bytes
  have hml : c.maxLocals = 11 := hml0
  have hown : s.vm.findClass "com/example/paidthrough/paidthrough/engine/MessageIsFatalPinLaw" = some m.cls := findClass_of_methodNamed Bd.named
  have hnm := (name_of_methodNamed Bd.named Bd.method).1
  have X0 : Stand p l e room_1 s m #[(.int p1), (.int p2), (.int p3), (.int p4)] below meth c s₁ [] 0 0 := Stand.of_body Bd
  have e0 : s₁.heap = h0 := by rw [← hh, Bd.state]; rfl
  have N0 := Fr.nil n0
  have KK0 : Keep h0 h0 [] := Keep.refl h0 []
  obtain ⟨PS, hPS⟩ : ∃ P : State → Prop, P = fun τ => Steps p.tables e below (s₁.setTop (entryFrame m #[(.int p1), (.int p2), (.int p3), (.int p4)] maxLocals)) τ := ⟨_, rfl⟩
  have pre0 : ∀ τ, Steps p.tables e below (s₁.setTop (mkF m 0 #[.val (.int p1), .val (.int p2), .val (.int p3), .val (.int p4), .unset, .unset, .unset, .unset, .unset, .unset, .unset] [])) τ → PS τ := by rw [hPS]; exact fun τ κ => castTop (own_ef0 m p1 p2 p3 p4) κ
  have pre91 := fun (τ : State) kt => pre0 τ (by
    show Steps p.tables e below (s₁.setTop (mkF m 0 #[.val (.int p1), .val (.int p2), .val (.int p3), .val (.int p4), .unset, .unset, .unset, .unset, .unset, .unset, .unset] [])) τ
    refine XS.iloadN X0.here hx rfl (Jvm.hb hby at_0) rfl ?_
    refine X0.ldcInt hx hown (mvT hZ (own_W0 hw)) (g := (mkF m 1 #[.val (.int p1), .val (.int p2), .val (.int p3), .val (.int p4), .unset, .unset, .unset, .unset, .unset, .unset, .unset] [(.int p1)])) rfl (Jvm.hb hby at_1) _ ?_
    refine XS.iand X0.here hx rfl (Jvm.hb hby at_3) rfl ?_
    refine XS.iconst X0.here hx rfl (Jvm.hb hby at_4) ?_
    refine iremM X0 hx rfl (Jvm.hb hby at_5) rfl (by decide) ?_
    refine XS.istore X0.here hx rfl (Jvm.hb hby at_6) rfl (l' := #[.val (.int p1), .val (.int p2), .val (.int p3), .val (.int p4), .val (.int ((p1 &&& (2147483647 : Int32)) % (3 : Int32))), .unset, .unset, .unset, .unset, .unset, .unset]) rfl ?_
    refine XS.iload X0.here hx rfl (Jvm.hb hby at_8) rfl ?_
    exact kt)
  obtain ⟨sl, e_sl⟩ : ∃ z : Int32, z = ((p1 &&& (2147483647 : Int32)) % (3 : Int32)) := ⟨_, rfl⟩
  have pre92 : ∀ τ, Steps p.tables e below (s₁.setTop (mkF m 10 #[.val (.int p1), .val (.int p2), .val (.int p3), .val (.int p4), .val (.int sl), .unset, .unset, .unset, .unset, .unset, .unset] [(.int sl)])) τ → PS τ := by rw [e_sl]; exact pre91
  by_cases q0 : sl = (0 : Int32)
  · skip
    obtain ⟨T93, X93, e93, st93⟩ := getS2 X0 hx hZ hown (host := "") (Or.inl (own_W1 hw)) Via.refl e0 (S1.ext OLD0.2) (g := (mkF m 13 #[.val (.int p1), .val (.int p2), .val (.int p3), .val (.int p4), .val (.int sl), .unset, .unset, .unset, .unset, .unset, .unset] [])) rfl (Jvm.hb hby at_13)
    have pre94 := fun (τ : State) kt => pre92 τ (by
      show Steps p.tables e below (s₁.setTop (mkF m 10 #[.val (.int p1), .val (.int p2), .val (.int p3), .val (.int p4), .val (.int sl), .unset, .unset, .unset, .unset, .unset, .unset] [(.int sl)])) τ
      refine XS.ifNo X0.here hx rfl (Jvm.hb hby at_10) rfl ((if0 _ _).trans (teq q0).2) ?_
      exact st93 τ kt)
    obtain ⟨T95, h95, X95, e95, E95, A95, D95, -, st95⟩ := newO X93 hx hZ hown (own_W4 hw) (own_W5 hw) (own_W6 hw) e93 (g := (mkF m 38 #[.val (.int p1), .val (.int p2), .val (.int p3), .val (.int p4), .val (.int sl), .val (.ref fa), .unset, .unset, .unset, .unset, .unset] [])) rfl (Jvm.hb hby at_38) (by decide) (by decide)
    obtain ⟨s1, g95⟩ : ∃ z, z = h0.size := ⟨_, rfl⟩
    rw [← g95] at A95 D95 st95
    have g_s1 : n0 ≤ s1 := Nat.le_trans (Nat.le_trans Z0 KK0.1) (Nat.le_of_eq g95.symm)
    have sz_s1 : h0.size ≤ s1 := Nat.le_trans KK0.1 (Nat.le_of_eq g95.symm)
    have K95 : Keep h0 h95 [] := KK0.ext E95
    have F_coder_s1 : Fld Z h95 s1 "java/lang/String" "coder" "B" (.int (0 : Int32)) := D95 (Or.inr (own_W31 hw)) (ty := .byte) (by decide)
    have F_value_s1 : Fld Z h95 s1 "java/lang/String" "value" "[B" .null := D95 (Or.inr (own_W33 hw)) (ty := (.array .byte)) (by decide)
    have pre96 := fun (τ : State) kt => pre94 τ (by
      show Steps p.tables e below (T93.setTop (mkF m 16 #[.val (.int p1), .val (.int p2), .val (.int p3), .val (.int p4), .val (.int sl), .unset, .unset, .unset, .unset, .unset, .unset] [(.ref fa)])) τ
      refine XS.astore X93.here hx rfl (Jvm.hb hby at_16) rfl rfl (l' := #[.val (.int p1), .val (.int p2), .val (.int p3), .val (.int p4), .val (.int sl), .val (.ref fa), .unset, .unset, .unset, .unset, .unset]) rfl ?_
      refine XS.goto X93.here hx rfl (pc0 := 18) (pc' := 38) rfl (Jvm.hb hby at_18) (by decide) (by decide) ?_
      exact st95 τ kt)
    obtain ⟨T97, h97, k97, X97, e97, E97, A97, st97⟩ := newP (aty := .char) X95 hx hZ (own_W7 hw) e95 (g := (mkF m 43 #[.val (.int p1), .val (.int p2), .val (.int p3), .val (.int p4), .val (.int sl), .val (.ref fa), .unset, .unset, .unset, .unset, .unset] [(.int (1 : Int32)), (.ref s1), (.ref s1)])) rfl (Jvm.hb hby at_43) rfl (by decide) (cap := 1) (by decide) (by decide) (by decide) (by decide)
    obtain ⟨c1, g97⟩ : ∃ z, z = h95.size := ⟨_, rfl⟩
    rw [← g97] at A97 st97
    have ne_s1_c1 : s1 ≠ c1 := Nat.ne_of_lt (Nat.lt_of_lt_of_le A95.lt (Nat.le_of_eq g97.symm))
    have g_c1 : n0 ≤ c1 := Nat.le_trans (Nat.le_trans Z0 K95.1) (Nat.le_of_eq g97.symm)
    have sz_c1 : h0.size ≤ c1 := Nat.le_trans K95.1 (Nat.le_of_eq g97.symm)
    have K97 : Keep h0 h97 [] := K95.ext E97
    have V_c1 : Arv Z h97 c1 k97 .char (1 : Int32) [(.int (0 : Int32))] (.int (0 : Int32)) := (Arv.new A97 (by decide)).pad (pad_rep [] (.int (0 : Int32)) 1)
    have pre98 := fun (τ : State) kt => pre96 τ (by
      show Steps p.tables e below (T95.setTop (mkF m 41 #[.val (.int p1), .val (.int p2), .val (.int p3), .val (.int p4), .val (.int sl), .val (.ref fa), .unset, .unset, .unset, .unset, .unset] [(.ref s1)])) τ
      refine XS.dup X95.here hx rfl (Jvm.hb hby at_41) rfl rfl ?_
      refine XS.iconst X95.here hx rfl (Jvm.hb hby at_42) ?_
      exact st97 τ kt)
    obtain ⟨cl99, Ar99, q99, S99, M99, H99, U99⟩ := id V_c1
    obtain ⟨T100, h100, X100, e100, W100, st100⟩ := stC X97 hx hZ e97 Ar99 (j := (0 : Int32)) (inb_of S99 ⟨by decide, by decide⟩) (g := (mkF m 53 #[.val (.int p1), .val (.int p2), .val (.int p3), .val (.int p4), .val (.int sl), .val (.ref fa), .unset, .unset, .unset, .unset, .unset] [(.int ((p2 &&& (255 : Int32))).toUInt32.toUInt16.toUInt32.toInt32), (.int (0 : Int32)), (.ref c1), (.ref c1), (.ref s1), (.ref s1)])) rfl rfl (Jvm.hb hby at_53)
    have V100 : Arv Z h100 c1 k97 .char (1 : Int32) [(.int (nar .char ((p2 &&& (255 : Int32))).toUInt32.toUInt16.toUInt32.toInt32))] (.int (0 : Int32)) := Arv.set Ar99 q99 S99 M99 H99 U99 (fits_nar_char _) W100 0 rfl (Nat.le_of_ble_eq_true rfl)
    have N100 := Fr.snoc X100 N0 g_c1
    have K100 : Keep h0 h100 [] := K97.wr W100 (Or.inr sz_c1)
    have pre101 := fun (τ : State) kt => pre98 τ (by
      show Steps p.tables e below (T97.setTop (mkF m 45 #[.val (.int p1), .val (.int p2), .val (.int p3), .val (.int p4), .val (.int sl), .val (.ref fa), .unset, .unset, .unset, .unset, .unset] [(.ref c1), (.ref s1), (.ref s1)])) τ
      refine XS.dup X97.here hx rfl (Jvm.hb hby at_45) rfl rfl ?_
      refine XS.iconst X97.here hx rfl (Jvm.hb hby at_46) ?_
      refine XS.iloadN X97.here hx rfl (Jvm.hb hby at_47) rfl ?_
      refine XS.sipush X97.here hx rfl (Jvm.hb hby at_48) ?_
      refine XS.iand X97.here hx rfl (Jvm.hb hby at_51) rfl ?_
      refine XT.i2c X97.here hx rfl (Jvm.hb hby at_52) rfl ?_
      exact st100 τ kt)
    have hp1 : ∀ c ∈ ([(nar .char ((p2 &&& (255 : Int32))).toUInt32.toUInt16.toUInt32.toInt32)] : List Int32), ¬ c < 0 ∧ ¬ (255 : Int32) < c := by
      intro c hc
      simp only [List.mem_cons, List.not_mem_nil, or_false] at hc
      rw [hc]; exact own_chars p2
    have old102 := OLD0.ext E95
    have old103 := old102.ext E97
    have old104 := old103.wr W100 g_c1
    have f106 := A95.ext E97
    have f107 := f106.wr W100
    have f108 := F_value_s1.ext E97
    have f109 := (f108.other W100 (Or.inl ne_s1_c1))
    have f110 := F_coder_s1.ext E97
    have f111 := (f110.other W100 (Or.inl ne_s1_c1))
    obtain ⟨_, _, ⟨T105, L105, k105, n105⟩, -, X105, ⟨Lc105, hQ105, l105, y105, z105⟩, st105⟩ := X100.specialBack hx (y := own_mn4) rfl hown (mvT hZ (own_W8 hw)) (mvT hZ (own_W9 hw)) (mvT hZ (own_W10 hw)) (by decide) (StrChars.Road.backV (W := 1) hZ (own_strw hw) (kI := 4) (own_W5 hw) (cs := ([(nar .char ((p2 &&& (255 : Int32))).toUInt32.toUInt16.toUInt32.toInt32)] : List Int32)) (bs := ([(nar .char ((p2 &&& (255 : Int32))).toUInt32.toUInt16.toUInt32.toInt32)] : List Int32).map (fun c => c.toInt8.toInt32)) (n := 1) g_s1 (Nat.le_trans Z0 K100.1) f107 f109 f111 V100 (O2.ext old104.2) P5 rfl rfl (by decide) (by decide) hp1 rfl (by decide) (by decide)) (g := (mkF m 54 #[.val (.int p1), .val (.int p2), .val (.int p3), .val (.int p4), .val (.int sl), .val (.ref fa), .unset, .unset, .unset, .unset, .unset] [(.ref c1), (.ref s1), (.ref s1)])) rfl (by rw [hml]; rfl) (Steps.refl _) (a := s1) (argsL := [(.ref c1)]) (rest := [(.ref s1)]) (lenOf own_pd___C_V rfl) rfl (by show 2 * 0 + _ ≤ _; exact Nat.le_of_eq rfl) (Jvm.hb hby at_54) (fun _ _ => ⟨rfl, e100, (by decide : 2 + 1 ≤ _), (by decide : 5 + 1 ≤ _)⟩)
    dsimp only [Pt.U, Pt.locs, Pt.cells, Pt.slots] at X105 l105 y105 z105 st105 hQ105
    subst l105 y105 z105
    obtain ⟨rfl, Nq105, Kq105, sE105, sC105, sb105, sk105, sg105, sz105, sn105, sV105, sB105⟩ := hQ105
    have N105 := Fr.app N100 Nq105
    have K105 : Keep h0 T105.heap [] := K100.trans Kq105 (allS (Or.inr sz_s1) (all0))
    have pre112 := fun (τ : State) kt => pre101 τ ((st105).trans kt)
    have old113 := old104.keep Kq105 (allS g_s1 (all0))
    obtain ⟨_, T114, L114, X114, ⟨vb, rfl, Nq114, Kq114⟩, st114⟩ := own_stat (y := own_mn5) X105 hx hZ hown (own_W34 hw) (own_W35 hw) (by decide) (rmV l Z a0 hw [] ((p3 &&& (255 : Int32))).toUInt32.toUInt16.toUInt32.toInt32 cz T105.heap n0 (Nat.le_trans Z0 K105.1) (O2.ext old113.2) P5 (own_char1 p3)) (own_W36 hw) (own_W6 hw) 0 (by decide) (by decide) rfl (mkF m 65 #[.val (.int p1), .val (.int p2), .val (.int p3), .val (.int p4), .val (.int sl), .val (.ref fa), .val (.ref s1), .unset, .unset, .unset, .unset] [(.int ((p3 &&& (255 : Int32))).toUInt32.toUInt16.toUInt32.toInt32)]) rfl (by rw [hml]; rfl) [(.int ((p3 &&& (255 : Int32))).toUInt32.toUInt16.toUInt32.toInt32)] [] rfl (lenOf own_pd__C_Ljava_lang_String_ rfl) rfl (Nat.le_refl _) (Jvm.hb hby at_65) (by decide) (by decide)
    have N114 := Fr.app N105 Nq114
    have K114 : Keep h0 T114.heap [] := K105.trans Kq114 (all0)
    have pre115 := fun (τ : State) kt => pre112 τ (by
      show Steps p.tables e below (T105.setTop (mkF m 57 #[.val (.int p1), .val (.int p2), .val (.int p3), .val (.int p4), .val (.int sl), .val (.ref fa), .unset, .unset, .unset, .unset, .unset] [(.ref s1)])) τ
      refine XS.astore X105.here hx rfl (Jvm.hb hby at_57) rfl rfl (l' := #[.val (.int p1), .val (.int p2), .val (.int p3), .val (.int p4), .val (.int sl), .val (.ref fa), .val (.ref s1), .unset, .unset, .unset, .unset]) rfl ?_
      refine XS.iloadN X105.here hx rfl (Jvm.hb hby at_59) rfl ?_
      refine XS.sipush X105.here hx rfl (Jvm.hb hby at_60) ?_
      refine XS.iand X105.here hx rfl (Jvm.hb hby at_63) rfl ?_
      refine XT.i2c X105.here hx rfl (Jvm.hb hby at_64) rfl ?_
      exact st114 τ kt)
    obtain ⟨T116, h116, X116, e116, E116, A116, D116, -, st116⟩ := newO X114 hx hZ hown (own_W4 hw) (own_W5 hw) (own_W6 hw) rfl (g := (mkF m 70 #[.val (.int p1), .val (.int p2), .val (.int p3), .val (.int p4), .val (.int sl), .val (.ref fa), .val (.ref s1), .val (.ref vb), .unset, .unset, .unset] [])) rfl (Jvm.hb hby at_70) (by decide) (by decide)
    obtain ⟨s2, g116⟩ : ∃ z, z = T114.heap.size := ⟨_, rfl⟩
    rw [← g116] at A116 D116 st116
    have f117 := f107.keep Kq105
    have f118 := f117.keep Kq114
    have ne_s1_s2 : s1 ≠ s2 := Nat.ne_of_lt (Nat.lt_of_lt_of_le f118.lt (Nat.le_of_eq g116.symm))
    have g_s2 : n0 ≤ s2 := Nat.le_trans (Nat.le_trans Z0 K114.1) (Nat.le_of_eq g116.symm)
    have sz_s2 : h0.size ≤ s2 := Nat.le_trans K114.1 (Nat.le_of_eq g116.symm)
    have K116 : Keep h0 h116 [] := K114.ext E116
    have F_coder_s2 : Fld Z h116 s2 "java/lang/String" "coder" "B" (.int (0 : Int32)) := D116 (Or.inr (own_W31 hw)) (ty := .byte) (by decide)
    have F_value_s2 : Fld Z h116 s2 "java/lang/String" "value" "[B" .null := D116 (Or.inr (own_W33 hw)) (ty := (.array .byte)) (by decide)
    have pre119 := fun (τ : State) kt => pre115 τ (by
      show Steps p.tables e below (T114.setTop (mkF m 68 #[.val (.int p1), .val (.int p2), .val (.int p3), .val (.int p4), .val (.int sl), .val (.ref fa), .val (.ref s1), .unset, .unset, .unset, .unset] [(.ref vb)])) τ
      refine XS.astore X114.here hx rfl (Jvm.hb hby at_68) rfl rfl (l' := #[.val (.int p1), .val (.int p2), .val (.int p3), .val (.int p4), .val (.int sl), .val (.ref fa), .val (.ref s1), .val (.ref vb), .unset, .unset, .unset]) rfl ?_
      exact st116 τ kt)
    obtain ⟨T120, h120, k120, X120, e120, E120, A120, st120⟩ := newP (aty := .char) X116 hx hZ (own_W7 hw) e116 (g := (mkF m 75 #[.val (.int p1), .val (.int p2), .val (.int p3), .val (.int p4), .val (.int sl), .val (.ref fa), .val (.ref s1), .val (.ref vb), .unset, .unset, .unset] [(.int (2 : Int32)), (.ref s2), (.ref s2)])) rfl (Jvm.hb hby at_75) rfl (by decide) (cap := 2) (by decide) (by decide) (by decide) (by decide)
    obtain ⟨c2, g120⟩ : ∃ z, z = h116.size := ⟨_, rfl⟩
    rw [← g120] at A120 st120
    have f121 := f118.ext E116
    have ne_s1_c2 : s1 ≠ c2 := Nat.ne_of_lt (Nat.lt_of_lt_of_le f121.lt (Nat.le_of_eq g120.symm))
    have ne_s2_c2 : s2 ≠ c2 := Nat.ne_of_lt (Nat.lt_of_lt_of_le A116.lt (Nat.le_of_eq g120.symm))
    have g_c2 : n0 ≤ c2 := Nat.le_trans (Nat.le_trans Z0 K116.1) (Nat.le_of_eq g120.symm)
    have sz_c2 : h0.size ≤ c2 := Nat.le_trans K116.1 (Nat.le_of_eq g120.symm)
    have K120 : Keep h0 h120 [] := K116.ext E120
    have V_c2 : Arv Z h120 c2 k120 .char (2 : Int32) [(.int (0 : Int32)), (.int (0 : Int32))] (.int (0 : Int32)) := (Arv.new A120 (by decide)).pad (pad_rep [] (.int (0 : Int32)) 2)
    have pre122 := fun (τ : State) kt => pre119 τ (by
      show Steps p.tables e below (T116.setTop (mkF m 73 #[.val (.int p1), .val (.int p2), .val (.int p3), .val (.int p4), .val (.int sl), .val (.ref fa), .val (.ref s1), .val (.ref vb), .unset, .unset, .unset] [(.ref s2)])) τ
      refine XS.dup X116.here hx rfl (Jvm.hb hby at_73) rfl rfl ?_
      refine XS.iconst X116.here hx rfl (Jvm.hb hby at_74) ?_
      exact st120 τ kt)
    obtain ⟨cl123, Ar123, q123, S123, M123, H123, U123⟩ := id V_c2
    obtain ⟨T124, h124, X124, e124, W124, st124⟩ := stC X120 hx hZ e120 Ar123 (j := (0 : Int32)) (inb_of S123 ⟨by decide, by decide⟩) (g := (mkF m 85 #[.val (.int p1), .val (.int p2), .val (.int p3), .val (.int p4), .val (.int sl), .val (.ref fa), .val (.ref s1), .val (.ref vb), .unset, .unset, .unset] [(.int ((p4 &&& (255 : Int32))).toUInt32.toUInt16.toUInt32.toInt32), (.int (0 : Int32)), (.ref c2), (.ref c2), (.ref s2), (.ref s2)])) rfl rfl (Jvm.hb hby at_85)
    have V124 : Arv Z h124 c2 k120 .char (2 : Int32) [(.int (nar .char ((p4 &&& (255 : Int32))).toUInt32.toUInt16.toUInt32.toInt32)), (.int (0 : Int32))] (.int (0 : Int32)) := Arv.set Ar123 q123 S123 M123 H123 U123 (fits_nar_char _) W124 0 rfl (Nat.le_of_ble_eq_true rfl)
    have N124 := Fr.snoc X124 N114 g_c2
    have K124 : Keep h0 h124 [] := K120.wr W124 (Or.inr sz_c2)
    have pre125 := fun (τ : State) kt => pre122 τ (by
      show Steps p.tables e below (T120.setTop (mkF m 77 #[.val (.int p1), .val (.int p2), .val (.int p3), .val (.int p4), .val (.int sl), .val (.ref fa), .val (.ref s1), .val (.ref vb), .unset, .unset, .unset] [(.ref c2), (.ref s2), (.ref s2)])) τ
      refine XS.dup X120.here hx rfl (Jvm.hb hby at_77) rfl rfl ?_
      refine XS.iconst X120.here hx rfl (Jvm.hb hby at_78) ?_
      refine XS.iloadN X120.here hx rfl (Jvm.hb hby at_79) rfl ?_
      refine XS.sipush X120.here hx rfl (Jvm.hb hby at_80) ?_
      refine XS.iand X120.here hx rfl (Jvm.hb hby at_83) rfl ?_
      refine XT.i2c X120.here hx rfl (Jvm.hb hby at_84) rfl ?_
      exact st124 τ kt)
    obtain ⟨cl126, Ar126, q126, S126, M126, H126, U126⟩ := id V124
    obtain ⟨T127, h127, X127, e127, W127, st127⟩ := stC X124 hx hZ e124 Ar126 (j := (1 : Int32)) (inb_of S126 ⟨by decide, by decide⟩) (g := (mkF m 97 #[.val (.int p1), .val (.int p2), .val (.int p3), .val (.int p4), .val (.int sl), .val (.ref fa), .val (.ref s1), .val (.ref vb), .unset, .unset, .unset] [(.int (((XT.ushr p4 (8 : Int32)) &&& (255 : Int32))).toUInt32.toUInt16.toUInt32.toInt32), (.int (1 : Int32)), (.ref c2), (.ref c2), (.ref s2), (.ref s2)])) rfl rfl (Jvm.hb hby at_97)
    have V127 : Arv Z h127 c2 k120 .char (2 : Int32) [(.int (nar .char ((p4 &&& (255 : Int32))).toUInt32.toUInt16.toUInt32.toInt32)), (.int (nar .char (((XT.ushr p4 (8 : Int32)) &&& (255 : Int32))).toUInt32.toUInt16.toUInt32.toInt32))] (.int (0 : Int32)) := Arv.set Ar126 q126 S126 M126 H126 U126 (fits_nar_char _) W127 1 rfl (Nat.le_of_ble_eq_true rfl)
    have N127 := Fr.snoc X127 N124 g_c2
    have K127 : Keep h0 h127 [] := K124.wr W127 (Or.inr sz_c2)
    have pre128 := fun (τ : State) kt => pre125 τ (by
      show Steps p.tables e below (T124.setTop (mkF m 86 #[.val (.int p1), .val (.int p2), .val (.int p3), .val (.int p4), .val (.int sl), .val (.ref fa), .val (.ref s1), .val (.ref vb), .unset, .unset, .unset] [(.ref c2), (.ref s2), (.ref s2)])) τ
      refine XS.dup X124.here hx rfl (Jvm.hb hby at_86) rfl rfl ?_
      refine XS.iconst X124.here hx rfl (Jvm.hb hby at_87) ?_
      refine XS.iloadN X124.here hx rfl (Jvm.hb hby at_88) rfl ?_
      refine XS.bipush X124.here hx rfl (Jvm.hb hby at_89) ?_
      refine XT.iushr X124.here hx rfl (Jvm.hb hby at_91) rfl ?_
      refine XS.sipush X124.here hx rfl (Jvm.hb hby at_92) ?_
      refine XS.iand X124.here hx rfl (Jvm.hb hby at_95) rfl ?_
      refine XT.i2c X124.here hx rfl (Jvm.hb hby at_96) rfl ?_
      exact st127 τ kt)
    have hp2 : ∀ c ∈ ([(nar .char ((p4 &&& (255 : Int32))).toUInt32.toUInt16.toUInt32.toInt32), (nar .char (((XT.ushr p4 (8 : Int32)) &&& (255 : Int32))).toUInt32.toUInt16.toUInt32.toInt32)] : List Int32), ¬ c < 0 ∧ ¬ (255 : Int32) < c := by
      intro c hc
      simp only [List.mem_cons, List.not_mem_nil, or_false] at hc
      rcases hc with hc | hc
      · rw [hc]; exact own_chars p4
      · rw [hc]; exact own_chars _
    have old129 := old113.keep Kq114 (all0)
    have old130 := old129.ext E116
    have old131 := old130.ext E120
    have old132 := old131.wr W124 g_c2
    have old133 := old132.wr W127 g_c2
    have f135 := A116.ext E120
    have f136 := f135.wr W124
    have f137 := f136.wr W127
    have f138 := F_value_s2.ext E120
    have f139 := (f138.other W124 (Or.inl ne_s2_c2))
    have f140 := (f139.other W127 (Or.inl ne_s2_c2))
    have f141 := F_coder_s2.ext E120
    have f142 := (f141.other W124 (Or.inl ne_s2_c2))
    have f143 := (f142.other W127 (Or.inl ne_s2_c2))
    obtain ⟨_, _, ⟨T134, L134, k134, n134⟩, -, X134, ⟨Lc134, hQ134, l134, y134, z134⟩, st134⟩ := X127.specialBack hx (y := own_mn4) rfl hown (mvT hZ (own_W8 hw)) (mvT hZ (own_W9 hw)) (mvT hZ (own_W10 hw)) (by decide) (StrChars.Road.backV (W := 1) hZ (own_strw hw) (kI := 4) (own_W5 hw) (cs := ([(nar .char ((p4 &&& (255 : Int32))).toUInt32.toUInt16.toUInt32.toInt32), (nar .char (((XT.ushr p4 (8 : Int32)) &&& (255 : Int32))).toUInt32.toUInt16.toUInt32.toInt32)] : List Int32)) (bs := ([(nar .char ((p4 &&& (255 : Int32))).toUInt32.toUInt16.toUInt32.toInt32), (nar .char (((XT.ushr p4 (8 : Int32)) &&& (255 : Int32))).toUInt32.toUInt16.toUInt32.toInt32)] : List Int32).map (fun c => c.toInt8.toInt32)) (n := 2) g_s2 (Nat.le_trans Z0 K127.1) f137 f140 f143 V127 (O2.ext old133.2) P5 rfl rfl (by decide) (by decide) hp2 rfl (by decide) (by decide)) (g := (mkF m 98 #[.val (.int p1), .val (.int p2), .val (.int p3), .val (.int p4), .val (.int sl), .val (.ref fa), .val (.ref s1), .val (.ref vb), .unset, .unset, .unset] [(.ref c2), (.ref s2), (.ref s2)])) rfl (by rw [hml]; rfl) (Steps.refl _) (a := s2) (argsL := [(.ref c2)]) (rest := [(.ref s2)]) (lenOf own_pd___C_V rfl) rfl (by show 2 * 0 + _ ≤ _; exact Nat.le_of_eq rfl) (Jvm.hb hby at_98) (fun _ _ => ⟨rfl, e127, (by decide : 7 + 1 ≤ _), (by decide : 17 + 2 ≤ _)⟩)
    dsimp only [Pt.U, Pt.locs, Pt.cells, Pt.slots] at X134 l134 y134 z134 st134 hQ134
    subst l134 y134 z134
    obtain ⟨rfl, Nq134, Kq134, sE134, sC134, sb134, sk134, sg134, sz134, sn134, sV134, sB134⟩ := hQ134
    have N134 := Fr.app N127 Nq134
    have K134 : Keep h0 T134.heap [] := K127.trans Kq134 (allS (Or.inr sz_s2) (all0))
    have pre144 := fun (τ : State) kt => pre128 τ ((st134).trans kt)
    obtain ⟨T145, h145, X145, e145, E145, A145, D145, -, st145⟩ := newO X134 hx hZ hown (own_W48 hw) (own_W49 hw) (own_W50 hw) rfl (g := (mkF m 103 #[.val (.int p1), .val (.int p2), .val (.int p3), .val (.int p4), .val (.int sl), .val (.ref fa), .val (.ref s1), .val (.ref vb), .val (.ref s2), .unset, .unset] [])) rfl (Jvm.hb hby at_103) (by decide) (by decide)
    obtain ⟨mo, g145⟩ : ∃ z, z = T134.heap.size := ⟨_, rfl⟩
    rw [← g145] at A145 D145 st145
    have f146 := f121.ext E120
    have f147 := f146.wr W124
    have f148 := f147.wr W127
    have f149 := f148.keep Kq134
    have ne_s1_mo : s1 ≠ mo := Nat.ne_of_lt (Nat.lt_of_lt_of_le f149.lt (Nat.le_of_eq g145.symm))
    have f150 := f137.keep Kq134
    have ne_s2_mo : s2 ≠ mo := Nat.ne_of_lt (Nat.lt_of_lt_of_le f150.lt (Nat.le_of_eq g145.symm))
    have g_mo : n0 ≤ mo := Nat.le_trans (Nat.le_trans Z0 K134.1) (Nat.le_of_eq g145.symm)
    have sz_mo : h0.size ≤ mo := Nat.le_trans K134.1 (Nat.le_of_eq g145.symm)
    have K145 : Keep h0 h145 [] := K134.ext E145
    have F_code_mo : Fld Z h145 mo "com/example/paidthrough/paidthrough/engine/Message" "code" "Ljava/lang/String;" .null := D145 (Or.inr (own_W61 hw)) (ty := (.object "java/lang/String")) (by decide)
    have F_severity_mo : Fld Z h145 mo "com/example/paidthrough/paidthrough/engine/Message" "severity" "Lcom/example/paidthrough/paidthrough/engine/Message$Severity;" .null := D145 (Or.inr (own_W63 hw)) (ty := (.object "com/example/paidthrough/paidthrough/engine/Message$Severity")) (by decide)
    have F_policy_mo : Fld Z h145 mo "com/example/paidthrough/paidthrough/engine/Message" "policy" "Ljava/lang/String;" .null := D145 (Or.inr (own_W65 hw)) (ty := (.object "java/lang/String")) (by decide)
    have F_text_mo : Fld Z h145 mo "com/example/paidthrough/paidthrough/engine/Message" "text" "Ljava/lang/String;" .null := D145 (Or.inr (own_W67 hw)) (ty := (.object "java/lang/String")) (by decide)
    have pre151 := fun (τ : State) kt => pre144 τ (by
      show Steps p.tables e below (T134.setTop (mkF m 101 #[.val (.int p1), .val (.int p2), .val (.int p3), .val (.int p4), .val (.int sl), .val (.ref fa), .val (.ref s1), .val (.ref vb), .unset, .unset, .unset] [(.ref s2)])) τ
      refine XS.astore X134.here hx rfl (Jvm.hb hby at_101) rfl rfl (l' := #[.val (.int p1), .val (.int p2), .val (.int p3), .val (.int p4), .val (.int sl), .val (.ref fa), .val (.ref s1), .val (.ref vb), .val (.ref s2), .unset, .unset]) rfl ?_
      exact st145 τ kt)
    obtain ⟨_, T152, L152, X152, ⟨rfl, Nq152, Kq152, fs152⟩, st152⟩ := own_spec (y := own_mn6) (b := mo) X145 hx hZ rfl hown (own_W51 hw) (own_W52 hw) (by decide) (rmM l Z a0 hw [] mo s1 fa vb s2 h145 n0 (Nat.le_trans Z0 K145.1) A145 F_code_mo F_severity_mo F_policy_mo F_text_mo g_mo) (own_W53 hw) (own_W50 hw) 1 (by decide) (by decide) e145 (mkF m 115 #[.val (.int p1), .val (.int p2), .val (.int p3), .val (.int p4), .val (.int sl), .val (.ref fa), .val (.ref s1), .val (.ref vb), .val (.ref s2), .unset, .unset] [(.ref s2), (.ref vb), (.ref fa), (.ref s1), (.ref mo), (.ref mo)]) rfl (by rw [hml]; rfl) [(.ref s1), (.ref fa), (.ref vb), (.ref s2)] [(.ref mo)] rfl (lenOf own_pd__Ljava_lang_String_Lcom_example_paidthrough_paidthrough_engine_Message_Severity_Ljava_lang_String_Ljava_lang_String__V rfl) rfl (Nat.le_refl _) (Jvm.hb hby at_115) (by decide) (by decide)
    have N152 := Fr.app N134 Nq152
    have K152 : Keep h0 T152.heap [] := K145.trans Kq152 (allS (Or.inr sz_mo) (all0))
    have pre153 := fun (τ : State) kt => pre151 τ (by
      show Steps p.tables e below (T145.setTop (mkF m 106 #[.val (.int p1), .val (.int p2), .val (.int p3), .val (.int p4), .val (.int sl), .val (.ref fa), .val (.ref s1), .val (.ref vb), .val (.ref s2), .unset, .unset] [(.ref mo)])) τ
      refine XS.dup X145.here hx rfl (Jvm.hb hby at_106) rfl rfl ?_
      refine XS.aload X145.here hx rfl (Jvm.hb hby at_107) rfl rfl ?_
      refine XS.aload X145.here hx rfl (Jvm.hb hby at_109) rfl rfl ?_
      refine XS.aload X145.here hx rfl (Jvm.hb hby at_111) rfl rfl ?_
      refine XS.aload X145.here hx rfl (Jvm.hb hby at_113) rfl rfl ?_
      exact st152 τ kt)
    have old154 := old133.keep Kq134 (allS g_s2 (all0))
    have old155 := old154.ext E145
    have old156 := old155.keep Kq152 (allS g_mo (all0))
    have f158 := A145.keep Kq152
    obtain ⟨_, T157, L157, X157, ⟨rfl, Nq157, eq157⟩, st157⟩ := own_virt (y := own_mn7) (b := mo) X152 hx hZ hown (own_W68 hw) (own_W69 hw) (own_W71 hw) (own_W70 hw) (by decide) (rmFA l Z a0 hw [] mo fa T152.heap n0 (Nat.le_trans Z0 K152.1) fs152 (S1.ext old156.2)) (own_W72 hw) (own_W50 hw) 0 (by decide) (by decide) f158 rfl (mkF m 134 #[.val (.int p1), .val (.int p2), .val (.int p3), .val (.int p4), .val (.int sl), .val (.ref fa), .val (.ref s1), .val (.ref vb), .val (.ref s2), .val (.ref mo), .val (.int (1 : Int32))] [(.ref mo)]) rfl (by rw [hml]; rfl) [] [] rfl (lenOf own_pd___Z rfl) rfl (Nat.le_refl _) (Jvm.hb hby at_134) (by decide) (by decide)
    have N157 := Fr.app N152 Nq157
    have pre159 := fun (τ : State) kt => pre153 τ (by
      show Steps p.tables e below (T152.setTop (mkF m 118 #[.val (.int p1), .val (.int p2), .val (.int p3), .val (.int p4), .val (.int sl), .val (.ref fa), .val (.ref s1), .val (.ref vb), .val (.ref s2), .unset, .unset] [(.ref mo)])) τ
      refine XS.astore X152.here hx rfl (Jvm.hb hby at_118) rfl rfl (l' := #[.val (.int p1), .val (.int p2), .val (.int p3), .val (.int p4), .val (.int sl), .val (.ref fa), .val (.ref s1), .val (.ref vb), .val (.ref s2), .val (.ref mo), .unset]) rfl ?_
      refine XS.iload X152.here hx rfl (Jvm.hb hby at_120) rfl ?_
      refine XS.ifNo X152.here hx rfl (Jvm.hb hby at_122) rfl ((if0 _ _).trans (teq q0).2) ?_
      refine XS.iconst X152.here hx rfl (Jvm.hb hby at_125) ?_
      refine XS.goto X152.here hx rfl (pc0 := 126) (pc' := 130) rfl (Jvm.hb hby at_126) (by decide) (by decide) ?_
      refine XS.istore X152.here hx rfl (Jvm.hb hby at_130) rfl (l' := #[.val (.int p1), .val (.int p2), .val (.int p3), .val (.int p4), .val (.int sl), .val (.ref fa), .val (.ref s1), .val (.ref vb), .val (.ref s2), .val (.ref mo), .val (.int (1 : Int32))]) rfl ?_
      refine XS.aload X152.here hx rfl (Jvm.hb hby at_132) rfl rfl ?_
      exact st157 τ kt)
    obtain ⟨_, T160, L160, X160, ⟨rfl, Nq160, eq160⟩, st160⟩ := own_virt (y := own_mn8) (b := mo) X157 hx hZ hown (own_W74 hw) (own_W75 hw) (own_W77 hw) (own_W76 hw) (by decide) (rmG l Z a0 hw [] mo fa T152.heap n0 (Nat.le_trans Z0 K152.1) fs152) (own_W78 hw) (own_W50 hw) 0 (by decide) (by decide) f158 eq157 (mkF m 144 #[.val (.int p1), .val (.int p2), .val (.int p3), .val (.int p4), .val (.int sl), .val (.ref fa), .val (.ref s1), .val (.ref vb), .val (.ref s2), .val (.ref mo), .val (.int (1 : Int32))] [(.ref mo)]) rfl (by rw [hml]; rfl) [] [] rfl (lenOf own_pd___Lcom_example_paidthrough_paidthrough_engine_Message_Severity_ rfl) rfl (Nat.le_refl _) (Jvm.hb hby at_144) (by decide) (by decide)
    have N160 := Fr.app N157 Nq160
    have pre161 := fun (τ : State) kt => pre159 τ (by
      show Steps p.tables e below (T157.setTop (mkF m 137 #[.val (.int p1), .val (.int p2), .val (.int p3), .val (.int p4), .val (.int sl), .val (.ref fa), .val (.ref s1), .val (.ref vb), .val (.ref s2), .val (.ref mo), .val (.int (1 : Int32))] [(.int (1 : Int32))])) τ
      refine XS.iload X157.here hx rfl (Jvm.hb hby at_137) rfl ?_
      refine XS.icmpNo X157.here hx rfl (Jvm.hb hby at_139) rfl (teq rfl).2 ?_
      refine XS.aload X157.here hx rfl (Jvm.hb hby at_142) rfl rfl ?_
      exact st160 τ kt)
    have pre162 := fun (τ : State) kt => pre161 τ (by
      show Steps p.tables e below (T160.setTop (mkF m 147 #[.val (.int p1), .val (.int p2), .val (.int p3), .val (.int p4), .val (.int sl), .val (.ref fa), .val (.ref s1), .val (.ref vb), .val (.ref s2), .val (.ref mo), .val (.int (1 : Int32))] [(.ref fa)])) τ
      refine XS.aload X160.here hx rfl (Jvm.hb hby at_147) rfl rfl ?_
      refine Jvm.RoadKit.acmp (g := (mkF m 149 #[.val (.int p1), .val (.int p2), .val (.int p3), .val (.int p4), .val (.int sl), .val (.ref fa), .val (.ref s1), .val (.ref vb), .val (.ref s2), .val (.ref mo), .val (.int (1 : Int32))] [(.ref fa), (.ref fa)])) X160 hx rfl rfl rfl (pc0 := 149) (pc' := 152) (same := true) rfl (Jvm.hb hby at_149) rfl (decide_eq_true rfl) (by decide) (by decide) ?_
      refine XS.iconst X160.here hx rfl (Jvm.hb hby at_152) ?_
      refine XS.goto X160.here hx rfl (pc0 := 153) (pc' := 157) rfl (Jvm.hb hby at_153) (by decide) (by decide) ?_
      exact kt)
    obtain ⟨fs, hrL, hrun, hended, hW, hsame⟩ := X160.leave (v := some (.int (1 : Int32))) (fun h => by rw [Bd.returns] at h; cases h)
    refine ⟨_, _, cast (congrFun hPS _) (pre162 _ ?_), hrun, hended, _, _, rfl, ?_, ⟨_, rfl⟩, hW, hsame.mono (by decide) (by decide)⟩
    · show Steps p.tables e below (T160.setTop (mkF m 157 #[.val (.int p1), .val (.int p2), .val (.int p3), .val (.int p4), .val (.int sl), .val (.ref fa), .val (.ref s1), .val (.ref vb), .val (.ref s2), .val (.ref mo), .val (.int (1 : Int32))] [(.int (1 : Int32))])) _
      exact retN X160 hx (t := .boolean) Bd.returns (by simp) (Jvm.hb hby at_157) hrL
    · show Q0 n0 _ T160.heap _
      exact ⟨rfl, N160⟩
  · skip
    have pre163 := fun (τ : State) kt => pre92 τ (by
      show Steps p.tables e below (s₁.setTop (mkF m 10 #[.val (.int p1), .val (.int p2), .val (.int p3), .val (.int p4), .val (.int sl), .unset, .unset, .unset, .unset, .unset, .unset] [(.int sl)])) τ
      refine XS.ifYes X0.here hx rfl (pc0 := 10) (pc' := 21) rfl (Jvm.hb hby at_10) rfl ((if0 _ _).trans (feq q0).2) (by decide) (by decide) ?_
      refine XS.iload X0.here hx rfl (Jvm.hb hby at_21) rfl ?_
      refine XS.iconst X0.here hx rfl (Jvm.hb hby at_23) ?_
      exact kt)
    by_cases q1 : sl = (1 : Int32)
    · skip
      obtain ⟨T164, X164, e164, st164⟩ := getS2 X0 hx hZ hown (host := "") (Or.inl (own_W79 hw)) Via.refl e0 (S2.ext OLD0.2) (g := (mkF m 27 #[.val (.int p1), .val (.int p2), .val (.int p3), .val (.int p4), .val (.int sl), .unset, .unset, .unset, .unset, .unset, .unset] [])) rfl (Jvm.hb hby at_27)
      have pre165 := fun (τ : State) kt => pre163 τ (by
        show Steps p.tables e below (s₁.setTop (mkF m 24 #[.val (.int p1), .val (.int p2), .val (.int p3), .val (.int p4), .val (.int sl), .unset, .unset, .unset, .unset, .unset, .unset] [(.int (1 : Int32)), (.int sl)])) τ
        refine XS.icmpNo X0.here hx rfl (Jvm.hb hby at_24) rfl (teq q1).2 ?_
        exact st164 τ kt)
      obtain ⟨T166, h166, X166, e166, E166, A166, D166, -, st166⟩ := newO X164 hx hZ hown (own_W4 hw) (own_W5 hw) (own_W6 hw) e164 (g := (mkF m 38 #[.val (.int p1), .val (.int p2), .val (.int p3), .val (.int p4), .val (.int sl), .val (.ref ia), .unset, .unset, .unset, .unset, .unset] [])) rfl (Jvm.hb hby at_38) (by decide) (by decide)
      obtain ⟨s1, g166⟩ : ∃ z, z = h0.size := ⟨_, rfl⟩
      rw [← g166] at A166 D166 st166
      have g_s1 : n0 ≤ s1 := Nat.le_trans (Nat.le_trans Z0 KK0.1) (Nat.le_of_eq g166.symm)
      have sz_s1 : h0.size ≤ s1 := Nat.le_trans KK0.1 (Nat.le_of_eq g166.symm)
      have K166 : Keep h0 h166 [] := KK0.ext E166
      have F_coder_s1 : Fld Z h166 s1 "java/lang/String" "coder" "B" (.int (0 : Int32)) := D166 (Or.inr (own_W31 hw)) (ty := .byte) (by decide)
      have F_value_s1 : Fld Z h166 s1 "java/lang/String" "value" "[B" .null := D166 (Or.inr (own_W33 hw)) (ty := (.array .byte)) (by decide)
      have pre167 := fun (τ : State) kt => pre165 τ (by
        show Steps p.tables e below (T164.setTop (mkF m 30 #[.val (.int p1), .val (.int p2), .val (.int p3), .val (.int p4), .val (.int sl), .unset, .unset, .unset, .unset, .unset, .unset] [(.ref ia)])) τ
        refine XS.astore X164.here hx rfl (Jvm.hb hby at_30) rfl rfl (l' := #[.val (.int p1), .val (.int p2), .val (.int p3), .val (.int p4), .val (.int sl), .val (.ref ia), .unset, .unset, .unset, .unset, .unset]) rfl ?_
        refine XS.goto X164.here hx rfl (pc0 := 32) (pc' := 38) rfl (Jvm.hb hby at_32) (by decide) (by decide) ?_
        exact st166 τ kt)
      obtain ⟨T168, h168, k168, X168, e168, E168, A168, st168⟩ := newP (aty := .char) X166 hx hZ (own_W7 hw) e166 (g := (mkF m 43 #[.val (.int p1), .val (.int p2), .val (.int p3), .val (.int p4), .val (.int sl), .val (.ref ia), .unset, .unset, .unset, .unset, .unset] [(.int (1 : Int32)), (.ref s1), (.ref s1)])) rfl (Jvm.hb hby at_43) rfl (by decide) (cap := 1) (by decide) (by decide) (by decide) (by decide)
      obtain ⟨c1, g168⟩ : ∃ z, z = h166.size := ⟨_, rfl⟩
      rw [← g168] at A168 st168
      have ne_s1_c1 : s1 ≠ c1 := Nat.ne_of_lt (Nat.lt_of_lt_of_le A166.lt (Nat.le_of_eq g168.symm))
      have g_c1 : n0 ≤ c1 := Nat.le_trans (Nat.le_trans Z0 K166.1) (Nat.le_of_eq g168.symm)
      have sz_c1 : h0.size ≤ c1 := Nat.le_trans K166.1 (Nat.le_of_eq g168.symm)
      have K168 : Keep h0 h168 [] := K166.ext E168
      have V_c1 : Arv Z h168 c1 k168 .char (1 : Int32) [(.int (0 : Int32))] (.int (0 : Int32)) := (Arv.new A168 (by decide)).pad (pad_rep [] (.int (0 : Int32)) 1)
      have pre169 := fun (τ : State) kt => pre167 τ (by
        show Steps p.tables e below (T166.setTop (mkF m 41 #[.val (.int p1), .val (.int p2), .val (.int p3), .val (.int p4), .val (.int sl), .val (.ref ia), .unset, .unset, .unset, .unset, .unset] [(.ref s1)])) τ
        refine XS.dup X166.here hx rfl (Jvm.hb hby at_41) rfl rfl ?_
        refine XS.iconst X166.here hx rfl (Jvm.hb hby at_42) ?_
        exact st168 τ kt)
      obtain ⟨cl170, Ar170, q170, S170, M170, H170, U170⟩ := id V_c1
      obtain ⟨T171, h171, X171, e171, W171, st171⟩ := stC X168 hx hZ e168 Ar170 (j := (0 : Int32)) (inb_of S170 ⟨by decide, by decide⟩) (g := (mkF m 53 #[.val (.int p1), .val (.int p2), .val (.int p3), .val (.int p4), .val (.int sl), .val (.ref ia), .unset, .unset, .unset, .unset, .unset] [(.int ((p2 &&& (255 : Int32))).toUInt32.toUInt16.toUInt32.toInt32), (.int (0 : Int32)), (.ref c1), (.ref c1), (.ref s1), (.ref s1)])) rfl rfl (Jvm.hb hby at_53)
      have V171 : Arv Z h171 c1 k168 .char (1 : Int32) [(.int (nar .char ((p2 &&& (255 : Int32))).toUInt32.toUInt16.toUInt32.toInt32))] (.int (0 : Int32)) := Arv.set Ar170 q170 S170 M170 H170 U170 (fits_nar_char _) W171 0 rfl (Nat.le_of_ble_eq_true rfl)
      have N171 := Fr.snoc X171 N0 g_c1
      have K171 : Keep h0 h171 [] := K168.wr W171 (Or.inr sz_c1)
      have pre172 := fun (τ : State) kt => pre169 τ (by
        show Steps p.tables e below (T168.setTop (mkF m 45 #[.val (.int p1), .val (.int p2), .val (.int p3), .val (.int p4), .val (.int sl), .val (.ref ia), .unset, .unset, .unset, .unset, .unset] [(.ref c1), (.ref s1), (.ref s1)])) τ
        refine XS.dup X168.here hx rfl (Jvm.hb hby at_45) rfl rfl ?_
        refine XS.iconst X168.here hx rfl (Jvm.hb hby at_46) ?_
        refine XS.iloadN X168.here hx rfl (Jvm.hb hby at_47) rfl ?_
        refine XS.sipush X168.here hx rfl (Jvm.hb hby at_48) ?_
        refine XS.iand X168.here hx rfl (Jvm.hb hby at_51) rfl ?_
        refine XT.i2c X168.here hx rfl (Jvm.hb hby at_52) rfl ?_
        exact st171 τ kt)
      have hp1 : ∀ c ∈ ([(nar .char ((p2 &&& (255 : Int32))).toUInt32.toUInt16.toUInt32.toInt32)] : List Int32), ¬ c < 0 ∧ ¬ (255 : Int32) < c := by
        intro c hc
        simp only [List.mem_cons, List.not_mem_nil, or_false] at hc
        rw [hc]; exact own_chars p2
      have old173 := OLD0.ext E166
      have old174 := old173.ext E168
      have old175 := old174.wr W171 g_c1
      have f177 := A166.ext E168
      have f178 := f177.wr W171
      have f179 := F_value_s1.ext E168
      have f180 := (f179.other W171 (Or.inl ne_s1_c1))
      have f181 := F_coder_s1.ext E168
      have f182 := (f181.other W171 (Or.inl ne_s1_c1))
      obtain ⟨_, _, ⟨T176, L176, k176, n176⟩, -, X176, ⟨Lc176, hQ176, l176, y176, z176⟩, st176⟩ := X171.specialBack hx (y := own_mn4) rfl hown (mvT hZ (own_W8 hw)) (mvT hZ (own_W9 hw)) (mvT hZ (own_W10 hw)) (by decide) (StrChars.Road.backV (W := 1) hZ (own_strw hw) (kI := 4) (own_W5 hw) (cs := ([(nar .char ((p2 &&& (255 : Int32))).toUInt32.toUInt16.toUInt32.toInt32)] : List Int32)) (bs := ([(nar .char ((p2 &&& (255 : Int32))).toUInt32.toUInt16.toUInt32.toInt32)] : List Int32).map (fun c => c.toInt8.toInt32)) (n := 1) g_s1 (Nat.le_trans Z0 K171.1) f178 f180 f182 V171 (O2.ext old175.2) P5 rfl rfl (by decide) (by decide) hp1 rfl (by decide) (by decide)) (g := (mkF m 54 #[.val (.int p1), .val (.int p2), .val (.int p3), .val (.int p4), .val (.int sl), .val (.ref ia), .unset, .unset, .unset, .unset, .unset] [(.ref c1), (.ref s1), (.ref s1)])) rfl (by rw [hml]; rfl) (Steps.refl _) (a := s1) (argsL := [(.ref c1)]) (rest := [(.ref s1)]) (lenOf own_pd___C_V rfl) rfl (by show 2 * 0 + _ ≤ _; exact Nat.le_of_eq rfl) (Jvm.hb hby at_54) (fun _ _ => ⟨rfl, e171, (by decide : 2 + 1 ≤ _), (by decide : 5 + 1 ≤ _)⟩)
      dsimp only [Pt.U, Pt.locs, Pt.cells, Pt.slots] at X176 l176 y176 z176 st176 hQ176
      subst l176 y176 z176
      obtain ⟨rfl, Nq176, Kq176, sE176, sC176, sb176, sk176, sg176, sz176, sn176, sV176, sB176⟩ := hQ176
      have N176 := Fr.app N171 Nq176
      have K176 : Keep h0 T176.heap [] := K171.trans Kq176 (allS (Or.inr sz_s1) (all0))
      have pre183 := fun (τ : State) kt => pre172 τ ((st176).trans kt)
      have old184 := old175.keep Kq176 (allS g_s1 (all0))
      obtain ⟨_, T185, L185, X185, ⟨vb, rfl, Nq185, Kq185⟩, st185⟩ := own_stat (y := own_mn5) X176 hx hZ hown (own_W34 hw) (own_W35 hw) (by decide) (rmV l Z a0 hw [] ((p3 &&& (255 : Int32))).toUInt32.toUInt16.toUInt32.toInt32 cz T176.heap n0 (Nat.le_trans Z0 K176.1) (O2.ext old184.2) P5 (own_char1 p3)) (own_W36 hw) (own_W6 hw) 0 (by decide) (by decide) rfl (mkF m 65 #[.val (.int p1), .val (.int p2), .val (.int p3), .val (.int p4), .val (.int sl), .val (.ref ia), .val (.ref s1), .unset, .unset, .unset, .unset] [(.int ((p3 &&& (255 : Int32))).toUInt32.toUInt16.toUInt32.toInt32)]) rfl (by rw [hml]; rfl) [(.int ((p3 &&& (255 : Int32))).toUInt32.toUInt16.toUInt32.toInt32)] [] rfl (lenOf own_pd__C_Ljava_lang_String_ rfl) rfl (Nat.le_refl _) (Jvm.hb hby at_65) (by decide) (by decide)
      have N185 := Fr.app N176 Nq185
      have K185 : Keep h0 T185.heap [] := K176.trans Kq185 (all0)
      have pre186 := fun (τ : State) kt => pre183 τ (by
        show Steps p.tables e below (T176.setTop (mkF m 57 #[.val (.int p1), .val (.int p2), .val (.int p3), .val (.int p4), .val (.int sl), .val (.ref ia), .unset, .unset, .unset, .unset, .unset] [(.ref s1)])) τ
        refine XS.astore X176.here hx rfl (Jvm.hb hby at_57) rfl rfl (l' := #[.val (.int p1), .val (.int p2), .val (.int p3), .val (.int p4), .val (.int sl), .val (.ref ia), .val (.ref s1), .unset, .unset, .unset, .unset]) rfl ?_
        refine XS.iloadN X176.here hx rfl (Jvm.hb hby at_59) rfl ?_
        refine XS.sipush X176.here hx rfl (Jvm.hb hby at_60) ?_
        refine XS.iand X176.here hx rfl (Jvm.hb hby at_63) rfl ?_
        refine XT.i2c X176.here hx rfl (Jvm.hb hby at_64) rfl ?_
        exact st185 τ kt)
      obtain ⟨T187, h187, X187, e187, E187, A187, D187, -, st187⟩ := newO X185 hx hZ hown (own_W4 hw) (own_W5 hw) (own_W6 hw) rfl (g := (mkF m 70 #[.val (.int p1), .val (.int p2), .val (.int p3), .val (.int p4), .val (.int sl), .val (.ref ia), .val (.ref s1), .val (.ref vb), .unset, .unset, .unset] [])) rfl (Jvm.hb hby at_70) (by decide) (by decide)
      obtain ⟨s2, g187⟩ : ∃ z, z = T185.heap.size := ⟨_, rfl⟩
      rw [← g187] at A187 D187 st187
      have f188 := f178.keep Kq176
      have f189 := f188.keep Kq185
      have ne_s1_s2 : s1 ≠ s2 := Nat.ne_of_lt (Nat.lt_of_lt_of_le f189.lt (Nat.le_of_eq g187.symm))
      have g_s2 : n0 ≤ s2 := Nat.le_trans (Nat.le_trans Z0 K185.1) (Nat.le_of_eq g187.symm)
      have sz_s2 : h0.size ≤ s2 := Nat.le_trans K185.1 (Nat.le_of_eq g187.symm)
      have K187 : Keep h0 h187 [] := K185.ext E187
      have F_coder_s2 : Fld Z h187 s2 "java/lang/String" "coder" "B" (.int (0 : Int32)) := D187 (Or.inr (own_W31 hw)) (ty := .byte) (by decide)
      have F_value_s2 : Fld Z h187 s2 "java/lang/String" "value" "[B" .null := D187 (Or.inr (own_W33 hw)) (ty := (.array .byte)) (by decide)
      have pre190 := fun (τ : State) kt => pre186 τ (by
        show Steps p.tables e below (T185.setTop (mkF m 68 #[.val (.int p1), .val (.int p2), .val (.int p3), .val (.int p4), .val (.int sl), .val (.ref ia), .val (.ref s1), .unset, .unset, .unset, .unset] [(.ref vb)])) τ
        refine XS.astore X185.here hx rfl (Jvm.hb hby at_68) rfl rfl (l' := #[.val (.int p1), .val (.int p2), .val (.int p3), .val (.int p4), .val (.int sl), .val (.ref ia), .val (.ref s1), .val (.ref vb), .unset, .unset, .unset]) rfl ?_
        exact st187 τ kt)
      obtain ⟨T191, h191, k191, X191, e191, E191, A191, st191⟩ := newP (aty := .char) X187 hx hZ (own_W7 hw) e187 (g := (mkF m 75 #[.val (.int p1), .val (.int p2), .val (.int p3), .val (.int p4), .val (.int sl), .val (.ref ia), .val (.ref s1), .val (.ref vb), .unset, .unset, .unset] [(.int (2 : Int32)), (.ref s2), (.ref s2)])) rfl (Jvm.hb hby at_75) rfl (by decide) (cap := 2) (by decide) (by decide) (by decide) (by decide)
      obtain ⟨c2, g191⟩ : ∃ z, z = h187.size := ⟨_, rfl⟩
      rw [← g191] at A191 st191
      have f192 := f189.ext E187
      have ne_s1_c2 : s1 ≠ c2 := Nat.ne_of_lt (Nat.lt_of_lt_of_le f192.lt (Nat.le_of_eq g191.symm))
      have ne_s2_c2 : s2 ≠ c2 := Nat.ne_of_lt (Nat.lt_of_lt_of_le A187.lt (Nat.le_of_eq g191.symm))
      have g_c2 : n0 ≤ c2 := Nat.le_trans (Nat.le_trans Z0 K187.1) (Nat.le_of_eq g191.symm)
      have sz_c2 : h0.size ≤ c2 := Nat.le_trans K187.1 (Nat.le_of_eq g191.symm)
      have K191 : Keep h0 h191 [] := K187.ext E191
      have V_c2 : Arv Z h191 c2 k191 .char (2 : Int32) [(.int (0 : Int32)), (.int (0 : Int32))] (.int (0 : Int32)) := (Arv.new A191 (by decide)).pad (pad_rep [] (.int (0 : Int32)) 2)
      have pre193 := fun (τ : State) kt => pre190 τ (by
        show Steps p.tables e below (T187.setTop (mkF m 73 #[.val (.int p1), .val (.int p2), .val (.int p3), .val (.int p4), .val (.int sl), .val (.ref ia), .val (.ref s1), .val (.ref vb), .unset, .unset, .unset] [(.ref s2)])) τ
        refine XS.dup X187.here hx rfl (Jvm.hb hby at_73) rfl rfl ?_
        refine XS.iconst X187.here hx rfl (Jvm.hb hby at_74) ?_
        exact st191 τ kt)
      obtain ⟨cl194, Ar194, q194, S194, M194, H194, U194⟩ := id V_c2
      obtain ⟨T195, h195, X195, e195, W195, st195⟩ := stC X191 hx hZ e191 Ar194 (j := (0 : Int32)) (inb_of S194 ⟨by decide, by decide⟩) (g := (mkF m 85 #[.val (.int p1), .val (.int p2), .val (.int p3), .val (.int p4), .val (.int sl), .val (.ref ia), .val (.ref s1), .val (.ref vb), .unset, .unset, .unset] [(.int ((p4 &&& (255 : Int32))).toUInt32.toUInt16.toUInt32.toInt32), (.int (0 : Int32)), (.ref c2), (.ref c2), (.ref s2), (.ref s2)])) rfl rfl (Jvm.hb hby at_85)
      have V195 : Arv Z h195 c2 k191 .char (2 : Int32) [(.int (nar .char ((p4 &&& (255 : Int32))).toUInt32.toUInt16.toUInt32.toInt32)), (.int (0 : Int32))] (.int (0 : Int32)) := Arv.set Ar194 q194 S194 M194 H194 U194 (fits_nar_char _) W195 0 rfl (Nat.le_of_ble_eq_true rfl)
      have N195 := Fr.snoc X195 N185 g_c2
      have K195 : Keep h0 h195 [] := K191.wr W195 (Or.inr sz_c2)
      have pre196 := fun (τ : State) kt => pre193 τ (by
        show Steps p.tables e below (T191.setTop (mkF m 77 #[.val (.int p1), .val (.int p2), .val (.int p3), .val (.int p4), .val (.int sl), .val (.ref ia), .val (.ref s1), .val (.ref vb), .unset, .unset, .unset] [(.ref c2), (.ref s2), (.ref s2)])) τ
        refine XS.dup X191.here hx rfl (Jvm.hb hby at_77) rfl rfl ?_
        refine XS.iconst X191.here hx rfl (Jvm.hb hby at_78) ?_
        refine XS.iloadN X191.here hx rfl (Jvm.hb hby at_79) rfl ?_
        refine XS.sipush X191.here hx rfl (Jvm.hb hby at_80) ?_
        refine XS.iand X191.here hx rfl (Jvm.hb hby at_83) rfl ?_
        refine XT.i2c X191.here hx rfl (Jvm.hb hby at_84) rfl ?_
        exact st195 τ kt)
      obtain ⟨cl197, Ar197, q197, S197, M197, H197, U197⟩ := id V195
      obtain ⟨T198, h198, X198, e198, W198, st198⟩ := stC X195 hx hZ e195 Ar197 (j := (1 : Int32)) (inb_of S197 ⟨by decide, by decide⟩) (g := (mkF m 97 #[.val (.int p1), .val (.int p2), .val (.int p3), .val (.int p4), .val (.int sl), .val (.ref ia), .val (.ref s1), .val (.ref vb), .unset, .unset, .unset] [(.int (((XT.ushr p4 (8 : Int32)) &&& (255 : Int32))).toUInt32.toUInt16.toUInt32.toInt32), (.int (1 : Int32)), (.ref c2), (.ref c2), (.ref s2), (.ref s2)])) rfl rfl (Jvm.hb hby at_97)
      have V198 : Arv Z h198 c2 k191 .char (2 : Int32) [(.int (nar .char ((p4 &&& (255 : Int32))).toUInt32.toUInt16.toUInt32.toInt32)), (.int (nar .char (((XT.ushr p4 (8 : Int32)) &&& (255 : Int32))).toUInt32.toUInt16.toUInt32.toInt32))] (.int (0 : Int32)) := Arv.set Ar197 q197 S197 M197 H197 U197 (fits_nar_char _) W198 1 rfl (Nat.le_of_ble_eq_true rfl)
      have N198 := Fr.snoc X198 N195 g_c2
      have K198 : Keep h0 h198 [] := K195.wr W198 (Or.inr sz_c2)
      have pre199 := fun (τ : State) kt => pre196 τ (by
        show Steps p.tables e below (T195.setTop (mkF m 86 #[.val (.int p1), .val (.int p2), .val (.int p3), .val (.int p4), .val (.int sl), .val (.ref ia), .val (.ref s1), .val (.ref vb), .unset, .unset, .unset] [(.ref c2), (.ref s2), (.ref s2)])) τ
        refine XS.dup X195.here hx rfl (Jvm.hb hby at_86) rfl rfl ?_
        refine XS.iconst X195.here hx rfl (Jvm.hb hby at_87) ?_
        refine XS.iloadN X195.here hx rfl (Jvm.hb hby at_88) rfl ?_
        refine XS.bipush X195.here hx rfl (Jvm.hb hby at_89) ?_
        refine XT.iushr X195.here hx rfl (Jvm.hb hby at_91) rfl ?_
        refine XS.sipush X195.here hx rfl (Jvm.hb hby at_92) ?_
        refine XS.iand X195.here hx rfl (Jvm.hb hby at_95) rfl ?_
        refine XT.i2c X195.here hx rfl (Jvm.hb hby at_96) rfl ?_
        exact st198 τ kt)
      have hp2 : ∀ c ∈ ([(nar .char ((p4 &&& (255 : Int32))).toUInt32.toUInt16.toUInt32.toInt32), (nar .char (((XT.ushr p4 (8 : Int32)) &&& (255 : Int32))).toUInt32.toUInt16.toUInt32.toInt32)] : List Int32), ¬ c < 0 ∧ ¬ (255 : Int32) < c := by
        intro c hc
        simp only [List.mem_cons, List.not_mem_nil, or_false] at hc
        rcases hc with hc | hc
        · rw [hc]; exact own_chars p4
        · rw [hc]; exact own_chars _
      have old200 := old184.keep Kq185 (all0)
      have old201 := old200.ext E187
      have old202 := old201.ext E191
      have old203 := old202.wr W195 g_c2
      have old204 := old203.wr W198 g_c2
      have f206 := A187.ext E191
      have f207 := f206.wr W195
      have f208 := f207.wr W198
      have f209 := F_value_s2.ext E191
      have f210 := (f209.other W195 (Or.inl ne_s2_c2))
      have f211 := (f210.other W198 (Or.inl ne_s2_c2))
      have f212 := F_coder_s2.ext E191
      have f213 := (f212.other W195 (Or.inl ne_s2_c2))
      have f214 := (f213.other W198 (Or.inl ne_s2_c2))
      obtain ⟨_, _, ⟨T205, L205, k205, n205⟩, -, X205, ⟨Lc205, hQ205, l205, y205, z205⟩, st205⟩ := X198.specialBack hx (y := own_mn4) rfl hown (mvT hZ (own_W8 hw)) (mvT hZ (own_W9 hw)) (mvT hZ (own_W10 hw)) (by decide) (StrChars.Road.backV (W := 1) hZ (own_strw hw) (kI := 4) (own_W5 hw) (cs := ([(nar .char ((p4 &&& (255 : Int32))).toUInt32.toUInt16.toUInt32.toInt32), (nar .char (((XT.ushr p4 (8 : Int32)) &&& (255 : Int32))).toUInt32.toUInt16.toUInt32.toInt32)] : List Int32)) (bs := ([(nar .char ((p4 &&& (255 : Int32))).toUInt32.toUInt16.toUInt32.toInt32), (nar .char (((XT.ushr p4 (8 : Int32)) &&& (255 : Int32))).toUInt32.toUInt16.toUInt32.toInt32)] : List Int32).map (fun c => c.toInt8.toInt32)) (n := 2) g_s2 (Nat.le_trans Z0 K198.1) f208 f211 f214 V198 (O2.ext old204.2) P5 rfl rfl (by decide) (by decide) hp2 rfl (by decide) (by decide)) (g := (mkF m 98 #[.val (.int p1), .val (.int p2), .val (.int p3), .val (.int p4), .val (.int sl), .val (.ref ia), .val (.ref s1), .val (.ref vb), .unset, .unset, .unset] [(.ref c2), (.ref s2), (.ref s2)])) rfl (by rw [hml]; rfl) (Steps.refl _) (a := s2) (argsL := [(.ref c2)]) (rest := [(.ref s2)]) (lenOf own_pd___C_V rfl) rfl (by show 2 * 0 + _ ≤ _; exact Nat.le_of_eq rfl) (Jvm.hb hby at_98) (fun _ _ => ⟨rfl, e198, (by decide : 7 + 1 ≤ _), (by decide : 17 + 2 ≤ _)⟩)
      dsimp only [Pt.U, Pt.locs, Pt.cells, Pt.slots] at X205 l205 y205 z205 st205 hQ205
      subst l205 y205 z205
      obtain ⟨rfl, Nq205, Kq205, sE205, sC205, sb205, sk205, sg205, sz205, sn205, sV205, sB205⟩ := hQ205
      have N205 := Fr.app N198 Nq205
      have K205 : Keep h0 T205.heap [] := K198.trans Kq205 (allS (Or.inr sz_s2) (all0))
      have pre215 := fun (τ : State) kt => pre199 τ ((st205).trans kt)
      obtain ⟨T216, h216, X216, e216, E216, A216, D216, -, st216⟩ := newO X205 hx hZ hown (own_W48 hw) (own_W49 hw) (own_W50 hw) rfl (g := (mkF m 103 #[.val (.int p1), .val (.int p2), .val (.int p3), .val (.int p4), .val (.int sl), .val (.ref ia), .val (.ref s1), .val (.ref vb), .val (.ref s2), .unset, .unset] [])) rfl (Jvm.hb hby at_103) (by decide) (by decide)
      obtain ⟨mo, g216⟩ : ∃ z, z = T205.heap.size := ⟨_, rfl⟩
      rw [← g216] at A216 D216 st216
      have f217 := f192.ext E191
      have f218 := f217.wr W195
      have f219 := f218.wr W198
      have f220 := f219.keep Kq205
      have ne_s1_mo : s1 ≠ mo := Nat.ne_of_lt (Nat.lt_of_lt_of_le f220.lt (Nat.le_of_eq g216.symm))
      have f221 := f208.keep Kq205
      have ne_s2_mo : s2 ≠ mo := Nat.ne_of_lt (Nat.lt_of_lt_of_le f221.lt (Nat.le_of_eq g216.symm))
      have g_mo : n0 ≤ mo := Nat.le_trans (Nat.le_trans Z0 K205.1) (Nat.le_of_eq g216.symm)
      have sz_mo : h0.size ≤ mo := Nat.le_trans K205.1 (Nat.le_of_eq g216.symm)
      have K216 : Keep h0 h216 [] := K205.ext E216
      have F_code_mo : Fld Z h216 mo "com/example/paidthrough/paidthrough/engine/Message" "code" "Ljava/lang/String;" .null := D216 (Or.inr (own_W61 hw)) (ty := (.object "java/lang/String")) (by decide)
      have F_severity_mo : Fld Z h216 mo "com/example/paidthrough/paidthrough/engine/Message" "severity" "Lcom/example/paidthrough/paidthrough/engine/Message$Severity;" .null := D216 (Or.inr (own_W63 hw)) (ty := (.object "com/example/paidthrough/paidthrough/engine/Message$Severity")) (by decide)
      have F_policy_mo : Fld Z h216 mo "com/example/paidthrough/paidthrough/engine/Message" "policy" "Ljava/lang/String;" .null := D216 (Or.inr (own_W65 hw)) (ty := (.object "java/lang/String")) (by decide)
      have F_text_mo : Fld Z h216 mo "com/example/paidthrough/paidthrough/engine/Message" "text" "Ljava/lang/String;" .null := D216 (Or.inr (own_W67 hw)) (ty := (.object "java/lang/String")) (by decide)
      have pre222 := fun (τ : State) kt => pre215 τ (by
        show Steps p.tables e below (T205.setTop (mkF m 101 #[.val (.int p1), .val (.int p2), .val (.int p3), .val (.int p4), .val (.int sl), .val (.ref ia), .val (.ref s1), .val (.ref vb), .unset, .unset, .unset] [(.ref s2)])) τ
        refine XS.astore X205.here hx rfl (Jvm.hb hby at_101) rfl rfl (l' := #[.val (.int p1), .val (.int p2), .val (.int p3), .val (.int p4), .val (.int sl), .val (.ref ia), .val (.ref s1), .val (.ref vb), .val (.ref s2), .unset, .unset]) rfl ?_
        exact st216 τ kt)
      obtain ⟨_, T223, L223, X223, ⟨rfl, Nq223, Kq223, fs223⟩, st223⟩ := own_spec (y := own_mn6) (b := mo) X216 hx hZ rfl hown (own_W51 hw) (own_W52 hw) (by decide) (rmM l Z a0 hw [] mo s1 ia vb s2 h216 n0 (Nat.le_trans Z0 K216.1) A216 F_code_mo F_severity_mo F_policy_mo F_text_mo g_mo) (own_W53 hw) (own_W50 hw) 1 (by decide) (by decide) e216 (mkF m 115 #[.val (.int p1), .val (.int p2), .val (.int p3), .val (.int p4), .val (.int sl), .val (.ref ia), .val (.ref s1), .val (.ref vb), .val (.ref s2), .unset, .unset] [(.ref s2), (.ref vb), (.ref ia), (.ref s1), (.ref mo), (.ref mo)]) rfl (by rw [hml]; rfl) [(.ref s1), (.ref ia), (.ref vb), (.ref s2)] [(.ref mo)] rfl (lenOf own_pd__Ljava_lang_String_Lcom_example_paidthrough_paidthrough_engine_Message_Severity_Ljava_lang_String_Ljava_lang_String__V rfl) rfl (Nat.le_refl _) (Jvm.hb hby at_115) (by decide) (by decide)
      have N223 := Fr.app N205 Nq223
      have K223 : Keep h0 T223.heap [] := K216.trans Kq223 (allS (Or.inr sz_mo) (all0))
      have pre224 := fun (τ : State) kt => pre222 τ (by
        show Steps p.tables e below (T216.setTop (mkF m 106 #[.val (.int p1), .val (.int p2), .val (.int p3), .val (.int p4), .val (.int sl), .val (.ref ia), .val (.ref s1), .val (.ref vb), .val (.ref s2), .unset, .unset] [(.ref mo)])) τ
        refine XS.dup X216.here hx rfl (Jvm.hb hby at_106) rfl rfl ?_
        refine XS.aload X216.here hx rfl (Jvm.hb hby at_107) rfl rfl ?_
        refine XS.aload X216.here hx rfl (Jvm.hb hby at_109) rfl rfl ?_
        refine XS.aload X216.here hx rfl (Jvm.hb hby at_111) rfl rfl ?_
        refine XS.aload X216.here hx rfl (Jvm.hb hby at_113) rfl rfl ?_
        exact st223 τ kt)
      have old225 := old204.keep Kq205 (allS g_s2 (all0))
      have old226 := old225.ext E216
      have old227 := old226.keep Kq223 (allS g_mo (all0))
      have f229 := A216.keep Kq223
      obtain ⟨_, T228, L228, X228, ⟨rfl, Nq228, eq228⟩, st228⟩ := own_virt (y := own_mn7) (b := mo) X223 hx hZ hown (own_W68 hw) (own_W69 hw) (own_W71 hw) (own_W70 hw) (by decide) (rmFB l Z a0 hw [] mo fa ia T223.heap n0 (Nat.le_trans Z0 K223.1) fs223 (S1.ext old227.2) hne) (own_W72 hw) (own_W50 hw) 0 (by decide) (by decide) f229 rfl (mkF m 134 #[.val (.int p1), .val (.int p2), .val (.int p3), .val (.int p4), .val (.int sl), .val (.ref ia), .val (.ref s1), .val (.ref vb), .val (.ref s2), .val (.ref mo), .val (.int (0 : Int32))] [(.ref mo)]) rfl (by rw [hml]; rfl) [] [] rfl (lenOf own_pd___Z rfl) rfl (Nat.le_refl _) (Jvm.hb hby at_134) (by decide) (by decide)
      have N228 := Fr.app N223 Nq228
      have pre230 := fun (τ : State) kt => pre224 τ (by
        show Steps p.tables e below (T223.setTop (mkF m 118 #[.val (.int p1), .val (.int p2), .val (.int p3), .val (.int p4), .val (.int sl), .val (.ref ia), .val (.ref s1), .val (.ref vb), .val (.ref s2), .unset, .unset] [(.ref mo)])) τ
        refine XS.astore X223.here hx rfl (Jvm.hb hby at_118) rfl rfl (l' := #[.val (.int p1), .val (.int p2), .val (.int p3), .val (.int p4), .val (.int sl), .val (.ref ia), .val (.ref s1), .val (.ref vb), .val (.ref s2), .val (.ref mo), .unset]) rfl ?_
        refine XS.iload X223.here hx rfl (Jvm.hb hby at_120) rfl ?_
        refine XS.ifYes X223.here hx rfl (pc0 := 122) (pc' := 129) rfl (Jvm.hb hby at_122) rfl ((if0 _ _).trans (feq q0).2) (by decide) (by decide) ?_
        refine XS.iconst X223.here hx rfl (Jvm.hb hby at_129) ?_
        refine XS.istore X223.here hx rfl (Jvm.hb hby at_130) rfl (l' := #[.val (.int p1), .val (.int p2), .val (.int p3), .val (.int p4), .val (.int sl), .val (.ref ia), .val (.ref s1), .val (.ref vb), .val (.ref s2), .val (.ref mo), .val (.int (0 : Int32))]) rfl ?_
        refine XS.aload X223.here hx rfl (Jvm.hb hby at_132) rfl rfl ?_
        exact st228 τ kt)
      obtain ⟨_, T231, L231, X231, ⟨rfl, Nq231, eq231⟩, st231⟩ := own_virt (y := own_mn8) (b := mo) X228 hx hZ hown (own_W74 hw) (own_W75 hw) (own_W77 hw) (own_W76 hw) (by decide) (rmG l Z a0 hw [] mo ia T223.heap n0 (Nat.le_trans Z0 K223.1) fs223) (own_W78 hw) (own_W50 hw) 0 (by decide) (by decide) f229 eq228 (mkF m 144 #[.val (.int p1), .val (.int p2), .val (.int p3), .val (.int p4), .val (.int sl), .val (.ref ia), .val (.ref s1), .val (.ref vb), .val (.ref s2), .val (.ref mo), .val (.int (0 : Int32))] [(.ref mo)]) rfl (by rw [hml]; rfl) [] [] rfl (lenOf own_pd___Lcom_example_paidthrough_paidthrough_engine_Message_Severity_ rfl) rfl (Nat.le_refl _) (Jvm.hb hby at_144) (by decide) (by decide)
      have N231 := Fr.app N228 Nq231
      have pre232 := fun (τ : State) kt => pre230 τ (by
        show Steps p.tables e below (T228.setTop (mkF m 137 #[.val (.int p1), .val (.int p2), .val (.int p3), .val (.int p4), .val (.int sl), .val (.ref ia), .val (.ref s1), .val (.ref vb), .val (.ref s2), .val (.ref mo), .val (.int (0 : Int32))] [(.int (0 : Int32))])) τ
        refine XS.iload X228.here hx rfl (Jvm.hb hby at_137) rfl ?_
        refine XS.icmpNo X228.here hx rfl (Jvm.hb hby at_139) rfl (teq rfl).2 ?_
        refine XS.aload X228.here hx rfl (Jvm.hb hby at_142) rfl rfl ?_
        exact st231 τ kt)
      have pre233 := fun (τ : State) kt => pre232 τ (by
        show Steps p.tables e below (T231.setTop (mkF m 147 #[.val (.int p1), .val (.int p2), .val (.int p3), .val (.int p4), .val (.int sl), .val (.ref ia), .val (.ref s1), .val (.ref vb), .val (.ref s2), .val (.ref mo), .val (.int (0 : Int32))] [(.ref ia)])) τ
        refine XS.aload X231.here hx rfl (Jvm.hb hby at_147) rfl rfl ?_
        refine Jvm.RoadKit.acmp (g := (mkF m 149 #[.val (.int p1), .val (.int p2), .val (.int p3), .val (.int p4), .val (.int sl), .val (.ref ia), .val (.ref s1), .val (.ref vb), .val (.ref s2), .val (.ref mo), .val (.int (0 : Int32))] [(.ref ia), (.ref ia)])) X231 hx rfl rfl rfl (pc0 := 149) (pc' := 152) (same := true) rfl (Jvm.hb hby at_149) rfl (decide_eq_true rfl) (by decide) (by decide) ?_
        refine XS.iconst X231.here hx rfl (Jvm.hb hby at_152) ?_
        refine XS.goto X231.here hx rfl (pc0 := 153) (pc' := 157) rfl (Jvm.hb hby at_153) (by decide) (by decide) ?_
        exact kt)
      obtain ⟨fs, hrL, hrun, hended, hW, hsame⟩ := X231.leave (v := some (.int (1 : Int32))) (fun h => by rw [Bd.returns] at h; cases h)
      refine ⟨_, _, cast (congrFun hPS _) (pre233 _ ?_), hrun, hended, _, _, rfl, ?_, ⟨_, rfl⟩, hW, hsame.mono (by decide) (by decide)⟩
      · show Steps p.tables e below (T231.setTop (mkF m 157 #[.val (.int p1), .val (.int p2), .val (.int p3), .val (.int p4), .val (.int sl), .val (.ref ia), .val (.ref s1), .val (.ref vb), .val (.ref s2), .val (.ref mo), .val (.int (0 : Int32))] [(.int (1 : Int32))])) _
        exact retN X231 hx (t := .boolean) Bd.returns (by simp) (Jvm.hb hby at_157) hrL
      · show Q0 n0 _ T231.heap _
        exact ⟨rfl, N231⟩
    · skip
      obtain ⟨T234, h234, X234, e234, E234, A234, D234, -, st234⟩ := newO X0 hx hZ hown (own_W4 hw) (own_W5 hw) (own_W6 hw) e0 (g := (mkF m 38 #[.val (.int p1), .val (.int p2), .val (.int p3), .val (.int p4), .val (.int sl), .val .null, .unset, .unset, .unset, .unset, .unset] [])) rfl (Jvm.hb hby at_38) (by decide) (by decide)
      obtain ⟨s1, g234⟩ : ∃ z, z = h0.size := ⟨_, rfl⟩
      rw [← g234] at A234 D234 st234
      have g_s1 : n0 ≤ s1 := Nat.le_trans (Nat.le_trans Z0 KK0.1) (Nat.le_of_eq g234.symm)
      have sz_s1 : h0.size ≤ s1 := Nat.le_trans KK0.1 (Nat.le_of_eq g234.symm)
      have K234 : Keep h0 h234 [] := KK0.ext E234
      have F_coder_s1 : Fld Z h234 s1 "java/lang/String" "coder" "B" (.int (0 : Int32)) := D234 (Or.inr (own_W31 hw)) (ty := .byte) (by decide)
      have F_value_s1 : Fld Z h234 s1 "java/lang/String" "value" "[B" .null := D234 (Or.inr (own_W33 hw)) (ty := (.array .byte)) (by decide)
      have pre235 := fun (τ : State) kt => pre163 τ (by
        show Steps p.tables e below (s₁.setTop (mkF m 24 #[.val (.int p1), .val (.int p2), .val (.int p3), .val (.int p4), .val (.int sl), .unset, .unset, .unset, .unset, .unset, .unset] [(.int (1 : Int32)), (.int sl)])) τ
        refine XS.icmpYes X0.here hx rfl (pc0 := 24) (pc' := 35) rfl (Jvm.hb hby at_24) rfl (feq q1).2 (by decide) (by decide) ?_
        refine XS.aconstNull X0.here hx rfl (Jvm.hb hby at_35) ?_
        refine XS.astore X0.here hx rfl (Jvm.hb hby at_36) rfl rfl (l' := #[.val (.int p1), .val (.int p2), .val (.int p3), .val (.int p4), .val (.int sl), .val .null, .unset, .unset, .unset, .unset, .unset]) rfl ?_
        exact st234 τ kt)
      obtain ⟨T236, h236, k236, X236, e236, E236, A236, st236⟩ := newP (aty := .char) X234 hx hZ (own_W7 hw) e234 (g := (mkF m 43 #[.val (.int p1), .val (.int p2), .val (.int p3), .val (.int p4), .val (.int sl), .val .null, .unset, .unset, .unset, .unset, .unset] [(.int (1 : Int32)), (.ref s1), (.ref s1)])) rfl (Jvm.hb hby at_43) rfl (by decide) (cap := 1) (by decide) (by decide) (by decide) (by decide)
      obtain ⟨c1, g236⟩ : ∃ z, z = h234.size := ⟨_, rfl⟩
      rw [← g236] at A236 st236
      have ne_s1_c1 : s1 ≠ c1 := Nat.ne_of_lt (Nat.lt_of_lt_of_le A234.lt (Nat.le_of_eq g236.symm))
      have g_c1 : n0 ≤ c1 := Nat.le_trans (Nat.le_trans Z0 K234.1) (Nat.le_of_eq g236.symm)
      have sz_c1 : h0.size ≤ c1 := Nat.le_trans K234.1 (Nat.le_of_eq g236.symm)
      have K236 : Keep h0 h236 [] := K234.ext E236
      have V_c1 : Arv Z h236 c1 k236 .char (1 : Int32) [(.int (0 : Int32))] (.int (0 : Int32)) := (Arv.new A236 (by decide)).pad (pad_rep [] (.int (0 : Int32)) 1)
      have pre237 := fun (τ : State) kt => pre235 τ (by
        show Steps p.tables e below (T234.setTop (mkF m 41 #[.val (.int p1), .val (.int p2), .val (.int p3), .val (.int p4), .val (.int sl), .val .null, .unset, .unset, .unset, .unset, .unset] [(.ref s1)])) τ
        refine XS.dup X234.here hx rfl (Jvm.hb hby at_41) rfl rfl ?_
        refine XS.iconst X234.here hx rfl (Jvm.hb hby at_42) ?_
        exact st236 τ kt)
      obtain ⟨cl238, Ar238, q238, S238, M238, H238, U238⟩ := id V_c1
      obtain ⟨T239, h239, X239, e239, W239, st239⟩ := stC X236 hx hZ e236 Ar238 (j := (0 : Int32)) (inb_of S238 ⟨by decide, by decide⟩) (g := (mkF m 53 #[.val (.int p1), .val (.int p2), .val (.int p3), .val (.int p4), .val (.int sl), .val .null, .unset, .unset, .unset, .unset, .unset] [(.int ((p2 &&& (255 : Int32))).toUInt32.toUInt16.toUInt32.toInt32), (.int (0 : Int32)), (.ref c1), (.ref c1), (.ref s1), (.ref s1)])) rfl rfl (Jvm.hb hby at_53)
      have V239 : Arv Z h239 c1 k236 .char (1 : Int32) [(.int (nar .char ((p2 &&& (255 : Int32))).toUInt32.toUInt16.toUInt32.toInt32))] (.int (0 : Int32)) := Arv.set Ar238 q238 S238 M238 H238 U238 (fits_nar_char _) W239 0 rfl (Nat.le_of_ble_eq_true rfl)
      have N239 := Fr.snoc X239 N0 g_c1
      have K239 : Keep h0 h239 [] := K236.wr W239 (Or.inr sz_c1)
      have pre240 := fun (τ : State) kt => pre237 τ (by
        show Steps p.tables e below (T236.setTop (mkF m 45 #[.val (.int p1), .val (.int p2), .val (.int p3), .val (.int p4), .val (.int sl), .val .null, .unset, .unset, .unset, .unset, .unset] [(.ref c1), (.ref s1), (.ref s1)])) τ
        refine XS.dup X236.here hx rfl (Jvm.hb hby at_45) rfl rfl ?_
        refine XS.iconst X236.here hx rfl (Jvm.hb hby at_46) ?_
        refine XS.iloadN X236.here hx rfl (Jvm.hb hby at_47) rfl ?_
        refine XS.sipush X236.here hx rfl (Jvm.hb hby at_48) ?_
        refine XS.iand X236.here hx rfl (Jvm.hb hby at_51) rfl ?_
        refine XT.i2c X236.here hx rfl (Jvm.hb hby at_52) rfl ?_
        exact st239 τ kt)
      have hp1 : ∀ c ∈ ([(nar .char ((p2 &&& (255 : Int32))).toUInt32.toUInt16.toUInt32.toInt32)] : List Int32), ¬ c < 0 ∧ ¬ (255 : Int32) < c := by
        intro c hc
        simp only [List.mem_cons, List.not_mem_nil, or_false] at hc
        rw [hc]; exact own_chars p2
      have old241 := OLD0.ext E234
      have old242 := old241.ext E236
      have old243 := old242.wr W239 g_c1
      have f245 := A234.ext E236
      have f246 := f245.wr W239
      have f247 := F_value_s1.ext E236
      have f248 := (f247.other W239 (Or.inl ne_s1_c1))
      have f249 := F_coder_s1.ext E236
      have f250 := (f249.other W239 (Or.inl ne_s1_c1))
      obtain ⟨_, _, ⟨T244, L244, k244, n244⟩, -, X244, ⟨Lc244, hQ244, l244, y244, z244⟩, st244⟩ := X239.specialBack hx (y := own_mn4) rfl hown (mvT hZ (own_W8 hw)) (mvT hZ (own_W9 hw)) (mvT hZ (own_W10 hw)) (by decide) (StrChars.Road.backV (W := 1) hZ (own_strw hw) (kI := 4) (own_W5 hw) (cs := ([(nar .char ((p2 &&& (255 : Int32))).toUInt32.toUInt16.toUInt32.toInt32)] : List Int32)) (bs := ([(nar .char ((p2 &&& (255 : Int32))).toUInt32.toUInt16.toUInt32.toInt32)] : List Int32).map (fun c => c.toInt8.toInt32)) (n := 1) g_s1 (Nat.le_trans Z0 K239.1) f246 f248 f250 V239 (O2.ext old243.2) P5 rfl rfl (by decide) (by decide) hp1 rfl (by decide) (by decide)) (g := (mkF m 54 #[.val (.int p1), .val (.int p2), .val (.int p3), .val (.int p4), .val (.int sl), .val .null, .unset, .unset, .unset, .unset, .unset] [(.ref c1), (.ref s1), (.ref s1)])) rfl (by rw [hml]; rfl) (Steps.refl _) (a := s1) (argsL := [(.ref c1)]) (rest := [(.ref s1)]) (lenOf own_pd___C_V rfl) rfl (by show 2 * 0 + _ ≤ _; exact Nat.le_of_eq rfl) (Jvm.hb hby at_54) (fun _ _ => ⟨rfl, e239, (by decide : 2 + 1 ≤ _), (by decide : 5 + 1 ≤ _)⟩)
      dsimp only [Pt.U, Pt.locs, Pt.cells, Pt.slots] at X244 l244 y244 z244 st244 hQ244
      subst l244 y244 z244
      obtain ⟨rfl, Nq244, Kq244, sE244, sC244, sb244, sk244, sg244, sz244, sn244, sV244, sB244⟩ := hQ244
      have N244 := Fr.app N239 Nq244
      have K244 : Keep h0 T244.heap [] := K239.trans Kq244 (allS (Or.inr sz_s1) (all0))
      have pre251 := fun (τ : State) kt => pre240 τ ((st244).trans kt)
      have old252 := old243.keep Kq244 (allS g_s1 (all0))
      obtain ⟨_, T253, L253, X253, ⟨vb, rfl, Nq253, Kq253⟩, st253⟩ := own_stat (y := own_mn5) X244 hx hZ hown (own_W34 hw) (own_W35 hw) (by decide) (rmV l Z a0 hw [] ((p3 &&& (255 : Int32))).toUInt32.toUInt16.toUInt32.toInt32 cz T244.heap n0 (Nat.le_trans Z0 K244.1) (O2.ext old252.2) P5 (own_char1 p3)) (own_W36 hw) (own_W6 hw) 0 (by decide) (by decide) rfl (mkF m 65 #[.val (.int p1), .val (.int p2), .val (.int p3), .val (.int p4), .val (.int sl), .val .null, .val (.ref s1), .unset, .unset, .unset, .unset] [(.int ((p3 &&& (255 : Int32))).toUInt32.toUInt16.toUInt32.toInt32)]) rfl (by rw [hml]; rfl) [(.int ((p3 &&& (255 : Int32))).toUInt32.toUInt16.toUInt32.toInt32)] [] rfl (lenOf own_pd__C_Ljava_lang_String_ rfl) rfl (Nat.le_refl _) (Jvm.hb hby at_65) (by decide) (by decide)
      have N253 := Fr.app N244 Nq253
      have K253 : Keep h0 T253.heap [] := K244.trans Kq253 (all0)
      have pre254 := fun (τ : State) kt => pre251 τ (by
        show Steps p.tables e below (T244.setTop (mkF m 57 #[.val (.int p1), .val (.int p2), .val (.int p3), .val (.int p4), .val (.int sl), .val .null, .unset, .unset, .unset, .unset, .unset] [(.ref s1)])) τ
        refine XS.astore X244.here hx rfl (Jvm.hb hby at_57) rfl rfl (l' := #[.val (.int p1), .val (.int p2), .val (.int p3), .val (.int p4), .val (.int sl), .val .null, .val (.ref s1), .unset, .unset, .unset, .unset]) rfl ?_
        refine XS.iloadN X244.here hx rfl (Jvm.hb hby at_59) rfl ?_
        refine XS.sipush X244.here hx rfl (Jvm.hb hby at_60) ?_
        refine XS.iand X244.here hx rfl (Jvm.hb hby at_63) rfl ?_
        refine XT.i2c X244.here hx rfl (Jvm.hb hby at_64) rfl ?_
        exact st253 τ kt)
      obtain ⟨T255, h255, X255, e255, E255, A255, D255, -, st255⟩ := newO X253 hx hZ hown (own_W4 hw) (own_W5 hw) (own_W6 hw) rfl (g := (mkF m 70 #[.val (.int p1), .val (.int p2), .val (.int p3), .val (.int p4), .val (.int sl), .val .null, .val (.ref s1), .val (.ref vb), .unset, .unset, .unset] [])) rfl (Jvm.hb hby at_70) (by decide) (by decide)
      obtain ⟨s2, g255⟩ : ∃ z, z = T253.heap.size := ⟨_, rfl⟩
      rw [← g255] at A255 D255 st255
      have f256 := f246.keep Kq244
      have f257 := f256.keep Kq253
      have ne_s1_s2 : s1 ≠ s2 := Nat.ne_of_lt (Nat.lt_of_lt_of_le f257.lt (Nat.le_of_eq g255.symm))
      have g_s2 : n0 ≤ s2 := Nat.le_trans (Nat.le_trans Z0 K253.1) (Nat.le_of_eq g255.symm)
      have sz_s2 : h0.size ≤ s2 := Nat.le_trans K253.1 (Nat.le_of_eq g255.symm)
      have K255 : Keep h0 h255 [] := K253.ext E255
      have F_coder_s2 : Fld Z h255 s2 "java/lang/String" "coder" "B" (.int (0 : Int32)) := D255 (Or.inr (own_W31 hw)) (ty := .byte) (by decide)
      have F_value_s2 : Fld Z h255 s2 "java/lang/String" "value" "[B" .null := D255 (Or.inr (own_W33 hw)) (ty := (.array .byte)) (by decide)
      have pre258 := fun (τ : State) kt => pre254 τ (by
        show Steps p.tables e below (T253.setTop (mkF m 68 #[.val (.int p1), .val (.int p2), .val (.int p3), .val (.int p4), .val (.int sl), .val .null, .val (.ref s1), .unset, .unset, .unset, .unset] [(.ref vb)])) τ
        refine XS.astore X253.here hx rfl (Jvm.hb hby at_68) rfl rfl (l' := #[.val (.int p1), .val (.int p2), .val (.int p3), .val (.int p4), .val (.int sl), .val .null, .val (.ref s1), .val (.ref vb), .unset, .unset, .unset]) rfl ?_
        exact st255 τ kt)
      obtain ⟨T259, h259, k259, X259, e259, E259, A259, st259⟩ := newP (aty := .char) X255 hx hZ (own_W7 hw) e255 (g := (mkF m 75 #[.val (.int p1), .val (.int p2), .val (.int p3), .val (.int p4), .val (.int sl), .val .null, .val (.ref s1), .val (.ref vb), .unset, .unset, .unset] [(.int (2 : Int32)), (.ref s2), (.ref s2)])) rfl (Jvm.hb hby at_75) rfl (by decide) (cap := 2) (by decide) (by decide) (by decide) (by decide)
      obtain ⟨c2, g259⟩ : ∃ z, z = h255.size := ⟨_, rfl⟩
      rw [← g259] at A259 st259
      have f260 := f257.ext E255
      have ne_s1_c2 : s1 ≠ c2 := Nat.ne_of_lt (Nat.lt_of_lt_of_le f260.lt (Nat.le_of_eq g259.symm))
      have ne_s2_c2 : s2 ≠ c2 := Nat.ne_of_lt (Nat.lt_of_lt_of_le A255.lt (Nat.le_of_eq g259.symm))
      have g_c2 : n0 ≤ c2 := Nat.le_trans (Nat.le_trans Z0 K255.1) (Nat.le_of_eq g259.symm)
      have sz_c2 : h0.size ≤ c2 := Nat.le_trans K255.1 (Nat.le_of_eq g259.symm)
      have K259 : Keep h0 h259 [] := K255.ext E259
      have V_c2 : Arv Z h259 c2 k259 .char (2 : Int32) [(.int (0 : Int32)), (.int (0 : Int32))] (.int (0 : Int32)) := (Arv.new A259 (by decide)).pad (pad_rep [] (.int (0 : Int32)) 2)
      have pre261 := fun (τ : State) kt => pre258 τ (by
        show Steps p.tables e below (T255.setTop (mkF m 73 #[.val (.int p1), .val (.int p2), .val (.int p3), .val (.int p4), .val (.int sl), .val .null, .val (.ref s1), .val (.ref vb), .unset, .unset, .unset] [(.ref s2)])) τ
        refine XS.dup X255.here hx rfl (Jvm.hb hby at_73) rfl rfl ?_
        refine XS.iconst X255.here hx rfl (Jvm.hb hby at_74) ?_
        exact st259 τ kt)
      obtain ⟨cl262, Ar262, q262, S262, M262, H262, U262⟩ := id V_c2
      obtain ⟨T263, h263, X263, e263, W263, st263⟩ := stC X259 hx hZ e259 Ar262 (j := (0 : Int32)) (inb_of S262 ⟨by decide, by decide⟩) (g := (mkF m 85 #[.val (.int p1), .val (.int p2), .val (.int p3), .val (.int p4), .val (.int sl), .val .null, .val (.ref s1), .val (.ref vb), .unset, .unset, .unset] [(.int ((p4 &&& (255 : Int32))).toUInt32.toUInt16.toUInt32.toInt32), (.int (0 : Int32)), (.ref c2), (.ref c2), (.ref s2), (.ref s2)])) rfl rfl (Jvm.hb hby at_85)
      have V263 : Arv Z h263 c2 k259 .char (2 : Int32) [(.int (nar .char ((p4 &&& (255 : Int32))).toUInt32.toUInt16.toUInt32.toInt32)), (.int (0 : Int32))] (.int (0 : Int32)) := Arv.set Ar262 q262 S262 M262 H262 U262 (fits_nar_char _) W263 0 rfl (Nat.le_of_ble_eq_true rfl)
      have N263 := Fr.snoc X263 N253 g_c2
      have K263 : Keep h0 h263 [] := K259.wr W263 (Or.inr sz_c2)
      have pre264 := fun (τ : State) kt => pre261 τ (by
        show Steps p.tables e below (T259.setTop (mkF m 77 #[.val (.int p1), .val (.int p2), .val (.int p3), .val (.int p4), .val (.int sl), .val .null, .val (.ref s1), .val (.ref vb), .unset, .unset, .unset] [(.ref c2), (.ref s2), (.ref s2)])) τ
        refine XS.dup X259.here hx rfl (Jvm.hb hby at_77) rfl rfl ?_
        refine XS.iconst X259.here hx rfl (Jvm.hb hby at_78) ?_
        refine XS.iloadN X259.here hx rfl (Jvm.hb hby at_79) rfl ?_
        refine XS.sipush X259.here hx rfl (Jvm.hb hby at_80) ?_
        refine XS.iand X259.here hx rfl (Jvm.hb hby at_83) rfl ?_
        refine XT.i2c X259.here hx rfl (Jvm.hb hby at_84) rfl ?_
        exact st263 τ kt)
      obtain ⟨cl265, Ar265, q265, S265, M265, H265, U265⟩ := id V263
      obtain ⟨T266, h266, X266, e266, W266, st266⟩ := stC X263 hx hZ e263 Ar265 (j := (1 : Int32)) (inb_of S265 ⟨by decide, by decide⟩) (g := (mkF m 97 #[.val (.int p1), .val (.int p2), .val (.int p3), .val (.int p4), .val (.int sl), .val .null, .val (.ref s1), .val (.ref vb), .unset, .unset, .unset] [(.int (((XT.ushr p4 (8 : Int32)) &&& (255 : Int32))).toUInt32.toUInt16.toUInt32.toInt32), (.int (1 : Int32)), (.ref c2), (.ref c2), (.ref s2), (.ref s2)])) rfl rfl (Jvm.hb hby at_97)
      have V266 : Arv Z h266 c2 k259 .char (2 : Int32) [(.int (nar .char ((p4 &&& (255 : Int32))).toUInt32.toUInt16.toUInt32.toInt32)), (.int (nar .char (((XT.ushr p4 (8 : Int32)) &&& (255 : Int32))).toUInt32.toUInt16.toUInt32.toInt32))] (.int (0 : Int32)) := Arv.set Ar265 q265 S265 M265 H265 U265 (fits_nar_char _) W266 1 rfl (Nat.le_of_ble_eq_true rfl)
      have N266 := Fr.snoc X266 N263 g_c2
      have K266 : Keep h0 h266 [] := K263.wr W266 (Or.inr sz_c2)
      have pre267 := fun (τ : State) kt => pre264 τ (by
        show Steps p.tables e below (T263.setTop (mkF m 86 #[.val (.int p1), .val (.int p2), .val (.int p3), .val (.int p4), .val (.int sl), .val .null, .val (.ref s1), .val (.ref vb), .unset, .unset, .unset] [(.ref c2), (.ref s2), (.ref s2)])) τ
        refine XS.dup X263.here hx rfl (Jvm.hb hby at_86) rfl rfl ?_
        refine XS.iconst X263.here hx rfl (Jvm.hb hby at_87) ?_
        refine XS.iloadN X263.here hx rfl (Jvm.hb hby at_88) rfl ?_
        refine XS.bipush X263.here hx rfl (Jvm.hb hby at_89) ?_
        refine XT.iushr X263.here hx rfl (Jvm.hb hby at_91) rfl ?_
        refine XS.sipush X263.here hx rfl (Jvm.hb hby at_92) ?_
        refine XS.iand X263.here hx rfl (Jvm.hb hby at_95) rfl ?_
        refine XT.i2c X263.here hx rfl (Jvm.hb hby at_96) rfl ?_
        exact st266 τ kt)
      have hp2 : ∀ c ∈ ([(nar .char ((p4 &&& (255 : Int32))).toUInt32.toUInt16.toUInt32.toInt32), (nar .char (((XT.ushr p4 (8 : Int32)) &&& (255 : Int32))).toUInt32.toUInt16.toUInt32.toInt32)] : List Int32), ¬ c < 0 ∧ ¬ (255 : Int32) < c := by
        intro c hc
        simp only [List.mem_cons, List.not_mem_nil, or_false] at hc
        rcases hc with hc | hc
        · rw [hc]; exact own_chars p4
        · rw [hc]; exact own_chars _
      have old268 := old252.keep Kq253 (all0)
      have old269 := old268.ext E255
      have old270 := old269.ext E259
      have old271 := old270.wr W263 g_c2
      have old272 := old271.wr W266 g_c2
      have f274 := A255.ext E259
      have f275 := f274.wr W263
      have f276 := f275.wr W266
      have f277 := F_value_s2.ext E259
      have f278 := (f277.other W263 (Or.inl ne_s2_c2))
      have f279 := (f278.other W266 (Or.inl ne_s2_c2))
      have f280 := F_coder_s2.ext E259
      have f281 := (f280.other W263 (Or.inl ne_s2_c2))
      have f282 := (f281.other W266 (Or.inl ne_s2_c2))
      obtain ⟨_, _, ⟨T273, L273, k273, n273⟩, -, X273, ⟨Lc273, hQ273, l273, y273, z273⟩, st273⟩ := X266.specialBack hx (y := own_mn4) rfl hown (mvT hZ (own_W8 hw)) (mvT hZ (own_W9 hw)) (mvT hZ (own_W10 hw)) (by decide) (StrChars.Road.backV (W := 1) hZ (own_strw hw) (kI := 4) (own_W5 hw) (cs := ([(nar .char ((p4 &&& (255 : Int32))).toUInt32.toUInt16.toUInt32.toInt32), (nar .char (((XT.ushr p4 (8 : Int32)) &&& (255 : Int32))).toUInt32.toUInt16.toUInt32.toInt32)] : List Int32)) (bs := ([(nar .char ((p4 &&& (255 : Int32))).toUInt32.toUInt16.toUInt32.toInt32), (nar .char (((XT.ushr p4 (8 : Int32)) &&& (255 : Int32))).toUInt32.toUInt16.toUInt32.toInt32)] : List Int32).map (fun c => c.toInt8.toInt32)) (n := 2) g_s2 (Nat.le_trans Z0 K266.1) f276 f279 f282 V266 (O2.ext old272.2) P5 rfl rfl (by decide) (by decide) hp2 rfl (by decide) (by decide)) (g := (mkF m 98 #[.val (.int p1), .val (.int p2), .val (.int p3), .val (.int p4), .val (.int sl), .val .null, .val (.ref s1), .val (.ref vb), .unset, .unset, .unset] [(.ref c2), (.ref s2), (.ref s2)])) rfl (by rw [hml]; rfl) (Steps.refl _) (a := s2) (argsL := [(.ref c2)]) (rest := [(.ref s2)]) (lenOf own_pd___C_V rfl) rfl (by show 2 * 0 + _ ≤ _; exact Nat.le_of_eq rfl) (Jvm.hb hby at_98) (fun _ _ => ⟨rfl, e266, (by decide : 7 + 1 ≤ _), (by decide : 17 + 2 ≤ _)⟩)
      dsimp only [Pt.U, Pt.locs, Pt.cells, Pt.slots] at X273 l273 y273 z273 st273 hQ273
      subst l273 y273 z273
      obtain ⟨rfl, Nq273, Kq273, sE273, sC273, sb273, sk273, sg273, sz273, sn273, sV273, sB273⟩ := hQ273
      have N273 := Fr.app N266 Nq273
      have K273 : Keep h0 T273.heap [] := K266.trans Kq273 (allS (Or.inr sz_s2) (all0))
      have pre283 := fun (τ : State) kt => pre267 τ ((st273).trans kt)
      obtain ⟨T284, h284, X284, e284, E284, A284, D284, -, st284⟩ := newO X273 hx hZ hown (own_W48 hw) (own_W49 hw) (own_W50 hw) rfl (g := (mkF m 103 #[.val (.int p1), .val (.int p2), .val (.int p3), .val (.int p4), .val (.int sl), .val .null, .val (.ref s1), .val (.ref vb), .val (.ref s2), .unset, .unset] [])) rfl (Jvm.hb hby at_103) (by decide) (by decide)
      obtain ⟨mo, g284⟩ : ∃ z, z = T273.heap.size := ⟨_, rfl⟩
      rw [← g284] at A284 D284 st284
      have f285 := f260.ext E259
      have f286 := f285.wr W263
      have f287 := f286.wr W266
      have f288 := f287.keep Kq273
      have ne_s1_mo : s1 ≠ mo := Nat.ne_of_lt (Nat.lt_of_lt_of_le f288.lt (Nat.le_of_eq g284.symm))
      have f289 := f276.keep Kq273
      have ne_s2_mo : s2 ≠ mo := Nat.ne_of_lt (Nat.lt_of_lt_of_le f289.lt (Nat.le_of_eq g284.symm))
      have g_mo : n0 ≤ mo := Nat.le_trans (Nat.le_trans Z0 K273.1) (Nat.le_of_eq g284.symm)
      have sz_mo : h0.size ≤ mo := Nat.le_trans K273.1 (Nat.le_of_eq g284.symm)
      have K284 : Keep h0 h284 [] := K273.ext E284
      have F_code_mo : Fld Z h284 mo "com/example/paidthrough/paidthrough/engine/Message" "code" "Ljava/lang/String;" .null := D284 (Or.inr (own_W61 hw)) (ty := (.object "java/lang/String")) (by decide)
      have F_severity_mo : Fld Z h284 mo "com/example/paidthrough/paidthrough/engine/Message" "severity" "Lcom/example/paidthrough/paidthrough/engine/Message$Severity;" .null := D284 (Or.inr (own_W63 hw)) (ty := (.object "com/example/paidthrough/paidthrough/engine/Message$Severity")) (by decide)
      have F_policy_mo : Fld Z h284 mo "com/example/paidthrough/paidthrough/engine/Message" "policy" "Ljava/lang/String;" .null := D284 (Or.inr (own_W65 hw)) (ty := (.object "java/lang/String")) (by decide)
      have F_text_mo : Fld Z h284 mo "com/example/paidthrough/paidthrough/engine/Message" "text" "Ljava/lang/String;" .null := D284 (Or.inr (own_W67 hw)) (ty := (.object "java/lang/String")) (by decide)
      have pre290 := fun (τ : State) kt => pre283 τ (by
        show Steps p.tables e below (T273.setTop (mkF m 101 #[.val (.int p1), .val (.int p2), .val (.int p3), .val (.int p4), .val (.int sl), .val .null, .val (.ref s1), .val (.ref vb), .unset, .unset, .unset] [(.ref s2)])) τ
        refine XS.astore X273.here hx rfl (Jvm.hb hby at_101) rfl rfl (l' := #[.val (.int p1), .val (.int p2), .val (.int p3), .val (.int p4), .val (.int sl), .val .null, .val (.ref s1), .val (.ref vb), .val (.ref s2), .unset, .unset]) rfl ?_
        exact st284 τ kt)
      obtain ⟨_, T291, L291, X291, ⟨rfl, Nq291, Kq291, fs291⟩, st291⟩ := own_spec (y := own_mn6) (b := mo) X284 hx hZ rfl hown (own_W51 hw) (own_W52 hw) (by decide) (rmMN l Z a0 hw [] mo s1 vb s2 h284 n0 (Nat.le_trans Z0 K284.1) A284 F_code_mo F_severity_mo F_policy_mo F_text_mo g_mo) (own_W53 hw) (own_W50 hw) 1 (by decide) (by decide) e284 (mkF m 115 #[.val (.int p1), .val (.int p2), .val (.int p3), .val (.int p4), .val (.int sl), .val .null, .val (.ref s1), .val (.ref vb), .val (.ref s2), .unset, .unset] [(.ref s2), (.ref vb), .null, (.ref s1), (.ref mo), (.ref mo)]) rfl (by rw [hml]; rfl) [(.ref s1), .null, (.ref vb), (.ref s2)] [(.ref mo)] rfl (lenOf own_pd__Ljava_lang_String_Lcom_example_paidthrough_paidthrough_engine_Message_Severity_Ljava_lang_String_Ljava_lang_String__V rfl) rfl (Nat.le_refl _) (Jvm.hb hby at_115) (by decide) (by decide)
      have N291 := Fr.app N273 Nq291
      have K291 : Keep h0 T291.heap [] := K284.trans Kq291 (allS (Or.inr sz_mo) (all0))
      have pre292 := fun (τ : State) kt => pre290 τ (by
        show Steps p.tables e below (T284.setTop (mkF m 106 #[.val (.int p1), .val (.int p2), .val (.int p3), .val (.int p4), .val (.int sl), .val .null, .val (.ref s1), .val (.ref vb), .val (.ref s2), .unset, .unset] [(.ref mo)])) τ
        refine XS.dup X284.here hx rfl (Jvm.hb hby at_106) rfl rfl ?_
        refine XS.aload X284.here hx rfl (Jvm.hb hby at_107) rfl rfl ?_
        refine XS.aload X284.here hx rfl (Jvm.hb hby at_109) rfl rfl ?_
        refine XS.aload X284.here hx rfl (Jvm.hb hby at_111) rfl rfl ?_
        refine XS.aload X284.here hx rfl (Jvm.hb hby at_113) rfl rfl ?_
        exact st291 τ kt)
      have old293 := old272.keep Kq273 (allS g_s2 (all0))
      have old294 := old293.ext E284
      have old295 := old294.keep Kq291 (allS g_mo (all0))
      have f297 := A284.keep Kq291
      obtain ⟨_, T296, L296, X296, ⟨rfl, Nq296, eq296⟩, st296⟩ := own_virt (y := own_mn7) (b := mo) X291 hx hZ hown (own_W68 hw) (own_W69 hw) (own_W71 hw) (own_W70 hw) (by decide) (rmFC l Z a0 hw [] mo fa T291.heap n0 (Nat.le_trans Z0 K291.1) fs291 (S1.ext old295.2)) (own_W72 hw) (own_W50 hw) 0 (by decide) (by decide) f297 rfl (mkF m 134 #[.val (.int p1), .val (.int p2), .val (.int p3), .val (.int p4), .val (.int sl), .val .null, .val (.ref s1), .val (.ref vb), .val (.ref s2), .val (.ref mo), .val (.int (0 : Int32))] [(.ref mo)]) rfl (by rw [hml]; rfl) [] [] rfl (lenOf own_pd___Z rfl) rfl (Nat.le_refl _) (Jvm.hb hby at_134) (by decide) (by decide)
      have N296 := Fr.app N291 Nq296
      have pre298 := fun (τ : State) kt => pre292 τ (by
        show Steps p.tables e below (T291.setTop (mkF m 118 #[.val (.int p1), .val (.int p2), .val (.int p3), .val (.int p4), .val (.int sl), .val .null, .val (.ref s1), .val (.ref vb), .val (.ref s2), .unset, .unset] [(.ref mo)])) τ
        refine XS.astore X291.here hx rfl (Jvm.hb hby at_118) rfl rfl (l' := #[.val (.int p1), .val (.int p2), .val (.int p3), .val (.int p4), .val (.int sl), .val .null, .val (.ref s1), .val (.ref vb), .val (.ref s2), .val (.ref mo), .unset]) rfl ?_
        refine XS.iload X291.here hx rfl (Jvm.hb hby at_120) rfl ?_
        refine XS.ifYes X291.here hx rfl (pc0 := 122) (pc' := 129) rfl (Jvm.hb hby at_122) rfl ((if0 _ _).trans (feq q0).2) (by decide) (by decide) ?_
        refine XS.iconst X291.here hx rfl (Jvm.hb hby at_129) ?_
        refine XS.istore X291.here hx rfl (Jvm.hb hby at_130) rfl (l' := #[.val (.int p1), .val (.int p2), .val (.int p3), .val (.int p4), .val (.int sl), .val .null, .val (.ref s1), .val (.ref vb), .val (.ref s2), .val (.ref mo), .val (.int (0 : Int32))]) rfl ?_
        refine XS.aload X291.here hx rfl (Jvm.hb hby at_132) rfl rfl ?_
        exact st296 τ kt)
      obtain ⟨_, T299, L299, X299, ⟨rfl, Nq299, eq299⟩, st299⟩ := own_virt (y := own_mn8) (b := mo) X296 hx hZ hown (own_W74 hw) (own_W75 hw) (own_W77 hw) (own_W76 hw) (by decide) (rmGN l Z a0 hw [] mo T291.heap n0 (Nat.le_trans Z0 K291.1) fs291) (own_W78 hw) (own_W50 hw) 0 (by decide) (by decide) f297 eq296 (mkF m 144 #[.val (.int p1), .val (.int p2), .val (.int p3), .val (.int p4), .val (.int sl), .val .null, .val (.ref s1), .val (.ref vb), .val (.ref s2), .val (.ref mo), .val (.int (0 : Int32))] [(.ref mo)]) rfl (by rw [hml]; rfl) [] [] rfl (lenOf own_pd___Lcom_example_paidthrough_paidthrough_engine_Message_Severity_ rfl) rfl (Nat.le_refl _) (Jvm.hb hby at_144) (by decide) (by decide)
      have N299 := Fr.app N296 Nq299
      have pre300 := fun (τ : State) kt => pre298 τ (by
        show Steps p.tables e below (T296.setTop (mkF m 137 #[.val (.int p1), .val (.int p2), .val (.int p3), .val (.int p4), .val (.int sl), .val .null, .val (.ref s1), .val (.ref vb), .val (.ref s2), .val (.ref mo), .val (.int (0 : Int32))] [(.int (0 : Int32))])) τ
        refine XS.iload X296.here hx rfl (Jvm.hb hby at_137) rfl ?_
        refine XS.icmpNo X296.here hx rfl (Jvm.hb hby at_139) rfl (teq rfl).2 ?_
        refine XS.aload X296.here hx rfl (Jvm.hb hby at_142) rfl rfl ?_
        exact st299 τ kt)
      have pre301 := fun (τ : State) kt => pre300 τ (by
        show Steps p.tables e below (T299.setTop (mkF m 147 #[.val (.int p1), .val (.int p2), .val (.int p3), .val (.int p4), .val (.int sl), .val .null, .val (.ref s1), .val (.ref vb), .val (.ref s2), .val (.ref mo), .val (.int (0 : Int32))] [.null])) τ
        refine XS.aload X299.here hx rfl (Jvm.hb hby at_147) rfl rfl ?_
        refine Jvm.RoadKit.acmp (g := (mkF m 149 #[.val (.int p1), .val (.int p2), .val (.int p3), .val (.int p4), .val (.int sl), .val .null, .val (.ref s1), .val (.ref vb), .val (.ref s2), .val (.ref mo), .val (.int (0 : Int32))] [.null, .null])) X299 hx rfl rfl rfl (pc0 := 149) (pc' := 152) (same := true) rfl (Jvm.hb hby at_149) rfl (decide_eq_true rfl) (by decide) (by decide) ?_
        refine XS.iconst X299.here hx rfl (Jvm.hb hby at_152) ?_
        refine XS.goto X299.here hx rfl (pc0 := 153) (pc' := 157) rfl (Jvm.hb hby at_153) (by decide) (by decide) ?_
        exact kt)
      obtain ⟨fs, hrL, hrun, hended, hW, hsame⟩ := X299.leave (v := some (.int (1 : Int32))) (fun h => by rw [Bd.returns] at h; cases h)
      refine ⟨_, _, cast (congrFun hPS _) (pre301 _ ?_), hrun, hended, _, _, rfl, ?_, ⟨_, rfl⟩, hW, hsame.mono (by decide) (by decide)⟩
      · show Steps p.tables e below (T299.setTop (mkF m 157 #[.val (.int p1), .val (.int p2), .val (.int p3), .val (.int p4), .val (.int sl), .val .null, .val (.ref s1), .val (.ref vb), .val (.ref s2), .val (.ref mo), .val (.int (0 : Int32))] [(.int (1 : Int32))])) _
        exact retN X299 hx (t := .boolean) Bd.returns (by simp) (Jvm.hb hby at_157) hrL
      · show Q0 n0 _ T299.heap _
        exact ⟨rfl, N299⟩
set_option maxRecDepth 65536 in
set_option maxHeartbeats 40000000 in
theorem comes_1 {Post : Tables → Env → Array Value → State → Outcome → State → Prop} (hpost : ∀ tb e args s v u, (limb_1_1.after args s (.returned v) u = true ∧ limb_1_2.after args s (.returned v) u = true ∧ True) → FrameEnd s (.returned v) u (Jvm.fieldLocs frame_1_writes args s ++ Jvm.arrayLocs frame_1_arrays args s ++ Jvm.staticLocs frame_1_statics s) 32 128 → Post tb e args s (.returned v) u) :
    ArmFor flags0 classFile x code maxLocals ret World_1 tables_1 room_1 Calls_1 rest_1 Pre_1 Post := by
  intro l hfl _ _ p e ha hc hk s m args below hf hA hF happ hP
  obtain ⟨hcalls, hrest, hpre⟩ := hP
  obtain ⟨-, -, -, hnamed, -, -, -, hat⟩ := (Spec.applies_iff hf).mp happ
  obtain ⟨hg, hn⟩ := and_e (Cond.before_iff.mp (show (Jvm.Cond.and given_1 narrow_1).before args s = true from hpre))
  obtain ⟨g1, g2⟩ := and_e hg
  obtain ⟨g3, g4⟩ := and_e g2
  obtain ⟨g5, g6⟩ := and_e g4
  obtain ⟨g7, g8⟩ := and_e g6
  obtain ⟨w0, w1, w2, w3, rfl⟩ : ∃ w0 w1 w2 w3 : Value, args = #[w0, w1, w2, w3] := by
    have hs : args.size = 4 := by simpa [Cond.value, given_1] using g1
    obtain ⟨L⟩ := args
    match L, hs with
    | [w0, w1, w2, w3], _ => exact ⟨w0, w1, w2, w3, rfl⟩
  have hw := fun d (hd : d ∈ tables_1) => atoms_spec (ws := Jvm.Cond.code x code maxLocals ret :: tables_1) hat d (List.mem_cons_of_mem _ hd)
  obtain ⟨hsets, hown0⟩ := atoms_of _ (rest_1_c_eq ▸ (show rest_1_c.before _ s = true from hrest))
  have hr0 := Cond.before_iff.mp hown0
  obtain ⟨i0, ei0⟩ := is_v g3
  obtain rfl : w0 = (.int i0) := Option.some.inj ei0
  obtain ⟨i1, ei1⟩ := is_v g5
  obtain rfl : w1 = (.int i1) := Option.some.inj ei1
  obtain ⟨i2, ei2⟩ := is_v g7
  obtain rfl : w2 = (.int i2) := Option.some.inj ei2
  obtain ⟨i3, ei3⟩ := is_v g8
  obtain rfl : w3 = (.int i3) := Option.some.inj ei3
  have n5 := not_v (Cond.before_iff.mp (hsets _ (List.mem_of_getElem? (i := 2) rfl)))
  obtain ⟨i11, e10⟩ := is_v (Cond.before_iff.mp (hsets _ (List.mem_of_getElem? (i := 1) rfl)))
  have S12 : Sta s s.heap "java/lang/String" "COMPACT_STRINGS" "Z" (.int i11) := Sta.start e10 (Or.inl (hsets _ (List.mem_of_getElem? (i := 0) rfl)))
  have c17 : ¬ (i11 = (0 : Int32)) := gotF (Cond.eq_ints e10 (Term.int_eval (0))) n5
  obtain ⟨k1, k2⟩ := and_e hn
  obtain ⟨k3, k4⟩ := and_e k2
  obtain ⟨k5, k6⟩ := and_e k4
  obtain ⟨fa, efa, Efa⟩ := own_exact k1
  obtain ⟨ia, eia, Eia⟩ := own_exact k3
  have S13 : Sta s s.heap "com/example/paidthrough/paidthrough/engine/Message$Severity" "FATAL" "Lcom/example/paidthrough/paidthrough/engine/Message$Severity;" (.ref fa) := Sta.start efa (Or.inr ⟨own_W2 hw, own_W3 hw⟩)
  have S14 : Sta s s.heap "com/example/paidthrough/paidthrough/engine/Message$Severity" "INFORMATIVE" "Lcom/example/paidthrough/paidthrough/engine/Message$Severity;" (.ref ia) := Sta.start eia (Or.inr ⟨own_W2 hw, own_W80 hw⟩)
  have hne : ¬ ia = fa := fun q => by
    subst q
    have a1 := own_ord_val eia k5
    have a2 := own_ord_val efa k6
    exact absurd (a1.symm.trans a2) (by decide)
  obtain ⟨n, o, h1, h2, h3, _, L, rfl, ⟨rfl, N⟩, hq⟩ := rm0 l s _ hw tables_1 i0 i1 i2 i3 i11 fa ia s.heap s.heap.size (Nat.le_refl _) S12 c17 S13 S14 hne (Old.start s) p e ha hc hk s m _ below hf ((Spec.applies_iff_loose hf).mp happ).1 ⟨rfl, State.Warmed39.refl s, rfl⟩ trivial
  refine ⟨n, _, h1, h2, h3, hpost _ _ _ _ _ _ ⟨Cond.after_iff.mpr rfl, Cond.after_iff.mpr (eq_i res_at (Term.int_eval (1)) rfl), trivial⟩ ⟨hq.1, hq.2.1, (hq.2.2.sift fun y hy => Or.inr (N y hy)).mono (by decide) (by decide)⟩⟩
theorem main_1_1 : Claimed_1_1 := comes_1 fun _ _ _ _ _ _ h hF => ⟨h.1, hF⟩
theorem main_1_2 : Claimed_1_2 := comes_1 fun _ _ _ _ _ _ h hF => ⟨h.2.1, hF⟩
end Jvm.Pilot.@@N@@
namespace Jvm.Pilot.@@N@@
open Jvm Jvm.ClassFile Sem Op Lib Jvm.Free Jvm.Stand Jvm.Pilot.@@N@@.Jvm.D
/-! MADE BY PROGRAM (witnessworld.py) out of the Statement's table words and the real class files: 23 classes; the members and pool entries that the words name. The judged class is class 1, her method 1. -/
namespace start1
open Jvm.ClassFile
def u (s : String) : CpInfo := .utf8 (stringToUtf16 s)
/-- a pool by its gaps: so many unusable entries, then the entry; so many at the end -/
def gap : Nat → List CpInfo → List CpInfo
  | 0, r => r
  | n + 1, r => .unusable :: gap n r
def poolList (es : List (Nat × CpInfo)) (last : Nat) : List CpInfo := es.foldr (fun e r => gap e.1 (e.2 :: r)) (gap last [])
def pool (es : List (Nat × CpInfo)) (last : Nat) : Array CpInfo := ⟨poolList es last⟩
def fileOf (pool : Array CpInfo) (this : Nat) (attrs : Array Attribute := #[]) (ms : Array MethodInfo := #[]) (fl : Nat := 33) (sup : Nat := 0) (ifs : Array Nat := #[]) (fds : Array FieldInfo := #[]) : ClassFile where
  minorVersion := 0
  majorVersion := 65
  constantPool := pool
  accessFlags := fl
  thisClass := this
  superClass := sup
  interfaces := ifs
  fields := fds
  methods := ms
  attributes := attrs
def plain (name : String) (sup : Option ClassId) : Class where
  name := name
  kind := .ordinary
  loader := none
  accessFlags := 33
  super := sup
  interfaces := #[]
  cf := none
  fields := #[]
  methods := #[]
  instanceTypes := #[]
  staticTypes := #[]
  resolved := #[]
  callSites := []
  init := .initialized
  statics := none
  mirror := none

def pool0 : Array CpInfo := pool [(5, u "<init>"), (0, u "()V"), (1, .class_ 10), (1, u "java/lang/Object")] 113

def k0c0 : Code := { maxStack := 0, maxLocals := 1, code := object_method_1_code, exceptionTable := #[], attributes := #[] }
def k0m0 : Method := { name := "<init>", desc := "()V", sig := { parameters := [], returnType := none }, accessFlags := 1, code := some k0c0 }
/-- java/lang/Object -/
def k0 : Class := { plain "java/lang/Object" none with
  accessFlags := 33
  interfaces := #[]
  cf := some (fileOf pool0 8 #[] #[{ accessFlags := 1, nameIndex := 5, descriptorIndex := 6, attributes := #[] }] 33 0 #[] #[])
  fields := #[]
  methods := #[k0m0]
  instanceTypes := #[]
  staticTypes := #[]
  resolved := Array.replicate 124 none
  statics := none }

def pool1 : Array CpInfo := pool [(2, .class_ 4), (1, u "java/lang/Object"), (0, u "<init>"), (0, u "()V"), (0, .integer 2147483647), (0, .fieldref 9 10), (0, .class_ 11), (0, .nameAndType 12 13), (0, u "com/example/paidthrough/paidthrough/engine/Message$Severity"), (0, u "FATAL"), (0, u "Lcom/example/paidthrough/paidthrough/engine/Message$Severity;"), (0, .fieldref 9 15), (0, .nameAndType 16 13), (0, u "INFORMATIVE"), (0, .class_ 18), (0, u "java/lang/String"), (0, .methodref 17 20), (0, .nameAndType 5 21), (0, u "([C)V"), (0, .methodref 17 23), (0, .nameAndType 24 25), (0, u "valueOf"), (0, u "(C)Ljava/lang/String;"), (0, .class_ 27), (0, u "com/example/paidthrough/paidthrough/engine/Message"), (0, .methodref 26 29), (0, .nameAndType 5 30), (0, u "(Ljava/lang/String;Lcom/example/paidthrough/paidthrough/engine/Message$Severity;Ljava/lang/String;Ljava/lang/String;)V"), (0, .methodref 26 32), (0, .nameAndType 33 34), (0, u "isFatal"), (0, u "()Z"), (0, .methodref 26 36), (0, .nameAndType 37 38), (0, u "severity"), (0, u "()Lcom/example/paidthrough/paidthrough/engine/Message$Severity;"), (0, .class_ 40), (0, u "com/example/paidthrough/paidthrough/engine/MessageIsFatalPinLaw"), (2, u "law"), (0, u "(IIII)Z")] 5

def k1m0 : Method := { name := "<init>", desc := "()V", sig := { parameters := [], returnType := none }, accessFlags := 2, code := none }
def k1c1 : Code := { maxStack := 7, maxLocals := 11, code := code, exceptionTable := #[], attributes := #[] }
def k1m1 : Method := { name := "law", desc := "(IIII)Z", sig := { parameters := [.int, .int, .int, .int], returnType := some .boolean }, accessFlags := 9, code := some k1c1 }
/-- com/example/paidthrough/paidthrough/engine/MessageIsFatalPinLaw -/
def k1 : Class := { plain "com/example/paidthrough/paidthrough/engine/MessageIsFatalPinLaw" (some 0) with
  accessFlags := 49
  interfaces := #[]
  cf := some (fileOf pool1 39 #[] #[{ accessFlags := 2, nameIndex := 5, descriptorIndex := 6, attributes := #[] }, { accessFlags := 9, nameIndex := 43, descriptorIndex := 44, attributes := #[] }] 49 2 #[] #[])
  fields := #[]
  methods := #[k1m0, k1m1]
  instanceTypes := #[]
  staticTypes := #[]
  resolved := Array.replicate 50 none
  statics := none }

def pool2 : Array CpInfo := pool [(1, .class_ 2), (0, u "java/lang/constant/Constable"), (0, .class_ 4), (0, u "java/lang/Object")] 6

/-- java/lang/constant/Constable -/
def k2 : Class := { plain "java/lang/constant/Constable" (some 0) with
  accessFlags := 1537
  interfaces := #[]
  cf := some (fileOf pool2 1 #[] #[] 1537 3 #[] #[])
  fields := #[]
  methods := #[]
  instanceTypes := #[]
  staticTypes := #[]
  resolved := Array.replicate 11 none
  statics := none }

def pool3 : Array CpInfo := pool [(1, .class_ 2), (0, u "java/lang/Comparable"), (0, .class_ 4), (0, u "java/lang/Object")] 7

/-- java/lang/Comparable -/
def k3 : Class := { plain "java/lang/Comparable" (some 0) with
  accessFlags := 1537
  interfaces := #[]
  cf := some (fileOf pool3 1 #[] #[] 1537 3 #[] #[])
  fields := #[]
  methods := #[]
  instanceTypes := #[]
  staticTypes := #[]
  resolved := Array.replicate 12 none
  statics := none }

def pool4 : Array CpInfo := pool [(1, .class_ 2), (0, u "java/io/Serializable"), (0, .class_ 4), (0, u "java/lang/Object")] 2

/-- java/io/Serializable -/
def k4 : Class := { plain "java/io/Serializable" (some 0) with
  accessFlags := 1537
  interfaces := #[]
  cf := some (fileOf pool4 1 #[] #[] 1537 3 #[] #[])
  fields := #[]
  methods := #[]
  instanceTypes := #[]
  staticTypes := #[]
  resolved := Array.replicate 7 none
  statics := none }

def pool5 : Array CpInfo := pool [(2, .class_ 4), (1, u "java/lang/Enum"), (0, u "name"), (0, u "Ljava/lang/String;"), (2, u "ordinal"), (0, u "I"), (1, .class_ 14), (1, u "java/lang/Object"), (4, u "hash"), (86, .class_ 108), (1, u "java/lang/Enum$EnumDesc"), (2, .class_ 112), (0, u "java/lang/constant/Constable"), (0, .class_ 114), (0, u "java/lang/Comparable"), (0, .class_ 116), (0, u "java/io/Serializable")] 87

/-- java/lang/Enum -/
def k5 : Class := { plain "java/lang/Enum" (some 0) with
  accessFlags := 1057
  interfaces := #[2, 3, 4]
  cf := some (fileOf pool5 2 #[.nestMembers #[106]] #[] 1057 12 #[111, 113, 115] #[{ accessFlags := 18, nameIndex := 5, descriptorIndex := 6, attributes := #[] }, { accessFlags := 18, nameIndex := 9, descriptorIndex := 10, attributes := #[] }, { accessFlags := 2, nameIndex := 19, descriptorIndex := 10, attributes := #[] }])
  fields := #[{ name := "name", type := (.object "java/lang/String"), accessFlags := 18, slot := 0, constantValue := 0 }, { name := "ordinal", type := .int, accessFlags := 18, slot := 1, constantValue := 0 }, { name := "hash", type := .int, accessFlags := 2, slot := 2, constantValue := 0 }]
  methods := #[]
  instanceTypes := #[(.object "java/lang/String"), .int, .int]
  staticTypes := #[]
  resolved := Array.replicate 204 none
  statics := none }

def pool6 : Array CpInfo := pool [(1, .class_ 2), (0, u "com/example/paidthrough/paidthrough/engine/Message$Severity"), (2, u "FATAL"), (0, u "Lcom/example/paidthrough/paidthrough/engine/Message$Severity;"), (2, u "INFORMATIVE"), (2, u "$VALUES"), (0, u "[Lcom/example/paidthrough/paidthrough/engine/Message$Severity;"), (6, .class_ 22), (1, u "java/lang/Enum"), (8, u "label"), (0, u "Ljava/lang/String;"), (27, .class_ 61), (0, u "com/example/paidthrough/paidthrough/engine/Message")] 2

/-- com/example/paidthrough/paidthrough/engine/Message$Severity -/
def k6 : Class := { plain "com/example/paidthrough/paidthrough/engine/Message$Severity" (some 5) with
  accessFlags := 16433
  interfaces := #[]
  cf := some (fileOf pool6 1 #[.nestHost 60] #[] 16433 20 #[] #[{ accessFlags := 16409, nameIndex := 5, descriptorIndex := 6, attributes := #[] }, { accessFlags := 16409, nameIndex := 9, descriptorIndex := 6, attributes := #[] }, { accessFlags := 18, nameIndex := 31, descriptorIndex := 32, attributes := #[] }, { accessFlags := 4122, nameIndex := 12, descriptorIndex := 13, attributes := #[] }])
  fields := #[{ name := "FATAL", type := (.object "com/example/paidthrough/paidthrough/engine/Message$Severity"), accessFlags := 16409, slot := 0, constantValue := 0 }, { name := "INFORMATIVE", type := (.object "com/example/paidthrough/paidthrough/engine/Message$Severity"), accessFlags := 16409, slot := 1, constantValue := 0 }, { name := "label", type := (.object "java/lang/String"), accessFlags := 18, slot := 3, constantValue := 0 }, { name := "$VALUES", type := (.array (.object "com/example/paidthrough/paidthrough/engine/Message$Severity")), accessFlags := 4122, slot := 2, constantValue := 0 }]
  methods := #[]
  instanceTypes := #[(.object "java/lang/String"), .int, .int, (.object "java/lang/String")]
  staticTypes := #[(.object "com/example/paidthrough/paidthrough/engine/Message$Severity"), (.object "com/example/paidthrough/paidthrough/engine/Message$Severity"), (.array (.object "com/example/paidthrough/paidthrough/engine/Message$Severity"))]
  resolved := Array.replicate 64 none
  statics := some 0 }

def pool7 : Array CpInfo := pool [(2, .class_ 4), (1, u "java/lang/CharSequence"), (42, .class_ 48), (0, u "java/lang/CharSequence$1CodePointIterator"), (10, .class_ 60), (0, u "java/lang/CharSequence$1CharIterator"), (5, .class_ 67), (0, u "java/lang/Object")] 63

/-- java/lang/CharSequence -/
def k7 : Class := { plain "java/lang/CharSequence" (some 0) with
  accessFlags := 1537
  interfaces := #[]
  cf := some (fileOf pool7 2 #[.nestMembers #[47, 59]] #[] 1537 66 #[] #[])
  fields := #[]
  methods := #[]
  instanceTypes := #[]
  staticTypes := #[]
  resolved := Array.replicate 131 none
  statics := none }

def pool8 : Array CpInfo := pool [(1, .class_ 2), (0, u "java/lang/constant/ConstantDesc"), (0, .class_ 4), (0, u "java/lang/Object")] 32

/-- java/lang/constant/ConstantDesc -/
def k8 : Class := { plain "java/lang/constant/ConstantDesc" (some 0) with
  accessFlags := 1537
  interfaces := #[]
  cf := some (fileOf pool8 1 #[] #[] 1537 3 #[] #[])
  fields := #[]
  methods := #[]
  instanceTypes := #[]
  staticTypes := #[]
  resolved := Array.replicate 37 none
  statics := none }

def pool9 : Array CpInfo := pool [(1, .methodref 2 3), (0, .class_ 4), (0, .nameAndType 5 6), (0, u "java/lang/Object"), (0, u "<init>"), (0, u "()V"), (2, .fieldref 10 11), (0, .class_ 12), (0, .nameAndType 13 14), (0, u "java/lang/String"), (0, u "value"), (0, u "[B"), (0, .fieldref 10 16), (0, .nameAndType 17 18), (0, u "coder"), (0, u "B"), (2, u "hash"), (0, u "I"), (2, u "hashIsZero"), (0, u "Z"), (0, .methodref 10 28), (0, .nameAndType 5 29), (0, u "([CIILjava/lang/Void;)V"), (8, .fieldref 10 39), (0, .nameAndType 40 26), (0, u "COMPACT_STRINGS"), (1, .class_ 44), (1, u "java/lang/StringUTF16"), (0, u "compress"), (1, .methodref 42 48), (0, .nameAndType 49 50), (0, u "coderFromArrayLen"), (0, u "([BI)B"), (2, u "toBytes"), (53, .class_ 109), (1, u "java/lang/StringLatin1"), (67, .methodref 42 178), (0, .nameAndType 45 179), (0, u "([CII)[B"), (29, .methodref 10 210), (0, .nameAndType 5 211), (0, u "([BB)V"), (157, u "(C)Z"), (205, .class_ 576), (0, u "java/lang/CharSequence"), (22, u "CASE_INSENSITIVE_ORDER"), (0, u "Ljava/util/Comparator;"), (181, u "valueOf"), (0, u "(C)Ljava/lang/String;"), (226, u "([C)V"), (4, .methodref 107 1016), (0, .nameAndType 1017 369), (0, u "canEncode"), (0, .methodref 107 1019), (0, .nameAndType 53 1020), (0, u "(C)[B"), (80, u "serialPersistentFields"), (0, u "[Ljava/io/ObjectStreamField;"), (0, .class_ 1104), (0, u "java/lang/String$CaseInsensitiveComparator"), (1, .class_ 1107), (0, u "java/io/Serializable"), (0, .class_ 1109), (0, u "java/lang/Comparable"), (0, .class_ 1111), (0, u "java/lang/constant/Constable"), (0, .class_ 1113), (0, u "java/lang/constant/ConstantDesc"), (2, u "serialVersionUID"), (0, u "J"), (3, u "REPL"), (0, u "C"), (2, u "LATIN1"), (1, u "UTF16")] 323

def k9m0 : Method := { name := "<init>", desc := "()V", sig := { parameters := [], returnType := none }, accessFlags := 1, code := none }
def k9c1 : Code := { maxStack := 5, maxLocals := 2, code := jdk_42_method_3_code, exceptionTable := #[], attributes := #[] }
def k9m1 : Method := { name := "<init>", desc := "([C)V", sig := { parameters := [(.array .char)], returnType := none }, accessFlags := 1, code := some k9c1 }
def k9c2 : Code := { maxStack := 4, maxLocals := 1, code := jdk_42_method_139_code, exceptionTable := #[], attributes := #[] }
def k9m2 : Method := { name := "valueOf", desc := "(C)Ljava/lang/String;", sig := { parameters := [.char], returnType := some (.object "java/lang/String") }, accessFlags := 9, code := some k9c2 }
def k9c3 : Code := { maxStack := 4, maxLocals := 6, code := jdk_42_method_149_code, exceptionTable := #[], attributes := #[] }
def k9m3 : Method := { name := "<init>", desc := "([CIILjava/lang/Void;)V", sig := { parameters := [(.array .char), .int, .int, (.object "java/lang/Void")], returnType := none }, accessFlags := 2, code := some k9c3 }
def k9c4 : Code := { maxStack := 2, maxLocals := 3, code := jdk_42_method_151_code, exceptionTable := #[], attributes := #[] }
def k9m4 : Method := { name := "<init>", desc := "([BB)V", sig := { parameters := [(.array .byte), .byte], returnType := none }, accessFlags := 0, code := some k9c4 }
/-- java/lang/String -/
def k9 : Class := { plain "java/lang/String" (some 0) with
  accessFlags := 49
  interfaces := #[4, 3, 7, 2, 8]
  cf := some (fileOf pool9 10 #[.nestMembers #[1103]] #[{ accessFlags := 1, nameIndex := 5, descriptorIndex := 6, attributes := #[] }, { accessFlags := 1, nameIndex := 5, descriptorIndex := 1010, attributes := #[] }, { accessFlags := 9, nameIndex := 782, descriptorIndex := 783, attributes := #[] }, { accessFlags := 2, nameIndex := 5, descriptorIndex := 29, attributes := #[] }, { accessFlags := 0, nameIndex := 5, descriptorIndex := 211, attributes := #[] }] 49 2 #[1106, 1108, 575, 1110, 1112] #[{ accessFlags := 18, nameIndex := 13, descriptorIndex := 14, attributes := #[] }, { accessFlags := 18, nameIndex := 17, descriptorIndex := 18, attributes := #[] }, { accessFlags := 2, nameIndex := 21, descriptorIndex := 22, attributes := #[] }, { accessFlags := 2, nameIndex := 25, descriptorIndex := 26, attributes := #[] }, { accessFlags := 26, nameIndex := 1116, descriptorIndex := 1117, attributes := #[] }, { accessFlags := 24, nameIndex := 40, descriptorIndex := 26, attributes := #[] }, { accessFlags := 26, nameIndex := 1101, descriptorIndex := 1102, attributes := #[] }, { accessFlags := 26, nameIndex := 1121, descriptorIndex := 1122, attributes := #[] }, { accessFlags := 25, nameIndex := 599, descriptorIndex := 600, attributes := #[] }, { accessFlags := 24, nameIndex := 1125, descriptorIndex := 18, attributes := #[] }, { accessFlags := 24, nameIndex := 1127, descriptorIndex := 18, attributes := #[] }])
  fields := #[{ name := "value", type := (.array .byte), accessFlags := 18, slot := 0, constantValue := 0 }, { name := "coder", type := .byte, accessFlags := 18, slot := 1, constantValue := 0 }, { name := "hash", type := .int, accessFlags := 2, slot := 2, constantValue := 0 }, { name := "hashIsZero", type := .boolean, accessFlags := 2, slot := 3, constantValue := 0 }, { name := "serialVersionUID", type := .long, accessFlags := 26, slot := 0, constantValue := 0 }, { name := "COMPACT_STRINGS", type := .boolean, accessFlags := 24, slot := 1, constantValue := 0 }, { name := "serialPersistentFields", type := (.array (.object "java/io/ObjectStreamField")), accessFlags := 26, slot := 2, constantValue := 0 }, { name := "REPL", type := .char, accessFlags := 26, slot := 3, constantValue := 0 }, { name := "CASE_INSENSITIVE_ORDER", type := (.object "java/util/Comparator"), accessFlags := 25, slot := 4, constantValue := 0 }, { name := "LATIN1", type := .byte, accessFlags := 24, slot := 5, constantValue := 0 }, { name := "UTF16", type := .byte, accessFlags := 24, slot := 6, constantValue := 0 }]
  methods := #[k9m0, k9m1, k9m2, k9m3, k9m4]
  instanceTypes := #[(.array .byte), .byte, .int, .boolean]
  staticTypes := #[.long, .boolean, (.array (.object "java/io/ObjectStreamField")), .char, (.object "java/util/Comparator"), .byte, .byte]
  resolved := Array.replicate 1451 none
  statics := some 1 }

def pool10 : Array CpInfo := pool [(6, .class_ 8), (1, u "java/lang/Object"), (0, u "<init>"), (0, u "()V"), (1, .class_ 14), (1, u "java/lang/StringUTF16"), (31, u "$assertionsDisabled"), (0, u "Z"), (13, u "HI_BYTE_SHIFT"), (0, u "I"), (2, u "LO_BYTE_SHIFT"), (49, .methodref 12 116), (0, .nameAndType 117 118), (0, u "compress"), (0, u "([CI[BII)I"), (3, u "([CII)[B"), (138, u "coderFromArrayLen"), (0, u "([BI)B"), (106, .class_ 371), (1, u "java/lang/StringUTF16$LinesSpliterator"), (58, u "MAX_LENGTH"), (196, .class_ 628), (0, u "java/lang/StringUTF16$CodePointsSpliterator"), (0, .class_ 630), (0, u "java/lang/StringUTF16$CharsSpliterator")] 4

def k10m0 : Method := { name := "<init>", desc := "()V", sig := { parameters := [], returnType := none }, accessFlags := 0, code := none }
def k10c1 : Code := { maxStack := 2, maxLocals := 2, code := jdk_52_method_15_code, exceptionTable := #[], attributes := #[] }
def k10m1 : Method := { name := "coderFromArrayLen", desc := "([BI)B", sig := { parameters := [(.array .byte), .int], returnType := some .byte }, accessFlags := 8, code := some k10c1 }
def k10c2 : Code := { maxStack := 5, maxLocals := 6, code := jdk_52_method_16_code, exceptionTable := #[], attributes := #[] }
def k10m2 : Method := { name := "compress", desc := "([CII)[B", sig := { parameters := [(.array .char), .int, .int], returnType := some (.array .byte) }, accessFlags := 9, code := some k10c2 }
def k10c3 : Code := { maxStack := 3, maxLocals := 7, code := jdk_52_method_21_code, exceptionTable := #[], attributes := #[] }
def k10m3 : Method := { name := "compress", desc := "([CI[BII)I", sig := { parameters := [(.array .char), .int, (.array .byte), .int, .int], returnType := some .int }, accessFlags := 9, code := some k10c3 }
/-- java/lang/StringUTF16 -/
def k10 : Class := { plain "java/lang/StringUTF16" (some 0) with
  accessFlags := 48
  interfaces := #[]
  cf := some (fileOf pool10 12 #[.nestMembers #[627, 629, 369]] #[{ accessFlags := 0, nameIndex := 9, descriptorIndex := 10, attributes := #[] }, { accessFlags := 8, nameIndex := 261, descriptorIndex := 262, attributes := #[] }, { accessFlags := 9, nameIndex := 117, descriptorIndex := 122, attributes := #[] }, { accessFlags := 9, nameIndex := 117, descriptorIndex := 118, attributes := #[] }] 48 6 #[] #[{ accessFlags := 26, nameIndex := 61, descriptorIndex := 62, attributes := #[] }, { accessFlags := 26, nameIndex := 65, descriptorIndex := 62, attributes := #[] }, { accessFlags := 24, nameIndex := 430, descriptorIndex := 62, attributes := #[] }, { accessFlags := 4120, nameIndex := 46, descriptorIndex := 47, attributes := #[] }])
  fields := #[{ name := "HI_BYTE_SHIFT", type := .int, accessFlags := 26, slot := 0, constantValue := 0 }, { name := "LO_BYTE_SHIFT", type := .int, accessFlags := 26, slot := 1, constantValue := 0 }, { name := "MAX_LENGTH", type := .int, accessFlags := 24, slot := 2, constantValue := 0 }, { name := "$assertionsDisabled", type := .boolean, accessFlags := 4120, slot := 3, constantValue := 0 }]
  methods := #[k10m0, k10m1, k10m2, k10m3]
  instanceTypes := #[]
  staticTypes := #[.int, .int, .int, .boolean]
  resolved := Array.replicate 635 none
  statics := none }

def pool11 : Array CpInfo := pool [(4, .class_ 6), (1, u "java/lang/Object"), (0, u "<init>"), (0, u "()V"), (5, .class_ 16), (1, u "java/lang/StringLatin1"), (73, u "canEncode"), (14, u "(C)Z"), (15, u "$assertionsDisabled"), (0, u "Z"), (98, .class_ 223), (1, u "java/lang/StringLatin1$LinesSpliterator"), (156, u "toBytes"), (1, u "(C)[B"), (7, .class_ 391), (0, u "java/lang/StringLatin1$CharsSpliterator")] 3

def k11m0 : Method := { name := "<init>", desc := "()V", sig := { parameters := [], returnType := none }, accessFlags := 0, code := none }
def k11c1 : Code := { maxStack := 2, maxLocals := 1, code := jdk_43_method_3_code, exceptionTable := #[], attributes := #[] }
def k11m1 : Method := { name := "canEncode", desc := "(C)Z", sig := { parameters := [.char], returnType := some .boolean }, accessFlags := 9, code := some k11c1 }
def k11c2 : Code := { maxStack := 4, maxLocals := 1, code := jdk_43_method_46_code, exceptionTable := #[], attributes := #[] }
def k11m2 : Method := { name := "toBytes", desc := "(C)[B", sig := { parameters := [.char], returnType := some (.array .byte) }, accessFlags := 9, code := some k11c2 }
/-- java/lang/StringLatin1 -/
def k11 : Class := { plain "java/lang/StringLatin1" (some 0) with
  accessFlags := 48
  interfaces := #[]
  cf := some (fileOf pool11 14 #[.nestMembers #[390, 221]] #[{ accessFlags := 0, nameIndex := 7, descriptorIndex := 8, attributes := #[] }, { accessFlags := 9, nameIndex := 90, descriptorIndex := 105, attributes := #[] }, { accessFlags := 9, nameIndex := 380, descriptorIndex := 382, attributes := #[] }] 48 4 #[] #[{ accessFlags := 4120, nameIndex := 121, descriptorIndex := 122, attributes := #[] }])
  fields := #[{ name := "$assertionsDisabled", type := .boolean, accessFlags := 4120, slot := 0, constantValue := 0 }]
  methods := #[k11m0, k11m1, k11m2]
  instanceTypes := #[]
  staticTypes := #[.boolean]
  resolved := Array.replicate 395 none
  statics := none }

def pool12 : Array CpInfo := pool [(1, .methodref 2 3), (0, .class_ 4), (0, .nameAndType 5 6), (0, u "java/lang/Object"), (0, u "<init>"), (0, u "()V"), (0, .class_ 8), (0, u "java/lang/Record")] 13

def k12c0 : Code := { maxStack := 1, maxLocals := 1, code := jdk_30_method_1_code, exceptionTable := #[], attributes := #[] }
def k12m0 : Method := { name := "<init>", desc := "()V", sig := { parameters := [], returnType := none }, accessFlags := 4, code := some k12c0 }
/-- java/lang/Record -/
def k12 : Class := { plain "java/lang/Record" (some 0) with
  accessFlags := 1057
  interfaces := #[]
  cf := some (fileOf pool12 7 #[] #[{ accessFlags := 4, nameIndex := 5, descriptorIndex := 6, attributes := #[] }] 1057 2 #[] #[])
  fields := #[]
  methods := #[k12m0]
  instanceTypes := #[]
  staticTypes := #[]
  resolved := Array.replicate 22 none
  statics := none }

def pool13 : Array CpInfo := pool [(1, .methodref 2 3), (0, .class_ 4), (0, .nameAndType 5 6), (0, u "java/lang/Record"), (0, u "<init>"), (0, u "()V"), (0, .fieldref 8 9), (0, .class_ 10), (0, .nameAndType 11 12), (0, u "com/example/paidthrough/paidthrough/engine/Message"), (0, u "code"), (0, u "Ljava/lang/String;"), (0, .fieldref 8 14), (0, .nameAndType 15 16), (0, u "severity"), (0, u "Lcom/example/paidthrough/paidthrough/engine/Message$Severity;"), (0, .fieldref 8 18), (0, .nameAndType 19 12), (0, u "policy"), (0, .fieldref 8 21), (0, .nameAndType 22 12), (0, u "text"), (0, .fieldref 24 25), (0, .class_ 26), (0, .nameAndType 27 16), (0, u "com/example/paidthrough/paidthrough/engine/Message$Severity"), (0, u "FATAL"), (12, u "(Ljava/lang/String;Lcom/example/paidthrough/paidthrough/engine/Message$Severity;Ljava/lang/String;Ljava/lang/String;)V"), (3, u "isFatal"), (0, u "()Z"), (4, u "()Lcom/example/paidthrough/paidthrough/engine/Message$Severity;")] 25

def k13c0 : Code := { maxStack := 2, maxLocals := 5, code := prog_110_method_1_code, exceptionTable := #[], attributes := #[] }
def k13m0 : Method := { name := "<init>", desc := "(Ljava/lang/String;Lcom/example/paidthrough/paidthrough/engine/Message$Severity;Ljava/lang/String;Ljava/lang/String;)V", sig := { parameters := [(.object "java/lang/String"), (.object "com/example/paidthrough/paidthrough/engine/Message$Severity"), (.object "java/lang/String"), (.object "java/lang/String")], returnType := none }, accessFlags := 1, code := some k13c0 }
def k13c1 : Code := { maxStack := 2, maxLocals := 1, code := prog_110_method_2_code, exceptionTable := #[], attributes := #[] }
def k13m1 : Method := { name := "isFatal", desc := "()Z", sig := { parameters := [], returnType := some .boolean }, accessFlags := 1, code := some k13c1 }
def k13c2 : Code := { maxStack := 1, maxLocals := 1, code := prog_110_method_7_code, exceptionTable := #[], attributes := #[] }
def k13m2 : Method := { name := "severity", desc := "()Lcom/example/paidthrough/paidthrough/engine/Message$Severity;", sig := { parameters := [], returnType := some (.object "com/example/paidthrough/paidthrough/engine/Message$Severity") }, accessFlags := 1, code := some k13c2 }
/-- com/example/paidthrough/paidthrough/engine/Message -/
def k13 : Class := { plain "com/example/paidthrough/paidthrough/engine/Message" (some 12) with
  accessFlags := 49
  interfaces := #[]
  cf := some (fileOf pool13 8 #[.nestMembers #[24]] #[{ accessFlags := 1, nameIndex := 5, descriptorIndex := 40, attributes := #[] }, { accessFlags := 1, nameIndex := 44, descriptorIndex := 45, attributes := #[] }, { accessFlags := 1, nameIndex := 15, descriptorIndex := 50, attributes := #[] }] 49 2 #[] #[{ accessFlags := 18, nameIndex := 11, descriptorIndex := 12, attributes := #[] }, { accessFlags := 18, nameIndex := 15, descriptorIndex := 16, attributes := #[] }, { accessFlags := 18, nameIndex := 19, descriptorIndex := 12, attributes := #[] }, { accessFlags := 18, nameIndex := 22, descriptorIndex := 12, attributes := #[] }])
  fields := #[{ name := "code", type := (.object "java/lang/String"), accessFlags := 18, slot := 0, constantValue := 0 }, { name := "severity", type := (.object "com/example/paidthrough/paidthrough/engine/Message$Severity"), accessFlags := 18, slot := 1, constantValue := 0 }, { name := "policy", type := (.object "java/lang/String"), accessFlags := 18, slot := 2, constantValue := 0 }, { name := "text", type := (.object "java/lang/String"), accessFlags := 18, slot := 3, constantValue := 0 }]
  methods := #[k13m0, k13m1, k13m2]
  instanceTypes := #[(.object "java/lang/String"), (.object "com/example/paidthrough/paidthrough/engine/Message$Severity"), (.object "java/lang/String"), (.object "java/lang/String")]
  staticTypes := #[]
  resolved := Array.replicate 76 none
  statics := none }

def pool14 : Array CpInfo := pool [(2, .class_ 4), (1, u "java/lang/Object"), (0, u "<init>"), (0, u "()V"), (17, .class_ 26), (1, u "jdk/internal/util/Preconditions"), (28, .class_ 56), (0, u "jdk/internal/util/Preconditions$4"), (57, .class_ 115), (0, u "jdk/internal/util/Preconditions$1"), (7, u "SIOOBE_FORMATTER"), (0, u "Ljava/util/function/BiFunction;"), (0, .class_ 126), (0, u "jdk/internal/util/Preconditions$2"), (3, u "AIOOBE_FORMATTER"), (0, .class_ 132), (0, u "jdk/internal/util/Preconditions$3"), (3, u "IOOBE_FORMATTER")] 57

def k14m0 : Method := { name := "<init>", desc := "()V", sig := { parameters := [], returnType := none }, accessFlags := 1, code := none }
/-- jdk/internal/util/Preconditions -/
def k14 : Class := { plain "jdk/internal/util/Preconditions" (some 0) with
  accessFlags := 33
  interfaces := #[]
  cf := some (fileOf pool14 24 #[.nestMembers #[55, 131, 125, 114]] #[{ accessFlags := 1, nameIndex := 5, descriptorIndex := 6, attributes := #[] }] 33 2 #[] #[{ accessFlags := 25, nameIndex := 123, descriptorIndex := 124, attributes := #[] }, { accessFlags := 25, nameIndex := 130, descriptorIndex := 124, attributes := #[] }, { accessFlags := 25, nameIndex := 136, descriptorIndex := 124, attributes := #[] }])
  fields := #[{ name := "SIOOBE_FORMATTER", type := (.object "java/util/function/BiFunction"), accessFlags := 25, slot := 0, constantValue := 0 }, { name := "AIOOBE_FORMATTER", type := (.object "java/util/function/BiFunction"), accessFlags := 25, slot := 1, constantValue := 0 }, { name := "IOOBE_FORMATTER", type := (.object "java/util/function/BiFunction"), accessFlags := 25, slot := 2, constantValue := 0 }]
  methods := #[k14m0]
  instanceTypes := #[]
  staticTypes := #[(.object "java/util/function/BiFunction"), (.object "java/util/function/BiFunction"), (.object "java/util/function/BiFunction")]
  resolved := Array.replicate 194 none
  statics := some 2 }

def pool15 : Array CpInfo := pool [(9, u "<init>"), (6, .class_ 18), (1, u "java/lang/Object"), (0, u "()V"), (1, .class_ 23), (1, u "jdk/internal/util/ArraysSupport"), (0, u "LOG2_ARRAY_LONG_INDEX_SCALE"), (0, u "I"), (2, u "U"), (0, u "Ljdk/internal/misc/Unsafe;"), (8, u "BIG_ENDIAN"), (0, u "Z"), (8, u "LOG2_BYTE_BIT_SIZE"), (4, u "LOG2_ARRAY_INT_INDEX_SCALE"), (54, u "JLA"), (0, u "Ljdk/internal/access/JavaLangAccess;"), (11, u "LOG2_ARRAY_BOOLEAN_INDEX_SCALE"), (9, u "LOG2_ARRAY_BYTE_INDEX_SCALE"), (5, u "LOG2_ARRAY_CHAR_INDEX_SCALE"), (5, u "LOG2_ARRAY_SHORT_INDEX_SCALE"), (18, u "LOG2_ARRAY_FLOAT_INDEX_SCALE"), (24, u "LOG2_ARRAY_DOUBLE_INDEX_SCALE"), (89, u "T_BOOLEAN"), (2, u "T_CHAR"), (1, u "T_FLOAT"), (1, u "T_DOUBLE"), (1, u "T_BYTE"), (1, u "T_SHORT"), (1, u "T_INT"), (1, u "T_LONG"), (1, u "SOFT_MAX_ARRAY_LENGTH")] 83

def k15m0 : Method := { name := "<init>", desc := "()V", sig := { parameters := [], returnType := none }, accessFlags := 2, code := none }
/-- jdk/internal/util/ArraysSupport -/
def k15 : Class := { plain "jdk/internal/util/ArraysSupport" (some 0) with
  accessFlags := 33
  interfaces := #[]
  cf := some (fileOf pool15 21 #[] #[{ accessFlags := 2, nameIndex := 9, descriptorIndex := 19, attributes := #[] }] 33 16 #[] #[{ accessFlags := 24, nameIndex := 28, descriptorIndex := 29, attributes := #[] }, { accessFlags := 26, nameIndex := 38, descriptorIndex := 39, attributes := #[] }, { accessFlags := 25, nameIndex := 121, descriptorIndex := 25, attributes := #[] }, { accessFlags := 25, nameIndex := 131, descriptorIndex := 25, attributes := #[] }, { accessFlags := 25, nameIndex := 137, descriptorIndex := 25, attributes := #[] }, { accessFlags := 25, nameIndex := 143, descriptorIndex := 25, attributes := #[] }, { accessFlags := 25, nameIndex := 53, descriptorIndex := 25, attributes := #[] }, { accessFlags := 25, nameIndex := 24, descriptorIndex := 25, attributes := #[] }, { accessFlags := 25, nameIndex := 162, descriptorIndex := 25, attributes := #[] }, { accessFlags := 25, nameIndex := 187, descriptorIndex := 25, attributes := #[] }, { accessFlags := 26, nameIndex := 48, descriptorIndex := 25, attributes := #[] }, { accessFlags := 25, nameIndex := 277, descriptorIndex := 25, attributes := #[] }, { accessFlags := 25, nameIndex := 280, descriptorIndex := 25, attributes := #[] }, { accessFlags := 25, nameIndex := 282, descriptorIndex := 25, attributes := #[] }, { accessFlags := 25, nameIndex := 284, descriptorIndex := 25, attributes := #[] }, { accessFlags := 25, nameIndex := 286, descriptorIndex := 25, attributes := #[] }, { accessFlags := 25, nameIndex := 288, descriptorIndex := 25, attributes := #[] }, { accessFlags := 25, nameIndex := 290, descriptorIndex := 25, attributes := #[] }, { accessFlags := 25, nameIndex := 292, descriptorIndex := 25, attributes := #[] }, { accessFlags := 26, nameIndex := 108, descriptorIndex := 109, attributes := #[] }, { accessFlags := 25, nameIndex := 294, descriptorIndex := 25, attributes := #[] }])
  fields := #[{ name := "U", type := (.object "jdk/internal/misc/Unsafe"), accessFlags := 24, slot := 0, constantValue := 0 }, { name := "BIG_ENDIAN", type := .boolean, accessFlags := 26, slot := 1, constantValue := 0 }, { name := "LOG2_ARRAY_BOOLEAN_INDEX_SCALE", type := .int, accessFlags := 25, slot := 2, constantValue := 0 }, { name := "LOG2_ARRAY_BYTE_INDEX_SCALE", type := .int, accessFlags := 25, slot := 3, constantValue := 0 }, { name := "LOG2_ARRAY_CHAR_INDEX_SCALE", type := .int, accessFlags := 25, slot := 4, constantValue := 0 }, { name := "LOG2_ARRAY_SHORT_INDEX_SCALE", type := .int, accessFlags := 25, slot := 5, constantValue := 0 }, { name := "LOG2_ARRAY_INT_INDEX_SCALE", type := .int, accessFlags := 25, slot := 6, constantValue := 0 }, { name := "LOG2_ARRAY_LONG_INDEX_SCALE", type := .int, accessFlags := 25, slot := 7, constantValue := 0 }, { name := "LOG2_ARRAY_FLOAT_INDEX_SCALE", type := .int, accessFlags := 25, slot := 8, constantValue := 0 }, { name := "LOG2_ARRAY_DOUBLE_INDEX_SCALE", type := .int, accessFlags := 25, slot := 9, constantValue := 0 }, { name := "LOG2_BYTE_BIT_SIZE", type := .int, accessFlags := 26, slot := 10, constantValue := 0 }, { name := "T_BOOLEAN", type := .int, accessFlags := 25, slot := 11, constantValue := 0 }, { name := "T_CHAR", type := .int, accessFlags := 25, slot := 12, constantValue := 0 }, { name := "T_FLOAT", type := .int, accessFlags := 25, slot := 13, constantValue := 0 }, { name := "T_DOUBLE", type := .int, accessFlags := 25, slot := 14, constantValue := 0 }, { name := "T_BYTE", type := .int, accessFlags := 25, slot := 15, constantValue := 0 }, { name := "T_SHORT", type := .int, accessFlags := 25, slot := 16, constantValue := 0 }, { name := "T_INT", type := .int, accessFlags := 25, slot := 17, constantValue := 0 }, { name := "T_LONG", type := .int, accessFlags := 25, slot := 18, constantValue := 0 }, { name := "JLA", type := (.object "jdk/internal/access/JavaLangAccess"), accessFlags := 26, slot := 19, constantValue := 0 }, { name := "SOFT_MAX_ARRAY_LENGTH", type := .int, accessFlags := 25, slot := 20, constantValue := 0 }]
  methods := #[k15m0]
  instanceTypes := #[]
  staticTypes := #[(.object "jdk/internal/misc/Unsafe"), .boolean, .int, .int, .int, .int, .int, .int, .int, .int, .int, .int, .int, .int, .int, .int, .int, .int, .int, (.object "jdk/internal/access/JavaLangAccess"), .int]
  resolved := Array.replicate 378 none
  statics := none }

def pool16 : Array CpInfo := pool [(1, u "java/lang/Cloneable"), (0, .class_ 1), (0, u "java/lang/Object"), (0, .class_ 3)] 3

/-- java/lang/Cloneable -/
def k16 : Class := { plain "java/lang/Cloneable" (some 0) with
  accessFlags := 1537
  interfaces := #[]
  cf := some (fileOf pool16 2 #[] #[] 1537 4 #[] #[])
  fields := #[]
  methods := #[]
  instanceTypes := #[]
  staticTypes := #[]
  resolved := Array.replicate 8 none
  statics := none }

/-- the primitive byte -/
def k17 : Class := { plain "byte" none with kind := .primitive 'B', accessFlags := 0x411 }
/-- [B -/
def k18 : Class := { plain "[B" (some 0) with kind := .array 17 .byte, interfaces := #[16, 4], accessFlags := 1041 }

/-- the primitive char -/
def k19 : Class := { plain "char" none with kind := .primitive 'C', accessFlags := 0x411 }
/-- [C -/
def k20 : Class := { plain "[C" (some 0) with kind := .array 19 .char, interfaces := #[16, 4], accessFlags := 1041 }

/-- the primitive int -/
def k21 : Class := { plain "int" none with kind := .primitive 'I', accessFlags := 0x411 }
/-- [I -/
def k22 : Class := { plain "[I" (some 0) with kind := .array 21 .int, interfaces := #[16, 4], accessFlags := 1041 }

def heap : Heap := #[{ cls := 6, slots := #[.ref 3, .ref 4, .null], vm := .statics 6 },
  { cls := 9, slots := #[.long 0, .int 1, .null, .int 0, .null, .int 0, .int 0], vm := .statics 9 },
  { cls := 14, slots := #[.null, .null, .null], vm := .statics 14 },
  { cls := 6, slots := #[.null, .int 0, .int 0, .null], vm := .none },
  { cls := 6, slots := #[.null, .int 1, .int 0, .null], vm := .none }]
def classes : Array Class := #[k0, k1, k2, k3, k4, k5, k6, k7, k8, k9, k10, k11, k12, k13, k14, k15, k16, k17, k18, k19, k20, k21, k22]
def interned : List (Array UInt16 × Addr) := []
def slotsUsed : Nat := 21
def theMethod : MethodId := ⟨1, 1⟩
def args0 : Array Value := #[.int 5, .int 7, .int 9, .int 1]
def aboutOver (below : List Frame) : State where
  vm := { classes := classes, interned := interned.toArray }
  heap := heap
  slotsUsed := slotsUsed
  threads := #[{ frames := .invoking theMethod args0 :: below }]
def below0 : List Frame := [.native { method := ⟨0, 0⟩, args := #[] }]
def about1 : State := aboutOver below0
def p0 : Program := .bare "" "" ""
def e0 : Env := launch0.env 0 0 0
theorem w_frames : about1.frames = Frame.invoking theMethod args0 :: below0 := rfl
set_option maxRecDepth 65536 in
theorem w_args : argsFit about1.vm theMethod args0 = true := by decide +kernel
set_option maxRecDepth 65536 in
theorem w_heap : heapFits about1 = true := by decide +kernel
set_option maxRecDepth 65536 in
theorem w_runnable : about1.curStatus? = some .runnable := by decide +kernel
set_option maxRecDepth 65536 in
theorem w_alone : about1.alone = true := by decide +kernel
set_option maxRecDepth 65536 in
theorem w_named : about1.methodNamed? x = some theMethod := by decide +kernel
set_option maxRecDepth 65536 in
theorem w_hears : about1.hears theMethod below0 = true := by decide +kernel
set_option maxRecDepth 65536 in
theorem w_ripe : about1.ripe theMethod args0 below0 = true := by decide +kernel
theorem w_running : about1.status = .running := rfl
set_option maxRecDepth 65536 in
theorem w_room : about1.hasRoom e0.platform room_1 = true :=
  launch0.hasRoom_least _ room_1 (by decide +kernel) (by decide +kernel) (by decide +kernel) (by decide +kernel) (by decide +kernel) (by decide +kernel)
theorem allAtoms_all (ts : List Jvm.Cond) (a : Array Jvm.Value) (st : Jvm.State) : (allAtoms ts).before a st = ts.all (fun c => c.before a st) := by
  induction ts with
  | nil => rfl
  | cons c t ih =>
    show (Jvm.Cond.and c (allAtoms t)).before a st = _
    rw [Jvm.Cond.before_and, ih, List.all_cons]
def words1 : List Jvm.Cond := Jvm.Cond.code x code maxLocals ret :: tables_1
/-- a 'code' word, met by the world's own term for the bytes: nothing is compared byte by byte -/
theorem code_word {y : MethodName} {bytes : ByteArray} {mx : Nat} {rt : Option FieldType} {a : Array Value} {s : State} {m : MethodId} {meth : Method} {c : Code} (h1 : s.methodNamed? y = some m) (h2 : s.vm.method? m = some meth) (h3 : meth.code = some c) (h4 : c.code = bytes)
    (h5 : (c.maxLocals == mx && c.exceptionTable.isEmpty && decide (c.maxStack ≤ mostOperands) && decide (meth.sig.returnType = rt) && !meth.locks && decide (parseMethodDescriptor y.desc = some meth.sig)) = true) : (Jvm.Cond.code y bytes mx rt).before a s = true := by
  simp only [Bool.and_eq_true, beq_iff_eq, Bool.not_eq_true', decide_eq_true_eq] at h5
  obtain ⟨⟨⟨⟨⟨g1, g2⟩, g3⟩, g4⟩, g5⟩, g6⟩ := h5
  simp [Cond.before, Cond.holds, Cond.value, h1, h2, h3, h4, g1, g2, g3, g4, g5, g6]
def isCode : Jvm.Cond → Bool
  | .code _ _ _ _ => true
  | _ => false
theorem all_split {L : List Jvm.Cond} {P : Jvm.Cond → Bool} (h1 : L.all (fun c => isCode c || P c) = true) (h2 : ∀ c ∈ L.filter isCode, P c = true) : L.all P = true := by
  refine List.all_eq_true.mpr fun c hc => ?_
  have h := List.all_eq_true.mp h1 c hc
  rcases Bool.eq_false_or_eq_true (isCode c) with hi | hi
  · exact h2 c (List.mem_filter.mpr ⟨hc, hi⟩)
  · simpa [hi] using h
set_option maxRecDepth 65536 in
theorem w_c0 : (Jvm.Cond.code x code maxLocals ret).before args0 about1 = true := code_word (m := ⟨1, 1⟩) (meth := k1m1) (c := k1c1) (by decide +kernel) rfl rfl rfl (by decide +kernel)
set_option maxRecDepth 65536 in
theorem w_c1 : (Jvm.Cond.code ({ cls := "java/lang/String", name := "<init>", desc := "([C)V" } : Jvm.MethodName) jdk_42_method_3_code (2 : Nat) (Option.none : Option Jvm.ClassFile.FieldType)).before args0 about1 = true := code_word (m := ⟨9, 1⟩) (meth := k9m1) (c := k9c1) (by decide +kernel) rfl rfl rfl (by decide +kernel)
set_option maxRecDepth 65536 in
theorem w_c2 : (Jvm.Cond.code ({ cls := "java/lang/String", name := "<init>", desc := "([CIILjava/lang/Void;)V" } : Jvm.MethodName) jdk_42_method_149_code (6 : Nat) (Option.none : Option Jvm.ClassFile.FieldType)).before args0 about1 = true := code_word (m := ⟨9, 3⟩) (meth := k9m3) (c := k9c3) (by decide +kernel) rfl rfl rfl (by decide +kernel)
set_option maxRecDepth 65536 in
theorem w_c3 : (Jvm.Cond.code ({ cls := "java/lang/Object", name := "<init>", desc := "()V" } : Jvm.MethodName) object_method_1_code (1 : Nat) (Option.none : Option Jvm.ClassFile.FieldType)).before args0 about1 = true := code_word (m := ⟨0, 0⟩) (meth := k0m0) (c := k0c0) (by decide +kernel) rfl rfl rfl (by decide +kernel)
set_option maxRecDepth 65536 in
theorem w_c4 : (Jvm.Cond.code ({ cls := "java/lang/StringUTF16", name := "compress", desc := "([CII)[B" } : Jvm.MethodName) jdk_52_method_16_code (6 : Nat) (Option.some (Jvm.ClassFile.FieldType.array Jvm.ClassFile.FieldType.byte))).before args0 about1 = true := code_word (m := ⟨10, 2⟩) (meth := k10m2) (c := k10c2) (by decide +kernel) rfl rfl rfl (by decide +kernel)
set_option maxRecDepth 65536 in
theorem w_c5 : (Jvm.Cond.code ({ cls := "java/lang/StringUTF16", name := "compress", desc := "([CI[BII)I" } : Jvm.MethodName) jdk_52_method_21_code (7 : Nat) (Option.some Jvm.ClassFile.FieldType.int)).before args0 about1 = true := code_word (m := ⟨10, 3⟩) (meth := k10m3) (c := k10c3) (by decide +kernel) rfl rfl rfl (by decide +kernel)
set_option maxRecDepth 65536 in
theorem w_c6 : (Jvm.Cond.code ({ cls := "java/lang/StringUTF16", name := "coderFromArrayLen", desc := "([BI)B" } : Jvm.MethodName) jdk_52_method_15_code (2 : Nat) (Option.some Jvm.ClassFile.FieldType.byte)).before args0 about1 = true := code_word (m := ⟨10, 1⟩) (meth := k10m1) (c := k10c1) (by decide +kernel) rfl rfl rfl (by decide +kernel)
set_option maxRecDepth 65536 in
theorem w_c7 : (Jvm.Cond.code ({ cls := "java/lang/String", name := "valueOf", desc := "(C)Ljava/lang/String;" } : Jvm.MethodName) jdk_42_method_139_code (1 : Nat) (Option.some (Jvm.ClassFile.FieldType.object "java/lang/String"))).before args0 about1 = true := code_word (m := ⟨9, 2⟩) (meth := k9m2) (c := k9c2) (by decide +kernel) rfl rfl rfl (by decide +kernel)
set_option maxRecDepth 65536 in
theorem w_c8 : (Jvm.Cond.code ({ cls := "java/lang/StringLatin1", name := "canEncode", desc := "(C)Z" } : Jvm.MethodName) jdk_43_method_3_code (1 : Nat) (Option.some Jvm.ClassFile.FieldType.boolean)).before args0 about1 = true := code_word (m := ⟨11, 1⟩) (meth := k11m1) (c := k11c1) (by decide +kernel) rfl rfl rfl (by decide +kernel)
set_option maxRecDepth 65536 in
theorem w_c9 : (Jvm.Cond.code ({ cls := "java/lang/StringLatin1", name := "toBytes", desc := "(C)[B" } : Jvm.MethodName) jdk_43_method_46_code (1 : Nat) (Option.some (Jvm.ClassFile.FieldType.array Jvm.ClassFile.FieldType.byte))).before args0 about1 = true := code_word (m := ⟨11, 2⟩) (meth := k11m2) (c := k11c2) (by decide +kernel) rfl rfl rfl (by decide +kernel)
set_option maxRecDepth 65536 in
theorem w_c10 : (Jvm.Cond.code ({ cls := "java/lang/String", name := "<init>", desc := "([BB)V" } : Jvm.MethodName) jdk_42_method_151_code (3 : Nat) (Option.none : Option Jvm.ClassFile.FieldType)).before args0 about1 = true := code_word (m := ⟨9, 4⟩) (meth := k9m4) (c := k9c4) (by decide +kernel) rfl rfl rfl (by decide +kernel)
set_option maxRecDepth 65536 in
theorem w_c11 : (Jvm.Cond.code ({ cls := "com/example/paidthrough/paidthrough/engine/Message", name := "<init>", desc := "(Ljava/lang/String;Lcom/example/paidthrough/paidthrough/engine/Message$Severity;Ljava/lang/String;Ljava/lang/String;)V" } : Jvm.MethodName) prog_110_method_1_code (5 : Nat) (Option.none : Option Jvm.ClassFile.FieldType)).before args0 about1 = true := code_word (m := ⟨13, 0⟩) (meth := k13m0) (c := k13c0) (by decide +kernel) rfl rfl rfl (by decide +kernel)
set_option maxRecDepth 65536 in
theorem w_c12 : (Jvm.Cond.code ({ cls := "java/lang/Record", name := "<init>", desc := "()V" } : Jvm.MethodName) jdk_30_method_1_code (1 : Nat) (Option.none : Option Jvm.ClassFile.FieldType)).before args0 about1 = true := code_word (m := ⟨12, 0⟩) (meth := k12m0) (c := k12c0) (by decide +kernel) rfl rfl rfl (by decide +kernel)
set_option maxRecDepth 65536 in
theorem w_c13 : (Jvm.Cond.code ({ cls := "com/example/paidthrough/paidthrough/engine/Message", name := "isFatal", desc := "()Z" } : Jvm.MethodName) prog_110_method_2_code (1 : Nat) (Option.some Jvm.ClassFile.FieldType.boolean)).before args0 about1 = true := code_word (m := ⟨13, 1⟩) (meth := k13m1) (c := k13c1) (by decide +kernel) rfl rfl rfl (by decide +kernel)
set_option maxRecDepth 65536 in
theorem w_c14 : (Jvm.Cond.code ({ cls := "com/example/paidthrough/paidthrough/engine/Message", name := "severity", desc := "()Lcom/example/paidthrough/paidthrough/engine/Message$Severity;" } : Jvm.MethodName) prog_110_method_7_code (1 : Nat) (Option.some (Jvm.ClassFile.FieldType.object "com/example/paidthrough/paidthrough/engine/Message$Severity"))).before args0 about1 = true := code_word (m := ⟨13, 2⟩) (meth := k13m2) (c := k13c2) (by decide +kernel) rfl rfl rfl (by decide +kernel)
def codes1 : List Jvm.Cond := [Jvm.Cond.code x code maxLocals ret, Jvm.Cond.code ({ cls := "java/lang/String", name := "<init>", desc := "([C)V" } : Jvm.MethodName) jdk_42_method_3_code (2 : Nat) (Option.none : Option Jvm.ClassFile.FieldType), Jvm.Cond.code ({ cls := "java/lang/String", name := "<init>", desc := "([CIILjava/lang/Void;)V" } : Jvm.MethodName) jdk_42_method_149_code (6 : Nat) (Option.none : Option Jvm.ClassFile.FieldType), Jvm.Cond.code ({ cls := "java/lang/Object", name := "<init>", desc := "()V" } : Jvm.MethodName) object_method_1_code (1 : Nat) (Option.none : Option Jvm.ClassFile.FieldType), Jvm.Cond.code ({ cls := "java/lang/StringUTF16", name := "compress", desc := "([CII)[B" } : Jvm.MethodName) jdk_52_method_16_code (6 : Nat) (Option.some (Jvm.ClassFile.FieldType.array Jvm.ClassFile.FieldType.byte)), Jvm.Cond.code ({ cls := "java/lang/StringUTF16", name := "compress", desc := "([CI[BII)I" } : Jvm.MethodName) jdk_52_method_21_code (7 : Nat) (Option.some Jvm.ClassFile.FieldType.int), Jvm.Cond.code ({ cls := "java/lang/StringUTF16", name := "coderFromArrayLen", desc := "([BI)B" } : Jvm.MethodName) jdk_52_method_15_code (2 : Nat) (Option.some Jvm.ClassFile.FieldType.byte), Jvm.Cond.code ({ cls := "java/lang/String", name := "valueOf", desc := "(C)Ljava/lang/String;" } : Jvm.MethodName) jdk_42_method_139_code (1 : Nat) (Option.some (Jvm.ClassFile.FieldType.object "java/lang/String")), Jvm.Cond.code ({ cls := "java/lang/StringLatin1", name := "canEncode", desc := "(C)Z" } : Jvm.MethodName) jdk_43_method_3_code (1 : Nat) (Option.some Jvm.ClassFile.FieldType.boolean), Jvm.Cond.code ({ cls := "java/lang/StringLatin1", name := "toBytes", desc := "(C)[B" } : Jvm.MethodName) jdk_43_method_46_code (1 : Nat) (Option.some (Jvm.ClassFile.FieldType.array Jvm.ClassFile.FieldType.byte)), Jvm.Cond.code ({ cls := "java/lang/String", name := "<init>", desc := "([BB)V" } : Jvm.MethodName) jdk_42_method_151_code (3 : Nat) (Option.none : Option Jvm.ClassFile.FieldType), Jvm.Cond.code ({ cls := "com/example/paidthrough/paidthrough/engine/Message", name := "<init>", desc := "(Ljava/lang/String;Lcom/example/paidthrough/paidthrough/engine/Message$Severity;Ljava/lang/String;Ljava/lang/String;)V" } : Jvm.MethodName) prog_110_method_1_code (5 : Nat) (Option.none : Option Jvm.ClassFile.FieldType), Jvm.Cond.code ({ cls := "java/lang/Record", name := "<init>", desc := "()V" } : Jvm.MethodName) jdk_30_method_1_code (1 : Nat) (Option.none : Option Jvm.ClassFile.FieldType), Jvm.Cond.code ({ cls := "com/example/paidthrough/paidthrough/engine/Message", name := "isFatal", desc := "()Z" } : Jvm.MethodName) prog_110_method_2_code (1 : Nat) (Option.some Jvm.ClassFile.FieldType.boolean), Jvm.Cond.code ({ cls := "com/example/paidthrough/paidthrough/engine/Message", name := "severity", desc := "()Lcom/example/paidthrough/paidthrough/engine/Message$Severity;" } : Jvm.MethodName) prog_110_method_7_code (1 : Nat) (Option.some (Jvm.ClassFile.FieldType.object "com/example/paidthrough/paidthrough/engine/Message$Severity"))]
set_option maxRecDepth 65536 in
theorem codes_eq : words1.filter isCode = codes1 := rfl
theorem w_codes : ∀ c ∈ words1.filter isCode, c.before args0 about1 = true := by
  rw [codes_eq]
  intro c hc
  simp only [codes1, List.mem_cons, List.not_mem_nil, or_false] at hc
  rcases hc with rfl | rfl | rfl | rfl | rfl | rfl | rfl | rfl | rfl | rfl | rfl | rfl | rfl | rfl | rfl
  · exact w_c0
  · exact w_c1
  · exact w_c2
  · exact w_c3
  · exact w_c4
  · exact w_c5
  · exact w_c6
  · exact w_c7
  · exact w_c8
  · exact w_c9
  · exact w_c10
  · exact w_c11
  · exact w_c12
  · exact w_c13
  · exact w_c14
set_option maxRecDepth 65536 in
theorem w_t1 : (words1.take 24).all (fun c => isCode c || c.before args0 about1) = true := by decide +kernel
set_option maxRecDepth 65536 in
theorem w_t2 : ((words1.drop 24).take 24).all (fun c => isCode c || c.before args0 about1) = true := by decide +kernel
set_option maxRecDepth 65536 in
theorem w_t3 : (((words1.drop 24).drop 24).take 24).all (fun c => isCode c || c.before args0 about1) = true := by decide +kernel
set_option maxRecDepth 65536 in
theorem w_t4 : (((words1.drop 24).drop 24).drop 24).all (fun c => isCode c || c.before args0 about1) = true := by decide +kernel
theorem w_tables : (allAtoms (Jvm.Cond.code x code maxLocals ret :: tables_1)).before args0 about1 = true := by
  rw [allAtoms_all]
  show words1.all (fun c => c.before args0 about1) = true
  refine all_split ?_ w_codes
  rw [← List.take_append_drop 24 words1, List.all_append, w_t1, ← List.take_append_drop 24 (words1.drop 24), List.all_append, w_t2, ← List.take_append_drop 24 ((words1.drop 24).drop 24), List.all_append, w_t3, w_t4]
  rfl
set_option maxRecDepth 65536 in
theorem w_rest : rest_1_c.before args0 about1 = true := by decide +kernel
set_option maxRecDepth 65536 in
theorem w_case : (Jvm.Cond.and given_1 narrow_1).before args0 about1 = true := by decide +kernel
theorem w_applies : (headSpec (Jvm.Cond.code x code maxLocals ret :: tables_1) room_1).applies x e0.platform about1 = true :=
  (Spec.applies_iff w_frames).mpr ⟨w_running, w_runnable, w_alone, w_named, w_hears, w_ripe, w_room, w_tables⟩
theorem atStart : AtStart classFile x code maxLocals ret World_1 tables_1 room_1 Calls_1 rest_1 Pre_1 launch0 p0 e0 about1 theMethod args0 below0 :=
  ⟨lists_1, trivial, launch0.admits_env _ _ _, launch0.least_env, fairChoices_fair.cas, fairChoices_fair.clock, w_frames, w_args, w_heap, w_applies, trivial, w_rest, w_case⟩
end start1
theorem witness_1 : WitnessClaimed_1 := ⟨start1.p0, start1.e0, start1.about1, start1.theMethod, start1.args0, start1.below0, start1.atStart⟩
end Jvm.Pilot.@@N@@
